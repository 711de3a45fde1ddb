/-
  THE WALKS OF lawNumberModel AND OF FnNumberMatchesAutomaton.
-/
import Derived.Test.Qxb6600505aNumS
import Derived.Deep.CutBlock
namespace Go.Proofs.Qxb6600505a
open Go.ChangeShapes Go.WideShapes Go.ChangeAt Go.RowKit
open Num

/-- The automaton stands in state st at s[p]. -/
def Stands (s : ByteArray) (i : Nat) (st : Int) (p : Nat) : Prop := numAt s 0 i = numAt s st p
/-- It has stopped there. -/
def Stopped (s : ByteArray) (i : Nat) (st : Int) (p : Nat) : Prop := numAt s 0 i = stop st p

theorem stopped_yes {s : ByteArray} {i : Nat} {st : Int} {p : Nat} (H : Stopped s i st p) (h : accB st = true) : (p : Int) = numAt s 0 i := by
  rw [H, stop_of h]
theorem stopped_no {s : ByteArray} {i : Nat} {st : Int} {p : Nat} (H : Stopped s i st p) (h : accB st = false) : (-1 : Int) = numAt s 0 i := by
  rw [H, stop_not h]

set_option maxHeartbeats 1000000 in
theorem model_any (s : ByteArray) (i : Nat) (w : World) (hs : (s.size : Int) ≤ 2000000) (hi : (i : Int) < s.size) :
    Calls Try.prog 23 #[.string s, .int .i64 i] w fun e w' => e = .returned (.int .i64 (numAt s 0 i)) ∧ w' = w := by
  go_enter Try.func23, Try.ntmps23
  go_upto_block 0 with fail
  go_cut [5, 6] (fun v5 v6 wr => wr = w ∧ ∃ (st : Int) (p : Nat), v5 = .int .i64 st ∧ v6 = .int .i64 p ∧ Stopped s i st p)
  case first =>
    go_wp2_with fail
    go_loopg [5, 6] s.size (fun k v5 v6 wr => wr = w ∧ ∃ (st : Int) (p : Nat), 0 ≤ st ∧ st ≤ 8 ∧ p ≤ s.size ∧ s.size ≤ p + k ∧ v5 = .int .i64 st ∧ v6 = .int .i64 p ∧ Stands s i st p)
    case atStart => exact ⟨rfl, 0, i, by omega, by omega, by omega, by omega, rfl, rfl, rfl⟩
    case round =>
      obtain ⟨rfl, st, p, h0, h8, hp1, hp2, rfl, rfl, H⟩ := hrel
      by_cases hlt : (p : Int) < s.size
      · have hlt0 : p < s.size := by omega
        rcases stepI_range st (s[p].toNat : Int) with hn | ⟨hn1, hn8⟩
        · have HS : Stopped s i st p := H.trans (numAt_stop s st p hlt0 hn)
          go_wp2_with (go_at_call 32; refine (step_any _ _ _ h0 h8).mono ?_; rintro e w' ⟨rfl, rfl⟩)
          go_meet
          case rel => exact ⟨rfl, st, p, rfl, rfl, HS⟩
        · have HS : Stands s i (stepI st (s[p].toNat : Int)) (p + 1) := H.trans (numAt_go s st _ p hlt0 rfl (by omega))
          go_wp2_with (go_at_call 32; refine (step_any _ _ _ h0 h8).mono ?_; rintro e w' ⟨rfl, rfl⟩)
          go_roundg (s.size - (p + 1))
          case measure => omega
          case rel => exact ⟨rfl, _, p + 1, by omega, hn8, by omega, by omega, rfl, by go_num, HS⟩
      · have HS : Stopped s i st p := H.trans (numAt_end s st p (by omega))
        go_wp2
        go_meet
        case rel => exact ⟨rfl, st, p, rfl, rfl, HS⟩
  case rest =>
    obtain ⟨rfl, st, p, rfl, rfl, H⟩ := hcut
    cases ha : accB st with
    | true =>
      have hr : Hid ((p : Int) = numAt s 0 i) := stopped_yes H ha
      go_wp2_with (go_at_call 33; refine (acc_any _ _).mono ?_; rintro e w' ⟨rfl, rfl⟩)
      go_ret
      exact ⟨ret_i64 hr, rfl⟩
    | false =>
      have hr : Hid ((-1 : Int) = numAt s 0 i) := stopped_no H ha
      go_wp2_with (go_at_call 33; refine (acc_any _ _).mono ?_; rintro e w' ⟨rfl, rfl⟩)
      go_ret
      exact ⟨ret_i64 hr, rfl⟩

set_option maxHeartbeats 400000 in
theorem bytes21_yes (a : ByteArray) (i : Int) (w : World) (h : (a.size : Int) ≤ 1048576) :
    Calls Try.prog 21 #[.string a, .int .i64 i] w fun e w' => e = .returned (.bool true) ∧ w' = w := by
  go_enter Try.func21, Try.ntmps21
  go_wp2
  go_ret
  exact ⟨rfl, rfl⟩

set_option maxHeartbeats 400000 in
theorem bytes21_no (a : ByteArray) (i : Int) (w : World) (h : 1048576 < (a.size : Int)) :
    Calls Try.prog 21 #[.string a, .int .i64 i] w fun e w' => e = .returned (.bool false) ∧ w' = w := by
  go_enter Try.func21, Try.ntmps21
  go_wp2
  go_ret
  exact ⟨rfl, rfl⟩

set_option maxHeartbeats 400000 in
theorem walk9 (s : ByteArray) (i : Int) (w : World) :
    Calls Try.prog 9 #[.string s, .int .i64 i] w fun e w' => e = .returned (.bool true) ∧ w' = w := by
  by_cases hs : (s.size : Int) ≤ 1048576
  · by_cases h0 : i < 0
    · go_enter Try.func9, Try.ntmps9
      go_wp2_with (go_at_call 21; refine (bytes21_yes _ _ _ hs).mono ?_; rintro e w' ⟨rfl, rfl⟩)
      go_ret
      exact ⟨rfl, rfl⟩
    · by_cases h1 : (s.size : Int) ≤ i
      · go_enter Try.func9, Try.ntmps9
        go_wp2_with (go_at_call 21; refine (bytes21_yes _ _ _ hs).mono ?_; rintro e w' ⟨rfl, rfl⟩)
        go_ret
        exact ⟨rfl, rfl⟩
      · obtain ⟨n, rfl⟩ : ∃ n : Nat, i = n := ⟨i.toNat, by omega⟩
        have hn : (n : Int) < s.size := by omega
        go_enter Try.func9, Try.ntmps9
        go_wp2_with (first
          | (go_at_call 21; refine (bytes21_yes _ _ _ hs).mono ?_; rintro e w' ⟨rfl, rfl⟩)
          | (go_at_call 22; refine (zznum_any _ _ _ (by omega) hn).mono ?_; rintro e w' ⟨rfl, rfl⟩)
          | (go_at_call 23; refine (model_any _ _ _ (by omega) hn).mono ?_; rintro e w' ⟨rfl, rfl⟩))
        go_ret
        exact ⟨retbn (by first | rfl | simp), rfl⟩
  · go_enter Try.func9, Try.ntmps9
    go_wp2_with (go_at_call 21; refine (bytes21_no _ _ _ (by omega)).mono ?_; rintro e w' ⟨rfl, rfl⟩)
    go_ret
    exact ⟨rfl, rfl⟩

end Go.Proofs.Qxb6600505a
