/-
  THE WALKS OF THE NUMBER LAWS: FnNumberCutOutAlone.
-/
import Derived.Test.Qxb6600505aNumC
namespace Go.Proofs.Qxb6600505a
open Go.ChangeShapes Go.WideShapes Go.ChangeAt Go.RowKit
open Num

set_option maxHeartbeats 400000 in
theorem bytes24_yes (a : ByteArray) (i : Int) (w : World) (h : (a.size : Int) ≤ 1048576) :
    Calls Try.prog 24 #[.string a, .int .i64 i] w fun e w' => e = .returned (.bool true) ∧ w' = w := by
  go_enter Try.func24, Try.ntmps24
  go_wp2
  go_ret
  exact ⟨rfl, rfl⟩

set_option maxHeartbeats 400000 in
theorem bytes24_no (a : ByteArray) (i : Int) (w : World) (h : 1048576 < (a.size : Int)) :
    Calls Try.prog 24 #[.string a, .int .i64 i] w fun e w' => e = .returned (.bool false) ∧ w' = w := by
  go_enter Try.func24, Try.ntmps24
  go_wp2
  go_ret
  exact ⟨rfl, rfl⟩

theorem zznum_zero (s : ByteArray) (w : World) (hs : (s.size : Int) ≤ 2000000) (hi : 0 < (s.size : Int)) :
    Calls Try.prog 22 #[.string s, .int .i64 0] w fun e w' => e = .returned (.int .i64 (numAt s 0 0)) ∧ w' = w :=
  zznum_any s 0 w hs hi

/-- The number at b[n] is accepted with end e. -/
theorem cut_walk (s : ByteArray) (n e : Nat) (w : World) (hs : (s.size : Int) ≤ 1048576) (hn : (n : Int) < s.size) (he : numAt s 0 n = e) (h1 : (n : Int) < e) (h2 : (e : Int) ≤ s.size) :
    Calls Try.prog 10 #[.string s, .int .i64 n] w fun e w' => e = .returned (.bool true) ∧ w' = w := by
  have c1 := cut_alone s n e he
  have c2 := cut_after s n e he
  have z1 : (s.extract n e).size = e - n := by rw [ByteArray.size_extract]; omega
  have z2 : (s.extract 0 e).size = e := by rw [ByteArray.size_extract]; omega
  go_enter Try.func10, Try.ntmps10
  go_wp2_with fail
  refine (bytes24_yes _ _ _ hs).mono ?_
  rintro _ _ ⟨rfl, rfl⟩
  go_wp2_with fail
  refine (zznum_any _ _ _ (by omega) hn).mono ?_
  rintro _ _ ⟨rfl, rfl⟩
  go_wp2_with fail
  refine (zznum_zero _ _ (by omega) (by omega)).mono ?_
  rintro _ _ ⟨rfl, rfl⟩
  go_wp2_with fail
  refine (zznum_any _ _ _ (by omega) (by omega)).mono ?_
  rintro _ _ ⟨rfl, rfl⟩
  go_wp2_with fail
  go_ret
  exact ⟨rfl, rfl⟩

set_option maxHeartbeats 400000 in
theorem cut_none (s : ByteArray) (n : Nat) (w : World) (hs : (s.size : Int) ≤ 1048576) (hn : (n : Int) < s.size) (he : numAt s 0 n = -1) :
    Calls Try.prog 10 #[.string s, .int .i64 n] w fun e w' => e = .returned (.bool true) ∧ w' = w := by
  go_enter Try.func10, Try.ntmps10
  go_wp2_with (first
    | (go_at_call 24; refine (bytes24_yes _ _ _ hs).mono ?_; rintro e w' ⟨rfl, rfl⟩)
    | (go_at_call 22; refine (zznum_any _ _ _ (by omega) hn).mono ?_; rintro e w' ⟨rfl, rfl⟩))
  go_ret
  exact ⟨rfl, rfl⟩

set_option maxHeartbeats 400000 in
theorem walk10 (s : ByteArray) (i : Int) (w : World) :
    Calls Try.prog 10 #[.string s, .int .i64 i] w fun e w' => e = .returned (.bool true) ∧ w' = w := by
  by_cases hs : (s.size : Int) ≤ 1048576
  · by_cases h0 : i < 0
    · go_enter Try.func10, Try.ntmps10
      go_wp2_with (go_at_call 24; refine (bytes24_yes _ _ _ hs).mono ?_; rintro e w' ⟨rfl, rfl⟩)
      go_ret
      exact ⟨rfl, rfl⟩
    · by_cases h1 : (s.size : Int) ≤ i
      · go_enter Try.func10, Try.ntmps10
        go_wp2_with (go_at_call 24; refine (bytes24_yes _ _ _ hs).mono ?_; rintro e w' ⟨rfl, rfl⟩)
        go_ret
        exact ⟨rfl, rfl⟩
      · obtain ⟨n, rfl⟩ : ∃ n : Nat, i = n := ⟨i.toNat, by omega⟩
        rcases numAt_bounds s n (by omega) with he | ⟨ha, hb⟩
        · exact cut_none s n w hs (by omega) he
        · obtain ⟨e, he⟩ : ∃ e : Nat, numAt s 0 n = e := ⟨(numAt s 0 n).toNat, by omega⟩
          rw [he] at ha hb
          exact cut_walk s n e w hs (by omega) he ha hb
  · go_enter Try.func10, Try.ntmps10
    go_wp2_with (go_at_call 24; refine (bytes24_no _ _ _ (by omega)).mono ?_; rintro e w' ⟨rfl, rfl⟩)
    go_ret
    exact ⟨rfl, rfl⟩

end Go.Proofs.Qxb6600505a
