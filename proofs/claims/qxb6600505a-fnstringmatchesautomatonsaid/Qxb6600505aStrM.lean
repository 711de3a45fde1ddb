/-
  THE WALKS OF lawHexDigit, lawEscapeLetter, lawStringModel AND OF FnStringMatchesAutomaton.
-/
import Derived.Test.Qxb6600505aStrC
namespace Go.Proofs.Qxb6600505a
open Go.ChangeShapes Go.WideShapes Go.ChangeAt Go.RowKit
open Str Word

set_option maxHeartbeats 400000 in
theorem lhex_any (c : Int) (w : World) :
    Calls Try.prog 30 #[.int .u8 c] w fun e w' => e = .returned (.bool (hexB c)) ∧ w' = w := by
  rcases hex_cases c with h | h | h | h | h | h | h
  all_goals
    go_enter Try.func30, Try.ntmps30
    go_wp2
    go_ret
    refine ⟨retb ?_, rfl⟩
    rw [Bool.eq_iff_iff]
    simp only [hexB, Bool.or_eq_true, Bool.and_eq_true, decide_eq_true_eq, Bool.false_eq_true, true_iff, false_iff]
    omega

set_option maxHeartbeats 400000 in
theorem esc_any (c : Int) (w : World) :
    Calls Try.prog 29 #[.int .u8 c] w fun e w' => e = .returned (.bool (escB c)) ∧ w' = w := by
  cases he : escB c with
  | true =>
    rcases esc_cases he with rfl | rfl | rfl | rfl | rfl | rfl | rfl | rfl
    all_goals
      clear he
      go_enter Try.func29, Try.ntmps29
      go_wp2
      go_ret
      exact ⟨rfl, rfl⟩
  | false =>
    obtain ⟨e1, e2, e3, e4, e5, e6, e7, e8⟩ := esc_not he
    clear he
    go_enter Try.func29, Try.ntmps29
    go_wp2
    go_ret
    exact ⟨rfl, rfl⟩

/-- The answer is the automaton's from state st at s[p] on. -/
def SameSt (s : ByteArray) (i : Nat) (st : Int) (p : Nat) : Prop := strAt s 0 (i + 1) = strAt s st p

set_option maxHeartbeats 2000000 in
theorem smodel_any (s : ByteArray) (i : Nat) (w : World) (hs : (s.size : Int) ≤ 2000000) (hi : (i : Int) < s.size) :
    Calls Try.prog 17 #[.string s, .int .i64 i] w fun e w' => e = .returned (.int .i64 (strAt s 0 (i + 1))) ∧ w' = w := by
  go_enter Try.func17, Try.ntmps17
  go_wp2
  go_loopg [5, 6] s.size (fun k v5 v6 wr => wr = w ∧ ∃ (st : Int) (p : Nat), 0 ≤ st ∧ st ≤ 5 ∧ p ≤ s.size ∧ s.size ≤ p + k ∧ v5 = .int .i64 st ∧ v6 = .int .i64 p ∧ SameSt s i st p)
  case atStart => exact ⟨rfl, 0, i + 1, by omega, by omega, by omega, by omega, rfl, by go_num, rfl⟩
  case round =>
    obtain ⟨rfl, st, p, h0, h5, hp1, hp2, rfl, rfl, H⟩ := hrel
    by_cases hlt : (p : Int) < s.size
    · have hp : p < s.size := by omega
      by_cases hz : st = 0
      · subst hz
        by_cases h34 : (s[p].toNat : Int) = 34
        · have hr : Hid ((p : Int) + 1 = strAt s 0 (i + 1)) := same_quote H hp h34
          go_wp2
          go_ret
          exact ⟨ret_i64s hr, rfl⟩
        · by_cases h92 : (s[p].toNat : Int) = 92
          · have HN : SameSt s i 1 (p + 1) := back_one H hp h92
            go_wp2
            go_roundg (s.size - (p + 1))
            case measure => omega
            case rel => exact ⟨rfl, 1, p + 1, by omega, by omega, by omega, by omega, rfl, by go_num, HN⟩
          · by_cases h32 : (s[p].toNat : Int) < 32
            · have hr : Hid ((-1 : Int) = strAt s 0 (i + 1)) := same_control H hp h32
              go_wp2
              go_ret
              exact ⟨ret_i64s hr, rfl⟩
            · have HN : SameSt s i 0 (p + 1) := same_plain H hp (by omega) h34 h92
              go_wp2
              go_roundg (s.size - (p + 1))
              case measure => omega
              case rel => exact ⟨rfl, 0, p + 1, by omega, by omega, by omega, by omega, rfl, by go_num, HN⟩
      · by_cases h1 : st = 1
        · subst h1
          clear hz
          by_cases hu : (s[p].toNat : Int) = 117
          · have HN : SameSt s i 2 (p + 1) := H.trans (at_u s p hp hu)
            go_wp2
            go_roundg (s.size - (p + 1))
            case measure => omega
            case rel => exact ⟨rfl, 2, p + 1, by omega, by omega, by omega, by omega, rfl, by go_num, HN⟩
          · cases he : escB (s[p].toNat : Int) with
            | true =>
              have HN : SameSt s i 0 (p + 1) := H.trans (at_letter s p hp he)
              go_wp2_with (go_at_call 29; refine (esc_any _ _).mono ?_; rintro e w' ⟨rfl, rfl⟩)
              go_roundg (s.size - (p + 1))
              case measure => omega
              case rel => exact ⟨rfl, 0, p + 1, by omega, by omega, by omega, by omega, rfl, by go_num, HN⟩
            | false =>
              have hr : Hid ((-1 : Int) = strAt s 0 (i + 1)) := (H.trans (at_badletter s p hp he hu)).symm
              go_wp2_with (go_at_call 29; refine (esc_any _ _).mono ?_; rintro e w' ⟨rfl, rfl⟩)
              go_ret
              exact ⟨ret_i64s hr, rfl⟩
        · have hst : 2 ≤ st := by omega
          clear hz h1 h0
          cases he : hexB (s[p].toNat : Int) with
          | false =>
            have hr : Hid ((-1 : Int) = strAt s 0 (i + 1)) := (H.trans (at_badhex s st hst p hp he)).symm
            go_wp2_with (go_at_call 30; refine (lhex_any _ _).mono ?_; rintro e w' ⟨rfl, rfl⟩)
            go_ret
            exact ⟨ret_i64s hr, rfl⟩
          | true =>
            have HN := H.trans (at_hex s st hst p hp he)
            by_cases h5' : st = 5
            · subst h5'
              have HN' : SameSt s i 0 (p + 1) := HN
              clear HN
              go_wp2_with (go_at_call 30; refine (lhex_any _ _).mono ?_; rintro e w' ⟨rfl, rfl⟩)
              go_roundg (s.size - (p + 1))
              case measure => omega
              case rel => exact ⟨rfl, 0, p + 1, by omega, by omega, by omega, by omega, rfl, by go_num, HN'⟩
            · have HN' : SameSt s i (st + 1) (p + 1) := by rw [if_neg h5'] at HN; exact HN
              clear HN
              have h4 : st ≤ 4 := by omega
              clear h5'
              go_wp2_with (go_at_call 30; refine (lhex_any _ _).mono ?_; rintro e w' ⟨rfl, rfl⟩)
              go_roundg (s.size - (p + 1))
              case measure => omega
              case rel => exact ⟨rfl, st + 1, p + 1, by omega, by omega, by omega, by omega, rfl, by go_num, HN'⟩
    · have hr : Hid ((-1 : Int) = strAt s 0 (i + 1)) := (H.trans (at_end s st p (by omega))).symm
      go_wp2
      go_ret
      exact ⟨ret_i64s hr, rfl⟩

set_option maxHeartbeats 400000 in
theorem bytes15_yes (a : ByteArray) (i : Int) (w : World) (h : (a.size : Int) ≤ 1048576) :
    Calls Try.prog 15 #[.string a, .int .i64 i] w fun e w' => e = .returned (.bool true) ∧ w' = w := by
  go_enter Try.func15, Try.ntmps15
  go_wp2
  go_ret
  exact ⟨rfl, rfl⟩

set_option maxHeartbeats 400000 in
theorem bytes15_no (a : ByteArray) (i : Int) (w : World) (h : 1048576 < (a.size : Int)) :
    Calls Try.prog 15 #[.string a, .int .i64 i] w fun e w' => e = .returned (.bool false) ∧ w' = w := by
  go_enter Try.func15, Try.ntmps15
  go_wp2
  go_ret
  exact ⟨rfl, rfl⟩

set_option maxHeartbeats 400000 in
theorem walk6 (s : ByteArray) (i : Int) (w : World) :
    Calls Try.prog 6 #[.string s, .int .i64 i] w fun e w' => e = .returned (.bool true) ∧ ∃ n, w' = w.drewN n := by
  by_cases hs : (s.size : Int) ≤ 1048576
  · by_cases h0 : i < 0
    · go_enter Try.func6, Try.ntmps6
      go_wp2_with (go_at_call 15; refine (bytes15_yes _ _ _ hs).mono ?_; rintro e w' ⟨rfl, rfl⟩)
      go_ret
      exact ⟨rfl, 0, rfl⟩
    · by_cases h1 : (s.size : Int) ≤ i
      · go_enter Try.func6, Try.ntmps6
        go_wp2_with (go_at_call 15; refine (bytes15_yes _ _ _ hs).mono ?_; rintro e w' ⟨rfl, rfl⟩)
        go_ret
        exact ⟨rfl, 0, rfl⟩
      · obtain ⟨n, rfl⟩ : ∃ n : Nat, i = n := ⟨i.toNat, by omega⟩
        have hn : (n : Int) < s.size := by omega
        go_enter Try.func6, Try.ntmps6
        go_wp2_with (first
          | (go_at_call 15; refine (bytes15_yes _ _ _ hs).mono ?_; rintro e w' ⟨rfl, rfl⟩)
          | (go_at_call 16; refine (zzstr_any _ _ _ (by omega) hn).mono ?_; rintro e w' ⟨rfl, nn, rfl⟩)
          | (go_at_call 17; refine (smodel_any _ _ _ (by omega) hn).mono ?_; rintro e w' ⟨rfl, rfl⟩))
        go_ret
        exact ⟨retb (by first | rfl | simp), _, rfl⟩
  · go_enter Try.func6, Try.ntmps6
    go_wp2_with (go_at_call 15; refine (bytes15_no _ _ _ (by omega)).mono ?_; rintro e w' ⟨rfl, rfl⟩)
    go_ret
    exact ⟨rfl, 0, rfl⟩

end Go.Proofs.Qxb6600505a
