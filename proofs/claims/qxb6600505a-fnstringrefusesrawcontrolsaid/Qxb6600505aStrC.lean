/-
  THE WALK OF checkString AND OF ITS PASS-ON.
-/
import Derived.Test.Qxb6600505aStrW
import Derived.Deep.CutBlock
namespace Go.Proofs.Qxb6600505a
open Go.ChangeShapes Go.WideShapes Go.ChangeAt Go.RowKit
open Str Word

theorem ret_i64s {a b : Int} (h : a = b) : Ending.returned (.int .i64 a) = .returned (.int .i64 b) := by rw [h]

/-- The answer is the automaton's from s[p] on. -/
def Same (s : ByteArray) (i p : Nat) : Prop := strAt s 0 (i + 1) = strAt s 0 p

theorem same_end {s : ByteArray} {i q : Nat} (H : Same s i q) (h : s.size ≤ q) : (-1 : Int) = strAt s 0 (i + 1) := by
  rw [H, at_end s 0 q h]
theorem same_quote {s : ByteArray} {i q : Nat} (H : Same s i q) (h : q < s.size) (e : (s[q].toNat : Int) = 34) : (q : Int) + 1 = strAt s 0 (i + 1) := by
  rw [H, at_quote s q h e]
theorem same_control {s : ByteArray} {i q : Nat} (H : Same s i q) (h : q < s.size) (e : (s[q].toNat : Int) < 32) : (-1 : Int) = strAt s 0 (i + 1) := by
  rw [H, at_control s q h e]
theorem same_plain {s : ByteArray} {i q : Nat} (H : Same s i q) (h : q < s.size) (e : 32 ≤ (s[q].toNat : Int)) (e1 : ¬ (s[q].toNat : Int) = 34) (e2 : ¬ (s[q].toNat : Int) = 92) : Same s i (q + 1) :=
  H.trans (at_plain s q h e e1 e2)

/-- Behind the backslash; behind the u. -/
def Same1 (s : ByteArray) (i p : Nat) : Prop := strAt s 0 (i + 1) = strAt s 1 p
def Same2 (s : ByteArray) (i p : Nat) : Prop := strAt s 0 (i + 1) = strAt s 2 p

theorem back_one {s : ByteArray} {i q : Nat} (H : Same s i q) (h : q < s.size) (e : (s[q].toNat : Int) = 92) : Same1 s i (q + 1) :=
  H.trans (at_back s q h e)
theorem back_end {s : ByteArray} {i q : Nat} (H : Same1 s i q) (h : s.size ≤ q) : (-1 : Int) = strAt s 0 (i + 1) := by
  rw [H, at_end s 1 q h]
theorem back_u {s : ByteArray} {i q : Nat} (H : Same1 s i (q + 1)) (h : q + 1 < s.size) (e : (s[q + 1].toNat : Int) = 117) : Same2 s i (q + 2) :=
  H.trans (at_u s (q + 1) h e)
theorem back_letter {s : ByteArray} {i q : Nat} (H : Same1 s i (q + 1)) (h : q + 1 < s.size) (e : escB (s[q + 1].toNat : Int) = true) : Same s i (q + 2) :=
  H.trans (at_letter s (q + 1) h e)
theorem back_bad {s : ByteArray} {i q : Nat} (H : Same1 s i (q + 1)) (h : q + 1 < s.size) (e : escB (s[q + 1].toNat : Int) = false) (e' : ¬ (s[q + 1].toNat : Int) = 117) : (-1 : Int) = strAt s 0 (i + 1) := by
  rw [H, at_badletter s (q + 1) h e e']
theorem back_few {s : ByteArray} {i q : Nat} (H : Same2 s i (q + 2)) (h : s.size < q + 6) : (-1 : Int) = strAt s 0 (i + 1) := by
  rw [H, few_hex2 s (q + 2) (by omega)]
theorem back_four {s : ByteArray} {i q : Nat} (H : Same2 s i (q + 2)) (h : q + 6 ≤ s.size) :
    (hexB (s[q + 2].toNat : Int) = true → hexB (s[q + 3].toNat : Int) = true → hexB (s[q + 4].toNat : Int) = true → hexB (s[q + 5].toNat : Int) = true → Same s i (q + 6)) ∧
    (hexB (s[q + 2].toNat : Int) = false → (-1 : Int) = strAt s 0 (i + 1)) ∧
    (hexB (s[q + 2].toNat : Int) = true → hexB (s[q + 3].toNat : Int) = false → (-1 : Int) = strAt s 0 (i + 1)) ∧
    (hexB (s[q + 2].toNat : Int) = true → hexB (s[q + 3].toNat : Int) = true → hexB (s[q + 4].toNat : Int) = false → (-1 : Int) = strAt s 0 (i + 1)) ∧
    (hexB (s[q + 2].toNat : Int) = true → hexB (s[q + 3].toNat : Int) = true → hexB (s[q + 4].toNat : Int) = true → hexB (s[q + 5].toNat : Int) = false → (-1 : Int) = strAt s 0 (i + 1)) := by
  unfold Same2 at H
  refine ⟨fun a b c d => H.trans (four_hex s (q + 2) (by omega) a b c d), fun a => ?_, fun a b => ?_, fun a b c => ?_, fun a b c d => ?_⟩
  · rw [H, bad_hex0 s (q + 2) (by omega) a]
  · rw [H, bad_hex1 s (q + 2) (by omega) a b]
  · rw [H, bad_hex2 s (q + 2) (by omega) a b c]
  · rw [H, bad_hex3 s (q + 2) (by omega) a b c d]

theorem esc_cases {c : Int} (h : escB c = true) : c = 34 ∨ c = 92 ∨ c = 47 ∨ c = 98 ∨ c = 102 ∨ c = 110 ∨ c = 114 ∨ c = 116 := by
  simp only [escB, Bool.or_eq_true, beq_iff_eq] at h; omega
theorem esc_not {c : Int} (h : escB c = false) : ¬ c = 34 ∧ ¬ c = 92 ∧ ¬ c = 47 ∧ ¬ c = 98 ∧ ¬ c = 102 ∧ ¬ c = 110 ∧ ¬ c = 114 ∧ ¬ c = 116 := by
  have h' : ¬ escB c = true := by rw [h]; decide
  simp only [escB, Bool.or_eq_true, beq_iff_eq] at h'; omega

/-- The fast path's two calls at s[q], and what their answer gives. -/
theorem fast_at (s : ByteArray) (i q : Nat) (hs : (s.size : Int) ≤ 2000000) (h8 : (q : Int) + 8 ≤ s.size) (HQ : Same s i q) :
    ∃ (x : Nat) (b : Bool), Hid (∀ w, Calls Try.prog 38 #[.string s, .int .i64 q] w fun e w' => e = .returned (.int .u64 x) ∧ ∃ n, w' = w.drewN n) ∧
      Hid (∀ w, Calls Try.prog 37 #[.int .u64 x] w fun e w' => e = .returned (.bool b) ∧ w' = w) ∧ Hid (b = false → Same s i (q + 8)) := by
  refine ⟨val (eight s q), specB (val (eight s q)), fun w => load_any s q w hs h8, fun w => special_any _ w ?_, fun h => HQ.trans (eight_plain s q (by omega) h)⟩
  have := eight_bound s q (by omega)
  omega

set_option maxRecDepth 100000 in
set_option maxHeartbeats 4000000 in
theorem str_any (s : ByteArray) (i : Nat) (w : World) (hs : (s.size : Int) ≤ 2000000) (hi : (i : Int) < s.size) :
    Calls Try.prog 28 #[.string s, .int .i64 i] w fun e w' => e = .returned (.int .i64 (strAt s 0 (i + 1))) ∧ ∃ n, w' = w.drewN n := by
  go_enter Try.func28, Try.ntmps28
  go_wp2
  go_loopg [1] s.size (fun k v wr => ∃ p n : Nat, p ≤ s.size ∧ s.size ≤ p + k ∧ v = .int .i64 p ∧ Same s i p ∧ wr = w.drewN n)
  case atStart => exact ⟨i + 1, 0, by omega, by omega, by go_num, rfl, rfl⟩
  case round =>
    obtain ⟨p, n, hp1, hp2, rfl, H, rfl⟩ := hrel
    by_cases hlt : (p : Int) < s.size
    · go_upto_block 2 with fail
      go_cut [1] (fun v wr => ∃ q n : Nat, p ≤ q ∧ q ≤ s.size ∧ v = .int .i64 q ∧ Same s i q ∧ wr = w.drewN n)
      case first =>
        go_wp2_with fail
        go_loopg [1] s.size (fun k v wr => ∃ q n : Nat, p ≤ q ∧ q ≤ s.size ∧ s.size ≤ q + k ∧ v = .int .i64 q ∧ Same s i q ∧ wr = w.drewN n)
        case atStart => exact ⟨p, n, Nat.le_refl _, hp1, by omega, rfl, H, rfl⟩
        case round =>
          obtain ⟨q, m, hq0, hq1, hq2, rfl, HQ, rfl⟩ := hrel
          clear H
          by_cases h8 : (q : Int) + 8 ≤ s.size
          · obtain ⟨x, b, hl, hsp, hE⟩ := fast_at s i q hs h8 HQ
            cases b with
            | true =>
              go_wp2_with (first | (go_at_call 38; refine (hl.out _).mono ?_; rintro e w' ⟨rfl, nn, rfl⟩) | (go_at_call 37; refine (hsp.out _).mono ?_; rintro e w' ⟨rfl, rfl⟩))
              go_meet
              case rel => exact ⟨q, _, hq0, hq1, rfl, HQ, rfl⟩
            | false =>
              have HQ8 := hE.out rfl
              clear hE
              go_wp2_with (first | (go_at_call 38; refine (hl.out _).mono ?_; rintro e w' ⟨rfl, nn, rfl⟩) | (go_at_call 37; refine (hsp.out _).mono ?_; rintro e w' ⟨rfl, rfl⟩))
              go_roundg (s.size - (q + 8))
              case measure => omega
              case rel => exact ⟨q + 8, _, by omega, by omega, by omega, by go_num, HQ8, rfl⟩
          · go_wp2
            go_meet
            case rel => exact ⟨q, _, hq0, hq1, rfl, HQ, rfl⟩
      case rest =>
        obtain ⟨q, m, hq0, hq1, rfl, HQ, rfl⟩ := hcut
        clear H
        by_cases hql : (q : Int) < s.size
        · have hq : q < s.size := by omega
          by_cases h34 : (s[q].toNat : Int) = 34
          · have hr : Hid ((q : Int) + 1 = strAt s 0 (i + 1)) := same_quote HQ hq h34
            go_wp2
            go_ret
            exact ⟨ret_i64s hr, _, rfl⟩
          · by_cases h92 : (s[q].toNat : Int) = 92
            · have H1 := back_one HQ hq h92
              clear HQ
              by_cases hq1l : (q : Int) + 1 < s.size
              · have hq1' : q + 1 < s.size := by omega
                by_cases hu : (s[q + 1].toNat : Int) = 117
                · have H2 := back_u H1 hq1' hu
                  clear H1
                  by_cases h6 : (q : Int) + 6 ≤ s.size
                  · have g2 : q + 2 < s.size := by omega
                    have g3 : q + 3 < s.size := by omega
                    have g4 : q + 4 < s.size := by omega
                    have g5 : q + 5 < s.size := by omega
                    have HF := back_four H2 (by omega)
                    obtain ⟨b2, e2⟩ : ∃ b, hexB (s[q + 2].toNat : Int) = b := ⟨_, rfl⟩
                    obtain ⟨b3, e3⟩ : ∃ b, hexB (s[q + 3].toNat : Int) = b := ⟨_, rfl⟩
                    obtain ⟨b4, e4⟩ : ∃ b, hexB (s[q + 4].toNat : Int) = b := ⟨_, rfl⟩
                    obtain ⟨b5, e5⟩ : ∃ b, hexB (s[q + 5].toNat : Int) = b := ⟨_, rfl⟩
                    cases b2 with
                    | false =>
                      have hr : Hid ((-1 : Int) = strAt s 0 (i + 1)) := HF.2.1 e2
                      clear HF e3 e4 e5
                      go_wp2_with (go_at_call 39; refine (hex_any _ _).mono ?_; rintro e w' ⟨rfl, rfl⟩)
                      go_ret
                      exact ⟨ret_i64s hr, _, rfl⟩
                    | true =>
                      cases b3 with
                      | false =>
                        have hr : Hid ((-1 : Int) = strAt s 0 (i + 1)) := HF.2.2.1 e2 e3
                        clear HF e4 e5
                        go_wp2_with (go_at_call 39; refine (hex_any _ _).mono ?_; rintro e w' ⟨rfl, rfl⟩)
                        go_ret
                        exact ⟨ret_i64s hr, _, rfl⟩
                      | true =>
                        cases b4 with
                        | false =>
                          have hr : Hid ((-1 : Int) = strAt s 0 (i + 1)) := HF.2.2.2.1 e2 e3 e4
                          clear HF e5
                          go_wp2_with (go_at_call 39; refine (hex_any _ _).mono ?_; rintro e w' ⟨rfl, rfl⟩)
                          go_ret
                          exact ⟨ret_i64s hr, _, rfl⟩
                        | true =>
                          cases b5 with
                          | false =>
                            have hr : Hid ((-1 : Int) = strAt s 0 (i + 1)) := HF.2.2.2.2 e2 e3 e4 e5
                            clear HF
                            go_wp2_with (go_at_call 39; refine (hex_any _ _).mono ?_; rintro e w' ⟨rfl, rfl⟩)
                            go_ret
                            exact ⟨ret_i64s hr, _, rfl⟩
                          | true =>
                            have HN := HF.1 e2 e3 e4 e5
                            clear HF
                            go_wp2_with (go_at_call 39; refine (hex_any _ _).mono ?_; rintro e w' ⟨rfl, rfl⟩)
                            go_roundg (s.size - (q + 6))
                            case measure => omega
                            case rel => exact ⟨q + 6, _, by omega, by omega, by go_num, HN, rfl⟩
                  · have hr : Hid ((-1 : Int) = strAt s 0 (i + 1)) := back_few H2 (by omega)
                    go_wp2
                    go_ret
                    exact ⟨ret_i64s hr, _, rfl⟩
                · by_cases he : escB (s[q + 1].toNat : Int) = true
                  · have HN := back_letter H1 hq1' he
                    rcases esc_cases he with e | e | e | e | e | e | e | e
                    all_goals
                      clear he
                      go_wp2
                      go_roundg (s.size - (q + 2))
                      case measure => omega
                      case rel => exact ⟨q + 2, _, by omega, by omega, by go_num, HN, rfl⟩
                  · have he' : escB (s[q + 1].toNat : Int) = false := by simpa using he
                    have hr : Hid ((-1 : Int) = strAt s 0 (i + 1)) := back_bad H1 hq1' he' hu
                    obtain ⟨e1, e2, e3, e4, e5, e6, e7, e8⟩ := esc_not he'
                    clear he he'
                    go_wp2
                    go_ret
                    exact ⟨ret_i64s hr, _, rfl⟩
              · have hr : Hid ((-1 : Int) = strAt s 0 (i + 1)) := back_end H1 (by omega)
                go_wp2
                go_ret
                exact ⟨ret_i64s hr, _, rfl⟩
            · by_cases h32 : (s[q].toNat : Int) < 32
              · have hr : Hid ((-1 : Int) = strAt s 0 (i + 1)) := same_control HQ hq h32
                go_wp2
                go_ret
                exact ⟨ret_i64s hr, _, rfl⟩
              · have HN := same_plain HQ hq (by omega) h34 h92
                go_wp2
                go_roundg (s.size - (q + 1))
                case measure => omega
                case rel => exact ⟨q + 1, _, by omega, by omega, by go_num, HN, rfl⟩
        · have hr : Hid ((-1 : Int) = strAt s 0 (i + 1)) := same_end HQ (by omega)
          go_wp2
          go_ret
          exact ⟨ret_i64s hr, _, rfl⟩
    · have hr : Hid ((-1 : Int) = strAt s 0 (i + 1)) := by
        show (-1 : Int) = strAt s 0 (i + 1)
        rw [H, at_end s 0 p (by omega)]
      go_wp2
      go_ret
      exact ⟨ret_i64s hr, n, rfl⟩

set_option maxHeartbeats 400000 in
theorem zzstr_any (s : ByteArray) (i : Nat) (w : World) (hs : (s.size : Int) ≤ 2000000) (hi : (i : Int) < s.size) :
    Calls Try.prog 16 #[.string s, .int .i64 i] w fun e w' => e = .returned (.int .i64 (strAt s 0 (i + 1))) ∧ ∃ n, w' = w.drewN n := by
  go_enter Try.func16, Try.ntmps16
  go_wp2_with (go_at_call 28; refine (str_any _ _ _ hs hi).mono ?_; rintro e w' ⟨rfl, nn, rfl⟩)
  go_ret
  exact ⟨rfl, _, rfl⟩

end Go.Proofs.Qxb6600505a
