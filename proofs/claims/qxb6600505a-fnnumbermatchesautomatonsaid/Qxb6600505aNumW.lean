/-
  THE WALKS OF skipDigits, checkNumber AND ITS PASS-ON.
-/
import Derived.Test.Qxb6600505aChecked
import Derived.Test.Qxb6600505aNum
import Derived.WalkKit
import Derived.ProofKit
import Derived.WalkSpells
import Derived.Deep.DeepCutAuto
namespace Go.Proofs.Qxb6600505a
open Go.ChangeShapes Go.WideShapes Go.ChangeAt Go.RowKit
open Num

theorem ret_i64 {a b : Int} (h : a = b) : Ending.returned (.int .i64 a) = .returned (.int .i64 b) := by rw [h]

/-- 'skipDigits'. -/
def skip (s : ByteArray) (i : Nat) : Int := if dEnd s i = i then -1 else dEnd s i

theorem skip_at {s : ByteArray} {i k : Nat} (h : dEnd s k = dEnd s i) (e : dEnd s k = k) (hne : k ≠ i) : (k : Int) = skip s i := by
  unfold skip; rw [if_neg (by omega)]; omega

theorem skip_same {s : ByteArray} {i : Nat} (e : dEnd s i = i) : (-1 : Int) = skip s i := by
  unfold skip; rw [if_pos e]

theorem skip_none {s : ByteArray} {i : Nat} (e : dEnd s i = i) : skip s i = -1 := (skip_same e).symm
theorem skip_some {s : ByteArray} {i : Nat} (e : i < dEnd s i) : skip s i = dEnd s i := by
  unfold skip; rw [if_neg (by omega)]

set_option maxHeartbeats 400000 in
theorem skip_any (s : ByteArray) (i : Nat) (w : World) (hs : (s.size : Int) ≤ 2000000) (hi : (i : Int) ≤ s.size) :
    Calls Try.prog 40 #[.string s, .int .i64 i] w fun e w' => e = .returned (.int .i64 (skip s i)) ∧ w' = w := by
  go_enter Try.func40, Try.ntmps40
  go_wp2
  go_loop [1] (fun v => ∃ k : Nat, i ≤ k ∧ k ≤ s.size ∧ v = .int .i64 k ∧ Hid (dEnd s k = dEnd s i)) (fun v => s.size - (intOf v).toNat)
  case atStart => exact ⟨i, Nat.le_refl _, by omega, rfl, rfl⟩
  case round =>
    obtain ⟨k, hk1, hk2, rfl, hd⟩ := hrel
    by_cases hgo : ∃ h : k < s.size, 48 ≤ (s[k].toNat : Int) ∧ (s[k].toNat : Int) ≤ 57
    · obtain ⟨hlt0, h48, h57⟩ := hgo
      have hlt : (k : Int) < s.size := by omega
      go_wp2
      go_round
      case rel => exact ⟨k + 1, by omega, by omega, by go_num, (dEnd_digit s k hlt0 ⟨h48, h57⟩).symm.trans hd⟩
      case measure => simp [intOf]; omega
    · have hE : Hid (dEnd s k = k) := by
        show dEnd s k = k
        by_cases hlt : k < s.size
        · exact dEnd_other s k hlt (fun hc => hgo ⟨hlt, hc⟩)
        · exact dEnd_end s k (by omega)
      have HG := hgo
      clear hgo
      by_cases hki : k = i
      · subst hki
        by_cases hlt : (k : Int) < s.size
        · have hlt0 : k < s.size := by omega
          by_cases h48 : 48 ≤ (s[k].toNat : Int)
          · have h57 : 57 < (s[k].toNat : Int) := by
              exact Int.not_le.mp (fun hc => HG ⟨hlt0, h48, hc⟩)
            clear HG
            go_wp2
            go_ret
            exact ⟨ret_i64 (skip_same hE), rfl⟩
          · clear HG
            go_wp2
            go_ret
            exact ⟨ret_i64 (skip_same hE), rfl⟩
        · clear HG
          go_wp2
          go_ret
          exact ⟨ret_i64 (skip_same hE), rfl⟩
      · by_cases hlt : (k : Int) < s.size
        · have hlt0 : k < s.size := by omega
          by_cases h48 : 48 ≤ (s[k].toNat : Int)
          · have h57 : 57 < (s[k].toNat : Int) := by
              exact Int.not_le.mp (fun hc => HG ⟨hlt0, h48, hc⟩)
            clear HG
            go_wp2
            go_ret
            exact ⟨ret_i64 (skip_at hd hE hki), rfl⟩
          · clear HG
            go_wp2
            go_ret
            exact ⟨ret_i64 (skip_at hd hE hki), rfl⟩
        · clear HG
          go_wp2
          go_ret
          exact ⟨ret_i64 (skip_at hd hE hki), rfl⟩

/-! ### checkNumber: what holds behind each of its statements -/
def S1 (s : ByteArray) (i p : Nat) : Prop := p ≤ s.size ∧ ∃ st : Int, (st = 0 ∨ st = 1) ∧ numAt s 0 i = numAt s st p ∧ (st = 0 → ∀ h : p < s.size, ¬ (s[p].toNat : Int) = 45)
def S2 (s : ByteArray) (i p : Nat) : Prop := p ≤ s.size ∧ numAt s 0 i = numAt s 2 p
def S3 (s : ByteArray) (i p : Nat) : Prop := p ≤ s.size ∧ numAt s 0 i = expAt s p

theorem s1_minus {s : ByteArray} {i : Nat} (h : i < s.size) (e : (s[i].toNat : Int) = 45) : S1 s i (i + 1) :=
  ⟨h, 1, Or.inr rfl, int_minus s i h e, fun h => by omega⟩
theorem s1_plain {s : ByteArray} {i : Nat} (h : i < s.size) (e : ¬ (s[i].toNat : Int) = 45) : S1 s i i :=
  ⟨by omega, 0, Or.inl rfl, rfl, fun _ _ => e⟩
theorem s2_zero {s : ByteArray} {i p : Nat} (H : S1 s i p) (h : p < s.size) (e : (s[p].toNat : Int) = 48) : S2 s i (p + 1) := by
  obtain ⟨_, st, hst, ha, _⟩ := H
  exact ⟨h, by rw [ha, int_zero s st hst p h e]⟩
theorem s2_digits {s : ByteArray} {i p : Nat} (H : S1 s i p) (e : ∀ h : p < s.size, ¬ (s[p].toNat : Int) = 48) (hd : p < dEnd s p) : S2 s i (dEnd s p) := by
  obtain ⟨hp, st, hst, ha, hm⟩ := H
  have hl := dEnd_le s p hp
  have hp' : p < s.size := by omega
  exact ⟨hl, by rw [ha, int_digits s st hst p hp' (e hp') (fun h => hm h hp') hd]⟩
theorem s2_none {s : ByteArray} {i p : Nat} (H : S1 s i p) (e : ∀ h : p < s.size, ¬ (s[p].toNat : Int) = 48) (hd : dEnd s p = p) : (-1 : Int) = numAt s 0 i := by
  obtain ⟨hp, st, hst, ha, hm⟩ := H
  rw [ha, int_none s st hst p e hm hd]
theorem s3_no {s : ByteArray} {i p : Nat} (H : S2 s i p) (e : ∀ h : p < s.size, ¬ (s[p].toNat : Int) = 46) : S3 s i p :=
  ⟨H.1, by rw [H.2, frac_no s p e]⟩
theorem s3_digits {s : ByteArray} {i p : Nat} (H : S2 s i p) (h : p < s.size) (e : (s[p].toNat : Int) = 46) (hd : p + 1 < dEnd s (p + 1)) : S3 s i (dEnd s (p + 1)) :=
  ⟨dEnd_le s _ h, by rw [H.2, frac_point s p h e, frac_digits s (p + 1) h hd]⟩
theorem s3_none {s : ByteArray} {i p : Nat} (H : S2 s i p) (h : p < s.size) (e : (s[p].toNat : Int) = 46) (hd : dEnd s (p + 1) = p + 1) : (-1 : Int) = numAt s 0 i := by
  rw [H.2, frac_point s p h e, digits_none s 4 (Or.inl rfl) (p + 1) (fun h => by omega) hd]
theorem s4_no {s : ByteArray} {i p : Nat} (H : S3 s i p) (e : ∀ h : p < s.size, ¬ ((s[p].toNat : Int) = 101 ∨ (s[p].toNat : Int) = 69)) : (p : Int) = numAt s 0 i := by
  rw [H.2, exp_no s p e]

/-- Behind e or E, and the sign where there is one. -/
def S4 (s : ByteArray) (i p : Nat) : Prop := p ≤ s.size ∧ ∃ st : Int, (st = 6 ∨ st = 7) ∧ numAt s 0 i = numAt s st p ∧ (st = 6 → ∀ h : p < s.size, ¬ ((s[p].toNat : Int) = 43 ∨ (s[p].toNat : Int) = 45))

theorem s4_plain {s : ByteArray} {i p : Nat} (H : S3 s i p) (h : p < s.size) (e : (s[p].toNat : Int) = 101 ∨ (s[p].toNat : Int) = 69)
    (hn : ∀ h : p + 1 < s.size, ¬ ((s[p + 1].toNat : Int) = 43 ∨ (s[p + 1].toNat : Int) = 45)) : S4 s i (p + 1) :=
  ⟨h, 6, Or.inl rfl, by rw [H.2, exp_e s p h e], fun _ => hn⟩
theorem s4_sign {s : ByteArray} {i p : Nat} (H : S3 s i p) (h : p < s.size) (e : (s[p].toNat : Int) = 101 ∨ (s[p].toNat : Int) = 69)
    (h1 : p + 1 < s.size) (hn : (s[p + 1].toNat : Int) = 43 ∨ (s[p + 1].toNat : Int) = 45) : S4 s i (p + 1 + 1) :=
  ⟨h1, 7, Or.inr rfl, by rw [H.2, exp_e s p h e, exp_sign s (p + 1) h1 hn], fun h => by omega⟩
theorem s5_digits {s : ByteArray} {i p : Nat} (H : S4 s i p) (hd : p < dEnd s p) : ((dEnd s p : Nat) : Int) = numAt s 0 i := by
  obtain ⟨hp, st, hst, ha, hm⟩ := H
  rw [ha, exp_digits s st hst p hp hd]
theorem s5_none {s : ByteArray} {i p : Nat} (H : S4 s i p) (hd : dEnd s p = p) : (-1 : Int) = numAt s 0 i := by
  obtain ⟨hp, st, hst, ha, hm⟩ := H
  rw [ha, digits_none s st (by omega) p hm hd]

end Go.Proofs.Qxb6600505a
