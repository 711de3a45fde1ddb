/-
  THE WALKS OF zzHasPrefix, zzHasSuffix, zzContains, zzFirstDiff.
-/
import Derived.Test.Qxb6605206aWalks
import Derived.Lib.Strings
import Derived.Deep.QuietTactic
import Derived.BigQuiet
namespace Go.Proofs.Qxb6605206a
open Go.ChangeShapes Go.WideShapes Go.ChangeAt Go.RowKit
open Texts

def Pre (s p : ByteArray) : Prop := p.size ≤ s.size ∧ ∀ i (h : i < p.size) (h' : i < s.size), s[i] = p[i]

/-- Is p a prefix of s? -/
def preB (s p : ByteArray) : Bool := p.data.toList.isPrefixOf s.data.toList

theorem preB_iff (s p : ByteArray) : preB s p = true ↔ Pre s p := by
  unfold preB
  rw [List.isPrefixOf_iff_prefix, List.prefix_iff_eq_take]
  constructor
  · intro h
    have hl := congrArg List.length h
    rw [List.length_take, Array.length_toList, Array.length_toList] at hl
    have hs : p.size ≤ s.size := by show p.data.size ≤ s.data.size; omega
    refine ⟨hs, fun i h1 h2 => ?_⟩
    have h1' : i < p.data.toList.length := by rw [Array.length_toList]; exact h1
    have e : p.data.toList[i] = (s.data.toList.take p.data.toList.length)[i]'(by rw [← h]; exact h1') := by
      congr 1
    rw [List.getElem_take] at e
    exact e.symm
  · rintro ⟨hs, h⟩
    apply List.ext_getElem
    · rw [List.length_take, Array.length_toList, Array.length_toList]
      have hs' : p.data.size ≤ s.data.size := hs
      omega
    · intro i h1 h2
      rw [List.getElem_take]
      rw [Array.length_toList] at h1
      exact (h i h1 (Nat.lt_of_lt_of_le h1 hs)).symm

def AgreeTo (s p : ByteArray) (o k : Nat) : Prop := ∀ j (h : j < p.size) (h' : o + j < s.size), j < k → s[o + j] = p[j]

theorem byte_eq {a b : UInt8} (h : ((a.toNat : Int) != (b.toNat : Int)) = false) : a = b := by
  have h' : (a.toNat : Int) = (b.toNat : Int) := by simpa using h
  exact UInt8.toNat_inj.mp (by omega)

theorem byte_ne {a b : UInt8} (h : ((a.toNat : Int) != (b.toNat : Int)) = true) : a ≠ b := by
  intro e; subst e; simp at h

theorem agree_zero (s p : ByteArray) (o : Nat) : AgreeTo s p o 0 := fun _ _ _ h => absurd h (Nat.not_lt_zero _)

theorem agree_next {s p : ByteArray} {o k : Nat} (h : AgreeTo s p o k) (hk : k < p.size) (hk' : o + k < s.size) (e : s[o + k] = p[k]) : AgreeTo s p o (k + 1) := by
  intro j h1 h2 h3
  by_cases hj : j = k
  · subst hj; exact e
  · exact h j h1 h2 (by omega)

theorem pre_of {s p : ByteArray} {k : Nat} (hs : p.size ≤ s.size) (h : AgreeTo s p 0 k) (hk : p.size ≤ k) : preB s p = true := by
  refine (preB_iff s p).2 ⟨hs, fun i h1 h2 => ?_⟩
  have := h i h1 (by omega) (by omega)
  simpa only [Nat.zero_add] using this

theorem pre_not {s p : ByteArray} {k : Nat} (hk : k < p.size) (hk' : k < s.size) (h : ((s[k].toNat : Int) != (p[k].toNat : Int)) = true) : preB s p = false := by
  rw [← Bool.not_eq_true, preB_iff]
  exact fun hp => byte_ne h (hp.2 k hk hk')

theorem ret_bool {a b : Bool} (h : a = b) : Ending.returned (.bool b) = .returned (.bool a) := by rw [h]

set_option maxHeartbeats 400000 in
theorem prefix_any (s p : ByteArray) (w : World) (hs : (s.size : Int) ≤ 2000000) (hp : (p.size : Int) ≤ s.size) :
    Calls Try.prog 13 #[.string s, .string p] w fun e w' => e = .returned (.bool (preB s p)) ∧ ∃ n, w' = w.drewN n := by
  go_enter Try.func13, Try.ntmps13
  go_wp2
  go_loopw [5] (fun i wr => ∃ k : Nat, k ≤ p.size ∧ i = .int .i64 k ∧ AgreeTo s p 0 k ∧ ∃ n, wr = w.drewN n) (fun i _ => p.size - (intOf i).toNat)
  case atStart => exact ⟨0, Nat.zero_le _, rfl, agree_zero _ _ _, 0, rfl⟩
  case round =>
    obtain ⟨k, hk, rfl, hj, n, rfl⟩ := hrel
    by_cases hlt : (k : Int) < p.size
    · have hlt2 : (k : Int) < s.size := by omega
      go_wp2
      go_quiet (fail)
      go_wp2
      · go_ret
        exact ⟨ret_bool (pre_not (k := k) (by omega) (by omega) (by assumption)), _, World.drewN_drewN _ _ _⟩
      · go_roundw
        case rel => exact ⟨k + 1, by omega, by go_num, agree_next hj (by omega) (by omega) (by simp only [Nat.zero_add]; exact byte_eq (by assumption)), _, rfl⟩
        case measure => simp [intOf]; omega
    · go_wp2
      go_ret
      exact ⟨ret_bool (pre_of (by omega) hj (by omega)), n, rfl⟩

/-- Where p ends s, zzHasSuffix says so. -/
theorem suffix_yes (s p : ByteArray) (o : Nat) (w : World) (hs : (s.size : Int) ≤ 2000000) (hp : (p.size : Int) + o = s.size) (h : AgreeTo s p o p.size) :
    Calls Try.prog 12 #[.string s, .string p] w fun e w' => e = .returned (.bool true) ∧ ∃ n, w' = w.drewN n := by
  have ho : (s.size : Int) - p.size = o := by omega
  have hp' : (p.size : Int) + o ≤ s.size := by omega
  have hq : (s.size : Int) ≤ (p.size : Int) + o := by omega
  clear hp
  go_enter Try.func12, Try.ntmps12
  go_wp2
  go_loopw [6] (fun i wr => ∃ k : Nat, k ≤ p.size ∧ i = .int .i64 k ∧ ∃ n, wr = w.drewN n) (fun i _ => p.size - (intOf i).toNat)
  case atStart => exact ⟨0, Nat.zero_le _, rfl, 0, rfl⟩
  case round =>
    obtain ⟨k, hk, rfl, n, rfl⟩ := hrel
    by_cases hlt : (k : Int) < p.size
    · have hlt2 : (o : Int) + k < s.size := by omega
      have hwr : IntKind.i64.wrap ((o : Int) + k) = (o : Int) + k := by rw [IntKind.wrap_i64]; omega
      have htn : ((o : Int) + k).toNat = o + k := by omega
      have h00 : 0 ≤ (o : Int) + k := by omega
      go_wp2
      go_quiet (fail)
      go_wp2
      · exact absurd (h k (by omega) (by omega) (by omega)) (byte_ne (by assumption))
      · go_roundw
        case rel => exact ⟨k + 1, by omega, by go_num, _, rfl⟩
        case measure => simp [intOf]; omega
    · go_wp2
      go_ret
      exact ⟨rfl, n, rfl⟩

theorem extract_size (s : ByteArray) (m : Nat) : (s.extract m s.size).size = s.size - m := by
  rw [ByteArray.size_extract, Nat.min_self]

/-- Where sub stands at m in s, zzContains finds it. -/
theorem contains_yes (s p : ByteArray) (m : Nat) (w : World) (hs : (s.size : Int) ≤ 2000000) (hm : (m : Int) + p.size ≤ s.size) (h : preB (s.extract m s.size) p = true) :
    Calls Try.prog 14 #[.string s, .string p] w fun e w' => e = .returned (.bool true) ∧ ∃ n, w' = w.drewN n := by
  have H : Hid (preB (s.extract m s.size) p = true) := h
  clear h
  go_enter Try.func14, Try.ntmps14
  go_wp2
  go_loopw [5] (fun i wr => ∃ k : Nat, k ≤ m ∧ i = .int .i64 k ∧ ∃ n, wr = w.drewN n) (fun i _ => m - (intOf i).toNat)
  case atStart => exact ⟨0, Nat.zero_le _, rfl, 0, rfl⟩
  case round =>
    obtain ⟨k, hk, rfl, n, rfl⟩ := hrel
    have e := extract_size s k
    go_wp2_with (go_at_call 13; refine (prefix_any _ _ _ (by omega) (by omega)).mono ?_; rintro e w' ⟨rfl, nn, rfl⟩)
    · go_ret
      exact ⟨rfl, _, rfl⟩
    · have hne : k ≠ m := by
        intro e; subst e
        have h1 : preB (s.extract k s.size) p = false := by assumption
        have h2 : preB (s.extract k s.size) p = true := H
        rw [h1] at h2; cases h2
      go_roundw
      case rel => exact ⟨k + 1, by omega, by go_num, _, rfl⟩
      case measure => simp [intOf]; omega

/-- Where a and b agree up to m and part there, zzFirstDiff says m. -/
theorem diff_at (a b : ByteArray) (m : Nat) (w : World) (ha : (a.size : Int) ≤ 2000000) (hb : (a.size : Int) ≤ b.size) (hm : (m : Int) < a.size) (h : AgreeTo a b 0 m)
    (hd : ∀ (h1 : m < a.size) (h2 : m < b.size), a[m] ≠ b[m]) :
    Calls Try.prog 11 #[.string a, .string b] w fun e w' => e = .returned (.int .i64 m) ∧ ∃ n, w' = w.drewN n := by
  have HD : Hid (∀ (h1 : m < a.size) (h2 : m < b.size), a[m] ≠ b[m]) := hd
  clear hd
  go_enter Try.func11, Try.ntmps11
  go_wp2
  go_loopw [6] (fun i wr => ∃ k : Nat, k ≤ m ∧ i = .int .i64 k ∧ ∃ n, wr = w.drewN n) (fun i _ => m - (intOf i).toNat)
  case atStart => exact ⟨0, Nat.zero_le _, rfl, 0, rfl⟩
  case round =>
    obtain ⟨k, hk, rfl, n, rfl⟩ := hrel
    have hlt : (k : Int) < a.size := by omega
    have hlt2 : (k : Int) < b.size := by omega
    go_wp2
    go_quiet (fail)
    go_wp2
    · go_ret
      have e : k = m := by
        by_cases hkm : k = m
        · exact hkm
        · have := h k (by omega) (by omega) (by omega)
          simp only [Nat.zero_add] at this
          exact absurd this (byte_ne (by assumption))
      subst e
      exact ⟨rfl, _, World.drewN_drewN _ _ _⟩
    · have hne : k ≠ m := by
        intro e; subst e
        exact HD (by omega) (by omega) (byte_eq (by assumption))
      go_roundw
      case rel => exact ⟨k + 1, by omega, by go_num, _, rfl⟩
      case measure => simp [intOf]; omega

end Go.Proofs.Qxb6605206a
