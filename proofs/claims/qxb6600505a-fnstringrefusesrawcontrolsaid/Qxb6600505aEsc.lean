/-
  WHAT THE AUTOMATON PASSES OVER: the escapes that lawAppendEscaped lays. No Go in sight.
-/
import Derived.Test.Qxb6600505aStr
namespace Go.Proofs.Qxb6600505a.Str

/-- The automaton passes over E, in plain text before and behind it. -/
def Skips (E : List UInt8) : Prop := ∀ (r : List UInt8) (p : Int), srun (E ++ r) 0 p = srun r 0 (p + E.length)

theorem Skips.nil : Skips [] := fun r p => by simp

theorem Skips.append {E F : List UInt8} (h : Skips E) (k : Skips F) : Skips (E ++ F) := fun r p => by
  rw [List.append_assoc, h, k, List.length_append]
  congr 1
  omega

theorem skips_plain (c : UInt8) (h : 32 ≤ (c.toNat : Int)) (h1 : ¬ (c.toNat : Int) = 34) (h2 : ¬ (c.toNat : Int) = 92) : Skips [c] := fun r p => by
  simp only [List.cons_append, List.nil_append, srun, if_true]
  rw [if_neg h1, if_neg h2, if_neg (by omega)]
  rfl

theorem skips_letter (c : UInt8) (h : escB (c.toNat : Int) = true) : Skips [92, c] := fun r p => by
  have e' : ¬ (c.toNat : Int) = 117 := by
    intro e2; rw [e2] at h; revert h; decide
  have e92 : ((92 : UInt8).toNat : Int) = 92 := rfl
  have n1 : ¬ ((1 : Int) = 0) := by omega
  simp only [List.cons_append, List.nil_append, srun, if_true, e92]
  rw [if_neg (by omega), if_neg n1, if_neg e', if_pos h]
  simp only [List.length_cons, List.length_nil]
  congr 1
  omega

theorem skips_u (a b : UInt8) (ha : hexB (a.toNat : Int) = true) (hb : hexB (b.toNat : Int) = true) : Skips [92, 117, 48, 48, a, b] := fun r p => by
  have e92 : ((92 : UInt8).toNat : Int) = 92 := rfl
  have e117 : ((117 : UInt8).toNat : Int) = 117 := rfl
  have e48 : ((48 : UInt8).toNat : Int) = 48 := rfl
  have h48 : hexB 48 = true := by decide
  have n92 : ¬ ((92 : Int) = 34) := by omega
  have m1 : ¬ ((1 : Int) = 0) := by omega
  have m2 : ¬ ((2 : Int) = 0) := by omega
  have m2' : ¬ ((2 : Int) = 1) := by omega
  have m25 : ¬ ((2 : Int) = 5) := by omega
  have m3 : ¬ ((2 : Int) + 1 = 0) := by omega
  have m3' : ¬ ((2 : Int) + 1 = 1) := by omega
  have m35 : ¬ ((2 : Int) + 1 = 5) := by omega
  have m4 : ¬ ((2 : Int) + 1 + 1 = 0) := by omega
  have m4' : ¬ ((2 : Int) + 1 + 1 = 1) := by omega
  have m45 : ¬ ((2 : Int) + 1 + 1 = 5) := by omega
  have m5 : ¬ ((2 : Int) + 1 + 1 + 1 = 0) := by omega
  have m5' : ¬ ((2 : Int) + 1 + 1 + 1 = 1) := by omega
  have m55 : (2 : Int) + 1 + 1 + 1 = 5 := by omega
  simp only [List.cons_append, List.nil_append]
  rw [srun, if_pos rfl, e92, if_neg n92, if_pos rfl, srun, if_neg m1, if_pos rfl, e117, if_pos rfl, srun, if_neg m2, if_neg m2', e48, if_pos h48, if_neg m25,
    srun, if_neg m3, if_neg m3', e48, if_pos h48, if_neg m35, srun, if_neg m4, if_neg m4', if_pos ha, if_neg m45, srun, if_neg m5, if_neg m5', if_pos hb, if_pos m55]
  simp only [List.length_cons, List.length_nil]
  congr 1
  omega

/-- A raw control byte in plain text: refused. -/
theorem control_stops (c : UInt8) (h : (c.toNat : Int) < 32) (r : List UInt8) (p : Int) : srun (c :: r) 0 p = -1 := by
  simp only [srun, if_true]
  rw [if_neg (by omega), if_neg (by omega), if_pos h]

/-- The whole: a quote, what is passed over, the raw control byte, whatever. -/
theorem refused (E : List UInt8) (hE : Skips E) (c : UInt8) (h : (c.toNat : Int) < 32) (r : List UInt8) (q : UInt8) (s : ByteArray) (hs : s.data.toList = q :: (E ++ (c :: r))) : strAt s 0 1 = -1 := by
  unfold strAt
  rw [hs, List.drop_one, List.tail_cons, hE, control_stops c h]

end Go.Proofs.Qxb6600505a.Str
