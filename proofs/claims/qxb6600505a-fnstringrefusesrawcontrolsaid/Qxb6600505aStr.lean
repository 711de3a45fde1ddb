/-
  THE PLAIN MATHEMATICS OF THE STRING LAWS: no Go in sight.
-/
namespace Go.Proofs.Qxb6600505a.Str

/-- 'lawEscapeLetter'. -/
def escB (c : Int) : Bool := c == 34 || c == 92 || c == 47 || c == 98 || c == 102 || c == 110 || c == 114 || c == 116
/-- 'lawHexDigit', 'isHex'. -/
def hexB (c : Int) : Bool := (decide (48 ≤ c) && decide (c ≤ 57)) || (decide (97 ≤ c) && decide (c ≤ 102)) || (decide (65 ≤ c) && decide (c ≤ 70))

/-- The automaton of 'lawStringModel': the offset just past the closing quote, or -1. -/
def srun : List UInt8 → Int → Int → Int
  | [], _, _ => -1
  | c :: t, st, p =>
    if st = 0 then
      if (c.toNat : Int) = 34 then p + 1
      else if (c.toNat : Int) = 92 then srun t 1 (p + 1)
      else if (c.toNat : Int) < 32 then -1
      else srun t 0 (p + 1)
    else if st = 1 then
      if (c.toNat : Int) = 117 then srun t 2 (p + 1)
      else if escB c.toNat = true then srun t 0 (p + 1)
      else -1
    else if hexB c.toNat = true then srun t (if st = 5 then 0 else st + 1) (p + 1)
    else -1

def strAt (s : ByteArray) (st : Int) (p : Nat) : Int := srun (s.data.toList.drop p) st p

theorem len_eq (s : ByteArray) : s.data.toList.length = s.size := Array.length_toList

theorem drop_cons (s : ByteArray) (p : Nat) (h : p < s.size) : s.data.toList.drop p = s[p] :: s.data.toList.drop (p + 1) := by
  rw [List.drop_eq_getElem_cons (by rw [len_eq]; exact h)]; rfl

theorem drop_end (s : ByteArray) (p : Nat) (h : s.size ≤ p) : s.data.toList.drop p = [] :=
  List.drop_eq_nil_of_le (by rw [len_eq]; exact h)

theorem at_end (s : ByteArray) (st : Int) (p : Nat) (h : s.size ≤ p) : strAt s st p = -1 := by
  simp only [strAt, drop_end s p h, srun]

theorem at_quote (s : ByteArray) (p : Nat) (h : p < s.size) (e : (s[p].toNat : Int) = 34) : strAt s 0 p = (p : Int) + 1 := by
  simp only [strAt, drop_cons s p h, srun, if_true]; rw [if_pos e]

theorem at_back (s : ByteArray) (p : Nat) (h : p < s.size) (e : (s[p].toNat : Int) = 92) : strAt s 0 p = strAt s 1 (p + 1) := by
  simp only [strAt, drop_cons s p h, srun, if_true]
  rw [if_neg (by omega), if_pos e]
  simp only [Int.natCast_add]; rfl

theorem at_control (s : ByteArray) (p : Nat) (h : p < s.size) (e : (s[p].toNat : Int) < 32) : strAt s 0 p = -1 := by
  simp only [strAt, drop_cons s p h, srun, if_true]
  rw [if_neg (by omega), if_neg (by omega), if_pos e]

theorem at_plain (s : ByteArray) (p : Nat) (h : p < s.size) (e : 32 ≤ (s[p].toNat : Int)) (e1 : ¬ (s[p].toNat : Int) = 34) (e2 : ¬ (s[p].toNat : Int) = 92) : strAt s 0 p = strAt s 0 (p + 1) := by
  simp only [strAt, drop_cons s p h, srun, if_true]
  rw [if_neg e1, if_neg e2, if_neg (by omega)]
  simp only [Int.natCast_add]; rfl

theorem at_u (s : ByteArray) (p : Nat) (h : p < s.size) (e : (s[p].toNat : Int) = 117) : strAt s 1 p = strAt s 2 (p + 1) := by
  simp only [strAt, drop_cons s p h, srun]
  rw [if_neg (by omega), if_pos trivial, if_pos e]
  simp only [Int.natCast_add]; rfl

theorem at_letter (s : ByteArray) (p : Nat) (h : p < s.size) (e : escB (s[p].toNat : Int) = true) : strAt s 1 p = strAt s 0 (p + 1) := by
  have e' : ¬ (s[p].toNat : Int) = 117 := by
    intro e2; rw [e2] at e; revert e; decide
  simp only [strAt, drop_cons s p h, srun]
  rw [if_neg (by omega), if_pos trivial, if_neg e', if_pos e]
  simp only [Int.natCast_add]; rfl

theorem at_badletter (s : ByteArray) (p : Nat) (h : p < s.size) (e : escB (s[p].toNat : Int) = false) (e' : ¬ (s[p].toNat : Int) = 117) : strAt s 1 p = -1 := by
  simp only [strAt, drop_cons s p h, srun]
  rw [if_neg (by omega), if_pos trivial, if_neg e', e]
  simp

theorem at_hex (s : ByteArray) (st : Int) (hst : 2 ≤ st) (p : Nat) (h : p < s.size) (e : hexB (s[p].toNat : Int) = true) :
    strAt s st p = strAt s (if st = 5 then 0 else st + 1) (p + 1) := by
  simp only [strAt, drop_cons s p h, srun]
  rw [if_neg (by omega), if_neg (by omega), if_pos e]
  simp only [Int.natCast_add]; rfl

theorem at_badhex (s : ByteArray) (st : Int) (hst : 2 ≤ st) (p : Nat) (h : p < s.size) (e : hexB (s[p].toNat : Int) = false) : strAt s st p = -1 := by
  simp only [strAt, drop_cons s p h, srun]
  rw [if_neg (by omega), if_neg (by omega), e]
  simp

/-- Four hex digits behind the u. -/
theorem four_hex (s : ByteArray) (p : Nat) (h : p + 4 ≤ s.size) (h0 : hexB (s[p].toNat : Int) = true) (h1 : hexB (s[p + 1].toNat : Int) = true)
    (h2 : hexB (s[p + 2].toNat : Int) = true) (h3 : hexB (s[p + 3].toNat : Int) = true) : strAt s 2 p = strAt s 0 (p + 4) := by
  rw [at_hex s 2 (by omega) p (by omega) h0]
  show strAt s 3 (p + 1) = _
  rw [at_hex s 3 (by omega) (p + 1) (by omega) h1]
  show strAt s 4 (p + 2) = _
  rw [at_hex s 4 (by omega) (p + 2) (by omega) h2]
  show strAt s 5 (p + 3) = _
  rw [at_hex s 5 (by omega) (p + 3) (by omega) h3]
  rfl

/-- Too few bytes for four hex digits: no end is found. -/
theorem few_hex (n : Nat) (s : ByteArray) (st : Int) (hst : 2 ≤ st) (p : Nat) (hp : (s.size : Int) < (p : Int) + (6 - st)) (hn : s.size - p ≤ n) (h5 : st ≤ 5) : strAt s st p = -1 := by
  induction n generalizing st p with
  | zero => exact at_end s st p (by omega)
  | succ n ih =>
    by_cases hlt : p < s.size
    · cases he : hexB (s[p].toNat : Int) with
      | false => exact at_badhex s st hst p hlt he
      | true =>
        rw [at_hex s st hst p hlt he]
        have hne : ¬ st = 5 := by omega
        rw [if_neg hne]
        exact ih (st + 1) (by omega) (p + 1) (by omega) (by omega) (by omega)
    · exact at_end s st p (by omega)

theorem few_hex2 (s : ByteArray) (p : Nat) (hp : s.size < p + 4) : strAt s 2 p = -1 :=
  few_hex (s.size - p) s 2 (by omega) p (by omega) (Nat.le_refl _) (by omega)

/-- One of four is no hex digit. -/
theorem bad_hex0 (s : ByteArray) (p : Nat) (h : p < s.size) (h0 : hexB (s[p].toNat : Int) = false) : strAt s 2 p = -1 :=
  at_badhex s 2 (by omega) p h h0
theorem bad_hex1 (s : ByteArray) (p : Nat) (h : p + 1 < s.size) (h0 : hexB (s[p].toNat : Int) = true) (h1 : hexB (s[p + 1].toNat : Int) = false) : strAt s 2 p = -1 := by
  rw [at_hex s 2 (by omega) p (by omega) h0]
  exact at_badhex s _ (by decide) (p + 1) h h1
theorem bad_hex2 (s : ByteArray) (p : Nat) (h : p + 2 < s.size) (h0 : hexB (s[p].toNat : Int) = true) (h1 : hexB (s[p + 1].toNat : Int) = true) (h2 : hexB (s[p + 2].toNat : Int) = false) : strAt s 2 p = -1 := by
  rw [at_hex s 2 (by omega) p (by omega) h0]
  show strAt s 3 (p + 1) = _
  rw [at_hex s 3 (by omega) (p + 1) (by omega) h1]
  exact at_badhex s _ (by decide) (p + 2) h h2
theorem bad_hex3 (s : ByteArray) (p : Nat) (h : p + 3 < s.size) (h0 : hexB (s[p].toNat : Int) = true) (h1 : hexB (s[p + 1].toNat : Int) = true) (h2 : hexB (s[p + 2].toNat : Int) = true)
    (h3 : hexB (s[p + 3].toNat : Int) = false) : strAt s 2 p = -1 := by
  rw [at_hex s 2 (by omega) p (by omega) h0]
  show strAt s 3 (p + 1) = _
  rw [at_hex s 3 (by omega) (p + 1) (by omega) h1]
  show strAt s 4 (p + 2) = _
  rw [at_hex s 4 (by omega) (p + 2) (by omega) h2]
  exact at_badhex s _ (by decide) (p + 3) h h3

/-- n plain bytes from p on. -/
theorem skip_plain (n : Nat) (s : ByteArray) (p : Nat) (h : p + n ≤ s.size)
    (hp : ∀ j (hj : p + j < s.size), j < n → 32 ≤ (s[p + j].toNat : Int) ∧ ¬ (s[p + j].toNat : Int) = 34 ∧ ¬ (s[p + j].toNat : Int) = 92) : strAt s 0 p = strAt s 0 (p + n) := by
  induction n generalizing p with
  | zero => rfl
  | succ n ih =>
    obtain ⟨a, b, c⟩ := hp 0 (by omega) (by omega)
    rw [at_plain s p (by omega) a b c, ih (p + 1) (by omega) ?_]
    · rw [show p + 1 + n = p + (n + 1) from by omega]
    · intro j hj hjn
      have := hp (j + 1) (by omega) (by omega)
      have e : p + (j + 1) = p + 1 + j := by omega
      simpa only [e] using this

end Go.Proofs.Qxb6600505a.Str
