/-
  THE PLAIN MATHEMATICS OF THE NUMBER LAWS: no Go in sight.
-/
namespace Go.Proofs.Qxb6600505a.Num

/-- The table of 'lawNumberStep'. -/
def stepI (st c : Int) : Int :=
  if st = 0 then (if c = 45 then 1 else if c = 48 then 2 else if 48 ≤ c ∧ c ≤ 57 then 3 else -1)
  else if st = 1 then (if c = 48 then 2 else if 48 ≤ c ∧ c ≤ 57 then 3 else -1)
  else if st = 2 then (if c = 46 then 4 else if c = 101 ∨ c = 69 then 6 else -1)
  else if st = 3 then (if 48 ≤ c ∧ c ≤ 57 then 3 else if c = 46 then 4 else if c = 101 ∨ c = 69 then 6 else -1)
  else if st = 4 then (if 48 ≤ c ∧ c ≤ 57 then 5 else -1)
  else if st = 5 then (if 48 ≤ c ∧ c ≤ 57 then 5 else if c = 101 ∨ c = 69 then 6 else -1)
  else if st = 6 then (if c = 43 ∨ c = 45 then 7 else if 48 ≤ c ∧ c ≤ 57 then 8 else -1)
  else if st = 7 then (if 48 ≤ c ∧ c ≤ 57 then 8 else -1)
  else if st = 8 then (if 48 ≤ c ∧ c ≤ 57 then 8 else -1)
  else -1

/-- 'lawNumberAccepting'. -/
def accB (st : Int) : Bool := st == 2 || st == 3 || st == 5 || st == 8

def stop (st p : Int) : Int := if accB st = true then p else -1

def nrun : List UInt8 → Int → Int → Int
  | [], st, p => stop st p
  | c :: t, st, p => if stepI st c.toNat < 0 then stop st p else nrun t (stepI st c.toNat) (p + 1)

def nd : List UInt8 → Nat
  | [] => 0
  | c :: t => if 48 ≤ c.toNat ∧ c.toNat ≤ 57 then nd t + 1 else 0

theorem stepI_range (st c : Int) : stepI st c = -1 ∨ (1 ≤ stepI st c ∧ stepI st c ≤ 8) := by
  unfold stepI
  repeat' split
  all_goals omega

theorem nd_le (l : List UInt8) : nd l ≤ l.length := by
  induction l with
  | nil => simp [nd]
  | cons c t ih => simp only [nd, List.length_cons]; split <;> omega

/-- The answer of the automaton from state 'st' at 's[p]'. -/
def numAt (s : ByteArray) (st : Int) (p : Nat) : Int := nrun (s.data.toList.drop p) st p

/-- The first offset from 'p' on that holds no digit. -/
def dEnd (s : ByteArray) (p : Nat) : Nat := p + nd (s.data.toList.drop p)

theorem len_eq (s : ByteArray) : s.data.toList.length = s.size := Array.length_toList

theorem drop_cons (s : ByteArray) (p : Nat) (h : p < s.size) : s.data.toList.drop p = s[p] :: s.data.toList.drop (p + 1) := by
  rw [List.drop_eq_getElem_cons (by rw [len_eq]; exact h)]; rfl

theorem drop_end (s : ByteArray) (p : Nat) (h : s.size ≤ p) : s.data.toList.drop p = [] :=
  List.drop_eq_nil_of_le (by rw [len_eq]; exact h)

theorem numAt_end (s : ByteArray) (st : Int) (p : Nat) (h : s.size ≤ p) : numAt s st p = stop st p := by
  simp only [numAt, drop_end s p h, nrun]

theorem numAt_step (s : ByteArray) (st : Int) (p : Nat) (h : p < s.size) :
    numAt s st p = if stepI st (s[p].toNat : Int) < 0 then stop st p else numAt s (stepI st (s[p].toNat : Int)) (p + 1) := by
  simp only [numAt, drop_cons s p h, nrun, Int.natCast_add]
  rfl

theorem numAt_go (s : ByteArray) (st st' : Int) (p : Nat) (h : p < s.size) (e : stepI st (s[p].toNat : Int) = st') (h' : 0 ≤ st') :
    numAt s st p = numAt s st' (p + 1) := by
  rw [numAt_step s st p h, e, if_neg (by omega)]

theorem numAt_stop (s : ByteArray) (st : Int) (p : Nat) (h : p < s.size) (e : stepI st (s[p].toNat : Int) = -1) :
    numAt s st p = stop st p := by
  rw [numAt_step s st p h, e, if_pos (by omega)]

theorem dEnd_ge (s : ByteArray) (p : Nat) : p ≤ dEnd s p := Nat.le_add_right _ _

theorem dEnd_le (s : ByteArray) (p : Nat) (h : p ≤ s.size) : dEnd s p ≤ s.size := by
  have := nd_le (s.data.toList.drop p)
  rw [List.length_drop, len_eq] at this
  unfold dEnd; omega

theorem dEnd_end (s : ByteArray) (p : Nat) (h : s.size ≤ p) : dEnd s p = p := by
  simp only [dEnd, drop_end s p h, nd, Nat.add_zero]

theorem dEnd_digit (s : ByteArray) (p : Nat) (h : p < s.size) (hd : 48 ≤ (s[p].toNat : Int) ∧ (s[p].toNat : Int) ≤ 57) :
    dEnd s p = dEnd s (p + 1) := by
  have e : 48 ≤ s[p].toNat ∧ s[p].toNat ≤ 57 := by omega
  simp only [dEnd, drop_cons s p h, nd]
  rw [if_pos e]; omega

theorem dEnd_other (s : ByteArray) (p : Nat) (h : p < s.size) (hd : ¬ (48 ≤ (s[p].toNat : Int) ∧ (s[p].toNat : Int) ≤ 57)) :
    dEnd s p = p := by
  have e : ¬ (48 ≤ s[p].toNat ∧ s[p].toNat ≤ 57) := by omega
  simp only [dEnd, drop_cons s p h, nd]
  rw [if_neg e]; omega

/-- Behind the digits: the end, or a byte that is no digit. -/
theorem dEnd_after (n : Nat) (s : ByteArray) (p : Nat) (hn : s.size - p ≤ n) (h : dEnd s p < s.size) :
    ¬ (48 ≤ (s[dEnd s p].toNat : Int) ∧ (s[dEnd s p].toNat : Int) ≤ 57) := by
  induction n generalizing p with
  | zero => have := dEnd_ge s p; omega
  | succ n ih =>
    have hp : p < s.size := Nat.lt_of_le_of_lt (dEnd_ge s p) h
    by_cases hd : 48 ≤ (s[p].toNat : Int) ∧ (s[p].toNat : Int) ≤ 57
    · have e := dEnd_digit s p hp hd
      have h' : dEnd s (p + 1) < s.size := by rw [← e]; exact h
      have := ih (p + 1) (by omega) h'
      simpa only [e] using this
    · have e := dEnd_other s p hp hd
      simpa only [e] using hd

theorem numAt_digits (n : Nat) (s : ByteArray) (st : Int) (hst : st = 3 ∨ st = 5 ∨ st = 8) (p : Nat) (hn : s.size - p ≤ n) :
    numAt s st p = numAt s st (dEnd s p) := by
  induction n generalizing p with
  | zero => rw [dEnd_end s p (by omega)]
  | succ n ih =>
    by_cases hp : p < s.size
    · by_cases hd : 48 ≤ (s[p].toNat : Int) ∧ (s[p].toNat : Int) ≤ 57
      · rw [dEnd_digit s p hp hd, ← ih (p + 1) (by omega)]
        refine numAt_go s st st p hp ?_ (by omega)
        rcases hst with rfl | rfl | rfl <;> simp [stepI, hd]
      · rw [dEnd_other s p hp hd]
    · rw [dEnd_end s p (by omega)]

/-- What is behind the integer part and the fraction: an exponent, or the number's end. -/
def expAt (s : ByteArray) (p : Nat) : Int :=
  if h : p < s.size then (if (s[p].toNat : Int) = 101 ∨ (s[p].toNat : Int) = 69 then numAt s 6 (p + 1) else p) else p

theorem stop_of {st p : Int} (h : accB st = true) : stop st p = p := by rw [stop, if_pos h]
theorem stop_not {st p : Int} (h : accB st = false) : stop st p = -1 := by rw [stop, h]; rfl

/-- State 3 (in the integer digits) behind the digits answers as state 2 does. -/
theorem three_two (s : ByteArray) (p : Nat) (h : ∀ h : p < s.size, ¬ (48 ≤ (s[p].toNat : Int) ∧ (s[p].toNat : Int) ≤ 57)) :
    numAt s 3 p = numAt s 2 p := by
  by_cases hp : p < s.size
  · have hh := h hp
    rw [numAt_step s 3 p hp, numAt_step s 2 p hp]
    have e : stepI 3 (s[p].toNat : Int) = stepI 2 (s[p].toNat : Int) := by simp [stepI, hh]
    rw [e, stop_of rfl, stop_of rfl]
  · rw [numAt_end s 3 p (by omega), numAt_end s 2 p (by omega), stop_of rfl, stop_of rfl]

/-- The integer part: one digit at least. -/
theorem int_digits (s : ByteArray) (st : Int) (hst : st = 0 ∨ st = 1) (p : Nat) (hp : p < s.size) (h0 : ¬ (s[p].toNat : Int) = 48)
    (hm : st = 0 → ¬ (s[p].toNat : Int) = 45) (hd : p < dEnd s p) : numAt s st p = numAt s 2 (dEnd s p) := by
  have hg : 48 ≤ (s[p].toNat : Int) ∧ (s[p].toNat : Int) ≤ 57 := by
    by_cases hg : 48 ≤ (s[p].toNat : Int) ∧ (s[p].toNat : Int) ≤ 57
    · exact hg
    · have := dEnd_other s p hp hg; omega
  have e1 : numAt s st p = numAt s 3 (p + 1) := by
    refine numAt_go s st 3 p hp ?_ (by omega)
    rcases hst with rfl | rfl
    · have := hm rfl; simp [stepI, hg, h0, this]
    · simp [stepI, hg, h0]
  rw [e1, numAt_digits _ s 3 (Or.inl rfl) (p + 1) (Nat.le_refl _), ← dEnd_digit s p hp hg]
  exact three_two s _ (fun h => dEnd_after _ s p (Nat.le_refl _) h)

theorem int_none (s : ByteArray) (st : Int) (hst : st = 0 ∨ st = 1) (p : Nat) (h0 : ∀ h : p < s.size, ¬ (s[p].toNat : Int) = 48)
    (hm : st = 0 → ∀ h : p < s.size, ¬ (s[p].toNat : Int) = 45) (hd : dEnd s p = p) : numAt s st p = -1 := by
  have hs : stop st (p : Int) = -1 := by rcases hst with rfl | rfl <;> exact stop_not rfl
  by_cases hp : p < s.size
  · have h0' := h0 hp
    have hg : ¬ (48 ≤ (s[p].toNat : Int) ∧ (s[p].toNat : Int) ≤ 57) := fun hg => by
      have := dEnd_digit s p hp hg; have := dEnd_ge s (p + 1); omega
    rw [numAt_stop s st p hp, hs]
    rcases hst with rfl | rfl
    · have := hm rfl hp; simp [stepI, hg, h0', this]
    · simp [stepI, hg, h0']
  · rw [numAt_end s st p (by omega), hs]

theorem int_zero (s : ByteArray) (st : Int) (hst : st = 0 ∨ st = 1) (p : Nat) (hp : p < s.size) (h0 : (s[p].toNat : Int) = 48) :
    numAt s st p = numAt s 2 (p + 1) := by
  refine numAt_go s st 2 p hp ?_ (by omega)
  rcases hst with rfl | rfl <;> simp [stepI, h0]

theorem int_minus (s : ByteArray) (p : Nat) (hp : p < s.size) (h0 : (s[p].toNat : Int) = 45) : numAt s 0 p = numAt s 1 (p + 1) := by
  refine numAt_go s 0 1 p hp ?_ (by omega)
  simp [stepI, h0]

/-- No point: the exponent, or the end. -/
theorem frac_no (s : ByteArray) (p : Nat) (h : ∀ h : p < s.size, ¬ (s[p].toNat : Int) = 46) : numAt s 2 p = expAt s p := by
  unfold expAt
  by_cases hp : p < s.size
  · have hh := h hp
    rw [dif_pos hp, numAt_step s 2 p hp]
    by_cases he : (s[p].toNat : Int) = 101 ∨ (s[p].toNat : Int) = 69
    · have e : stepI 2 (s[p].toNat : Int) = 6 := by simp [stepI, hh, he]
      rw [e, if_pos he, if_neg (by omega)]
    · have e : stepI 2 (s[p].toNat : Int) = -1 := by simp [stepI, hh, he]
      rw [e, if_neg he, if_pos (by omega), stop_of rfl]
  · rw [dif_neg hp, numAt_end s 2 p (by omega), stop_of rfl]

theorem frac_point (s : ByteArray) (p : Nat) (hp : p < s.size) (h : (s[p].toNat : Int) = 46) : numAt s 2 p = numAt s 4 (p + 1) := by
  refine numAt_go s 2 4 p hp ?_ (by omega)
  simp [stepI, h]

theorem digits_none (s : ByteArray) (st : Int) (hst : st = 4 ∨ st = 7 ∨ st = 6) (p : Nat)
    (hsig : st = 6 → ∀ h : p < s.size, ¬ ((s[p].toNat : Int) = 43 ∨ (s[p].toNat : Int) = 45)) (hd : dEnd s p = p) : numAt s st p = -1 := by
  have hs : stop st (p : Int) = -1 := by rcases hst with rfl | rfl | rfl <;> exact stop_not rfl
  by_cases hp : p < s.size
  · have hg : ¬ (48 ≤ (s[p].toNat : Int) ∧ (s[p].toNat : Int) ≤ 57) := fun hg => by
      have := dEnd_digit s p hp hg; have := dEnd_ge s (p + 1); omega
    rw [numAt_stop s st p hp, hs]
    rcases hst with rfl | rfl | rfl
    · simp [stepI, hg]
    · simp [stepI, hg]
    · have := hsig rfl hp; simp [stepI, hg, this]
  · rw [numAt_end s st p (by omega), hs]

theorem frac_digits (s : ByteArray) (p : Nat) (hp : p ≤ s.size) (hd : p < dEnd s p) : numAt s 4 p = expAt s (dEnd s p) := by
  have hp' : p < s.size := by have := dEnd_le s p hp; omega
  have hg : 48 ≤ (s[p].toNat : Int) ∧ (s[p].toNat : Int) ≤ 57 := by
    by_cases hg : 48 ≤ (s[p].toNat : Int) ∧ (s[p].toNat : Int) ≤ 57
    · exact hg
    · have := dEnd_other s p hp' hg; omega
  have e1 : numAt s 4 p = numAt s 5 (p + 1) := by
    refine numAt_go s 4 5 p hp' ?_ (by omega)
    simp [stepI, hg]
  rw [e1, numAt_digits _ s 5 (Or.inr (Or.inl rfl)) (p + 1) (Nat.le_refl _), ← dEnd_digit s p hp' hg]
  have ha := fun h => dEnd_after _ s p (Nat.le_refl _) h
  generalize hq : dEnd s p = q at ha
  unfold expAt
  by_cases hl : q < s.size
  · have hh := ha hl
    rw [dif_pos hl, numAt_step s 5 q hl]
    by_cases he : (s[q].toNat : Int) = 101 ∨ (s[q].toNat : Int) = 69
    · have e : stepI 5 (s[q].toNat : Int) = 6 := by simp [stepI, hh, he]
      rw [e, if_pos he, if_neg (by omega)]
    · have e : stepI 5 (s[q].toNat : Int) = -1 := by simp [stepI, hh, he]
      rw [e, if_neg he, if_pos (by omega), stop_of rfl]
  · rw [dif_neg hl, numAt_end s 5 q (by omega), stop_of rfl]

theorem exp_no (s : ByteArray) (p : Nat) (h : ∀ h : p < s.size, ¬ ((s[p].toNat : Int) = 101 ∨ (s[p].toNat : Int) = 69)) : expAt s p = p := by
  unfold expAt
  by_cases hp : p < s.size
  · rw [dif_pos hp, if_neg (h hp)]
  · rw [dif_neg hp]

theorem exp_e (s : ByteArray) (p : Nat) (hp : p < s.size) (h : (s[p].toNat : Int) = 101 ∨ (s[p].toNat : Int) = 69) : expAt s p = numAt s 6 (p + 1) := by
  unfold expAt
  rw [dif_pos hp, if_pos h]

theorem exp_sign (s : ByteArray) (p : Nat) (hp : p < s.size) (h : (s[p].toNat : Int) = 43 ∨ (s[p].toNat : Int) = 45) : numAt s 6 p = numAt s 7 (p + 1) := by
  refine numAt_go s 6 7 p hp ?_ (by omega)
  simp [stepI, h]

theorem exp_digits (s : ByteArray) (st : Int) (hst : st = 6 ∨ st = 7) (p : Nat) (hp : p ≤ s.size) (hd : p < dEnd s p) : numAt s st p = dEnd s p := by
  have hp' : p < s.size := by have := dEnd_le s p hp; omega
  have hg : 48 ≤ (s[p].toNat : Int) ∧ (s[p].toNat : Int) ≤ 57 := by
    by_cases hg : 48 ≤ (s[p].toNat : Int) ∧ (s[p].toNat : Int) ≤ 57
    · exact hg
    · have := dEnd_other s p hp' hg; omega
  have e1 : numAt s st p = numAt s 8 (p + 1) := by
    refine numAt_go s st 8 p hp' ?_ (by omega)
    rcases hst with rfl | rfl
    · have h43 : ¬ ((s[p].toNat : Int) = 43 ∨ (s[p].toNat : Int) = 45) := by omega
      simp [stepI, hg, h43]
    · simp [stepI, hg]
  rw [e1, numAt_digits _ s 8 (Or.inr (Or.inr rfl)) (p + 1) (Nat.le_refl _), ← dEnd_digit s p hp' hg]
  have ha := fun h => dEnd_after _ s p (Nat.le_refl _) h
  generalize hq : dEnd s p = q at ha
  by_cases hl : q < s.size
  · have hh := ha hl
    rw [numAt_stop s 8 q hl (by simp [stepI, hh]), stop_of rfl]
  · rw [numAt_end s 8 q (by omega), stop_of rfl]

/-! ### Cut out alone -/
theorem nrun_bounds (l : List UInt8) (st p : Int) (hp : 0 ≤ p) : nrun l st p = -1 ∨ (p ≤ nrun l st p ∧ nrun l st p ≤ p + l.length) := by
  induction l generalizing st p with
  | nil => simp only [nrun, stop]; split <;> simp <;> omega
  | cons c t ih =>
    simp only [nrun, List.length_cons]
    split
    · simp only [stop]; split <;> omega
    · rcases ih (stepI st c.toNat) (p + 1) (by omega) with h | h
      · exact Or.inl h
      · right; omega

theorem nrun_cut (l : List UInt8) (st p q : Int) (hp : 0 ≤ p) (h : 0 ≤ nrun l st p) :
    nrun (l.take (nrun l st p - p).toNat) st q = q + (nrun l st p - p) := by
  induction l generalizing st p q with
  | nil =>
    simp only [nrun, stop, List.take_nil] at h ⊢
    split at h
    · rename_i ha; simp only [ha, if_true]; omega
    · omega
  | cons c t ih =>
    simp only [nrun] at h ⊢
    split at h
    · rename_i hn
      simp only [stop] at h ⊢
      split at h
      · rename_i ha
        simp only [hn, ha, if_true, Int.sub_self, Int.toNat_zero, List.take_zero, nrun, stop]; omega
      · omega
    · rename_i hn
      have hb := nrun_bounds t (stepI st c.toNat) (p + 1) (by omega)
      have e : (nrun t (stepI st c.toNat) (p + 1) - p).toNat = (nrun t (stepI st c.toNat) (p + 1) - (p + 1)).toNat + 1 := by omega
      rw [if_neg hn, e, List.take_succ_cons, nrun, if_neg hn, ih _ (p + 1) (q + 1) (by omega) h]
      omega

theorem nrun_pos (l : List UInt8) (p : Int) (hp : 0 ≤ p) (h : 0 ≤ nrun l 0 p) : p < nrun l 0 p := by
  cases l with
  | nil => simp [nrun, stop, accB] at h
  | cons c t =>
    simp only [nrun] at h ⊢
    split at h
    · rw [stop_not rfl] at h; omega
    · rename_i hn
      rw [if_neg hn]
      have := nrun_bounds t (stepI 0 c.toNat) (p + 1) (by omega)
      omega

theorem extract_list (s : ByteArray) (i e : Nat) : (s.extract i e).data.toList = (s.data.toList.drop i).take (e - i) := by
  rw [ByteArray.data_extract, Array.toList_extract]

theorem numAt_bounds (s : ByteArray) (i : Nat) (hi : i ≤ s.size) : numAt s 0 i = -1 ∨ ((i : Int) < numAt s 0 i ∧ numAt s 0 i ≤ s.size) := by
  have h := nrun_bounds (s.data.toList.drop i) 0 i (by omega)
  have h2 := nrun_pos (s.data.toList.drop i) i (by omega)
  rw [List.length_drop, len_eq] at h
  simp only [numAt]
  omega

theorem cut_alone (s : ByteArray) (i e : Nat) (h : numAt s 0 i = e) : numAt (s.extract i e) 0 0 = (e : Int) - i := by
  have hc := nrun_cut (s.data.toList.drop i) 0 i 0 (by omega)
  simp only [numAt] at h ⊢
  rw [h] at hc
  have hc := hc (by omega)
  rw [extract_list, List.drop_zero]
  have e1 : ((e : Int) - i).toNat = e - i := by omega
  rw [e1] at hc
  rw [show ((0 : Nat) : Int) = 0 from rfl, hc]; omega

theorem cut_after (s : ByteArray) (i e : Nat) (h : numAt s 0 i = e) : numAt (s.extract 0 e) 0 i = e := by
  have hc := nrun_cut (s.data.toList.drop i) 0 i i (by omega)
  simp only [numAt] at h ⊢
  rw [h] at hc
  have hc := hc (by omega)
  rw [extract_list, List.drop_zero, Nat.sub_zero, List.drop_take]
  have e1 : ((e : Int) - i).toNat = e - i := by omega
  rw [e1] at hc
  rw [hc]; omega

end Go.Proofs.Qxb6600505a.Num
