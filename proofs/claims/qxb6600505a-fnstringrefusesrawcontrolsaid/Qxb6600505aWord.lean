/-
  THE PLAIN MATHEMATICS OF 'special': eight bytes in one word. No Go in sight.
-/
namespace Go.Proofs.Qxb6600505a.Word

/-- The number that the bytes spell, the first in the low byte. -/
def val : List Nat → Nat
  | [] => 0
  | c :: t => c + 256 * val t

def onesOf : List Nat → Nat
  | [] => 0
  | _ :: t => 1 + 256 * onesOf t

def sub64 (a b : Nat) : Nat := (a + (18446744073709551616 - b)) % 18446744073709551616
/-- '(x - n) &^ x'. -/
def nz (x n : Nat) : Nat := sub64 x n &&& (18446744073709551615 - x)

def specN (w : Nat) : Nat :=
  ((nz w 2314885530818453536 ||| nz (w ^^^ 2459565876494606882) 72340172838076673) ||| nz (w ^^^ 6655295901103053916) 72340172838076673) &&& 9259542123273814144

def specB (w : Nat) : Bool := specN w != 0

theorem pow_step (j : Nat) : (2 : Int) ^ (8 * (j + 1) + 7) = 256 * 2 ^ (8 * j + 7) := by
  rw [show 8 * (j + 1) + 7 = 8 + (8 * j + 7) from by omega, Int.pow_add]
  rfl

/-- Where a byte is below k, the difference has a top bit set that the number itself has not. -/
theorem low_bit (k : Int) (hk : 0 < k ∧ k ≤ 128) (L : List Nat) (hb : ∀ c ∈ L, c < 256) (h : ∃ c ∈ L, (c : Int) < k) :
    ∃ j, j < L.length ∧ (((val L : Int) - k * onesOf L) / 2 ^ (8 * j + 7)) % 2 = 1 ∧ ((val L : Int) / 2 ^ (8 * j + 7)) % 2 = 0 := by
  induction L with
  | nil => obtain ⟨c, hc, _⟩ := h; cases hc
  | cons c t ih =>
    have hc : c < 256 := hb c (by simp)
    have e1 : ((val (c :: t) : Nat) : Int) = (c : Int) + 256 * val t := by simp [val]
    have e2 : ((onesOf (c :: t) : Nat) : Int) = 1 + 256 * (onesOf t : Int) := by simp [onesOf]
    have e3 : (c : Int) + 256 * (val t : Int) - k * (1 + 256 * (onesOf t : Int)) = ((c : Int) - k) + 256 * ((val t : Int) - k * onesOf t) := by
      rw [Int.mul_add, Int.mul_one, Int.mul_sub, ← Int.mul_assoc, ← Int.mul_assoc, Int.mul_comm k 256]
      omega
    rw [e1, e2, e3]
    by_cases hlt : (c : Int) < k
    · refine ⟨0, by simp, ?_, ?_⟩
      · show (((c : Int) - k) + 256 * ((val t : Int) - k * onesOf t)) / 128 % 2 = 1
        generalize (val t : Int) - k * onesOf t = d
        omega
      · show ((c : Int) + 256 * val t) / 128 % 2 = 0
        omega
    · obtain ⟨j, hj, h1, h2⟩ := ih (fun x hx => hb x (List.mem_cons_of_mem _ hx)) (by
        obtain ⟨x, hx, hxk⟩ := h
        rcases List.mem_cons.mp hx with rfl | hx
        · exact absurd hxk hlt
        · exact ⟨x, hx, hxk⟩)
      refine ⟨j + 1, by simp; omega, ?_, ?_⟩
      · rw [pow_step, ← Int.ediv_ediv_of_nonneg (by omega)]
        have e : (((c : Int) - k) + 256 * ((val t : Int) - k * onesOf t)) / 256 = (val t : Int) - k * onesOf t := by
          generalize (val t : Int) - k * onesOf t = d
          omega
        rw [e]; exact h1
      · rw [pow_step, ← Int.ediv_ediv_of_nonneg (by omega)]
        have e : ((c : Int) + 256 * (val t : Int)) / 256 = val t := by omega
        rw [e]; exact h2

theorem val_lt (L : List Nat) (hb : ∀ c ∈ L, c < 256) : val L < 256 ^ L.length := by
  induction L with
  | nil => simp [val]
  | cons c t ih =>
    have := ih (fun x hx => hb x (List.mem_cons_of_mem _ hx))
    have hc : c < 256 := hb c (by simp)
    rw [val, List.length_cons, Nat.pow_succ]
    omega

theorem xor_split (c k v o : Nat) (hc : c < 256) (hk : k < 256) : (c + 256 * v) ^^^ (k + 256 * o) = (c ^^^ k) + 256 * (v ^^^ o) := by
  have hx : c ^^^ k < 256 := Nat.xor_lt_two_pow (n := 8) hc hk
  have h1 : ((c + 256 * v) ^^^ (k + 256 * o)) % 256 = c ^^^ k := by
    have := Nat.xor_mod_two_pow (a := c + 256 * v) (b := k + 256 * o) (n := 8)
    rw [show (2 : Nat) ^ 8 = 256 from rfl] at this
    rw [this, Nat.add_mul_mod_self_left, Nat.add_mul_mod_self_left, Nat.mod_eq_of_lt hc, Nat.mod_eq_of_lt hk]
  have h2 : ((c + 256 * v) ^^^ (k + 256 * o)) / 256 = v ^^^ o := by
    have := Nat.xor_div_two_pow (a := c + 256 * v) (b := k + 256 * o) (n := 8)
    rw [show (2 : Nat) ^ 8 = 256 from rfl] at this
    rw [this, show (c + 256 * v) / 256 = v from by omega, show (k + 256 * o) / 256 = o from by omega]
  have := Nat.mod_add_div ((c + 256 * v) ^^^ (k + 256 * o)) 256
  rw [h1, h2] at this
  exact this.symm

theorem val_xor (k : Nat) (hk : k < 256) (L : List Nat) (hb : ∀ c ∈ L, c < 256) : val L ^^^ (k * onesOf L) = val (L.map (· ^^^ k)) := by
  induction L with
  | nil => simp [val, onesOf]
  | cons c t ih =>
    have hc : c < 256 := hb c (by simp)
    have e : k * onesOf (c :: t) = k + 256 * (k * onesOf t) := by
      simp only [onesOf, Nat.mul_add, Nat.mul_one, ← Nat.mul_assoc, Nat.mul_comm k 256]
    rw [e, val, xor_split c k _ _ hc hk, ih (fun x hx => hb x (List.mem_cons_of_mem _ hx))]
    rfl

theorem ones8 (L : List Nat) (h : L.length = 8) : onesOf L = 72340172838076673 := by
  match L, h with
  | [_, _, _, _, _, _, _, _], _ => rw [onesOf, onesOf, onesOf, onesOf, onesOf, onesOf, onesOf, onesOf, onesOf]

theorem ones_map (f : Nat → Nat) (L : List Nat) : onesOf (L.map f) = onesOf L := by
  induction L with
  | nil => rfl
  | cons c t ih => simp only [List.map_cons, onesOf, ih]

/-- The bit 8 j + 7 of the difference, cut to 64 bits. -/
theorem bit_of (x n j : Nat) (hj : j < 8) (hx : x < 18446744073709551616) (hn : n ≤ 18446744073709551616)
    (h1 : (((x : Int) - n) / 2 ^ (8 * j + 7)) % 2 = 1) (h2 : ((x : Int) / 2 ^ (8 * j + 7)) % 2 = 0) : (nz x n).testBit (8 * j + 7) = true := by
  unfold nz sub64
  have e : (((x + (18446744073709551616 - n)) % 18446744073709551616 : Nat) : Int) = ((x : Int) - n) % 18446744073709551616 := by omega
  rw [Nat.testBit_and, Bool.and_eq_true, Nat.testBit_eq_decide_div_mod_eq, Nat.testBit_eq_decide_div_mod_eq, decide_eq_true_eq, decide_eq_true_eq]
  generalize (x + (18446744073709551616 - n)) % 18446744073709551616 = y at e
  generalize hd : (x : Int) - n = d at h1 e
  match j, hj with
  | 0, _ => simp only [Nat.reduceMul, Nat.reduceAdd, Nat.reducePow, Int.reducePow] at h1 h2 ⊢; omega
  | 1, _ => simp only [Nat.reduceMul, Nat.reduceAdd, Nat.reducePow, Int.reducePow] at h1 h2 ⊢; omega
  | 2, _ => simp only [Nat.reduceMul, Nat.reduceAdd, Nat.reducePow, Int.reducePow] at h1 h2 ⊢; omega
  | 3, _ => simp only [Nat.reduceMul, Nat.reduceAdd, Nat.reducePow, Int.reducePow] at h1 h2 ⊢; omega
  | 4, _ => simp only [Nat.reduceMul, Nat.reduceAdd, Nat.reducePow, Int.reducePow] at h1 h2 ⊢; omega
  | 5, _ => simp only [Nat.reduceMul, Nat.reduceAdd, Nat.reducePow, Int.reducePow] at h1 h2 ⊢; omega
  | 6, _ => simp only [Nat.reduceMul, Nat.reduceAdd, Nat.reducePow, Int.reducePow] at h1 h2 ⊢; omega
  | 7, _ => simp only [Nat.reduceMul, Nat.reduceAdd, Nat.reducePow, Int.reducePow] at h1 h2 ⊢; omega

theorem tops_bit (j : Nat) (hj : j < 8) : (9259542123273814144 : Nat).testBit (8 * j + 7) = true := by
  match j, hj with
  | 0, _ => decide
  | 1, _ => decide
  | 2, _ => decide
  | 3, _ => decide
  | 4, _ => decide
  | 5, _ => decide
  | 6, _ => decide
  | 7, _ => decide

/-- A byte below k shows in 'nz'. -/
theorem nz_bit (k : Nat) (hk : 0 < k ∧ k ≤ 128) (L : List Nat) (hl : L.length = 8) (hb : ∀ c ∈ L, c < 256) (h : ∃ c ∈ L, c < k) :
    ∃ j, j < 8 ∧ (nz (val L) (k * 72340172838076673)).testBit (8 * j + 7) = true := by
  obtain ⟨j, hj, h1, h2⟩ := low_bit k (by omega) L hb (by obtain ⟨c, hc, hck⟩ := h; exact ⟨c, hc, by omega⟩)
  rw [hl] at hj
  rw [ones8 L hl] at h1
  have hv := val_lt L hb
  rw [hl] at hv
  refine ⟨j, hj, bit_of _ _ j hj (by simpa using hv) (by omega) ?_ h2⟩
  have e : ((k * 72340172838076673 : Nat) : Int) = (k : Int) * 72340172838076673 := by omega
  rw [e]; exact h1

theorem or3_bit {a b c : Nat} (j : Nat) (hj : j < 8) (h : a.testBit (8 * j + 7) = true ∨ b.testBit (8 * j + 7) = true ∨ c.testBit (8 * j + 7) = true) :
    ((a ||| b) ||| c) &&& 9259542123273814144 ≠ 0 := by
  intro e
  have hb : (((a ||| b) ||| c) &&& 9259542123273814144).testBit (8 * j + 7) = true := by
    rw [Nat.testBit_and, Nat.testBit_or, Nat.testBit_or, tops_bit j hj]
    rcases h with h | h | h <;> simp [h]
  rw [e, Nat.zero_testBit] at hb
  cases hb

theorem xor_lt (k : Nat) (hk : k < 256) (L : List Nat) (hb : ∀ c ∈ L, c < 256) : ∀ c ∈ L.map (· ^^^ k), c < 256 := by
  intro c hc
  obtain ⟨x, hx, rfl⟩ := List.mem_map.mp hc
  exact Nat.xor_lt_two_pow (n := 8) (hb x hx) hk

/-- 'special' misses none: where it says no, no byte is a control character, a quote or a backslash. -/
theorem plain_of (L : List Nat) (hl : L.length = 8) (hb : ∀ c ∈ L, c < 256) (h : specB (val L) = false) : ∀ c ∈ L, 32 ≤ c ∧ c ≠ 34 ∧ c ≠ 92 := by
  have h0 : specN (val L) = 0 := by simpa [specB] using h
  intro c hc
  refine ⟨?_, ?_, ?_⟩
  · by_cases hlt : 32 ≤ c
    · exact hlt
    · obtain ⟨j, hj, hbit⟩ := nz_bit 32 (by omega) L hl hb ⟨c, hc, by omega⟩
      exact absurd h0 (or3_bit j hj (Or.inl hbit))
  · intro e
    subst e
    have hx := val_xor 34 (by omega) L hb
    rw [ones8 L hl] at hx
    obtain ⟨j, hj, hbit⟩ := nz_bit 1 (by omega) (L.map (· ^^^ 34)) (by simpa using hl) (xor_lt 34 (by omega) L hb) ⟨0, List.mem_map.mpr ⟨34, hc, Nat.xor_self _⟩, by omega⟩
    rw [← hx] at hbit
    exact absurd h0 (or3_bit j hj (Or.inr (Or.inl hbit)))
  · intro e
    subst e
    have hx := val_xor 92 (by omega) L hb
    rw [ones8 L hl] at hx
    obtain ⟨j, hj, hbit⟩ := nz_bit 1 (by omega) (L.map (· ^^^ 92)) (by simpa using hl) (xor_lt 92 (by omega) L hb) ⟨0, List.mem_map.mpr ⟨92, hc, Nat.xor_self _⟩, by omega⟩
    rw [← hx] at hbit
    exact absurd h0 (or3_bit j hj (Or.inr (Or.inr hbit)))

end Go.Proofs.Qxb6600505a.Word
