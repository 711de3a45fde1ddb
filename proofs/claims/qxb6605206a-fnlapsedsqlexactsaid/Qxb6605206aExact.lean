/-
  THE WALK OF FnLapsedSQLExact.
-/
import Derived.Test.Qxb6605206aPre
namespace Go.Proofs.Qxb6605206a
open Go.ChangeShapes Go.WideShapes Go.ChangeAt Go.RowKit
open Texts

theorem agree_of (s p : ByteArray) (o k : Nat) (h : (s.data.toList.drop o).take k = p.data.toList.take k) : AgreeTo s p o k := by
  intro j h1 h2 h3
  have e1 : j < ((s.data.toList.drop o).take k).length := by
    rw [List.length_take, List.length_drop, Array.length_toList]
    have : s.data.size = s.size := rfl
    omega
  have e2 : ((s.data.toList.drop o).take k)[j] = (p.data.toList.take k)[j]'(by rw [← h]; exact e1) := by congr 1
  rw [List.getElem_take, List.getElem_take, List.getElem_drop] at e2
  exact e2

/-- lapsedSQL at the empty condition; at one zero byte; releaseSQL at 'true'. -/
def L0 : ByteArray := lap ⟨#[]⟩
def P0 : ByteArray := lap ⟨#[0]⟩
def R0 : ByteArray := rel ⟨#[116, 114, 117, 101]⟩

theorem L0_size : L0.size = 719 := by rw [L0, lap_size]; rfl
theorem P0_size : P0.size = 720 := by rw [P0, lap_size]; rfl
theorem R0_size : R0.size = 539 := by rw [R0, rel_size]; rfl

theorem extract_list (s : ByteArray) (i e : Nat) : (s.extract i e).data.toList = (s.data.toList.drop i).take (e - i) := by
  rw [ByteArray.data_extract, Array.toList_extract]

theorem list_len (s : ByteArray) : s.data.toList.length = s.size := Array.length_toList

theorem L0_list : L0.data.toList = LA.data.toList ++ (LB.data.toList ++ R0.data.toList) := by
  show (LA ++ ⟨#[]⟩ ++ LB ++ R0).data.toList = _
  simp only [ByteArray.data_append, Array.toList_append, List.append_assoc, List.nil_append]

theorem P0_list : P0.data.toList = LA.data.toList ++ (0 :: (LB.data.toList ++ R0.data.toList)) := by
  show (LA ++ ⟨#[0]⟩ ++ LB ++ R0).data.toList = _
  simp only [ByteArray.data_append, Array.toList_append, List.append_assoc, List.nil_append, List.cons_append]

theorem LA_len : LA.data.toList.length = 124 := by rw [list_len, LA_size]
theorem LB_len : LB.data.toList.length = 56 := by rw [list_len, LB_size]
theorem R0_len : R0.data.toList.length = 539 := by rw [list_len, R0_size]

theorem x_first : L0.extract 0 124 = LA := by
  apply data_inj
  rw [extract_list, L0_list, List.drop_zero, List.take_left' (by rw [LA_len])]

theorem x_last : L0.extract 124 719 = LB ++ R0 := by
  apply data_inj
  rw [extract_list, L0_list, List.drop_left' LA_len, List.take_of_length_le (by rw [List.length_append, LB_len, R0_len]; omega)]
  simp only [ByteArray.data_append, Array.toList_append]

theorem x_head : L0.extract 0 180 = LA ++ LB := by
  apply data_inj
  rw [extract_list, L0_list, List.drop_zero, ← List.append_assoc, List.take_left' (by rw [List.length_append, LA_len, LB_len])]
  simp only [ByteArray.data_append, Array.toList_append]

theorem c_lap (c : ByteArray) : lap c = L0.extract 0 124 ++ c ++ L0.extract 124 719 := by
  rw [x_first, x_last]
  show LA ++ c ++ LB ++ R0 = LA ++ c ++ (LB ++ R0)
  rw [ByteArray.append_assoc]

theorem c_diff : AgreeTo L0 P0 0 124 := agree_of _ _ _ _ (by
  rw [List.drop_zero, L0_list, P0_list, List.take_left' LA_len, List.take_left' LA_len])

theorem part_of (a b : ByteArray) (k : Nat) (x y : UInt8) (ha : a.data.toList[k]? = some x) (hb : b.data.toList[k]? = some y) (hxy : x ≠ y) :
    ∀ (h1 : k < a.size) (h2 : k < b.size), a[k] ≠ b[k] := by
  intro h1 h2 e
  have e1 : a.data.toList[k]? = some a[k] := List.getElem?_eq_getElem (by rw [list_len]; exact h1)
  have e2 : b.data.toList[k]? = some b[k] := List.getElem?_eq_getElem (by rw [list_len]; exact h2)
  rw [ha] at e1; rw [hb] at e2
  exact hxy (by rw [Option.some.inj e1, Option.some.inj e2, e])

theorem LB_head : LB.data.toList[0]? = some 32 := by decide +kernel

theorem c_p1 : L0.data.toList[124]? = some 32 := by
  rw [L0_list, List.getElem?_append_right (by rw [LA_len]; exact Nat.le_refl _), LA_len, List.getElem?_append_left (by rw [LB_len]; omega)]
  exact LB_head

theorem c_p2 : P0.data.toList[124]? = some 0 := by
  rw [P0_list, List.getElem?_append_right (by rw [LA_len]; exact Nat.le_refl _), LA_len]
  rfl

theorem lapsed_L0 (w : World) : Calls Try.prog 10 #[.string ⟨#[]⟩] w fun e w' => e = .returned (.string L0) ∧ w' = w :=
  zzlapsed_any ⟨#[]⟩ w (by decide)
theorem lapsed_P0 (w : World) : Calls Try.prog 10 #[.string ⟨#[0]⟩] w fun e w' => e = .returned (.string P0) ∧ w' = w :=
  zzlapsed_any ⟨#[0]⟩ w (by decide)
theorem release_R0 (w : World) : Calls Try.prog 8 #[.string ⟨#[116, 114, 117, 101]⟩] w fun e w' => e = .returned (.string R0) ∧ w' = w :=
  zzrelease_any ⟨#[116, 114, 117, 101]⟩ w (by decide)
theorem diff_LP (w : World) : Calls Try.prog 11 #[.string L0, .string P0] w fun e w' => e = .returned (.int .i64 124) ∧ ∃ n, w' = w.drewN n :=
  diff_at L0 P0 124 w (by rw [L0_size]; omega) (by rw [L0_size, P0_size]; omega) (by rw [L0_size]; omega) c_diff (part_of L0 P0 124 32 0 c_p1 c_p2 (by decide))

theorem c_whole : (P0.toList == (L0.extract 0 124 ++ ⟨#[0]⟩ ++ L0.extract 124 719).toList) = true := by
  rw [← c_lap]; exact beq_self_eq_true _

theorem c_suf : AgreeTo L0 R0 180 539 := agree_of _ _ _ _ (by
  rw [L0_list, ← List.append_assoc, List.drop_left' (by rw [List.length_append, LA_len, LB_len])])

theorem c_was : preB (L0.extract 0 180) ⟨#[119, 97, 115, 32, 97, 115, 32, 40]⟩ = true := by
  rw [x_head, preB, ByteArray.data_append, Array.toList_append]; decide +kernel

theorem c_close : AgreeTo (L0.extract 0 180) ⟨#[41, 44, 32]⟩ 177 3 := agree_of _ _ _ _ (by
  rw [x_head, ByteArray.data_append, Array.toList_append]; decide +kernel)

theorem c_upd : preB (((L0.extract 0 180).extract 124 180).extract 40 56) ⟨#[102, 111, 114, 32, 117, 112, 100, 97, 116, 101]⟩ = true := by
  rw [x_head, preB, extract_list, extract_list, ByteArray.data_append, Array.toList_append]; decide +kernel

theorem c_and1 : AgreeTo (L0.extract 0 124) ⟨#[32, 97, 110, 100, 32]⟩ 119 5 := agree_of _ _ _ _ (by
  rw [x_first]; decide +kernel)

theorem c_and2 : preB (L0.extract 124 719) ⟨#[32, 97, 110, 100, 32]⟩ = true := by
  rw [x_last, preB, ByteArray.data_append, Array.toList_append]; decide +kernel

theorem suf_LR (w : World) : Calls Try.prog 12 #[.string L0, .string R0] w fun e w' => e = .returned (.bool true) ∧ ∃ n, w' = w.drewN n :=
  suffix_yes L0 R0 180 w (by rw [L0_size]; omega) (by rw [L0_size, R0_size]; omega) (by rw [R0_size]; exact c_suf)

theorem head_size : (L0.extract 0 180).size = 180 := by rw [x_head, ByteArray.size_append, LA_size, LB_size]
theorem first_size : (L0.extract 0 124).size = 124 := by rw [x_first, LA_size]
theorem last_size : (L0.extract 124 719).size = 595 := by rw [x_last, ByteArray.size_append, LB_size, R0_size]
theorem mid_size : ((L0.extract 0 180).extract 124 180).size = 56 := by rw [ByteArray.size_extract, head_size]; omega

theorem pre_was (w : World) : Calls Try.prog 13 #[.string (L0.extract 0 180), .string ⟨#[119, 97, 115, 32, 97, 115, 32, 40]⟩] w fun e w' => e = .returned (.bool true) ∧ ∃ n, w' = w.drewN n := by
  have h := prefix_any (L0.extract 0 180) ⟨#[119, 97, 115, 32, 97, 115, 32, 40]⟩ w (by rw [head_size]; omega) (by rw [head_size]; decide)
  rw [c_was] at h; exact h

theorem suf_close (w : World) : Calls Try.prog 12 #[.string (L0.extract 0 180), .string ⟨#[41, 44, 32]⟩] w fun e w' => e = .returned (.bool true) ∧ ∃ n, w' = w.drewN n :=
  suffix_yes (L0.extract 0 180) ⟨#[41, 44, 32]⟩ 177 w (by rw [head_size]; omega) (by rw [head_size]; decide) c_close

theorem con_upd (w : World) : Calls Try.prog 14 #[.string ((L0.extract 0 180).extract 124 180), .string ⟨#[102, 111, 114, 32, 117, 112, 100, 97, 116, 101]⟩] w fun e w' => e = .returned (.bool true) ∧ ∃ n, w' = w.drewN n :=
  contains_yes ((L0.extract 0 180).extract 124 180) ⟨#[102, 111, 114, 32, 117, 112, 100, 97, 116, 101]⟩ 40 w (by rw [mid_size]; omega) (by rw [mid_size]; decide) (by rw [mid_size]; exact c_upd)

theorem suf_and (w : World) : Calls Try.prog 12 #[.string (L0.extract 0 124), .string ⟨#[32, 97, 110, 100, 32]⟩] w fun e w' => e = .returned (.bool true) ∧ ∃ n, w' = w.drewN n :=
  suffix_yes (L0.extract 0 124) ⟨#[32, 97, 110, 100, 32]⟩ 119 w (by rw [first_size]; omega) (by rw [first_size]; decide) c_and1

theorem pre_and (w : World) : Calls Try.prog 13 #[.string (L0.extract 124 719), .string ⟨#[32, 97, 110, 100, 32]⟩] w fun e w' => e = .returned (.bool true) ∧ ∃ n, w' = w.drewN n := by
  have h := prefix_any (L0.extract 124 719) ⟨#[32, 97, 110, 100, 32]⟩ w (by rw [last_size]; omega) (by rw [last_size]; decide)
  rw [c_and2] at h; exact h

end Go.Proofs.Qxb6605206a
