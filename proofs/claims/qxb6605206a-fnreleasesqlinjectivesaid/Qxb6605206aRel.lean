/-
  THE WALKS OF THE TWO INJECTIVITY LAWS.
-/
import Derived.Test.Qxb6605206aWalks
import Derived.Lib.Strings
namespace Go.Proofs.Qxb6605206a
open Go.ChangeShapes Go.WideShapes Go.ChangeAt Go.RowKit
open Texts

theorem rel_both (a b : ByteArray) : (((rel a).toList == (rel b).toList) == (a.toList == b.toList)) = true := by
  rw [Lib.toList_data, Lib.toList_data, Lib.toList_data, Lib.toList_data, beq_iff_eq, Bool.eq_iff_iff, beq_iff_eq, beq_iff_eq]
  exact ⟨fun h => by rw [rel_inj (data_inj h)], fun h => by rw [data_inj h]⟩

theorem lap_both (a b : ByteArray) : (((lap a).toList == (lap b).toList) == (a.toList == b.toList)) = true := by
  rw [Lib.toList_data, Lib.toList_data, Lib.toList_data, Lib.toList_data, beq_iff_eq, Bool.eq_iff_iff, beq_iff_eq, beq_iff_eq]
  exact ⟨fun h => by rw [lap_inj (data_inj h)], fun h => by rw [data_inj h]⟩

set_option maxRecDepth 100000 in
theorem walk3 (a0 a1 : ByteArray) (w0 : a0.size ≤ maxLen) (w1 : a1.size ≤ maxLen) (w : World) :
    Calls Try.prog 3 #[.string a0, .string a1] w fun e w' => e = .returned (.bool true) ∧ w' = w := by
  have ra := rel_size a0
  have rb := rel_size a1
  by_cases h : (a0.size : Int) + a1.size ≤ 1048576
  · by_cases h2 : (a0.size : Int) ≤ 524288
    · by_cases h3 : (a1.size : Int) ≤ 524288
      · go_enter Try.func3, Try.ntmps3
        go_wp2_with (first | (go_at_call 7; refine (bytes7_yes _ _ _ h).mono ?_; rintro e w' ⟨rfl, rfl⟩) | (go_at_call 8; refine (zzrelease_any _ _ (by omega)).mono ?_; rintro e w' ⟨rfl, rfl⟩))
        go_ret
        refine ⟨?_, rfl⟩
        show Ending.returned (.bool (((rel a0).toList == (rel a1).toList) == (a0.toList == a1.toList))) = _
        rw [rel_both]
      · go_enter Try.func3, Try.ntmps3
        go_wp2_with (go_at_call 7; refine (bytes7_yes _ _ _ h).mono ?_; rintro e w' ⟨rfl, rfl⟩)
        go_ret
        exact ⟨rfl, rfl⟩
    · go_enter Try.func3, Try.ntmps3
      go_wp2_with (go_at_call 7; refine (bytes7_yes _ _ _ h).mono ?_; rintro e w' ⟨rfl, rfl⟩)
      go_ret
      exact ⟨rfl, rfl⟩
  · go_enter Try.func3, Try.ntmps3
    go_wp2_with (go_at_call 7; refine (bytes7_no _ _ _ w0 w1 (by omega)).mono ?_; rintro e w' ⟨rfl, rfl⟩)
    go_ret
    exact ⟨rfl, rfl⟩

set_option maxRecDepth 100000 in
theorem walk5 (a0 a1 : ByteArray) (w0 : a0.size ≤ maxLen) (w1 : a1.size ≤ maxLen) (w : World) :
    Calls Try.prog 5 #[.string a0, .string a1] w fun e w' => e = .returned (.bool true) ∧ w' = w := by
  have ra := lap_size a0
  have rb := lap_size a1
  have rt := rel_size ⟨#[116, 114, 117, 101]⟩
  by_cases h : (a0.size : Int) + a1.size ≤ 1048576
  · by_cases h2 : (a0.size : Int) ≤ 524288
    · by_cases h3 : (a1.size : Int) ≤ 524288
      · go_enter Try.func5, Try.ntmps5
        go_wp2_with (first | (go_at_call 15; refine (bytes15_yes _ _ _ h).mono ?_; rintro e w' ⟨rfl, rfl⟩) | (go_at_call 10; refine (zzlapsed_any _ _ (by omega)).mono ?_; rintro e w' ⟨rfl, rfl⟩) | (go_at_call 8; refine (zzrelease_any _ _ (by decide)).mono ?_; rintro e w' ⟨rfl, rfl⟩))
        go_ret
        refine ⟨?_, rfl⟩
        show Ending.returned (.bool (((lap a0).toList == (lap a1).toList) == (a0.toList == a1.toList))) = _
        rw [lap_both]
      · go_enter Try.func5, Try.ntmps5
        go_wp2_with (go_at_call 15; refine (bytes15_yes _ _ _ h).mono ?_; rintro e w' ⟨rfl, rfl⟩)
        go_ret
        exact ⟨rfl, rfl⟩
    · go_enter Try.func5, Try.ntmps5
      go_wp2_with (go_at_call 15; refine (bytes15_yes _ _ _ h).mono ?_; rintro e w' ⟨rfl, rfl⟩)
      go_ret
      exact ⟨rfl, rfl⟩
  · go_enter Try.func5, Try.ntmps5
    go_wp2_with (go_at_call 15; refine (bytes15_no _ _ _ w0 w1 (by omega)).mono ?_; rintro e w' ⟨rfl, rfl⟩)
    go_ret
    exact ⟨rfl, rfl⟩

end Go.Proofs.Qxb6605206a
