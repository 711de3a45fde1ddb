/-
  THE WALKS OF releaseSQL, lapsedSQL, THEIR PASS-ONS AND THE LENGTH BOUNDS.
-/
import Derived.Test.Qxb6605206aChecked
import Derived.Test.Qxb6605206aTexts
import Derived.WalkKit
import Derived.ProofKit
import Derived.WalkSpells
namespace Go.Proofs.Qxb6605206a
open Go.ChangeShapes Go.WideShapes Go.ChangeAt Go.RowKit
open Texts

set_option maxRecDepth 100000 in
set_option maxHeartbeats 400000 in
theorem release_any (a : ByteArray) (w : World) (h : (a.size : Int) ≤ 2000000) :
    Calls Try.prog 19 #[.string a] w fun e w' => e = .returned (.string (rel a)) ∧ w' = w := by
  go_enter Try.func19, Try.ntmps19
  go_wp2
  go_ret
  exact ⟨rfl, rfl⟩

set_option maxHeartbeats 400000 in
theorem zzrelease_any (a : ByteArray) (w : World) (h : (a.size : Int) ≤ 2000000) :
    Calls Try.prog 8 #[.string a] w fun e w' => e = .returned (.string (rel a)) ∧ w' = w := by
  go_enter Try.func8, Try.ntmps8
  go_wp2_with (go_at_call 19; refine (release_any _ _ h).mono ?_; rintro e w' ⟨rfl, rfl⟩)
  go_ret
  exact ⟨rfl, rfl⟩

set_option maxRecDepth 100000 in
set_option maxHeartbeats 400000 in
theorem lapsed_any (a : ByteArray) (w : World) (h : (a.size : Int) ≤ 2000000) :
    Calls Try.prog 20 #[.string a] w fun e w' => e = .returned (.string (lap a)) ∧ w' = w := by
  have hr := rel_size ⟨#[116, 114, 117, 101]⟩
  go_enter Try.func20, Try.ntmps20
  go_wp2_with (go_at_call 19; refine (release_any _ _ (by decide)).mono ?_; rintro e w' ⟨rfl, rfl⟩)
  go_ret
  exact ⟨rfl, rfl⟩

set_option maxHeartbeats 400000 in
theorem zzlapsed_any (a : ByteArray) (w : World) (h : (a.size : Int) ≤ 2000000) :
    Calls Try.prog 10 #[.string a] w fun e w' => e = .returned (.string (lap a)) ∧ w' = w := by
  go_enter Try.func10, Try.ntmps10
  go_wp2_with (go_at_call 20; refine (lapsed_any _ _ h).mono ?_; rintro e w' ⟨rfl, rfl⟩)
  go_ret
  exact ⟨rfl, rfl⟩

set_option maxHeartbeats 400000 in
theorem bytes7_yes (a b : ByteArray) (w : World) (h : (a.size : Int) + b.size ≤ 1048576) :
    Calls Try.prog 7 #[.string a, .string b] w fun e w' => e = .returned (.bool true) ∧ w' = w := by
  go_enter Try.func7, Try.ntmps7
  go_wp2
  go_ret
  exact ⟨rfl, rfl⟩

set_option maxHeartbeats 400000 in
theorem bytes7_no (a b : ByteArray) (w : World) (ha : a.size ≤ maxLen) (hb : b.size ≤ maxLen) (h : 1048576 < (a.size : Int) + b.size) :
    Calls Try.prog 7 #[.string a, .string b] w fun e w' => e = .returned (.bool false) ∧ w' = w := by
  unfold maxLen at ha hb
  go_enter Try.func7, Try.ntmps7
  go_wp2
  all_goals (go_ret; exact ⟨rfl, rfl⟩)

set_option maxHeartbeats 400000 in
theorem bytes15_yes (a b : ByteArray) (w : World) (h : (a.size : Int) + b.size ≤ 1048576) :
    Calls Try.prog 15 #[.string a, .string b] w fun e w' => e = .returned (.bool true) ∧ w' = w := by
  go_enter Try.func15, Try.ntmps15
  go_wp2
  go_ret
  exact ⟨rfl, rfl⟩

set_option maxHeartbeats 400000 in
theorem bytes15_no (a b : ByteArray) (w : World) (ha : a.size ≤ maxLen) (hb : b.size ≤ maxLen) (h : 1048576 < (a.size : Int) + b.size) :
    Calls Try.prog 15 #[.string a, .string b] w fun e w' => e = .returned (.bool false) ∧ w' = w := by
  unfold maxLen at ha hb
  go_enter Try.func15, Try.ntmps15
  go_wp2
  all_goals (go_ret; exact ⟨rfl, rfl⟩)

set_option maxHeartbeats 400000 in
theorem bytes9_yes (a : ByteArray) (w : World) (h : (a.size : Int) ≤ 1048576) :
    Calls Try.prog 9 #[.string a] w fun e w' => e = .returned (.bool true) ∧ w' = w := by
  go_enter Try.func9, Try.ntmps9
  go_wp2
  go_ret
  exact ⟨rfl, rfl⟩

set_option maxHeartbeats 400000 in
theorem bytes9_no (a : ByteArray) (w : World) (h : 1048576 < (a.size : Int)) :
    Calls Try.prog 9 #[.string a] w fun e w' => e = .returned (.bool false) ∧ w' = w := by
  go_enter Try.func9, Try.ntmps9
  go_wp2
  go_ret
  exact ⟨rfl, rfl⟩

end Go.Proofs.Qxb6605206a
