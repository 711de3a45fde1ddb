/-
  THE WALK OF FnLapsedSQLExact.
-/
import Derived.Test.Qxb6605206aExact
namespace Go.Proofs.Qxb6605206a
open Go.ChangeShapes Go.WideShapes Go.ChangeAt Go.RowKit
open Texts

/-- WHAT THE CALLS ON THE FIXED TEXTS ANSWER: L, P, R are variables here, so that nothing lays the texts open. -/
structure Facts (L P R X c : ByteArray) : Prop where
  l0 : ∀ w, Calls Try.prog 10 #[.string ⟨#[]⟩] w fun e w' => e = .returned (.string L) ∧ w' = w
  p0 : ∀ w, Calls Try.prog 10 #[.string ⟨#[0]⟩] w fun e w' => e = .returned (.string P) ∧ w' = w
  r0 : ∀ w, Calls Try.prog 8 #[.string ⟨#[116, 114, 117, 101]⟩] w fun e w' => e = .returned (.string R) ∧ w' = w
  x : ∀ w, Calls Try.prog 10 #[.string c] w fun e w' => e = .returned (.string X) ∧ w' = w
  diff : ∀ w, Calls Try.prog 11 #[.string L, .string P] w fun e w' => e = .returned (.int .i64 124) ∧ ∃ n, w' = w.drewN n
  sufR : ∀ w, Calls Try.prog 12 #[.string L, .string R] w fun e w' => e = .returned (.bool true) ∧ ∃ n, w' = w.drewN n
  was : ∀ w, Calls Try.prog 13 #[.string (L.extract 0 180), .string ⟨#[119, 97, 115, 32, 97, 115, 32, 40]⟩] w fun e w' => e = .returned (.bool true) ∧ ∃ n, w' = w.drewN n
  close : ∀ w, Calls Try.prog 12 #[.string (L.extract 0 180), .string ⟨#[41, 44, 32]⟩] w fun e w' => e = .returned (.bool true) ∧ ∃ n, w' = w.drewN n
  upd : ∀ w, Calls Try.prog 14 #[.string ((L.extract 0 180).extract 124 180), .string ⟨#[102, 111, 114, 32, 117, 112, 100, 97, 116, 101]⟩] w fun e w' => e = .returned (.bool true) ∧ ∃ n, w' = w.drewN n
  and1 : ∀ w, Calls Try.prog 12 #[.string (L.extract 0 124), .string ⟨#[32, 97, 110, 100, 32]⟩] w fun e w' => e = .returned (.bool true) ∧ ∃ n, w' = w.drewN n
  and2 : ∀ w, Calls Try.prog 13 #[.string (L.extract 124 719), .string ⟨#[32, 97, 110, 100, 32]⟩] w fun e w' => e = .returned (.bool true) ∧ ∃ n, w' = w.drewN n

set_option maxRecDepth 100000 in
set_option maxHeartbeats 800000 in
theorem walk4_main (L P R X c : ByteArray) (F : Facts L P R X c) (w : World) (h : (c.size : Int) ≤ 1048576) (hl : L.size = 719) (hr : R.size = 539)
    (h1 : (L.extract 0 180).size = 180) (h2 : (L.extract 0 124).size = 124) (h3 : (L.extract 124 719).size = 595)
    (hw : (P.toList == (L.extract 0 124 ++ ⟨#[0]⟩ ++ L.extract 124 719).toList) = true)
    (hx : (X.toList == (L.extract 0 124 ++ c ++ L.extract 124 719).toList) = true) :
    Calls Try.prog 4 #[.string c] w fun e w' => e = .returned (.bool true) ∧ ∃ n, w' = w.drewN n := by
  go_enter Try.func4, Try.ntmps4
  go_wp2_with fail
  refine (bytes9_yes _ _ h).mono ?_
  rintro e w' ⟨rfl, rfl⟩
  go_wp2_with fail
  refine (F.l0 _).mono ?_
  rintro e w' ⟨rfl, rfl⟩
  go_wp2_with fail
  refine (F.p0 _).mono ?_
  rintro e w' ⟨rfl, rfl⟩
  go_wp2_with fail
  refine (F.diff _).mono ?_
  rintro e w' ⟨rfl, n1, rfl⟩
  go_wp2_with fail
  go_quiet (fail)
  go_wp2_with fail
  refine (F.r0 _).mono ?_
  rintro e w' ⟨rfl, rfl⟩
  go_wp2_with fail
  refine (F.sufR _).mono ?_
  rintro e w' ⟨rfl, n2, rfl⟩
  go_wp2_with fail
  refine (F.was _).mono ?_
  rintro e w' ⟨rfl, n3, rfl⟩
  go_wp2_with fail
  refine (F.close _).mono ?_
  rintro e w' ⟨rfl, n4, rfl⟩
  go_wp2_with fail
  refine (F.upd _).mono ?_
  rintro e w' ⟨rfl, n5, rfl⟩
  go_wp2_with fail
  refine (F.and1 _).mono ?_
  rintro e w' ⟨rfl, n6, rfl⟩
  go_wp2_with fail
  refine (F.and2 _).mono ?_
  rintro e w' ⟨rfl, n7, rfl⟩
  go_wp2_with fail
  generalize hW : w'.drewN _ = W
  go_quiet ((go_at_call 10; exact Calls.quiet_of_same (F.x _)))
  go_wp2_with fail
  go_ret
  refine ⟨rfl, ?_⟩
  rw [← hW, World.drewN_drewN]
  exact ⟨_, rfl⟩

theorem walk4 (c : ByteArray) (w : World) :
    Calls Try.prog 4 #[.string c] w fun e w' => e = .returned (.bool true) ∧ ∃ n, w' = w.drewN n := by
  by_cases h : (c.size : Int) ≤ 1048576
  · refine walk4_main L0 P0 R0 (lap c) c ⟨lapsed_L0, lapsed_P0, release_R0, fun w => zzlapsed_any c w (by omega), diff_LP, suf_LR, pre_was, suf_close, con_upd, suf_and, pre_and⟩ w h
      L0_size R0_size head_size first_size last_size c_whole ?_
    rw [← c_lap]; exact beq_self_eq_true _
  · go_enter Try.func4, Try.ntmps4
    go_wp2_with (go_at_call 9; refine (bytes9_no _ _ (by omega)).mono ?_; rintro e w' ⟨rfl, rfl⟩)
    go_ret
    exact ⟨rfl, 0, rfl⟩
end Go.Proofs.Qxb6605206a
