/-
  THE WALKS OF lawNumberStep, lawNumberAccepting, lawNumberModel AND OF FnNumberMatchesAutomaton.
-/
import Derived.Test.Qxb6600505aNumC
namespace Go.Proofs.Qxb6600505a
open Go.ChangeShapes Go.WideShapes Go.ChangeAt Go.RowKit
open Num

theorem retbn {a b : Bool} (h : a = b) : Ending.returned (.bool a) = .returned (.bool b) := by rw [h]

theorem byte_cases (c : Int) : c = 43 ∨ c = 45 ∨ c = 46 ∨ (c < 48 ∧ ¬ c = 43 ∧ ¬ c = 45 ∧ ¬ c = 46) ∨ c = 48 ∨ (49 ≤ c ∧ c ≤ 57) ∨ c = 69 ∨ c = 101 ∨ (57 < c ∧ ¬ c = 69 ∧ ¬ c = 101) := by omega

theorem byte_cases' (c : Int) : c = 43 ∨ c = 45 ∨ c = 46 ∨ c = 48 ∨ c = 69 ∨ c = 101 ∨
    (((c < 48 ∧ ¬ c = 43 ∧ ¬ c = 45 ∧ ¬ c = 46) ∨ (49 ≤ c ∧ c ≤ 57) ∨ (57 < c ∧ ¬ c = 69 ∧ ¬ c = 101)) ∧ (c == 43) = false ∧ (c == 45) = false ∧ (c == 101) = false ∧ (c == 69) = false) := by
  have e : ∀ k : Int, (c == k) = false ↔ ¬ c = k := fun k => by simp
  rw [e, e, e, e]
  rcases byte_cases c with h | h | h | h | h | h | h | h | h <;> omega

theorem row0 (c : Int) : stepI 0 c = (if c = 45 then 1 else if c = 48 then 2 else if 48 ≤ c ∧ c ≤ 57 then 3 else -1) := rfl
theorem row1 (c : Int) : stepI 1 c = (if c = 48 then 2 else if 48 ≤ c ∧ c ≤ 57 then 3 else -1) := rfl
theorem row2 (c : Int) : stepI 2 c = (if c = 46 then 4 else if c = 101 ∨ c = 69 then 6 else -1) := rfl
theorem row3 (c : Int) : stepI 3 c = (if 48 ≤ c ∧ c ≤ 57 then 3 else if c = 46 then 4 else if c = 101 ∨ c = 69 then 6 else -1) := rfl
theorem row4 (c : Int) : stepI 4 c = (if 48 ≤ c ∧ c ≤ 57 then 5 else -1) := rfl
theorem row5 (c : Int) : stepI 5 c = (if 48 ≤ c ∧ c ≤ 57 then 5 else if c = 101 ∨ c = 69 then 6 else -1) := rfl
theorem row6 (c : Int) : stepI 6 c = (if c = 43 ∨ c = 45 then 7 else if 48 ≤ c ∧ c ≤ 57 then 8 else -1) := rfl
theorem row7 (c : Int) : stepI 7 c = (if 48 ≤ c ∧ c ≤ 57 then 8 else -1) := rfl
theorem row8 (c : Int) : stepI 8 c = (if 48 ≤ c ∧ c ≤ 57 then 8 else -1) := rfl

set_option maxHeartbeats 1000000 in
theorem step0 (c : Int) (w : World) : Calls Try.prog 32 #[.int .i64 0, .int .u8 c] w fun e w' => e = .returned (.int .i64 (stepI 0 c)) ∧ w' = w := by
  rcases byte_cases' c with rfl | rfl | rfl | rfl | rfl | rfl | ⟨h, e43, e45, e101, e69⟩
  case inr.inr.inr.inr.inr.inr =>
    rcases h with h | h | h
    all_goals
      go_enter Try.func32, Try.ntmps32
      go_wp2
      go_ret
      refine ⟨ret_i64 ?_, rfl⟩
      rw [row0]
      repeat' split
      all_goals omega
  all_goals
    go_enter Try.func32, Try.ntmps32
    go_wp2
    go_ret
    exact ⟨ret_i64 rfl, rfl⟩

set_option maxHeartbeats 1000000 in
theorem step1 (c : Int) (w : World) : Calls Try.prog 32 #[.int .i64 1, .int .u8 c] w fun e w' => e = .returned (.int .i64 (stepI 1 c)) ∧ w' = w := by
  rcases byte_cases' c with rfl | rfl | rfl | rfl | rfl | rfl | ⟨h, e43, e45, e101, e69⟩
  case inr.inr.inr.inr.inr.inr =>
    rcases h with h | h | h
    all_goals
      go_enter Try.func32, Try.ntmps32
      go_wp2
      go_ret
      refine ⟨ret_i64 ?_, rfl⟩
      rw [row1]
      repeat' split
      all_goals omega
  all_goals
    go_enter Try.func32, Try.ntmps32
    go_wp2
    go_ret
    exact ⟨ret_i64 rfl, rfl⟩

set_option maxHeartbeats 1000000 in
theorem step2 (c : Int) (w : World) : Calls Try.prog 32 #[.int .i64 2, .int .u8 c] w fun e w' => e = .returned (.int .i64 (stepI 2 c)) ∧ w' = w := by
  rcases byte_cases' c with rfl | rfl | rfl | rfl | rfl | rfl | ⟨h, e43, e45, e101, e69⟩
  case inr.inr.inr.inr.inr.inr =>
    rcases h with h | h | h
    all_goals
      go_enter Try.func32, Try.ntmps32
      go_wp2
      go_ret
      refine ⟨ret_i64 ?_, rfl⟩
      rw [row2]
      repeat' split
      all_goals omega
  all_goals
    go_enter Try.func32, Try.ntmps32
    go_wp2
    go_ret
    exact ⟨ret_i64 rfl, rfl⟩

set_option maxHeartbeats 1000000 in
theorem step3 (c : Int) (w : World) : Calls Try.prog 32 #[.int .i64 3, .int .u8 c] w fun e w' => e = .returned (.int .i64 (stepI 3 c)) ∧ w' = w := by
  rcases byte_cases' c with rfl | rfl | rfl | rfl | rfl | rfl | ⟨h, e43, e45, e101, e69⟩
  case inr.inr.inr.inr.inr.inr =>
    rcases h with h | h | h
    all_goals
      go_enter Try.func32, Try.ntmps32
      go_wp2
      go_ret
      refine ⟨ret_i64 ?_, rfl⟩
      rw [row3]
      repeat' split
      all_goals omega
  all_goals
    go_enter Try.func32, Try.ntmps32
    go_wp2
    go_ret
    exact ⟨ret_i64 rfl, rfl⟩

set_option maxHeartbeats 1000000 in
theorem step4 (c : Int) (w : World) : Calls Try.prog 32 #[.int .i64 4, .int .u8 c] w fun e w' => e = .returned (.int .i64 (stepI 4 c)) ∧ w' = w := by
  rcases byte_cases' c with rfl | rfl | rfl | rfl | rfl | rfl | ⟨h, e43, e45, e101, e69⟩
  case inr.inr.inr.inr.inr.inr =>
    rcases h with h | h | h
    all_goals
      go_enter Try.func32, Try.ntmps32
      go_wp2
      go_ret
      refine ⟨ret_i64 ?_, rfl⟩
      rw [row4]
      repeat' split
      all_goals omega
  all_goals
    go_enter Try.func32, Try.ntmps32
    go_wp2
    go_ret
    exact ⟨ret_i64 rfl, rfl⟩

set_option maxHeartbeats 1000000 in
theorem step5 (c : Int) (w : World) : Calls Try.prog 32 #[.int .i64 5, .int .u8 c] w fun e w' => e = .returned (.int .i64 (stepI 5 c)) ∧ w' = w := by
  rcases byte_cases' c with rfl | rfl | rfl | rfl | rfl | rfl | ⟨h, e43, e45, e101, e69⟩
  case inr.inr.inr.inr.inr.inr =>
    rcases h with h | h | h
    all_goals
      go_enter Try.func32, Try.ntmps32
      go_wp2
      go_ret
      refine ⟨ret_i64 ?_, rfl⟩
      rw [row5]
      repeat' split
      all_goals omega
  all_goals
    go_enter Try.func32, Try.ntmps32
    go_wp2
    go_ret
    exact ⟨ret_i64 rfl, rfl⟩

set_option maxHeartbeats 1000000 in
theorem step6 (c : Int) (w : World) : Calls Try.prog 32 #[.int .i64 6, .int .u8 c] w fun e w' => e = .returned (.int .i64 (stepI 6 c)) ∧ w' = w := by
  rcases byte_cases' c with rfl | rfl | rfl | rfl | rfl | rfl | ⟨h, e43, e45, e101, e69⟩
  case inr.inr.inr.inr.inr.inr =>
    rcases h with h | h | h
    all_goals
      go_enter Try.func32, Try.ntmps32
      go_wp2
      go_ret
      refine ⟨ret_i64 ?_, rfl⟩
      rw [row6]
      repeat' split
      all_goals omega
  all_goals
    go_enter Try.func32, Try.ntmps32
    go_wp2
    go_ret
    exact ⟨ret_i64 rfl, rfl⟩

set_option maxHeartbeats 1000000 in
theorem step7 (c : Int) (w : World) : Calls Try.prog 32 #[.int .i64 7, .int .u8 c] w fun e w' => e = .returned (.int .i64 (stepI 7 c)) ∧ w' = w := by
  rcases byte_cases' c with rfl | rfl | rfl | rfl | rfl | rfl | ⟨h, e43, e45, e101, e69⟩
  case inr.inr.inr.inr.inr.inr =>
    rcases h with h | h | h
    all_goals
      go_enter Try.func32, Try.ntmps32
      go_wp2
      go_ret
      refine ⟨ret_i64 ?_, rfl⟩
      rw [row7]
      repeat' split
      all_goals omega
  all_goals
    go_enter Try.func32, Try.ntmps32
    go_wp2
    go_ret
    exact ⟨ret_i64 rfl, rfl⟩

set_option maxHeartbeats 1000000 in
theorem step8 (c : Int) (w : World) : Calls Try.prog 32 #[.int .i64 8, .int .u8 c] w fun e w' => e = .returned (.int .i64 (stepI 8 c)) ∧ w' = w := by
  rcases byte_cases' c with rfl | rfl | rfl | rfl | rfl | rfl | ⟨h, e43, e45, e101, e69⟩
  case inr.inr.inr.inr.inr.inr =>
    rcases h with h | h | h
    all_goals
      go_enter Try.func32, Try.ntmps32
      go_wp2
      go_ret
      refine ⟨ret_i64 ?_, rfl⟩
      rw [row8]
      repeat' split
      all_goals omega
  all_goals
    go_enter Try.func32, Try.ntmps32
    go_wp2
    go_ret
    exact ⟨ret_i64 rfl, rfl⟩

theorem step_any (st c : Int) (w : World) (h0 : 0 ≤ st) (h8 : st ≤ 8) :
    Calls Try.prog 32 #[.int .i64 st, .int .u8 c] w fun e w' => e = .returned (.int .i64 (stepI st c)) ∧ w' = w := by
  have h : st = 0 ∨ st = 1 ∨ st = 2 ∨ st = 3 ∨ st = 4 ∨ st = 5 ∨ st = 6 ∨ st = 7 ∨ st = 8 := by omega
  rcases h with rfl | rfl | rfl | rfl | rfl | rfl | rfl | rfl | rfl
  · exact step0 c w
  · exact step1 c w
  · exact step2 c w
  · exact step3 c w
  · exact step4 c w
  · exact step5 c w
  · exact step6 c w
  · exact step7 c w
  · exact step8 c w

set_option maxHeartbeats 400000 in
theorem acc_any (st : Int) (w : World) :
    Calls Try.prog 33 #[.int .i64 st] w fun e w' => e = .returned (.bool (accB st)) ∧ w' = w := by
  by_cases h2 : st = 2
  · subst h2
    go_enter Try.func33, Try.ntmps33
    go_wp2
    go_ret
    exact ⟨rfl, rfl⟩
  · by_cases h3 : st = 3
    · subst h3
      go_enter Try.func33, Try.ntmps33
      go_wp2
      go_ret
      exact ⟨rfl, rfl⟩
    · by_cases h5 : st = 5
      · subst h5
        go_enter Try.func33, Try.ntmps33
        go_wp2
        go_ret
        exact ⟨rfl, rfl⟩
      · have e2 : (st == 2) = false := by simpa using h2
        have e3 : (st == 3) = false := by simpa using h3
        have e5 : (st == 5) = false := by simpa using h5
        have ea : accB st = (st == 8) := by simp [accB, e2, e3, e5]
        go_enter Try.func33, Try.ntmps33
        go_wp2
        go_ret
        exact ⟨retbn (by first | rfl | simp [ea]), rfl⟩

end Go.Proofs.Qxb6600505a
