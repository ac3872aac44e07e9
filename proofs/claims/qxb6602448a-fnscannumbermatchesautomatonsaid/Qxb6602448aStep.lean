/-
  THE WALKS OF zzb1IsDigit, zzb1Step AND zzb1Accepting (seat b6602448a).
-/
import Derived.Test.Qxb6602448aSkip
namespace Go.Proofs.Qxb6602448a
open Go.ChangeShapes Go.WideShapes Go.ChangeAt Go.RowKit

theorem dig_yes (x : Int) (w : World) (h : Plain.dig x = true) : Calls Try.prog 17 #[.int .u8 x] w fun e w' => e = .returned (.bool true) ∧ w' = w := by
  have hb := Plain.of_dig h
  obtain ⟨h1, h2⟩ := hb
  clear h
  go_enter Try.func17, Try.ntmps17
  go_wp2
  go_ret
  exact ⟨ret_bool (by first | rfl | (simp; done) | (simp; omega)), rfl⟩
theorem dig_no (x : Int) (w : World) (h : Plain.dig x = false) : Calls Try.prog 17 #[.int .u8 x] w fun e w' => e = .returned (.bool false) ∧ w' = w := by
  have hb := Plain.of_not_dig h
  clear h
  go_enter Try.func17, Try.ntmps17
  go_wp2
  all_goals (go_ret; exact ⟨ret_bool (by first | (simp; done) | (simp; omega)), rfl⟩)

/-- What a byte may be. -/
theorem kinds (x : Int) : x = 45 ∨ x = 48 ∨ x = 46 ∨ x = 101 ∨ x = 69 ∨ x = 43 ∨ ((x == 45) = false ∧ (x == 48) = false ∧ (x == 46) = false ∧ (x == 101) = false ∧ (x == 69) = false ∧ (x == 43) = false) := by
  simp only [beq_eq_false_iff_ne]
  omega

set_option linter.unusedSimpArgs false in
set_option maxHeartbeats 1000000 in
theorem step0 (x : Int) (w : World) : Calls Try.prog 13 #[.int .i64 0, .int .u8 x] w fun e w' => e = .returned (.int .i64 (Plain.step 0 x)) ∧ w' = w := by
  rcases kinds x with rfl | rfl | rfl | rfl | rfl | rfl | ⟨h45, h48, h46, h101, h69, h43⟩
  · go_enter Try.func13, Try.ntmps13
    go_wp2_with (go_at_call 17; refine (dig_no _ _ (by decide)).mono ?_; rintro e w' ⟨rfl, rfl⟩)
    go_ret
    exact ⟨ret_int (by decide), rfl⟩
  · go_enter Try.func13, Try.ntmps13
    go_wp2_with (go_at_call 17; refine (dig_yes _ _ (by decide)).mono ?_; rintro e w' ⟨rfl, rfl⟩)
    go_ret
    exact ⟨ret_int (by decide), rfl⟩
  · go_enter Try.func13, Try.ntmps13
    go_wp2_with (go_at_call 17; refine (dig_no _ _ (by decide)).mono ?_; rintro e w' ⟨rfl, rfl⟩)
    go_ret
    exact ⟨ret_int (by decide), rfl⟩
  · go_enter Try.func13, Try.ntmps13
    go_wp2_with (go_at_call 17; refine (dig_no _ _ (by decide)).mono ?_; rintro e w' ⟨rfl, rfl⟩)
    go_ret
    exact ⟨ret_int (by decide), rfl⟩
  · go_enter Try.func13, Try.ntmps13
    go_wp2_with (go_at_call 17; refine (dig_no _ _ (by decide)).mono ?_; rintro e w' ⟨rfl, rfl⟩)
    go_ret
    exact ⟨ret_int (by decide), rfl⟩
  · go_enter Try.func13, Try.ntmps13
    go_wp2_with (go_at_call 17; refine (dig_no _ _ (by decide)).mono ?_; rintro e w' ⟨rfl, rfl⟩)
    go_ret
    exact ⟨ret_int (by decide), rfl⟩
  · cases hd : Plain.dig x with
    | true =>
      have HD := hid hd
      clear hd
      go_enter Try.func13, Try.ntmps13
      go_wp2_with (go_at_call 17; refine (dig_yes _ _ HD.out).mono ?_; rintro e w' ⟨rfl, rfl⟩)
      go_ret
      exact ⟨ret_int (by simp [Plain.step, HD.out, beq_no h45, beq_no h48, beq_no h46, beq_no h101, beq_no h69, beq_no h43]), rfl⟩
    | false =>
      have HD := hid hd
      clear hd
      go_enter Try.func13, Try.ntmps13
      go_wp2_with (go_at_call 17; refine (dig_no _ _ HD.out).mono ?_; rintro e w' ⟨rfl, rfl⟩)
      go_ret
      exact ⟨ret_int (by simp [Plain.step, HD.out, beq_no h45, beq_no h48, beq_no h46, beq_no h101, beq_no h69, beq_no h43]), rfl⟩

set_option linter.unusedSimpArgs false in
set_option maxHeartbeats 1000000 in
theorem step1 (x : Int) (w : World) : Calls Try.prog 13 #[.int .i64 1, .int .u8 x] w fun e w' => e = .returned (.int .i64 (Plain.step 1 x)) ∧ w' = w := by
  rcases kinds x with rfl | rfl | rfl | rfl | rfl | rfl | ⟨h45, h48, h46, h101, h69, h43⟩
  · go_enter Try.func13, Try.ntmps13
    go_wp2_with (go_at_call 17; refine (dig_no _ _ (by decide)).mono ?_; rintro e w' ⟨rfl, rfl⟩)
    go_ret
    exact ⟨ret_int (by decide), rfl⟩
  · go_enter Try.func13, Try.ntmps13
    go_wp2_with (go_at_call 17; refine (dig_yes _ _ (by decide)).mono ?_; rintro e w' ⟨rfl, rfl⟩)
    go_ret
    exact ⟨ret_int (by decide), rfl⟩
  · go_enter Try.func13, Try.ntmps13
    go_wp2_with (go_at_call 17; refine (dig_no _ _ (by decide)).mono ?_; rintro e w' ⟨rfl, rfl⟩)
    go_ret
    exact ⟨ret_int (by decide), rfl⟩
  · go_enter Try.func13, Try.ntmps13
    go_wp2_with (go_at_call 17; refine (dig_no _ _ (by decide)).mono ?_; rintro e w' ⟨rfl, rfl⟩)
    go_ret
    exact ⟨ret_int (by decide), rfl⟩
  · go_enter Try.func13, Try.ntmps13
    go_wp2_with (go_at_call 17; refine (dig_no _ _ (by decide)).mono ?_; rintro e w' ⟨rfl, rfl⟩)
    go_ret
    exact ⟨ret_int (by decide), rfl⟩
  · go_enter Try.func13, Try.ntmps13
    go_wp2_with (go_at_call 17; refine (dig_no _ _ (by decide)).mono ?_; rintro e w' ⟨rfl, rfl⟩)
    go_ret
    exact ⟨ret_int (by decide), rfl⟩
  · cases hd : Plain.dig x with
    | true =>
      have HD := hid hd
      clear hd
      go_enter Try.func13, Try.ntmps13
      go_wp2_with (go_at_call 17; refine (dig_yes _ _ HD.out).mono ?_; rintro e w' ⟨rfl, rfl⟩)
      go_ret
      exact ⟨ret_int (by simp [Plain.step, HD.out, beq_no h45, beq_no h48, beq_no h46, beq_no h101, beq_no h69, beq_no h43]), rfl⟩
    | false =>
      have HD := hid hd
      clear hd
      go_enter Try.func13, Try.ntmps13
      go_wp2_with (go_at_call 17; refine (dig_no _ _ HD.out).mono ?_; rintro e w' ⟨rfl, rfl⟩)
      go_ret
      exact ⟨ret_int (by simp [Plain.step, HD.out, beq_no h45, beq_no h48, beq_no h46, beq_no h101, beq_no h69, beq_no h43]), rfl⟩

set_option linter.unusedSimpArgs false in
set_option maxHeartbeats 1000000 in
theorem step2 (x : Int) (w : World) : Calls Try.prog 13 #[.int .i64 2, .int .u8 x] w fun e w' => e = .returned (.int .i64 (Plain.step 2 x)) ∧ w' = w := by
  rcases kinds x with rfl | rfl | rfl | rfl | rfl | rfl | ⟨h45, h48, h46, h101, h69, h43⟩
  · go_enter Try.func13, Try.ntmps13
    go_wp2_with (go_at_call 17; refine (dig_no _ _ (by decide)).mono ?_; rintro e w' ⟨rfl, rfl⟩)
    go_ret
    exact ⟨ret_int (by decide), rfl⟩
  · go_enter Try.func13, Try.ntmps13
    go_wp2_with (go_at_call 17; refine (dig_yes _ _ (by decide)).mono ?_; rintro e w' ⟨rfl, rfl⟩)
    go_ret
    exact ⟨ret_int (by decide), rfl⟩
  · go_enter Try.func13, Try.ntmps13
    go_wp2_with (go_at_call 17; refine (dig_no _ _ (by decide)).mono ?_; rintro e w' ⟨rfl, rfl⟩)
    go_ret
    exact ⟨ret_int (by decide), rfl⟩
  · go_enter Try.func13, Try.ntmps13
    go_wp2_with (go_at_call 17; refine (dig_no _ _ (by decide)).mono ?_; rintro e w' ⟨rfl, rfl⟩)
    go_ret
    exact ⟨ret_int (by decide), rfl⟩
  · go_enter Try.func13, Try.ntmps13
    go_wp2_with (go_at_call 17; refine (dig_no _ _ (by decide)).mono ?_; rintro e w' ⟨rfl, rfl⟩)
    go_ret
    exact ⟨ret_int (by decide), rfl⟩
  · go_enter Try.func13, Try.ntmps13
    go_wp2_with (go_at_call 17; refine (dig_no _ _ (by decide)).mono ?_; rintro e w' ⟨rfl, rfl⟩)
    go_ret
    exact ⟨ret_int (by decide), rfl⟩
  · cases hd : Plain.dig x with
    | true =>
      have HD := hid hd
      clear hd
      go_enter Try.func13, Try.ntmps13
      go_wp2_with (go_at_call 17; refine (dig_yes _ _ HD.out).mono ?_; rintro e w' ⟨rfl, rfl⟩)
      go_ret
      exact ⟨ret_int (by simp [Plain.step, HD.out, beq_no h45, beq_no h48, beq_no h46, beq_no h101, beq_no h69, beq_no h43]), rfl⟩
    | false =>
      have HD := hid hd
      clear hd
      go_enter Try.func13, Try.ntmps13
      go_wp2_with (go_at_call 17; refine (dig_no _ _ HD.out).mono ?_; rintro e w' ⟨rfl, rfl⟩)
      go_ret
      exact ⟨ret_int (by simp [Plain.step, HD.out, beq_no h45, beq_no h48, beq_no h46, beq_no h101, beq_no h69, beq_no h43]), rfl⟩

set_option linter.unusedSimpArgs false in
set_option maxHeartbeats 1000000 in
theorem step3 (x : Int) (w : World) : Calls Try.prog 13 #[.int .i64 3, .int .u8 x] w fun e w' => e = .returned (.int .i64 (Plain.step 3 x)) ∧ w' = w := by
  rcases kinds x with rfl | rfl | rfl | rfl | rfl | rfl | ⟨h45, h48, h46, h101, h69, h43⟩
  · go_enter Try.func13, Try.ntmps13
    go_wp2_with (go_at_call 17; refine (dig_no _ _ (by decide)).mono ?_; rintro e w' ⟨rfl, rfl⟩)
    go_ret
    exact ⟨ret_int (by decide), rfl⟩
  · go_enter Try.func13, Try.ntmps13
    go_wp2_with (go_at_call 17; refine (dig_yes _ _ (by decide)).mono ?_; rintro e w' ⟨rfl, rfl⟩)
    go_ret
    exact ⟨ret_int (by decide), rfl⟩
  · go_enter Try.func13, Try.ntmps13
    go_wp2_with (go_at_call 17; refine (dig_no _ _ (by decide)).mono ?_; rintro e w' ⟨rfl, rfl⟩)
    go_ret
    exact ⟨ret_int (by decide), rfl⟩
  · go_enter Try.func13, Try.ntmps13
    go_wp2_with (go_at_call 17; refine (dig_no _ _ (by decide)).mono ?_; rintro e w' ⟨rfl, rfl⟩)
    go_ret
    exact ⟨ret_int (by decide), rfl⟩
  · go_enter Try.func13, Try.ntmps13
    go_wp2_with (go_at_call 17; refine (dig_no _ _ (by decide)).mono ?_; rintro e w' ⟨rfl, rfl⟩)
    go_ret
    exact ⟨ret_int (by decide), rfl⟩
  · go_enter Try.func13, Try.ntmps13
    go_wp2_with (go_at_call 17; refine (dig_no _ _ (by decide)).mono ?_; rintro e w' ⟨rfl, rfl⟩)
    go_ret
    exact ⟨ret_int (by decide), rfl⟩
  · cases hd : Plain.dig x with
    | true =>
      have HD := hid hd
      clear hd
      go_enter Try.func13, Try.ntmps13
      go_wp2_with (go_at_call 17; refine (dig_yes _ _ HD.out).mono ?_; rintro e w' ⟨rfl, rfl⟩)
      go_ret
      exact ⟨ret_int (by simp [Plain.step, HD.out, beq_no h45, beq_no h48, beq_no h46, beq_no h101, beq_no h69, beq_no h43]), rfl⟩
    | false =>
      have HD := hid hd
      clear hd
      go_enter Try.func13, Try.ntmps13
      go_wp2_with (go_at_call 17; refine (dig_no _ _ HD.out).mono ?_; rintro e w' ⟨rfl, rfl⟩)
      go_ret
      exact ⟨ret_int (by simp [Plain.step, HD.out, beq_no h45, beq_no h48, beq_no h46, beq_no h101, beq_no h69, beq_no h43]), rfl⟩

set_option linter.unusedSimpArgs false in
set_option maxHeartbeats 1000000 in
theorem step4 (x : Int) (w : World) : Calls Try.prog 13 #[.int .i64 4, .int .u8 x] w fun e w' => e = .returned (.int .i64 (Plain.step 4 x)) ∧ w' = w := by
  rcases kinds x with rfl | rfl | rfl | rfl | rfl | rfl | ⟨h45, h48, h46, h101, h69, h43⟩
  · go_enter Try.func13, Try.ntmps13
    go_wp2_with (go_at_call 17; refine (dig_no _ _ (by decide)).mono ?_; rintro e w' ⟨rfl, rfl⟩)
    go_ret
    exact ⟨ret_int (by decide), rfl⟩
  · go_enter Try.func13, Try.ntmps13
    go_wp2_with (go_at_call 17; refine (dig_yes _ _ (by decide)).mono ?_; rintro e w' ⟨rfl, rfl⟩)
    go_ret
    exact ⟨ret_int (by decide), rfl⟩
  · go_enter Try.func13, Try.ntmps13
    go_wp2_with (go_at_call 17; refine (dig_no _ _ (by decide)).mono ?_; rintro e w' ⟨rfl, rfl⟩)
    go_ret
    exact ⟨ret_int (by decide), rfl⟩
  · go_enter Try.func13, Try.ntmps13
    go_wp2_with (go_at_call 17; refine (dig_no _ _ (by decide)).mono ?_; rintro e w' ⟨rfl, rfl⟩)
    go_ret
    exact ⟨ret_int (by decide), rfl⟩
  · go_enter Try.func13, Try.ntmps13
    go_wp2_with (go_at_call 17; refine (dig_no _ _ (by decide)).mono ?_; rintro e w' ⟨rfl, rfl⟩)
    go_ret
    exact ⟨ret_int (by decide), rfl⟩
  · go_enter Try.func13, Try.ntmps13
    go_wp2_with (go_at_call 17; refine (dig_no _ _ (by decide)).mono ?_; rintro e w' ⟨rfl, rfl⟩)
    go_ret
    exact ⟨ret_int (by decide), rfl⟩
  · cases hd : Plain.dig x with
    | true =>
      have HD := hid hd
      clear hd
      go_enter Try.func13, Try.ntmps13
      go_wp2_with (go_at_call 17; refine (dig_yes _ _ HD.out).mono ?_; rintro e w' ⟨rfl, rfl⟩)
      go_ret
      exact ⟨ret_int (by simp [Plain.step, HD.out, beq_no h45, beq_no h48, beq_no h46, beq_no h101, beq_no h69, beq_no h43]), rfl⟩
    | false =>
      have HD := hid hd
      clear hd
      go_enter Try.func13, Try.ntmps13
      go_wp2_with (go_at_call 17; refine (dig_no _ _ HD.out).mono ?_; rintro e w' ⟨rfl, rfl⟩)
      go_ret
      exact ⟨ret_int (by simp [Plain.step, HD.out, beq_no h45, beq_no h48, beq_no h46, beq_no h101, beq_no h69, beq_no h43]), rfl⟩

set_option linter.unusedSimpArgs false in
set_option maxHeartbeats 1000000 in
theorem step5 (x : Int) (w : World) : Calls Try.prog 13 #[.int .i64 5, .int .u8 x] w fun e w' => e = .returned (.int .i64 (Plain.step 5 x)) ∧ w' = w := by
  rcases kinds x with rfl | rfl | rfl | rfl | rfl | rfl | ⟨h45, h48, h46, h101, h69, h43⟩
  · go_enter Try.func13, Try.ntmps13
    go_wp2_with (go_at_call 17; refine (dig_no _ _ (by decide)).mono ?_; rintro e w' ⟨rfl, rfl⟩)
    go_ret
    exact ⟨ret_int (by decide), rfl⟩
  · go_enter Try.func13, Try.ntmps13
    go_wp2_with (go_at_call 17; refine (dig_yes _ _ (by decide)).mono ?_; rintro e w' ⟨rfl, rfl⟩)
    go_ret
    exact ⟨ret_int (by decide), rfl⟩
  · go_enter Try.func13, Try.ntmps13
    go_wp2_with (go_at_call 17; refine (dig_no _ _ (by decide)).mono ?_; rintro e w' ⟨rfl, rfl⟩)
    go_ret
    exact ⟨ret_int (by decide), rfl⟩
  · go_enter Try.func13, Try.ntmps13
    go_wp2_with (go_at_call 17; refine (dig_no _ _ (by decide)).mono ?_; rintro e w' ⟨rfl, rfl⟩)
    go_ret
    exact ⟨ret_int (by decide), rfl⟩
  · go_enter Try.func13, Try.ntmps13
    go_wp2_with (go_at_call 17; refine (dig_no _ _ (by decide)).mono ?_; rintro e w' ⟨rfl, rfl⟩)
    go_ret
    exact ⟨ret_int (by decide), rfl⟩
  · go_enter Try.func13, Try.ntmps13
    go_wp2_with (go_at_call 17; refine (dig_no _ _ (by decide)).mono ?_; rintro e w' ⟨rfl, rfl⟩)
    go_ret
    exact ⟨ret_int (by decide), rfl⟩
  · cases hd : Plain.dig x with
    | true =>
      have HD := hid hd
      clear hd
      go_enter Try.func13, Try.ntmps13
      go_wp2_with (go_at_call 17; refine (dig_yes _ _ HD.out).mono ?_; rintro e w' ⟨rfl, rfl⟩)
      go_ret
      exact ⟨ret_int (by simp [Plain.step, HD.out, beq_no h45, beq_no h48, beq_no h46, beq_no h101, beq_no h69, beq_no h43]), rfl⟩
    | false =>
      have HD := hid hd
      clear hd
      go_enter Try.func13, Try.ntmps13
      go_wp2_with (go_at_call 17; refine (dig_no _ _ HD.out).mono ?_; rintro e w' ⟨rfl, rfl⟩)
      go_ret
      exact ⟨ret_int (by simp [Plain.step, HD.out, beq_no h45, beq_no h48, beq_no h46, beq_no h101, beq_no h69, beq_no h43]), rfl⟩

set_option linter.unusedSimpArgs false in
set_option maxHeartbeats 1000000 in
theorem step6 (x : Int) (w : World) : Calls Try.prog 13 #[.int .i64 6, .int .u8 x] w fun e w' => e = .returned (.int .i64 (Plain.step 6 x)) ∧ w' = w := by
  rcases kinds x with rfl | rfl | rfl | rfl | rfl | rfl | ⟨h45, h48, h46, h101, h69, h43⟩
  · go_enter Try.func13, Try.ntmps13
    go_wp2_with (go_at_call 17; refine (dig_no _ _ (by decide)).mono ?_; rintro e w' ⟨rfl, rfl⟩)
    go_ret
    exact ⟨ret_int (by decide), rfl⟩
  · go_enter Try.func13, Try.ntmps13
    go_wp2_with (go_at_call 17; refine (dig_yes _ _ (by decide)).mono ?_; rintro e w' ⟨rfl, rfl⟩)
    go_ret
    exact ⟨ret_int (by decide), rfl⟩
  · go_enter Try.func13, Try.ntmps13
    go_wp2_with (go_at_call 17; refine (dig_no _ _ (by decide)).mono ?_; rintro e w' ⟨rfl, rfl⟩)
    go_ret
    exact ⟨ret_int (by decide), rfl⟩
  · go_enter Try.func13, Try.ntmps13
    go_wp2_with (go_at_call 17; refine (dig_no _ _ (by decide)).mono ?_; rintro e w' ⟨rfl, rfl⟩)
    go_ret
    exact ⟨ret_int (by decide), rfl⟩
  · go_enter Try.func13, Try.ntmps13
    go_wp2_with (go_at_call 17; refine (dig_no _ _ (by decide)).mono ?_; rintro e w' ⟨rfl, rfl⟩)
    go_ret
    exact ⟨ret_int (by decide), rfl⟩
  · go_enter Try.func13, Try.ntmps13
    go_wp2_with (go_at_call 17; refine (dig_no _ _ (by decide)).mono ?_; rintro e w' ⟨rfl, rfl⟩)
    go_ret
    exact ⟨ret_int (by decide), rfl⟩
  · cases hd : Plain.dig x with
    | true =>
      have HD := hid hd
      clear hd
      go_enter Try.func13, Try.ntmps13
      go_wp2_with (go_at_call 17; refine (dig_yes _ _ HD.out).mono ?_; rintro e w' ⟨rfl, rfl⟩)
      go_ret
      exact ⟨ret_int (by simp [Plain.step, HD.out, beq_no h45, beq_no h48, beq_no h46, beq_no h101, beq_no h69, beq_no h43]), rfl⟩
    | false =>
      have HD := hid hd
      clear hd
      go_enter Try.func13, Try.ntmps13
      go_wp2_with (go_at_call 17; refine (dig_no _ _ HD.out).mono ?_; rintro e w' ⟨rfl, rfl⟩)
      go_ret
      exact ⟨ret_int (by simp [Plain.step, HD.out, beq_no h45, beq_no h48, beq_no h46, beq_no h101, beq_no h69, beq_no h43]), rfl⟩

set_option linter.unusedSimpArgs false in
set_option maxHeartbeats 1000000 in
theorem step7 (x : Int) (w : World) : Calls Try.prog 13 #[.int .i64 7, .int .u8 x] w fun e w' => e = .returned (.int .i64 (Plain.step 7 x)) ∧ w' = w := by
  rcases kinds x with rfl | rfl | rfl | rfl | rfl | rfl | ⟨h45, h48, h46, h101, h69, h43⟩
  · go_enter Try.func13, Try.ntmps13
    go_wp2_with (go_at_call 17; refine (dig_no _ _ (by decide)).mono ?_; rintro e w' ⟨rfl, rfl⟩)
    go_ret
    exact ⟨ret_int (by decide), rfl⟩
  · go_enter Try.func13, Try.ntmps13
    go_wp2_with (go_at_call 17; refine (dig_yes _ _ (by decide)).mono ?_; rintro e w' ⟨rfl, rfl⟩)
    go_ret
    exact ⟨ret_int (by decide), rfl⟩
  · go_enter Try.func13, Try.ntmps13
    go_wp2_with (go_at_call 17; refine (dig_no _ _ (by decide)).mono ?_; rintro e w' ⟨rfl, rfl⟩)
    go_ret
    exact ⟨ret_int (by decide), rfl⟩
  · go_enter Try.func13, Try.ntmps13
    go_wp2_with (go_at_call 17; refine (dig_no _ _ (by decide)).mono ?_; rintro e w' ⟨rfl, rfl⟩)
    go_ret
    exact ⟨ret_int (by decide), rfl⟩
  · go_enter Try.func13, Try.ntmps13
    go_wp2_with (go_at_call 17; refine (dig_no _ _ (by decide)).mono ?_; rintro e w' ⟨rfl, rfl⟩)
    go_ret
    exact ⟨ret_int (by decide), rfl⟩
  · go_enter Try.func13, Try.ntmps13
    go_wp2_with (go_at_call 17; refine (dig_no _ _ (by decide)).mono ?_; rintro e w' ⟨rfl, rfl⟩)
    go_ret
    exact ⟨ret_int (by decide), rfl⟩
  · cases hd : Plain.dig x with
    | true =>
      have HD := hid hd
      clear hd
      go_enter Try.func13, Try.ntmps13
      go_wp2_with (go_at_call 17; refine (dig_yes _ _ HD.out).mono ?_; rintro e w' ⟨rfl, rfl⟩)
      go_ret
      exact ⟨ret_int (by simp [Plain.step, HD.out, beq_no h45, beq_no h48, beq_no h46, beq_no h101, beq_no h69, beq_no h43]), rfl⟩
    | false =>
      have HD := hid hd
      clear hd
      go_enter Try.func13, Try.ntmps13
      go_wp2_with (go_at_call 17; refine (dig_no _ _ HD.out).mono ?_; rintro e w' ⟨rfl, rfl⟩)
      go_ret
      exact ⟨ret_int (by simp [Plain.step, HD.out, beq_no h45, beq_no h48, beq_no h46, beq_no h101, beq_no h69, beq_no h43]), rfl⟩

set_option linter.unusedSimpArgs false in
set_option maxHeartbeats 1000000 in
theorem step8 (x : Int) (w : World) : Calls Try.prog 13 #[.int .i64 8, .int .u8 x] w fun e w' => e = .returned (.int .i64 (Plain.step 8 x)) ∧ w' = w := by
  rcases kinds x with rfl | rfl | rfl | rfl | rfl | rfl | ⟨h45, h48, h46, h101, h69, h43⟩
  · go_enter Try.func13, Try.ntmps13
    go_wp2_with (go_at_call 17; refine (dig_no _ _ (by decide)).mono ?_; rintro e w' ⟨rfl, rfl⟩)
    go_ret
    exact ⟨ret_int (by decide), rfl⟩
  · go_enter Try.func13, Try.ntmps13
    go_wp2_with (go_at_call 17; refine (dig_yes _ _ (by decide)).mono ?_; rintro e w' ⟨rfl, rfl⟩)
    go_ret
    exact ⟨ret_int (by decide), rfl⟩
  · go_enter Try.func13, Try.ntmps13
    go_wp2_with (go_at_call 17; refine (dig_no _ _ (by decide)).mono ?_; rintro e w' ⟨rfl, rfl⟩)
    go_ret
    exact ⟨ret_int (by decide), rfl⟩
  · go_enter Try.func13, Try.ntmps13
    go_wp2_with (go_at_call 17; refine (dig_no _ _ (by decide)).mono ?_; rintro e w' ⟨rfl, rfl⟩)
    go_ret
    exact ⟨ret_int (by decide), rfl⟩
  · go_enter Try.func13, Try.ntmps13
    go_wp2_with (go_at_call 17; refine (dig_no _ _ (by decide)).mono ?_; rintro e w' ⟨rfl, rfl⟩)
    go_ret
    exact ⟨ret_int (by decide), rfl⟩
  · go_enter Try.func13, Try.ntmps13
    go_wp2_with (go_at_call 17; refine (dig_no _ _ (by decide)).mono ?_; rintro e w' ⟨rfl, rfl⟩)
    go_ret
    exact ⟨ret_int (by decide), rfl⟩
  · cases hd : Plain.dig x with
    | true =>
      have HD := hid hd
      clear hd
      go_enter Try.func13, Try.ntmps13
      go_wp2_with (go_at_call 17; refine (dig_yes _ _ HD.out).mono ?_; rintro e w' ⟨rfl, rfl⟩)
      go_ret
      exact ⟨ret_int (by simp [Plain.step, HD.out, beq_no h45, beq_no h48, beq_no h46, beq_no h101, beq_no h69, beq_no h43]), rfl⟩
    | false =>
      have HD := hid hd
      clear hd
      go_enter Try.func13, Try.ntmps13
      go_wp2_with (go_at_call 17; refine (dig_no _ _ HD.out).mono ?_; rintro e w' ⟨rfl, rfl⟩)
      go_ret
      exact ⟨ret_int (by simp [Plain.step, HD.out, beq_no h45, beq_no h48, beq_no h46, beq_no h101, beq_no h69, beq_no h43]), rfl⟩

theorem step_any (s x : Int) (w : World) (h0 : 0 ≤ s) (h8 : s ≤ 8) : Calls Try.prog 13 #[.int .i64 s, .int .u8 x] w fun e w' => e = .returned (.int .i64 (Plain.step s x)) ∧ w' = w := by
  have h : s = 0 ∨ s = 1 ∨ s = 2 ∨ s = 3 ∨ s = 4 ∨ s = 5 ∨ s = 6 ∨ s = 7 ∨ s = 8 := by omega
  rcases h with rfl | rfl | rfl | rfl | rfl | rfl | rfl | rfl | rfl
  · exact step0 x w
  · exact step1 x w
  · exact step2 x w
  · exact step3 x w
  · exact step4 x w
  · exact step5 x w
  · exact step6 x w
  · exact step7 x w
  · exact step8 x w

theorem acc_any (s : Int) (w : World) (h0 : 0 ≤ s) (h8 : s ≤ 8) : Calls Try.prog 14 #[.int .i64 s] w fun e w' => e = .returned (.bool (Plain.acc s)) ∧ w' = w := by
  have h : s = 0 ∨ s = 1 ∨ s = 2 ∨ s = 3 ∨ s = 4 ∨ s = 5 ∨ s = 6 ∨ s = 7 ∨ s = 8 := by omega
  rcases h with rfl | rfl | rfl | rfl | rfl | rfl | rfl | rfl | rfl
  all_goals
    go_enter Try.func14, Try.ntmps14
    go_wp2
    go_ret
    exact ⟨ret_bool (by decide), rfl⟩
end Go.Proofs.Qxb6602448a
