import Derived.Test.Qxb6630669aSmall
import Derived.Deep.Light
namespace Go.Proofs.Qxb6630669a
open Go.RowKit
set_option linter.unusedSimpArgs false

set_option maxHeartbeats 1000000 in
theorem step0 (c : Int) (w : World) : Calls Try.prog 7 #[.int .i64 0, .int .u8 c] w fun e w' => e = .returned (.int .i64 (stepN 0 c)) ∧ w' = w := by
  go_enter Try.func7, Try.ntmps7
  go_wp2_with (go_at_call 14; refine (digit14 _ _).mono ?_; rintro e w' ⟨rfl, rfl⟩)
  all_goals
    go_ret
    refine ⟨ret_int ?_, rfl⟩
    go_light
    simp only [stepN, dig, expL, sgn, decide_eq_true_eq, decide_eq_false_iff_not, beq_iff_eq, beq_eq_false_iff_ne, ne_eq] at *
    try ((repeat' split) <;> omega)
set_option maxHeartbeats 1000000 in
theorem step1 (c : Int) (w : World) : Calls Try.prog 7 #[.int .i64 1, .int .u8 c] w fun e w' => e = .returned (.int .i64 (stepN 1 c)) ∧ w' = w := by
  go_enter Try.func7, Try.ntmps7
  go_wp2_with (go_at_call 14; refine (digit14 _ _).mono ?_; rintro e w' ⟨rfl, rfl⟩)
  all_goals
    go_ret
    refine ⟨ret_int ?_, rfl⟩
    go_light
    simp only [stepN, dig, expL, sgn, decide_eq_true_eq, decide_eq_false_iff_not, beq_iff_eq, beq_eq_false_iff_ne, ne_eq] at *
    try ((repeat' split) <;> omega)
set_option maxHeartbeats 1000000 in
theorem step2 (c : Int) (w : World) : Calls Try.prog 7 #[.int .i64 2, .int .u8 c] w fun e w' => e = .returned (.int .i64 (stepN 2 c)) ∧ w' = w := by
  go_enter Try.func7, Try.ntmps7
  go_wp2_with (go_at_call 14; refine (digit14 _ _).mono ?_; rintro e w' ⟨rfl, rfl⟩)
  all_goals
    go_ret
    refine ⟨ret_int ?_, rfl⟩
    go_light
    simp only [stepN, dig, expL, sgn, decide_eq_true_eq, decide_eq_false_iff_not, beq_iff_eq, beq_eq_false_iff_ne, ne_eq] at *
    try ((repeat' split) <;> omega)
set_option maxHeartbeats 1000000 in
theorem step3 (c : Int) (w : World) : Calls Try.prog 7 #[.int .i64 3, .int .u8 c] w fun e w' => e = .returned (.int .i64 (stepN 3 c)) ∧ w' = w := by
  go_enter Try.func7, Try.ntmps7
  go_wp2_with (go_at_call 14; refine (digit14 _ _).mono ?_; rintro e w' ⟨rfl, rfl⟩)
  all_goals
    go_ret
    refine ⟨ret_int ?_, rfl⟩
    go_light
    simp only [stepN, dig, expL, sgn, decide_eq_true_eq, decide_eq_false_iff_not, beq_iff_eq, beq_eq_false_iff_ne, ne_eq] at *
    try ((repeat' split) <;> omega)
set_option maxHeartbeats 1000000 in
theorem step4 (c : Int) (w : World) : Calls Try.prog 7 #[.int .i64 4, .int .u8 c] w fun e w' => e = .returned (.int .i64 (stepN 4 c)) ∧ w' = w := by
  go_enter Try.func7, Try.ntmps7
  go_wp2_with (go_at_call 14; refine (digit14 _ _).mono ?_; rintro e w' ⟨rfl, rfl⟩)
  all_goals
    go_ret
    refine ⟨ret_int ?_, rfl⟩
    go_light
    simp only [stepN, dig, expL, sgn, decide_eq_true_eq, decide_eq_false_iff_not, beq_iff_eq, beq_eq_false_iff_ne, ne_eq] at *
    try ((repeat' split) <;> omega)
set_option maxHeartbeats 1000000 in
theorem step5 (c : Int) (w : World) : Calls Try.prog 7 #[.int .i64 5, .int .u8 c] w fun e w' => e = .returned (.int .i64 (stepN 5 c)) ∧ w' = w := by
  go_enter Try.func7, Try.ntmps7
  go_wp2_with (go_at_call 14; refine (digit14 _ _).mono ?_; rintro e w' ⟨rfl, rfl⟩)
  all_goals
    go_ret
    refine ⟨ret_int ?_, rfl⟩
    go_light
    simp only [stepN, dig, expL, sgn, decide_eq_true_eq, decide_eq_false_iff_not, beq_iff_eq, beq_eq_false_iff_ne, ne_eq] at *
    try ((repeat' split) <;> omega)
set_option maxHeartbeats 1000000 in
theorem step6 (c : Int) (w : World) : Calls Try.prog 7 #[.int .i64 6, .int .u8 c] w fun e w' => e = .returned (.int .i64 (stepN 6 c)) ∧ w' = w := by
  go_enter Try.func7, Try.ntmps7
  go_wp2_with (go_at_call 14; refine (digit14 _ _).mono ?_; rintro e w' ⟨rfl, rfl⟩)
  all_goals
    go_ret
    refine ⟨ret_int ?_, rfl⟩
    go_light
    simp only [stepN, dig, expL, sgn, decide_eq_true_eq, decide_eq_false_iff_not, beq_iff_eq, beq_eq_false_iff_ne, ne_eq] at *
    try ((repeat' split) <;> omega)
set_option maxHeartbeats 1000000 in
theorem step7 (c : Int) (w : World) : Calls Try.prog 7 #[.int .i64 7, .int .u8 c] w fun e w' => e = .returned (.int .i64 (stepN 7 c)) ∧ w' = w := by
  go_enter Try.func7, Try.ntmps7
  go_wp2_with (go_at_call 14; refine (digit14 _ _).mono ?_; rintro e w' ⟨rfl, rfl⟩)
  all_goals
    go_ret
    refine ⟨ret_int ?_, rfl⟩
    go_light
    simp only [stepN, dig, expL, sgn, decide_eq_true_eq, decide_eq_false_iff_not, beq_iff_eq, beq_eq_false_iff_ne, ne_eq] at *
    try ((repeat' split) <;> omega)
set_option maxHeartbeats 1000000 in
theorem step8 (c : Int) (w : World) : Calls Try.prog 7 #[.int .i64 8, .int .u8 c] w fun e w' => e = .returned (.int .i64 (stepN 8 c)) ∧ w' = w := by
  go_enter Try.func7, Try.ntmps7
  go_wp2_with (go_at_call 14; refine (digit14 _ _).mono ?_; rintro e w' ⟨rfl, rfl⟩)
  all_goals
    go_ret
    refine ⟨ret_int ?_, rfl⟩
    go_light
    simp only [stepN, dig, expL, sgn, decide_eq_true_eq, decide_eq_false_iff_not, beq_iff_eq, beq_eq_false_iff_ne, ne_eq] at *
    try ((repeat' split) <;> omega)
set_option maxHeartbeats 1000000 in
theorem step9 (c : Int) (w : World) : Calls Try.prog 7 #[.int .i64 9, .int .u8 c] w fun e w' => e = .returned (.int .i64 (stepN 9 c)) ∧ w' = w := by
  go_enter Try.func7, Try.ntmps7
  go_wp2_with (go_at_call 14; refine (digit14 _ _).mono ?_; rintro e w' ⟨rfl, rfl⟩)
  all_goals
    go_ret
    refine ⟨ret_int ?_, rfl⟩
    go_light
    simp only [stepN, dig, expL, sgn, decide_eq_true_eq, decide_eq_false_iff_not, beq_iff_eq, beq_eq_false_iff_ne, ne_eq] at *
    try ((repeat' split) <;> omega)

theorem stepAny (st : Nat) (c : Int) (w : World) (h : st ≤ 9) : Calls Try.prog 7 #[.int .i64 st, .int .u8 c] w fun e w' => e = .returned (.int .i64 (stepN st c)) ∧ w' = w := by
  have : st = 0 ∨ st = 1 ∨ st = 2 ∨ st = 3 ∨ st = 4 ∨ st = 5 ∨ st = 6 ∨ st = 7 ∨ st = 8 ∨ st = 9 := by omega
  rcases this with rfl | rfl | rfl | rfl | rfl | rfl | rfl | rfl | rfl | rfl
  · exact step0 c w
  · exact step1 c w
  · exact step2 c w
  · exact step3 c w
  · exact step4 c w
  · exact step5 c w
  · exact step6 c w
  · exact step7 c w
  · exact step8 c w
  · exact step9 c w
end Go.Proofs.Qxb6630669a
