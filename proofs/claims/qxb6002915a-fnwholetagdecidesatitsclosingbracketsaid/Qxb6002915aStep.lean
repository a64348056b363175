import Derived.Test.Qxb6002915aLeaf
import Derived.Deep.Light
namespace Go.Proofs.Qxb6002915a
open Go.RowKit
set_option linter.unusedVariables false
set_option linter.unusedSimpArgs false

theorem ret_step {st n : Nat} {d : Bool} {b : UInt8} (h : step st b = (n, d)) : Ending.returned (.tuple #[.int .i64 (n : Int), .bool d]) = .returned (.tuple #[.int .i64 ((step st b).1 : Int), .bool (step st b).2]) := by rw [h]

set_option maxHeartbeats 2000000 in
set_option maxRecDepth 20000 in
theorem stepAt0 (b : UInt8) (w : World) : Calls Try.prog 19 #[.int .i64 0, .int .u8 (b.toNat : Int)] w fun e w' => e = .returned (.tuple #[.int .i64 ((step 0 b).1 : Int), .bool (step 0 b).2]) ∧ w' = w := by
  go_enter Try.func19, Try.ntmps19
  go_wp2_with (first | (go_at_call 29; refine (zwLetter_any b _).mono ?_; rintro e w' ⟨rfl, rfl⟩) | (go_at_call 30; refine (zwDigit_any b _).mono ?_; rintro e w' ⟨rfl, rfl⟩) | (go_at_call 31; refine (zwWhite_any b _).mono ?_; rintro e w' ⟨rfl, rfl⟩) | (go_at_call 32; refine (zwUnq_any b _).mono ?_; rintro e w' ⟨rfl, rfl⟩))
  all_goals
    go_ret2
    go_light
    first | (refine ⟨ret_step (n := 11) (d := false) ?_, rfl⟩; simp_all [step, attrC, nameC, attrS, eqb]; done) | (refine ⟨ret_step (n := 1) (d := false) ?_, rfl⟩; simp_all [step, attrC, nameC, attrS, eqb]; done) | (refine ⟨ret_step (n := 14) (d := false) ?_, rfl⟩; simp_all [step, attrC, nameC, attrS, eqb]; done)

set_option maxHeartbeats 2000000 in
set_option maxRecDepth 20000 in
theorem stepAt1 (b : UInt8) (w : World) : Calls Try.prog 19 #[.int .i64 1, .int .u8 (b.toNat : Int)] w fun e w' => e = .returned (.tuple #[.int .i64 ((step 1 b).1 : Int), .bool (step 1 b).2]) ∧ w' = w := by
  go_enter Try.func19, Try.ntmps19
  go_wp2_with (first | (go_at_call 29; refine (zwLetter_any b _).mono ?_; rintro e w' ⟨rfl, rfl⟩) | (go_at_call 30; refine (zwDigit_any b _).mono ?_; rintro e w' ⟨rfl, rfl⟩) | (go_at_call 31; refine (zwWhite_any b _).mono ?_; rintro e w' ⟨rfl, rfl⟩) | (go_at_call 32; refine (zwUnq_any b _).mono ?_; rintro e w' ⟨rfl, rfl⟩))
  all_goals
    go_ret2
    go_light
    first | (refine ⟨ret_step (n := 1) (d := false) ?_, rfl⟩; simp_all [step, attrC, nameC, attrS, eqb]; done) | (refine ⟨ret_step (n := 2) (d := false) ?_, rfl⟩; simp_all [step, attrC, nameC, attrS, eqb]; done) | (refine ⟨ret_step (n := 14) (d := true) ?_, rfl⟩; simp_all [step, attrC, nameC, attrS, eqb]; done) | (refine ⟨ret_step (n := 3) (d := false) ?_, rfl⟩; simp_all [step, attrC, nameC, attrS, eqb]; done) | (refine ⟨ret_step (n := 14) (d := false) ?_, rfl⟩; simp_all [step, attrC, nameC, attrS, eqb]; done)

set_option maxHeartbeats 2000000 in
set_option maxRecDepth 20000 in
theorem stepAt2 (b : UInt8) (w : World) : Calls Try.prog 19 #[.int .i64 2, .int .u8 (b.toNat : Int)] w fun e w' => e = .returned (.tuple #[.int .i64 ((step 2 b).1 : Int), .bool (step 2 b).2]) ∧ w' = w := by
  go_enter Try.func19, Try.ntmps19
  go_wp2_with (first | (go_at_call 29; refine (zwLetter_any b _).mono ?_; rintro e w' ⟨rfl, rfl⟩) | (go_at_call 30; refine (zwDigit_any b _).mono ?_; rintro e w' ⟨rfl, rfl⟩) | (go_at_call 31; refine (zwWhite_any b _).mono ?_; rintro e w' ⟨rfl, rfl⟩) | (go_at_call 32; refine (zwUnq_any b _).mono ?_; rintro e w' ⟨rfl, rfl⟩))
  all_goals
    go_ret2
    go_light
    first | (refine ⟨ret_step (n := 2) (d := false) ?_, rfl⟩; simp_all [step, attrC, nameC, attrS, eqb]; done) | (refine ⟨ret_step (n := 14) (d := true) ?_, rfl⟩; simp_all [step, attrC, nameC, attrS, eqb]; done) | (refine ⟨ret_step (n := 3) (d := false) ?_, rfl⟩; simp_all [step, attrC, nameC, attrS, eqb]; done) | (refine ⟨ret_step (n := 4) (d := false) ?_, rfl⟩; simp_all [step, attrC, nameC, attrS, eqb]; done) | (refine ⟨ret_step (n := 14) (d := false) ?_, rfl⟩; simp_all [step, attrC, nameC, attrS, eqb]; done)

set_option maxHeartbeats 2000000 in
set_option maxRecDepth 20000 in
theorem stepAt3 (b : UInt8) (w : World) : Calls Try.prog 19 #[.int .i64 3, .int .u8 (b.toNat : Int)] w fun e w' => e = .returned (.tuple #[.int .i64 ((step 3 b).1 : Int), .bool (step 3 b).2]) ∧ w' = w := by
  go_enter Try.func19, Try.ntmps19
  go_wp2_with (first | (go_at_call 29; refine (zwLetter_any b _).mono ?_; rintro e w' ⟨rfl, rfl⟩) | (go_at_call 30; refine (zwDigit_any b _).mono ?_; rintro e w' ⟨rfl, rfl⟩) | (go_at_call 31; refine (zwWhite_any b _).mono ?_; rintro e w' ⟨rfl, rfl⟩) | (go_at_call 32; refine (zwUnq_any b _).mono ?_; rintro e w' ⟨rfl, rfl⟩))
  all_goals
    go_ret2
    go_light
    first | (refine ⟨ret_step (n := 14) (d := true) ?_, rfl⟩; simp_all [step, attrC, nameC, attrS, eqb]; done) | (refine ⟨ret_step (n := 14) (d := false) ?_, rfl⟩; simp_all [step, attrC, nameC, attrS, eqb]; done)

set_option maxHeartbeats 2000000 in
set_option maxRecDepth 20000 in
theorem stepAt4 (b : UInt8) (w : World) : Calls Try.prog 19 #[.int .i64 4, .int .u8 (b.toNat : Int)] w fun e w' => e = .returned (.tuple #[.int .i64 ((step 4 b).1 : Int), .bool (step 4 b).2]) ∧ w' = w := by
  go_enter Try.func19, Try.ntmps19
  go_wp2_with (first | (go_at_call 29; refine (zwLetter_any b _).mono ?_; rintro e w' ⟨rfl, rfl⟩) | (go_at_call 30; refine (zwDigit_any b _).mono ?_; rintro e w' ⟨rfl, rfl⟩) | (go_at_call 31; refine (zwWhite_any b _).mono ?_; rintro e w' ⟨rfl, rfl⟩) | (go_at_call 32; refine (zwUnq_any b _).mono ?_; rintro e w' ⟨rfl, rfl⟩))
  all_goals
    go_ret2
    go_light
    first | (refine ⟨ret_step (n := 4) (d := false) ?_, rfl⟩; simp_all [step, attrC, nameC, attrS, eqb]; done) | (refine ⟨ret_step (n := 5) (d := false) ?_, rfl⟩; simp_all [step, attrC, nameC, attrS, eqb]; done) | (refine ⟨ret_step (n := 6) (d := false) ?_, rfl⟩; simp_all [step, attrC, nameC, attrS, eqb]; done) | (refine ⟨ret_step (n := 14) (d := true) ?_, rfl⟩; simp_all [step, attrC, nameC, attrS, eqb]; done) | (refine ⟨ret_step (n := 3) (d := false) ?_, rfl⟩; simp_all [step, attrC, nameC, attrS, eqb]; done) | (refine ⟨ret_step (n := 14) (d := false) ?_, rfl⟩; simp_all [step, attrC, nameC, attrS, eqb]; done)

set_option maxHeartbeats 2000000 in
set_option maxRecDepth 20000 in
theorem stepAt5 (b : UInt8) (w : World) : Calls Try.prog 19 #[.int .i64 5, .int .u8 (b.toNat : Int)] w fun e w' => e = .returned (.tuple #[.int .i64 ((step 5 b).1 : Int), .bool (step 5 b).2]) ∧ w' = w := by
  go_enter Try.func19, Try.ntmps19
  go_wp2_with (first | (go_at_call 29; refine (zwLetter_any b _).mono ?_; rintro e w' ⟨rfl, rfl⟩) | (go_at_call 30; refine (zwDigit_any b _).mono ?_; rintro e w' ⟨rfl, rfl⟩) | (go_at_call 31; refine (zwWhite_any b _).mono ?_; rintro e w' ⟨rfl, rfl⟩) | (go_at_call 32; refine (zwUnq_any b _).mono ?_; rintro e w' ⟨rfl, rfl⟩))
  all_goals
    go_ret2
    go_light
    first | (refine ⟨ret_step (n := 5) (d := false) ?_, rfl⟩; simp_all [step, attrC, nameC, attrS, eqb]; done) | (refine ⟨ret_step (n := 6) (d := false) ?_, rfl⟩; simp_all [step, attrC, nameC, attrS, eqb]; done) | (refine ⟨ret_step (n := 14) (d := true) ?_, rfl⟩; simp_all [step, attrC, nameC, attrS, eqb]; done) | (refine ⟨ret_step (n := 3) (d := false) ?_, rfl⟩; simp_all [step, attrC, nameC, attrS, eqb]; done) | (refine ⟨ret_step (n := 4) (d := false) ?_, rfl⟩; simp_all [step, attrC, nameC, attrS, eqb]; done) | (refine ⟨ret_step (n := 14) (d := false) ?_, rfl⟩; simp_all [step, attrC, nameC, attrS, eqb]; done)

set_option maxHeartbeats 2000000 in
set_option maxRecDepth 20000 in
theorem stepAt6 (b : UInt8) (w : World) : Calls Try.prog 19 #[.int .i64 6, .int .u8 (b.toNat : Int)] w fun e w' => e = .returned (.tuple #[.int .i64 ((step 6 b).1 : Int), .bool (step 6 b).2]) ∧ w' = w := by
  go_enter Try.func19, Try.ntmps19
  go_wp2_with (first | (go_at_call 29; refine (zwLetter_any b _).mono ?_; rintro e w' ⟨rfl, rfl⟩) | (go_at_call 30; refine (zwDigit_any b _).mono ?_; rintro e w' ⟨rfl, rfl⟩) | (go_at_call 31; refine (zwWhite_any b _).mono ?_; rintro e w' ⟨rfl, rfl⟩) | (go_at_call 32; refine (zwUnq_any b _).mono ?_; rintro e w' ⟨rfl, rfl⟩))
  all_goals
    go_ret2
    go_light
    first | (refine ⟨ret_step (n := 6) (d := false) ?_, rfl⟩; simp_all [step, attrC, nameC, attrS, eqb]; done) | (refine ⟨ret_step (n := 7) (d := false) ?_, rfl⟩; simp_all [step, attrC, nameC, attrS, eqb]; done) | (refine ⟨ret_step (n := 8) (d := false) ?_, rfl⟩; simp_all [step, attrC, nameC, attrS, eqb]; done) | (refine ⟨ret_step (n := 9) (d := false) ?_, rfl⟩; simp_all [step, attrC, nameC, attrS, eqb]; done) | (refine ⟨ret_step (n := 14) (d := false) ?_, rfl⟩; simp_all [step, attrC, nameC, attrS, eqb]; done)

set_option maxHeartbeats 2000000 in
set_option maxRecDepth 20000 in
theorem stepAt7 (b : UInt8) (w : World) : Calls Try.prog 19 #[.int .i64 7, .int .u8 (b.toNat : Int)] w fun e w' => e = .returned (.tuple #[.int .i64 ((step 7 b).1 : Int), .bool (step 7 b).2]) ∧ w' = w := by
  go_enter Try.func19, Try.ntmps19
  go_wp2_with (first | (go_at_call 29; refine (zwLetter_any b _).mono ?_; rintro e w' ⟨rfl, rfl⟩) | (go_at_call 30; refine (zwDigit_any b _).mono ?_; rintro e w' ⟨rfl, rfl⟩) | (go_at_call 31; refine (zwWhite_any b _).mono ?_; rintro e w' ⟨rfl, rfl⟩) | (go_at_call 32; refine (zwUnq_any b _).mono ?_; rintro e w' ⟨rfl, rfl⟩))
  all_goals
    go_ret2
    go_light
    first | (refine ⟨ret_step (n := 10) (d := false) ?_, rfl⟩; simp_all [step, attrC, nameC, attrS, eqb]; done) | (refine ⟨ret_step (n := 7) (d := false) ?_, rfl⟩; simp_all [step, attrC, nameC, attrS, eqb]; done)

set_option maxHeartbeats 2000000 in
set_option maxRecDepth 20000 in
theorem stepAt8 (b : UInt8) (w : World) : Calls Try.prog 19 #[.int .i64 8, .int .u8 (b.toNat : Int)] w fun e w' => e = .returned (.tuple #[.int .i64 ((step 8 b).1 : Int), .bool (step 8 b).2]) ∧ w' = w := by
  go_enter Try.func19, Try.ntmps19
  go_wp2_with (first | (go_at_call 29; refine (zwLetter_any b _).mono ?_; rintro e w' ⟨rfl, rfl⟩) | (go_at_call 30; refine (zwDigit_any b _).mono ?_; rintro e w' ⟨rfl, rfl⟩) | (go_at_call 31; refine (zwWhite_any b _).mono ?_; rintro e w' ⟨rfl, rfl⟩) | (go_at_call 32; refine (zwUnq_any b _).mono ?_; rintro e w' ⟨rfl, rfl⟩))
  all_goals
    go_ret2
    go_light
    first | (refine ⟨ret_step (n := 10) (d := false) ?_, rfl⟩; simp_all [step, attrC, nameC, attrS, eqb]; done) | (refine ⟨ret_step (n := 8) (d := false) ?_, rfl⟩; simp_all [step, attrC, nameC, attrS, eqb]; done)

set_option maxHeartbeats 2000000 in
set_option maxRecDepth 20000 in
theorem stepAt9 (b : UInt8) (w : World) : Calls Try.prog 19 #[.int .i64 9, .int .u8 (b.toNat : Int)] w fun e w' => e = .returned (.tuple #[.int .i64 ((step 9 b).1 : Int), .bool (step 9 b).2]) ∧ w' = w := by
  go_enter Try.func19, Try.ntmps19
  go_wp2_with (first | (go_at_call 29; refine (zwLetter_any b _).mono ?_; rintro e w' ⟨rfl, rfl⟩) | (go_at_call 30; refine (zwDigit_any b _).mono ?_; rintro e w' ⟨rfl, rfl⟩) | (go_at_call 31; refine (zwWhite_any b _).mono ?_; rintro e w' ⟨rfl, rfl⟩) | (go_at_call 32; refine (zwUnq_any b _).mono ?_; rintro e w' ⟨rfl, rfl⟩))
  all_goals
    go_ret2
    go_light
    first | (refine ⟨ret_step (n := 9) (d := false) ?_, rfl⟩; simp_all [step, attrC, nameC, attrS, eqb]; done) | (refine ⟨ret_step (n := 2) (d := false) ?_, rfl⟩; simp_all [step, attrC, nameC, attrS, eqb]; done) | (refine ⟨ret_step (n := 14) (d := true) ?_, rfl⟩; simp_all [step, attrC, nameC, attrS, eqb]; done) | (refine ⟨ret_step (n := 14) (d := false) ?_, rfl⟩; simp_all [step, attrC, nameC, attrS, eqb]; done)

set_option maxHeartbeats 2000000 in
set_option maxRecDepth 20000 in
theorem stepAt10 (b : UInt8) (w : World) : Calls Try.prog 19 #[.int .i64 10, .int .u8 (b.toNat : Int)] w fun e w' => e = .returned (.tuple #[.int .i64 ((step 10 b).1 : Int), .bool (step 10 b).2]) ∧ w' = w := by
  go_enter Try.func19, Try.ntmps19
  go_wp2_with (first | (go_at_call 29; refine (zwLetter_any b _).mono ?_; rintro e w' ⟨rfl, rfl⟩) | (go_at_call 30; refine (zwDigit_any b _).mono ?_; rintro e w' ⟨rfl, rfl⟩) | (go_at_call 31; refine (zwWhite_any b _).mono ?_; rintro e w' ⟨rfl, rfl⟩) | (go_at_call 32; refine (zwUnq_any b _).mono ?_; rintro e w' ⟨rfl, rfl⟩))
  all_goals
    go_ret2
    go_light
    first | (refine ⟨ret_step (n := 14) (d := true) ?_, rfl⟩; simp_all [step, attrC, nameC, attrS, eqb]; done) | (refine ⟨ret_step (n := 3) (d := false) ?_, rfl⟩; simp_all [step, attrC, nameC, attrS, eqb]; done) | (refine ⟨ret_step (n := 2) (d := false) ?_, rfl⟩; simp_all [step, attrC, nameC, attrS, eqb]; done) | (refine ⟨ret_step (n := 14) (d := false) ?_, rfl⟩; simp_all [step, attrC, nameC, attrS, eqb]; done)

set_option maxHeartbeats 2000000 in
set_option maxRecDepth 20000 in
theorem stepAt11 (b : UInt8) (w : World) : Calls Try.prog 19 #[.int .i64 11, .int .u8 (b.toNat : Int)] w fun e w' => e = .returned (.tuple #[.int .i64 ((step 11 b).1 : Int), .bool (step 11 b).2]) ∧ w' = w := by
  go_enter Try.func19, Try.ntmps19
  go_wp2_with (first | (go_at_call 29; refine (zwLetter_any b _).mono ?_; rintro e w' ⟨rfl, rfl⟩) | (go_at_call 30; refine (zwDigit_any b _).mono ?_; rintro e w' ⟨rfl, rfl⟩) | (go_at_call 31; refine (zwWhite_any b _).mono ?_; rintro e w' ⟨rfl, rfl⟩) | (go_at_call 32; refine (zwUnq_any b _).mono ?_; rintro e w' ⟨rfl, rfl⟩))
  all_goals
    go_ret2
    go_light
    first | (refine ⟨ret_step (n := 12) (d := false) ?_, rfl⟩; simp_all [step, attrC, nameC, attrS, eqb]; done) | (refine ⟨ret_step (n := 14) (d := false) ?_, rfl⟩; simp_all [step, attrC, nameC, attrS, eqb]; done)

set_option maxHeartbeats 2000000 in
set_option maxRecDepth 20000 in
theorem stepAt12 (b : UInt8) (w : World) : Calls Try.prog 19 #[.int .i64 12, .int .u8 (b.toNat : Int)] w fun e w' => e = .returned (.tuple #[.int .i64 ((step 12 b).1 : Int), .bool (step 12 b).2]) ∧ w' = w := by
  go_enter Try.func19, Try.ntmps19
  go_wp2_with (first | (go_at_call 29; refine (zwLetter_any b _).mono ?_; rintro e w' ⟨rfl, rfl⟩) | (go_at_call 30; refine (zwDigit_any b _).mono ?_; rintro e w' ⟨rfl, rfl⟩) | (go_at_call 31; refine (zwWhite_any b _).mono ?_; rintro e w' ⟨rfl, rfl⟩) | (go_at_call 32; refine (zwUnq_any b _).mono ?_; rintro e w' ⟨rfl, rfl⟩))
  all_goals
    go_ret2
    go_light
    first | (refine ⟨ret_step (n := 12) (d := false) ?_, rfl⟩; simp_all [step, attrC, nameC, attrS, eqb]; done) | (refine ⟨ret_step (n := 13) (d := false) ?_, rfl⟩; simp_all [step, attrC, nameC, attrS, eqb]; done) | (refine ⟨ret_step (n := 14) (d := true) ?_, rfl⟩; simp_all [step, attrC, nameC, attrS, eqb]; done) | (refine ⟨ret_step (n := 14) (d := false) ?_, rfl⟩; simp_all [step, attrC, nameC, attrS, eqb]; done)

set_option maxHeartbeats 2000000 in
set_option maxRecDepth 20000 in
theorem stepAt13 (b : UInt8) (w : World) : Calls Try.prog 19 #[.int .i64 13, .int .u8 (b.toNat : Int)] w fun e w' => e = .returned (.tuple #[.int .i64 ((step 13 b).1 : Int), .bool (step 13 b).2]) ∧ w' = w := by
  go_enter Try.func19, Try.ntmps19
  go_wp2_with (first | (go_at_call 29; refine (zwLetter_any b _).mono ?_; rintro e w' ⟨rfl, rfl⟩) | (go_at_call 30; refine (zwDigit_any b _).mono ?_; rintro e w' ⟨rfl, rfl⟩) | (go_at_call 31; refine (zwWhite_any b _).mono ?_; rintro e w' ⟨rfl, rfl⟩) | (go_at_call 32; refine (zwUnq_any b _).mono ?_; rintro e w' ⟨rfl, rfl⟩))
  all_goals
    go_ret2
    go_light
    first | (refine ⟨ret_step (n := 13) (d := false) ?_, rfl⟩; simp_all [step, attrC, nameC, attrS, eqb]; done) | (refine ⟨ret_step (n := 14) (d := true) ?_, rfl⟩; simp_all [step, attrC, nameC, attrS, eqb]; done) | (refine ⟨ret_step (n := 14) (d := false) ?_, rfl⟩; simp_all [step, attrC, nameC, attrS, eqb]; done)

theorem step_any (st : Nat) (h : st < 14) (b : UInt8) (w : World) : Calls Try.prog 19 #[.int .i64 (st : Int), .int .u8 (b.toNat : Int)] w fun e w' => e = .returned (.tuple #[.int .i64 ((step st b).1 : Int), .bool (step st b).2]) ∧ w' = w :=
  match st, h with
  | 0, _ => stepAt0 b w
  | 1, _ => stepAt1 b w
  | 2, _ => stepAt2 b w
  | 3, _ => stepAt3 b w
  | 4, _ => stepAt4 b w
  | 5, _ => stepAt5 b w
  | 6, _ => stepAt6 b w
  | 7, _ => stepAt7 b w
  | 8, _ => stepAt8 b w
  | 9, _ => stepAt9 b w
  | 10, _ => stepAt10 b w
  | 11, _ => stepAt11 b w
  | 12, _ => stepAt12 b w
  | 13, _ => stepAt13 b w

set_option maxHeartbeats 1000000 in
theorem model_any (L : List UInt8) (g cap : Nat) (w : World) (hL : L.length ≤ 65536) (hL1 : 1 ≤ L.length) (hR : Row w g L) :
    Calls Try.prog 12 #[.slice (some ⟨g, 0, none⟩) L.length cap] w fun e w' => e = .returned (.int .i64 (A L 0 1 : Nat)) ∧ w' = w := by
  have HR : Hid (Row w g L) := hR
  clear hR
  go_enter Try.func12, Try.ntmps12
  go_wp2
  go_loop [3, 4] (fun s i => ∃ st k : Nat, st < 14 ∧ k ≤ L.length ∧ s = .int .i64 st ∧ i = .int .i64 k ∧ Hid (A L 0 1 = A L st k)) (fun _ i => L.length - (intOf i).toNat)
  case atStart => exact ⟨0, 1, by decide, hL1, rfl, rfl, rfl⟩
  case round =>
    obtain ⟨st, k, hst, hk, rfl, rfl, hh⟩ := hrel
    by_cases hlt : k < L.length
    · have hc := HR.out k hlt
      obtain ⟨nx, hnx⟩ : ∃ nx, nx = (step st L[k]).1 := ⟨_, rfl⟩
      obtain ⟨dn, hdn⟩ : ∃ dn, dn = (step st L[k]).2 := ⟨_, rfl⟩
      have C : Hid (∀ w, Calls Try.prog 19 #[.int .i64 (st : Int), .int .u8 (L[k].toNat : Int)] w fun e w' => e = .returned (.tuple #[.int .i64 (nx : Int), .bool dn]) ∧ w' = w) := fun w => by rw [hnx, hdn]; exact step_any st hst _ w
      have hA := A_step (st := st) hlt
      rw [← hnx, ← hdn] at hA
      have hlt15 : nx < 15 := by rw [hnx]; exact step_lt _ _
      have HA : Hid (A L st k = if dn = true then k + 1 else if nx = 14 then 0 else A L nx (k + 1)) := hA
      clear hnx hdn hA
      cases dn
      · by_cases h14 : 14 ≤ nx
        · have HH : Hid (A L 0 1 = 0) := by
            show _ = _
            rw [hh.out, HA.out, if_neg Bool.false_ne_true, if_pos (by omega)]
          go_wp2_with (go_at_call 19; refine (C.out _).mono ?_; rintro e w' ⟨rfl, rfl⟩)
          go_ret
          exact ⟨ret_int (by rw [HH.out]; rfl), rfl⟩
        · have HH : Hid (A L 0 1 = A L nx (k + 1)) := by
            show _ = _
            rw [hh.out, HA.out, if_neg Bool.false_ne_true, if_neg (by omega)]
          go_wp2_with (go_at_call 19; refine (C.out _).mono ?_; rintro e w' ⟨rfl, rfl⟩)
          go_round
          case rel => exact ⟨nx, k + 1, by omega, by omega, rfl, by go_num, HH⟩
          case measure => simp [intOf]; omega
      · have HH : Hid (A L 0 1 = k + 1) := by
          show _ = _
          rw [hh.out, HA.out, if_pos rfl]
        go_wp2_with (go_at_call 19; refine (C.out _).mono ?_; rintro e w' ⟨rfl, rfl⟩)
        go_ret
        exact ⟨ret_int (by rw [HH.out]; omega), rfl⟩
    · have HH : Hid (A L 0 1 = 0) := by
        show _ = _
        rw [hh.out, A_end (by omega)]
      go_wp2
      go_ret
      exact ⟨ret_int (by rw [HH.out]; rfl), rfl⟩
end Go.Proofs.Qxb6002915a
