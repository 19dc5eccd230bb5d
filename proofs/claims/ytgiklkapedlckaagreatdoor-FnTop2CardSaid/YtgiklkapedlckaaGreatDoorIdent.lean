/- isIdent, isDigit: the classes of characters, range by range. -/
import Derived.Test.YtgiklkapedlckaaGreatDoorCls
namespace Go.Proofs.YtgiklkapedlckaaGreatDoor
open Go.RowKit

set_option maxHeartbeats 1600000 in
theorem isIdent0_r0 (w : World) (c : Int) (h2 : c ≤ 47) : Calls Tryz.prog 10 #[.int .i64 c, .int .i64 0] w fun e w' => e = .returned (.bool false) ∧ w = w' := by
  have e0 : (c == 95) = false := by rw [beq_eq_false_iff_ne]; omega
  have e1 : (c != 95) = true := by rw [bne_iff_ne]; omega
  have d0 : decide (48 ≤ c) = false := by rw [decide_eq_false_iff_not]; omega
  have d1 : decide (c ≤ 57) = true := by rw [decide_eq_true_eq]; omega
  have d2 : decide (65 ≤ c) = false := by rw [decide_eq_false_iff_not]; omega
  have d3 : decide (c ≤ 90) = true := by rw [decide_eq_true_eq]; omega
  have d4 : decide (97 ≤ c) = false := by rw [decide_eq_false_iff_not]; omega
  have d5 : decide (c ≤ 122) = true := by rw [decide_eq_true_eq]; omega
  have HD := Lib.hid (show decI c = false by rw [dec_iff, decide_eq_false_iff_not]; omega)
  go_enter Tryz.func10, Tryz.ntmps10
  go_wp2_with (go_at_call 14; refine (isDecimal_no _ _ HD).mono ?_; rintro e w' ⟨rfl, rfl⟩)
  go_ret
  exact ⟨rfl, rfl⟩

set_option maxHeartbeats 1600000 in
theorem isIdent0_r1 (w : World) (c : Int) (h1 : 48 ≤ c) (h2 : c ≤ 57) : Calls Tryz.prog 10 #[.int .i64 c, .int .i64 0] w fun e w' => e = .returned (.bool false) ∧ w = w' := by
  have e0 : (c == 95) = false := by rw [beq_eq_false_iff_ne]; omega
  have e1 : (c != 95) = true := by rw [bne_iff_ne]; omega
  have d0 : decide (48 ≤ c) = true := by rw [decide_eq_true_eq]; omega
  have d1 : decide (c ≤ 57) = true := by rw [decide_eq_true_eq]; omega
  have d2 : decide (65 ≤ c) = false := by rw [decide_eq_false_iff_not]; omega
  have d3 : decide (c ≤ 90) = true := by rw [decide_eq_true_eq]; omega
  have d4 : decide (97 ≤ c) = false := by rw [decide_eq_false_iff_not]; omega
  have d5 : decide (c ≤ 122) = true := by rw [decide_eq_true_eq]; omega
  have HD := Lib.hid (show decI c = true by rw [dec_iff, decide_eq_true_eq]; omega)
  go_enter Tryz.func10, Tryz.ntmps10
  go_wp2_with (go_at_call 14; refine (isDecimal_yes _ _ HD).mono ?_; rintro e w' ⟨rfl, rfl⟩)
  go_ret
  exact ⟨rfl, rfl⟩

set_option maxHeartbeats 1600000 in
theorem isIdent0_r2 (w : World) (c : Int) (h1 : 58 ≤ c) (h2 : c ≤ 64) : Calls Tryz.prog 10 #[.int .i64 c, .int .i64 0] w fun e w' => e = .returned (.bool false) ∧ w = w' := by
  have e0 : (c == 95) = false := by rw [beq_eq_false_iff_ne]; omega
  have e1 : (c != 95) = true := by rw [bne_iff_ne]; omega
  have d0 : decide (48 ≤ c) = true := by rw [decide_eq_true_eq]; omega
  have d1 : decide (c ≤ 57) = false := by rw [decide_eq_false_iff_not]; omega
  have d2 : decide (65 ≤ c) = false := by rw [decide_eq_false_iff_not]; omega
  have d3 : decide (c ≤ 90) = true := by rw [decide_eq_true_eq]; omega
  have d4 : decide (97 ≤ c) = false := by rw [decide_eq_false_iff_not]; omega
  have d5 : decide (c ≤ 122) = true := by rw [decide_eq_true_eq]; omega
  have HD := Lib.hid (show decI c = false by rw [dec_iff, decide_eq_false_iff_not]; omega)
  go_enter Tryz.func10, Tryz.ntmps10
  go_wp2_with (go_at_call 14; refine (isDecimal_no _ _ HD).mono ?_; rintro e w' ⟨rfl, rfl⟩)
  go_ret
  exact ⟨rfl, rfl⟩

set_option maxHeartbeats 1600000 in
theorem isIdent0_r3 (w : World) (c : Int) (h1 : 65 ≤ c) (h2 : c ≤ 90) : Calls Tryz.prog 10 #[.int .i64 c, .int .i64 0] w fun e w' => e = .returned (.bool true) ∧ w = w' := by
  have e0 : (c == 95) = false := by rw [beq_eq_false_iff_ne]; omega
  have e1 : (c != 95) = true := by rw [bne_iff_ne]; omega
  have d0 : decide (48 ≤ c) = true := by rw [decide_eq_true_eq]; omega
  have d1 : decide (c ≤ 57) = false := by rw [decide_eq_false_iff_not]; omega
  have d2 : decide (65 ≤ c) = true := by rw [decide_eq_true_eq]; omega
  have d3 : decide (c ≤ 90) = true := by rw [decide_eq_true_eq]; omega
  have d4 : decide (97 ≤ c) = false := by rw [decide_eq_false_iff_not]; omega
  have d5 : decide (c ≤ 122) = true := by rw [decide_eq_true_eq]; omega
  go_enter Tryz.func10, Tryz.ntmps10
  go_wp2
  go_ret
  exact ⟨rfl, rfl⟩

set_option maxHeartbeats 1600000 in
theorem isIdent0_r4 (w : World) (c : Int) (h1 : 91 ≤ c) (h2 : c ≤ 94) : Calls Tryz.prog 10 #[.int .i64 c, .int .i64 0] w fun e w' => e = .returned (.bool false) ∧ w = w' := by
  have e0 : (c == 95) = false := by rw [beq_eq_false_iff_ne]; omega
  have e1 : (c != 95) = true := by rw [bne_iff_ne]; omega
  have d0 : decide (48 ≤ c) = true := by rw [decide_eq_true_eq]; omega
  have d1 : decide (c ≤ 57) = false := by rw [decide_eq_false_iff_not]; omega
  have d2 : decide (65 ≤ c) = true := by rw [decide_eq_true_eq]; omega
  have d3 : decide (c ≤ 90) = false := by rw [decide_eq_false_iff_not]; omega
  have d4 : decide (97 ≤ c) = false := by rw [decide_eq_false_iff_not]; omega
  have d5 : decide (c ≤ 122) = true := by rw [decide_eq_true_eq]; omega
  have HD := Lib.hid (show decI c = false by rw [dec_iff, decide_eq_false_iff_not]; omega)
  go_enter Tryz.func10, Tryz.ntmps10
  go_wp2_with (go_at_call 14; refine (isDecimal_no _ _ HD).mono ?_; rintro e w' ⟨rfl, rfl⟩)
  go_ret
  exact ⟨rfl, rfl⟩

set_option maxHeartbeats 1600000 in
theorem isIdent0_r5 (w : World) (c : Int) (h1 : 95 ≤ c) (h2 : c ≤ 95) : Calls Tryz.prog 10 #[.int .i64 c, .int .i64 0] w fun e w' => e = .returned (.bool true) ∧ w = w' := by
  obtain rfl : c = 95 := by omega
  clear h1 h2
  go_enter Tryz.func10, Tryz.ntmps10
  go_wp2
  go_ret
  exact ⟨rfl, rfl⟩

set_option maxHeartbeats 1600000 in
theorem isIdent0_r6 (w : World) (c : Int) (h1 : 96 ≤ c) (h2 : c ≤ 96) : Calls Tryz.prog 10 #[.int .i64 c, .int .i64 0] w fun e w' => e = .returned (.bool false) ∧ w = w' := by
  have e0 : (c == 95) = false := by rw [beq_eq_false_iff_ne]; omega
  have e1 : (c != 95) = true := by rw [bne_iff_ne]; omega
  have d0 : decide (48 ≤ c) = true := by rw [decide_eq_true_eq]; omega
  have d1 : decide (c ≤ 57) = false := by rw [decide_eq_false_iff_not]; omega
  have d2 : decide (65 ≤ c) = true := by rw [decide_eq_true_eq]; omega
  have d3 : decide (c ≤ 90) = false := by rw [decide_eq_false_iff_not]; omega
  have d4 : decide (97 ≤ c) = false := by rw [decide_eq_false_iff_not]; omega
  have d5 : decide (c ≤ 122) = true := by rw [decide_eq_true_eq]; omega
  have HD := Lib.hid (show decI c = false by rw [dec_iff, decide_eq_false_iff_not]; omega)
  go_enter Tryz.func10, Tryz.ntmps10
  go_wp2_with (go_at_call 14; refine (isDecimal_no _ _ HD).mono ?_; rintro e w' ⟨rfl, rfl⟩)
  go_ret
  exact ⟨rfl, rfl⟩

set_option maxHeartbeats 1600000 in
theorem isIdent0_r7 (w : World) (c : Int) (h1 : 97 ≤ c) (h2 : c ≤ 122) : Calls Tryz.prog 10 #[.int .i64 c, .int .i64 0] w fun e w' => e = .returned (.bool true) ∧ w = w' := by
  have e0 : (c == 95) = false := by rw [beq_eq_false_iff_ne]; omega
  have e1 : (c != 95) = true := by rw [bne_iff_ne]; omega
  have d0 : decide (48 ≤ c) = true := by rw [decide_eq_true_eq]; omega
  have d1 : decide (c ≤ 57) = false := by rw [decide_eq_false_iff_not]; omega
  have d2 : decide (65 ≤ c) = true := by rw [decide_eq_true_eq]; omega
  have d3 : decide (c ≤ 90) = false := by rw [decide_eq_false_iff_not]; omega
  have d4 : decide (97 ≤ c) = true := by rw [decide_eq_true_eq]; omega
  have d5 : decide (c ≤ 122) = true := by rw [decide_eq_true_eq]; omega
  go_enter Tryz.func10, Tryz.ntmps10
  go_wp2
  go_ret
  exact ⟨rfl, rfl⟩

set_option maxHeartbeats 1600000 in
theorem isIdent0_r8 (w : World) (c : Int) (h1 : 123 ≤ c) : Calls Tryz.prog 10 #[.int .i64 c, .int .i64 0] w fun e w' => e = .returned (.bool false) ∧ w = w' := by
  have e0 : (c == 95) = false := by rw [beq_eq_false_iff_ne]; omega
  have e1 : (c != 95) = true := by rw [bne_iff_ne]; omega
  have d0 : decide (48 ≤ c) = true := by rw [decide_eq_true_eq]; omega
  have d1 : decide (c ≤ 57) = false := by rw [decide_eq_false_iff_not]; omega
  have d2 : decide (65 ≤ c) = true := by rw [decide_eq_true_eq]; omega
  have d3 : decide (c ≤ 90) = false := by rw [decide_eq_false_iff_not]; omega
  have d4 : decide (97 ≤ c) = true := by rw [decide_eq_true_eq]; omega
  have d5 : decide (c ≤ 122) = false := by rw [decide_eq_false_iff_not]; omega
  have HD := Lib.hid (show decI c = false by rw [dec_iff, decide_eq_false_iff_not]; omega)
  go_enter Tryz.func10, Tryz.ntmps10
  go_wp2_with (go_at_call 14; refine (isDecimal_no _ _ HD).mono ?_; rintro e w' ⟨rfl, rfl⟩)
  go_ret
  exact ⟨rfl, rfl⟩

theorem isIdent0_any (w : World) (c : Int) : Calls Tryz.prog 10 #[.int .i64 c, .int .i64 0] w fun e w' => e = .returned (.bool (identS c)) ∧ w = w' := by
  by_cases g0 : c ≤ 47
  · rw [show identS c = false by simp [identS, identI, identS, decI, hexI]; omega]; exact isIdent0_r0 w c (by omega)
  by_cases g1 : c ≤ 57
  · rw [show identS c = false by simp [identS, identI, identS, decI, hexI]; omega]; exact isIdent0_r1 w c (by omega) (by omega)
  by_cases g2 : c ≤ 64
  · rw [show identS c = false by simp [identS, identI, identS, decI, hexI]; omega]; exact isIdent0_r2 w c (by omega) (by omega)
  by_cases g3 : c ≤ 90
  · rw [show identS c = true by simp [identS, identI, identS, decI, hexI]; omega]; exact isIdent0_r3 w c (by omega) (by omega)
  by_cases g4 : c ≤ 94
  · rw [show identS c = false by simp [identS, identI, identS, decI, hexI]; omega]; exact isIdent0_r4 w c (by omega) (by omega)
  by_cases g5 : c ≤ 95
  · rw [show identS c = true by simp [identS, identI, identS, decI, hexI]; omega]; exact isIdent0_r5 w c (by omega) (by omega)
  by_cases g6 : c ≤ 96
  · rw [show identS c = false by simp [identS, identI, identS, decI, hexI]; omega]; exact isIdent0_r6 w c (by omega) (by omega)
  by_cases g7 : c ≤ 122
  · rw [show identS c = true by simp [identS, identI, identS, decI, hexI]; omega]; exact isIdent0_r7 w c (by omega) (by omega)
  rw [show identS c = false by simp [identS, identI, identS, decI, hexI]; omega]; exact isIdent0_r8 w c (by omega)
theorem isIdent0_yes (w : World) (c : Int) (h : Hid (identS c = true)) : Calls Tryz.prog 10 #[.int .i64 c, .int .i64 0] w fun e w' => e = .returned (.bool true) ∧ w = w' := by
  have := isIdent0_any w c; rw [h.out] at this; exact this
theorem isIdent0_no (w : World) (c : Int) (h : Hid (identS c = false)) : Calls Tryz.prog 10 #[.int .i64 c, .int .i64 0] w fun e w' => e = .returned (.bool false) ∧ w = w' := by
  have := isIdent0_any w c; rw [h.out] at this; exact this

set_option maxHeartbeats 1600000 in
theorem isIdent1_r0 (w : World) (c : Int) (h2 : c ≤ 47) : Calls Tryz.prog 10 #[.int .i64 c, .int .i64 1] w fun e w' => e = .returned (.bool false) ∧ w = w' := by
  have e0 : (c == 95) = false := by rw [beq_eq_false_iff_ne]; omega
  have e1 : (c != 95) = true := by rw [bne_iff_ne]; omega
  have d0 : decide (48 ≤ c) = false := by rw [decide_eq_false_iff_not]; omega
  have d1 : decide (c ≤ 57) = true := by rw [decide_eq_true_eq]; omega
  have d2 : decide (65 ≤ c) = false := by rw [decide_eq_false_iff_not]; omega
  have d3 : decide (c ≤ 90) = true := by rw [decide_eq_true_eq]; omega
  have d4 : decide (97 ≤ c) = false := by rw [decide_eq_false_iff_not]; omega
  have d5 : decide (c ≤ 122) = true := by rw [decide_eq_true_eq]; omega
  have HD := Lib.hid (show decI c = false by rw [dec_iff, decide_eq_false_iff_not]; omega)
  go_enter Tryz.func10, Tryz.ntmps10
  go_wp2_with (go_at_call 14; refine (isDecimal_no _ _ HD).mono ?_; rintro e w' ⟨rfl, rfl⟩)
  go_ret
  exact ⟨rfl, rfl⟩

set_option maxHeartbeats 1600000 in
theorem isIdent1_r1 (w : World) (c : Int) (h1 : 48 ≤ c) (h2 : c ≤ 57) : Calls Tryz.prog 10 #[.int .i64 c, .int .i64 1] w fun e w' => e = .returned (.bool true) ∧ w = w' := by
  have e0 : (c == 95) = false := by rw [beq_eq_false_iff_ne]; omega
  have e1 : (c != 95) = true := by rw [bne_iff_ne]; omega
  have d0 : decide (48 ≤ c) = true := by rw [decide_eq_true_eq]; omega
  have d1 : decide (c ≤ 57) = true := by rw [decide_eq_true_eq]; omega
  have d2 : decide (65 ≤ c) = false := by rw [decide_eq_false_iff_not]; omega
  have d3 : decide (c ≤ 90) = true := by rw [decide_eq_true_eq]; omega
  have d4 : decide (97 ≤ c) = false := by rw [decide_eq_false_iff_not]; omega
  have d5 : decide (c ≤ 122) = true := by rw [decide_eq_true_eq]; omega
  have HD := Lib.hid (show decI c = true by rw [dec_iff, decide_eq_true_eq]; omega)
  go_enter Tryz.func10, Tryz.ntmps10
  go_wp2_with (go_at_call 14; refine (isDecimal_yes _ _ HD).mono ?_; rintro e w' ⟨rfl, rfl⟩)
  go_ret
  exact ⟨rfl, rfl⟩

set_option maxHeartbeats 1600000 in
theorem isIdent1_r2 (w : World) (c : Int) (h1 : 58 ≤ c) (h2 : c ≤ 64) : Calls Tryz.prog 10 #[.int .i64 c, .int .i64 1] w fun e w' => e = .returned (.bool false) ∧ w = w' := by
  have e0 : (c == 95) = false := by rw [beq_eq_false_iff_ne]; omega
  have e1 : (c != 95) = true := by rw [bne_iff_ne]; omega
  have d0 : decide (48 ≤ c) = true := by rw [decide_eq_true_eq]; omega
  have d1 : decide (c ≤ 57) = false := by rw [decide_eq_false_iff_not]; omega
  have d2 : decide (65 ≤ c) = false := by rw [decide_eq_false_iff_not]; omega
  have d3 : decide (c ≤ 90) = true := by rw [decide_eq_true_eq]; omega
  have d4 : decide (97 ≤ c) = false := by rw [decide_eq_false_iff_not]; omega
  have d5 : decide (c ≤ 122) = true := by rw [decide_eq_true_eq]; omega
  have HD := Lib.hid (show decI c = false by rw [dec_iff, decide_eq_false_iff_not]; omega)
  go_enter Tryz.func10, Tryz.ntmps10
  go_wp2_with (go_at_call 14; refine (isDecimal_no _ _ HD).mono ?_; rintro e w' ⟨rfl, rfl⟩)
  go_ret
  exact ⟨rfl, rfl⟩

set_option maxHeartbeats 1600000 in
theorem isIdent1_r3 (w : World) (c : Int) (h1 : 65 ≤ c) (h2 : c ≤ 90) : Calls Tryz.prog 10 #[.int .i64 c, .int .i64 1] w fun e w' => e = .returned (.bool true) ∧ w = w' := by
  have e0 : (c == 95) = false := by rw [beq_eq_false_iff_ne]; omega
  have e1 : (c != 95) = true := by rw [bne_iff_ne]; omega
  have d0 : decide (48 ≤ c) = true := by rw [decide_eq_true_eq]; omega
  have d1 : decide (c ≤ 57) = false := by rw [decide_eq_false_iff_not]; omega
  have d2 : decide (65 ≤ c) = true := by rw [decide_eq_true_eq]; omega
  have d3 : decide (c ≤ 90) = true := by rw [decide_eq_true_eq]; omega
  have d4 : decide (97 ≤ c) = false := by rw [decide_eq_false_iff_not]; omega
  have d5 : decide (c ≤ 122) = true := by rw [decide_eq_true_eq]; omega
  go_enter Tryz.func10, Tryz.ntmps10
  go_wp2
  go_ret
  exact ⟨rfl, rfl⟩

set_option maxHeartbeats 1600000 in
theorem isIdent1_r4 (w : World) (c : Int) (h1 : 91 ≤ c) (h2 : c ≤ 94) : Calls Tryz.prog 10 #[.int .i64 c, .int .i64 1] w fun e w' => e = .returned (.bool false) ∧ w = w' := by
  have e0 : (c == 95) = false := by rw [beq_eq_false_iff_ne]; omega
  have e1 : (c != 95) = true := by rw [bne_iff_ne]; omega
  have d0 : decide (48 ≤ c) = true := by rw [decide_eq_true_eq]; omega
  have d1 : decide (c ≤ 57) = false := by rw [decide_eq_false_iff_not]; omega
  have d2 : decide (65 ≤ c) = true := by rw [decide_eq_true_eq]; omega
  have d3 : decide (c ≤ 90) = false := by rw [decide_eq_false_iff_not]; omega
  have d4 : decide (97 ≤ c) = false := by rw [decide_eq_false_iff_not]; omega
  have d5 : decide (c ≤ 122) = true := by rw [decide_eq_true_eq]; omega
  have HD := Lib.hid (show decI c = false by rw [dec_iff, decide_eq_false_iff_not]; omega)
  go_enter Tryz.func10, Tryz.ntmps10
  go_wp2_with (go_at_call 14; refine (isDecimal_no _ _ HD).mono ?_; rintro e w' ⟨rfl, rfl⟩)
  go_ret
  exact ⟨rfl, rfl⟩

set_option maxHeartbeats 1600000 in
theorem isIdent1_r5 (w : World) (c : Int) (h1 : 95 ≤ c) (h2 : c ≤ 95) : Calls Tryz.prog 10 #[.int .i64 c, .int .i64 1] w fun e w' => e = .returned (.bool true) ∧ w = w' := by
  obtain rfl : c = 95 := by omega
  clear h1 h2
  go_enter Tryz.func10, Tryz.ntmps10
  go_wp2
  go_ret
  exact ⟨rfl, rfl⟩

set_option maxHeartbeats 1600000 in
theorem isIdent1_r6 (w : World) (c : Int) (h1 : 96 ≤ c) (h2 : c ≤ 96) : Calls Tryz.prog 10 #[.int .i64 c, .int .i64 1] w fun e w' => e = .returned (.bool false) ∧ w = w' := by
  have e0 : (c == 95) = false := by rw [beq_eq_false_iff_ne]; omega
  have e1 : (c != 95) = true := by rw [bne_iff_ne]; omega
  have d0 : decide (48 ≤ c) = true := by rw [decide_eq_true_eq]; omega
  have d1 : decide (c ≤ 57) = false := by rw [decide_eq_false_iff_not]; omega
  have d2 : decide (65 ≤ c) = true := by rw [decide_eq_true_eq]; omega
  have d3 : decide (c ≤ 90) = false := by rw [decide_eq_false_iff_not]; omega
  have d4 : decide (97 ≤ c) = false := by rw [decide_eq_false_iff_not]; omega
  have d5 : decide (c ≤ 122) = true := by rw [decide_eq_true_eq]; omega
  have HD := Lib.hid (show decI c = false by rw [dec_iff, decide_eq_false_iff_not]; omega)
  go_enter Tryz.func10, Tryz.ntmps10
  go_wp2_with (go_at_call 14; refine (isDecimal_no _ _ HD).mono ?_; rintro e w' ⟨rfl, rfl⟩)
  go_ret
  exact ⟨rfl, rfl⟩

set_option maxHeartbeats 1600000 in
theorem isIdent1_r7 (w : World) (c : Int) (h1 : 97 ≤ c) (h2 : c ≤ 122) : Calls Tryz.prog 10 #[.int .i64 c, .int .i64 1] w fun e w' => e = .returned (.bool true) ∧ w = w' := by
  have e0 : (c == 95) = false := by rw [beq_eq_false_iff_ne]; omega
  have e1 : (c != 95) = true := by rw [bne_iff_ne]; omega
  have d0 : decide (48 ≤ c) = true := by rw [decide_eq_true_eq]; omega
  have d1 : decide (c ≤ 57) = false := by rw [decide_eq_false_iff_not]; omega
  have d2 : decide (65 ≤ c) = true := by rw [decide_eq_true_eq]; omega
  have d3 : decide (c ≤ 90) = false := by rw [decide_eq_false_iff_not]; omega
  have d4 : decide (97 ≤ c) = true := by rw [decide_eq_true_eq]; omega
  have d5 : decide (c ≤ 122) = true := by rw [decide_eq_true_eq]; omega
  go_enter Tryz.func10, Tryz.ntmps10
  go_wp2
  go_ret
  exact ⟨rfl, rfl⟩

set_option maxHeartbeats 1600000 in
theorem isIdent1_r8 (w : World) (c : Int) (h1 : 123 ≤ c) : Calls Tryz.prog 10 #[.int .i64 c, .int .i64 1] w fun e w' => e = .returned (.bool false) ∧ w = w' := by
  have e0 : (c == 95) = false := by rw [beq_eq_false_iff_ne]; omega
  have e1 : (c != 95) = true := by rw [bne_iff_ne]; omega
  have d0 : decide (48 ≤ c) = true := by rw [decide_eq_true_eq]; omega
  have d1 : decide (c ≤ 57) = false := by rw [decide_eq_false_iff_not]; omega
  have d2 : decide (65 ≤ c) = true := by rw [decide_eq_true_eq]; omega
  have d3 : decide (c ≤ 90) = false := by rw [decide_eq_false_iff_not]; omega
  have d4 : decide (97 ≤ c) = true := by rw [decide_eq_true_eq]; omega
  have d5 : decide (c ≤ 122) = false := by rw [decide_eq_false_iff_not]; omega
  have HD := Lib.hid (show decI c = false by rw [dec_iff, decide_eq_false_iff_not]; omega)
  go_enter Tryz.func10, Tryz.ntmps10
  go_wp2_with (go_at_call 14; refine (isDecimal_no _ _ HD).mono ?_; rintro e w' ⟨rfl, rfl⟩)
  go_ret
  exact ⟨rfl, rfl⟩

theorem isIdent1_any (w : World) (c : Int) : Calls Tryz.prog 10 #[.int .i64 c, .int .i64 1] w fun e w' => e = .returned (.bool (identI c)) ∧ w = w' := by
  by_cases g0 : c ≤ 47
  · rw [show identI c = false by simp [identI, identI, identS, decI, hexI]; omega]; exact isIdent1_r0 w c (by omega)
  by_cases g1 : c ≤ 57
  · rw [show identI c = true by simp [identI, identI, identS, decI, hexI]; omega]; exact isIdent1_r1 w c (by omega) (by omega)
  by_cases g2 : c ≤ 64
  · rw [show identI c = false by simp [identI, identI, identS, decI, hexI]; omega]; exact isIdent1_r2 w c (by omega) (by omega)
  by_cases g3 : c ≤ 90
  · rw [show identI c = true by simp [identI, identI, identS, decI, hexI]; omega]; exact isIdent1_r3 w c (by omega) (by omega)
  by_cases g4 : c ≤ 94
  · rw [show identI c = false by simp [identI, identI, identS, decI, hexI]; omega]; exact isIdent1_r4 w c (by omega) (by omega)
  by_cases g5 : c ≤ 95
  · rw [show identI c = true by simp [identI, identI, identS, decI, hexI]; omega]; exact isIdent1_r5 w c (by omega) (by omega)
  by_cases g6 : c ≤ 96
  · rw [show identI c = false by simp [identI, identI, identS, decI, hexI]; omega]; exact isIdent1_r6 w c (by omega) (by omega)
  by_cases g7 : c ≤ 122
  · rw [show identI c = true by simp [identI, identI, identS, decI, hexI]; omega]; exact isIdent1_r7 w c (by omega) (by omega)
  rw [show identI c = false by simp [identI, identI, identS, decI, hexI]; omega]; exact isIdent1_r8 w c (by omega)
theorem isIdent1_yes (w : World) (c : Int) (h : Hid (identI c = true)) : Calls Tryz.prog 10 #[.int .i64 c, .int .i64 1] w fun e w' => e = .returned (.bool true) ∧ w = w' := by
  have := isIdent1_any w c; rw [h.out] at this; exact this
theorem isIdent1_no (w : World) (c : Int) (h : Hid (identI c = false)) : Calls Tryz.prog 10 #[.int .i64 c, .int .i64 1] w fun e w' => e = .returned (.bool false) ∧ w = w' := by
  have := isIdent1_any w c; rw [h.out] at this; exact this

set_option maxHeartbeats 1600000 in
theorem isDigit_r0 (w : World) (c : Int) (h2 : c ≤ 47) : Calls Tryz.prog 37 #[.int .i64 c] w fun e w' => e = .returned (.bool false) ∧ w = w' := by
  have d0 : decide (48 ≤ c) = false := by rw [decide_eq_false_iff_not]; omega
  have d1 : decide (c ≤ 57) = true := by rw [decide_eq_true_eq]; omega
  have d2 : decide (65 ≤ c) = false := by rw [decide_eq_false_iff_not]; omega
  have d3 : decide (c ≤ 70) = true := by rw [decide_eq_true_eq]; omega
  have d4 : decide (97 ≤ c) = false := by rw [decide_eq_false_iff_not]; omega
  have d5 : decide (c ≤ 102) = true := by rw [decide_eq_true_eq]; omega
  go_enter Tryz.func37, Tryz.ntmps37
  go_wp2
  go_ret
  exact ⟨rfl, rfl⟩

set_option maxHeartbeats 1600000 in
theorem isDigit_r1 (w : World) (c : Int) (h1 : 48 ≤ c) (h2 : c ≤ 57) : Calls Tryz.prog 37 #[.int .i64 c] w fun e w' => e = .returned (.bool true) ∧ w = w' := by
  have d0 : decide (48 ≤ c) = true := by rw [decide_eq_true_eq]; omega
  have d1 : decide (c ≤ 57) = true := by rw [decide_eq_true_eq]; omega
  have d2 : decide (65 ≤ c) = false := by rw [decide_eq_false_iff_not]; omega
  have d3 : decide (c ≤ 70) = true := by rw [decide_eq_true_eq]; omega
  have d4 : decide (97 ≤ c) = false := by rw [decide_eq_false_iff_not]; omega
  have d5 : decide (c ≤ 102) = true := by rw [decide_eq_true_eq]; omega
  go_enter Tryz.func37, Tryz.ntmps37
  go_wp2
  go_ret
  exact ⟨rfl, rfl⟩

set_option maxHeartbeats 1600000 in
theorem isDigit_r2 (w : World) (c : Int) (h1 : 58 ≤ c) (h2 : c ≤ 64) : Calls Tryz.prog 37 #[.int .i64 c] w fun e w' => e = .returned (.bool false) ∧ w = w' := by
  have d0 : decide (48 ≤ c) = true := by rw [decide_eq_true_eq]; omega
  have d1 : decide (c ≤ 57) = false := by rw [decide_eq_false_iff_not]; omega
  have d2 : decide (65 ≤ c) = false := by rw [decide_eq_false_iff_not]; omega
  have d3 : decide (c ≤ 70) = true := by rw [decide_eq_true_eq]; omega
  have d4 : decide (97 ≤ c) = false := by rw [decide_eq_false_iff_not]; omega
  have d5 : decide (c ≤ 102) = true := by rw [decide_eq_true_eq]; omega
  go_enter Tryz.func37, Tryz.ntmps37
  go_wp2
  go_ret
  exact ⟨rfl, rfl⟩

set_option maxHeartbeats 1600000 in
theorem isDigit_r3 (w : World) (c : Int) (h1 : 65 ≤ c) (h2 : c ≤ 70) : Calls Tryz.prog 37 #[.int .i64 c] w fun e w' => e = .returned (.bool true) ∧ w = w' := by
  have d0 : decide (48 ≤ c) = true := by rw [decide_eq_true_eq]; omega
  have d1 : decide (c ≤ 57) = false := by rw [decide_eq_false_iff_not]; omega
  have d2 : decide (65 ≤ c) = true := by rw [decide_eq_true_eq]; omega
  have d3 : decide (c ≤ 70) = true := by rw [decide_eq_true_eq]; omega
  have d4 : decide (97 ≤ c) = false := by rw [decide_eq_false_iff_not]; omega
  have d5 : decide (c ≤ 102) = true := by rw [decide_eq_true_eq]; omega
  go_enter Tryz.func37, Tryz.ntmps37
  go_wp2
  go_ret
  exact ⟨rfl, rfl⟩

set_option maxHeartbeats 1600000 in
theorem isDigit_r4 (w : World) (c : Int) (h1 : 71 ≤ c) (h2 : c ≤ 96) : Calls Tryz.prog 37 #[.int .i64 c] w fun e w' => e = .returned (.bool false) ∧ w = w' := by
  have d0 : decide (48 ≤ c) = true := by rw [decide_eq_true_eq]; omega
  have d1 : decide (c ≤ 57) = false := by rw [decide_eq_false_iff_not]; omega
  have d2 : decide (65 ≤ c) = true := by rw [decide_eq_true_eq]; omega
  have d3 : decide (c ≤ 70) = false := by rw [decide_eq_false_iff_not]; omega
  have d4 : decide (97 ≤ c) = false := by rw [decide_eq_false_iff_not]; omega
  have d5 : decide (c ≤ 102) = true := by rw [decide_eq_true_eq]; omega
  go_enter Tryz.func37, Tryz.ntmps37
  go_wp2
  go_ret
  exact ⟨rfl, rfl⟩

set_option maxHeartbeats 1600000 in
theorem isDigit_r5 (w : World) (c : Int) (h1 : 97 ≤ c) (h2 : c ≤ 102) : Calls Tryz.prog 37 #[.int .i64 c] w fun e w' => e = .returned (.bool true) ∧ w = w' := by
  have d0 : decide (48 ≤ c) = true := by rw [decide_eq_true_eq]; omega
  have d1 : decide (c ≤ 57) = false := by rw [decide_eq_false_iff_not]; omega
  have d2 : decide (65 ≤ c) = true := by rw [decide_eq_true_eq]; omega
  have d3 : decide (c ≤ 70) = false := by rw [decide_eq_false_iff_not]; omega
  have d4 : decide (97 ≤ c) = true := by rw [decide_eq_true_eq]; omega
  have d5 : decide (c ≤ 102) = true := by rw [decide_eq_true_eq]; omega
  go_enter Tryz.func37, Tryz.ntmps37
  go_wp2
  go_ret
  exact ⟨rfl, rfl⟩

set_option maxHeartbeats 1600000 in
theorem isDigit_r6 (w : World) (c : Int) (h1 : 103 ≤ c) : Calls Tryz.prog 37 #[.int .i64 c] w fun e w' => e = .returned (.bool false) ∧ w = w' := by
  have d0 : decide (48 ≤ c) = true := by rw [decide_eq_true_eq]; omega
  have d1 : decide (c ≤ 57) = false := by rw [decide_eq_false_iff_not]; omega
  have d2 : decide (65 ≤ c) = true := by rw [decide_eq_true_eq]; omega
  have d3 : decide (c ≤ 70) = false := by rw [decide_eq_false_iff_not]; omega
  have d4 : decide (97 ≤ c) = true := by rw [decide_eq_true_eq]; omega
  have d5 : decide (c ≤ 102) = false := by rw [decide_eq_false_iff_not]; omega
  go_enter Tryz.func37, Tryz.ntmps37
  go_wp2
  go_ret
  exact ⟨rfl, rfl⟩

theorem isDigit_any (w : World) (c : Int) : Calls Tryz.prog 37 #[.int .i64 c] w fun e w' => e = .returned (.bool (hexI c)) ∧ w = w' := by
  by_cases g0 : c ≤ 47
  · rw [show hexI c = false by simp [hexI, identI, identS, decI, hexI]; omega]; exact isDigit_r0 w c (by omega)
  by_cases g1 : c ≤ 57
  · rw [show hexI c = true by simp [hexI, identI, identS, decI, hexI]; omega]; exact isDigit_r1 w c (by omega) (by omega)
  by_cases g2 : c ≤ 64
  · rw [show hexI c = false by simp [hexI, identI, identS, decI, hexI]; omega]; exact isDigit_r2 w c (by omega) (by omega)
  by_cases g3 : c ≤ 70
  · rw [show hexI c = true by simp [hexI, identI, identS, decI, hexI]; omega]; exact isDigit_r3 w c (by omega) (by omega)
  by_cases g4 : c ≤ 96
  · rw [show hexI c = false by simp [hexI, identI, identS, decI, hexI]; omega]; exact isDigit_r4 w c (by omega) (by omega)
  by_cases g5 : c ≤ 102
  · rw [show hexI c = true by simp [hexI, identI, identS, decI, hexI]; omega]; exact isDigit_r5 w c (by omega) (by omega)
  rw [show hexI c = false by simp [hexI, identI, identS, decI, hexI]; omega]; exact isDigit_r6 w c (by omega)
theorem isDigit_yes (w : World) (c : Int) (h : Hid (hexI c = true)) : Calls Tryz.prog 37 #[.int .i64 c] w fun e w' => e = .returned (.bool true) ∧ w = w' := by
  have := isDigit_any w c; rw [h.out] at this; exact this
theorem isDigit_no (w : World) (c : Int) (h : Hid (hexI c = false)) : Calls Tryz.prog 37 #[.int .i64 c] w fun e w' => e = .returned (.bool false) ∧ w = w' := by
  have := isDigit_any w c; rw [h.out] at this; exact this

end Go.Proofs.YtgiklkapedlckaaGreatDoor
