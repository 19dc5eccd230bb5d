/- b4IsLetter, b4IsDec, walked. -/
import Derived.Test.YtpjnggpjcbojcaaDoorCls
namespace Go.Proofs.YtpjnggpjcbojcaaDoor
open Go.RowKit

set_option maxRecDepth 100000 in
set_option maxHeartbeats 1600000 in
theorem isLet_r0 (w : World) (c : UInt8) (h2 : (c.toNat : Int) ≤ 64) : Calls Tryd.prog 16 #[.int .u8 c.toNat] w fun e w' => e = .returned (.bool false) ∧ w = w' := by
  have hc0 : (0 : Int) ≤ (c.toNat : Int) := by omega
  have hc1 : (c.toNat : Int) ≤ 255 := by have := c.toNat_lt; omega
  have e95 : ((c.toNat : Int) == 95) = false := by rw [beq_eq_false_iff_ne]; omega
  have d2 : decide (65 ≤ (c.toNat : Int)) = false := by rw [decide_eq_false_iff_not]; omega
  have d3 : decide ((c.toNat : Int) ≤ 90) = true := by rw [decide_eq_true_eq]; omega
  have d4 : decide (97 ≤ (c.toNat : Int)) = false := by rw [decide_eq_false_iff_not]; omega
  have d5 : decide ((c.toNat : Int) ≤ 122) = true := by rw [decide_eq_true_eq]; omega
  go_enter Tryd.func16, Tryd.ntmps16
  go_wp2
  go_ret
  exact ⟨rfl, rfl⟩

set_option maxRecDepth 100000 in
set_option maxHeartbeats 1600000 in
theorem isLet_r1 (w : World) (c : UInt8) (h1 : 65 ≤ (c.toNat : Int)) (h2 : (c.toNat : Int) ≤ 90) : Calls Tryd.prog 16 #[.int .u8 c.toNat] w fun e w' => e = .returned (.bool true) ∧ w = w' := by
  have hc0 : (0 : Int) ≤ (c.toNat : Int) := by omega
  have hc1 : (c.toNat : Int) ≤ 255 := by have := c.toNat_lt; omega
  have e95 : ((c.toNat : Int) == 95) = false := by rw [beq_eq_false_iff_ne]; omega
  have d0 : decide (48 ≤ (c.toNat : Int)) = true := by rw [decide_eq_true_eq]; omega
  have d1 : decide ((c.toNat : Int) ≤ 57) = false := by rw [decide_eq_false_iff_not]; omega
  have d2 : decide (65 ≤ (c.toNat : Int)) = true := by rw [decide_eq_true_eq]; omega
  have d3 : decide ((c.toNat : Int) ≤ 90) = true := by rw [decide_eq_true_eq]; omega
  have d4 : decide (97 ≤ (c.toNat : Int)) = false := by rw [decide_eq_false_iff_not]; omega
  have d5 : decide ((c.toNat : Int) ≤ 122) = true := by rw [decide_eq_true_eq]; omega
  go_enter Tryd.func16, Tryd.ntmps16
  go_wp2
  go_ret
  exact ⟨rfl, rfl⟩

set_option maxRecDepth 100000 in
set_option maxHeartbeats 1600000 in
theorem isLet_r2 (w : World) (c : UInt8) (h1 : 91 ≤ (c.toNat : Int)) (h2 : (c.toNat : Int) ≤ 94) : Calls Tryd.prog 16 #[.int .u8 c.toNat] w fun e w' => e = .returned (.bool false) ∧ w = w' := by
  have hc0 : (0 : Int) ≤ (c.toNat : Int) := by omega
  have hc1 : (c.toNat : Int) ≤ 255 := by have := c.toNat_lt; omega
  have e95 : ((c.toNat : Int) == 95) = false := by rw [beq_eq_false_iff_ne]; omega
  have d0 : decide (48 ≤ (c.toNat : Int)) = true := by rw [decide_eq_true_eq]; omega
  have d1 : decide ((c.toNat : Int) ≤ 57) = false := by rw [decide_eq_false_iff_not]; omega
  have d2 : decide (65 ≤ (c.toNat : Int)) = true := by rw [decide_eq_true_eq]; omega
  have d3 : decide ((c.toNat : Int) ≤ 90) = false := by rw [decide_eq_false_iff_not]; omega
  have d4 : decide (97 ≤ (c.toNat : Int)) = false := by rw [decide_eq_false_iff_not]; omega
  have d5 : decide ((c.toNat : Int) ≤ 122) = true := by rw [decide_eq_true_eq]; omega
  go_enter Tryd.func16, Tryd.ntmps16
  go_wp2
  go_ret
  exact ⟨rfl, rfl⟩

set_option maxRecDepth 100000 in
set_option maxHeartbeats 1600000 in
theorem isLet_r3 (w : World) (c : UInt8) (h1 : 95 ≤ (c.toNat : Int)) (h2 : (c.toNat : Int) ≤ 95) : Calls Tryd.prog 16 #[.int .u8 c.toNat] w fun e w' => e = .returned (.bool true) ∧ w = w' := by
  have hc0 : (0 : Int) ≤ (c.toNat : Int) := by omega
  have hc1 : (c.toNat : Int) ≤ 255 := by have := c.toNat_lt; omega
  have e95 : ((c.toNat : Int) == 95) = true := by rw [beq_iff_eq]; omega
  have d0 : decide (48 ≤ (c.toNat : Int)) = true := by rw [decide_eq_true_eq]; omega
  have d1 : decide ((c.toNat : Int) ≤ 57) = false := by rw [decide_eq_false_iff_not]; omega
  have d2 : decide (65 ≤ (c.toNat : Int)) = true := by rw [decide_eq_true_eq]; omega
  have d3 : decide ((c.toNat : Int) ≤ 90) = false := by rw [decide_eq_false_iff_not]; omega
  have d4 : decide (97 ≤ (c.toNat : Int)) = false := by rw [decide_eq_false_iff_not]; omega
  have d5 : decide ((c.toNat : Int) ≤ 122) = true := by rw [decide_eq_true_eq]; omega
  go_enter Tryd.func16, Tryd.ntmps16
  go_wp2
  go_ret
  exact ⟨rfl, rfl⟩

set_option maxRecDepth 100000 in
set_option maxHeartbeats 1600000 in
theorem isLet_r4 (w : World) (c : UInt8) (h1 : 96 ≤ (c.toNat : Int)) (h2 : (c.toNat : Int) ≤ 96) : Calls Tryd.prog 16 #[.int .u8 c.toNat] w fun e w' => e = .returned (.bool false) ∧ w = w' := by
  have hc0 : (0 : Int) ≤ (c.toNat : Int) := by omega
  have hc1 : (c.toNat : Int) ≤ 255 := by have := c.toNat_lt; omega
  have e95 : ((c.toNat : Int) == 95) = false := by rw [beq_eq_false_iff_ne]; omega
  have d0 : decide (48 ≤ (c.toNat : Int)) = true := by rw [decide_eq_true_eq]; omega
  have d1 : decide ((c.toNat : Int) ≤ 57) = false := by rw [decide_eq_false_iff_not]; omega
  have d2 : decide (65 ≤ (c.toNat : Int)) = true := by rw [decide_eq_true_eq]; omega
  have d3 : decide ((c.toNat : Int) ≤ 90) = false := by rw [decide_eq_false_iff_not]; omega
  have d4 : decide (97 ≤ (c.toNat : Int)) = false := by rw [decide_eq_false_iff_not]; omega
  have d5 : decide ((c.toNat : Int) ≤ 122) = true := by rw [decide_eq_true_eq]; omega
  go_enter Tryd.func16, Tryd.ntmps16
  go_wp2
  go_ret
  exact ⟨rfl, rfl⟩

set_option maxRecDepth 100000 in
set_option maxHeartbeats 1600000 in
theorem isLet_r5 (w : World) (c : UInt8) (h1 : 97 ≤ (c.toNat : Int)) (h2 : (c.toNat : Int) ≤ 122) : Calls Tryd.prog 16 #[.int .u8 c.toNat] w fun e w' => e = .returned (.bool true) ∧ w = w' := by
  have hc0 : (0 : Int) ≤ (c.toNat : Int) := by omega
  have hc1 : (c.toNat : Int) ≤ 255 := by have := c.toNat_lt; omega
  have e95 : ((c.toNat : Int) == 95) = false := by rw [beq_eq_false_iff_ne]; omega
  have d0 : decide (48 ≤ (c.toNat : Int)) = true := by rw [decide_eq_true_eq]; omega
  have d1 : decide ((c.toNat : Int) ≤ 57) = false := by rw [decide_eq_false_iff_not]; omega
  have d2 : decide (65 ≤ (c.toNat : Int)) = true := by rw [decide_eq_true_eq]; omega
  have d3 : decide ((c.toNat : Int) ≤ 90) = false := by rw [decide_eq_false_iff_not]; omega
  have d4 : decide (97 ≤ (c.toNat : Int)) = true := by rw [decide_eq_true_eq]; omega
  have d5 : decide ((c.toNat : Int) ≤ 122) = true := by rw [decide_eq_true_eq]; omega
  go_enter Tryd.func16, Tryd.ntmps16
  go_wp2
  go_ret
  exact ⟨rfl, rfl⟩

set_option maxRecDepth 100000 in
set_option maxHeartbeats 1600000 in
theorem isLet_r6 (w : World) (c : UInt8) (h1 : 123 ≤ (c.toNat : Int)) : Calls Tryd.prog 16 #[.int .u8 c.toNat] w fun e w' => e = .returned (.bool false) ∧ w = w' := by
  have hc0 : (0 : Int) ≤ (c.toNat : Int) := by omega
  have hc1 : (c.toNat : Int) ≤ 255 := by have := c.toNat_lt; omega
  have e95 : ((c.toNat : Int) == 95) = false := by rw [beq_eq_false_iff_ne]; omega
  have d0 : decide (48 ≤ (c.toNat : Int)) = true := by rw [decide_eq_true_eq]; omega
  have d1 : decide ((c.toNat : Int) ≤ 57) = false := by rw [decide_eq_false_iff_not]; omega
  have d2 : decide (65 ≤ (c.toNat : Int)) = true := by rw [decide_eq_true_eq]; omega
  have d3 : decide ((c.toNat : Int) ≤ 90) = false := by rw [decide_eq_false_iff_not]; omega
  have d4 : decide (97 ≤ (c.toNat : Int)) = true := by rw [decide_eq_true_eq]; omega
  have d5 : decide ((c.toNat : Int) ≤ 122) = false := by rw [decide_eq_false_iff_not]; omega
  go_enter Tryd.func16, Tryd.ntmps16
  go_wp2
  go_ret
  exact ⟨rfl, rfl⟩

theorem isLet_any (w : World) (c : UInt8) : Calls Tryd.prog 16 #[.int .u8 c.toNat] w fun e w' => e = .returned (.bool (identS c.toNat)) ∧ w = w' := by
  by_cases g0 : (c.toNat : Int) ≤ 64
  · rw [show identS c.toNat = false by simp [identS, identI, identS, decI]; omega]; exact isLet_r0 w c (by omega)
  by_cases g1 : (c.toNat : Int) ≤ 90
  · rw [show identS c.toNat = true by simp [identS, identI, identS, decI]; omega]; exact isLet_r1 w c (by omega) (by omega)
  by_cases g2 : (c.toNat : Int) ≤ 94
  · rw [show identS c.toNat = false by simp [identS, identI, identS, decI]; omega]; exact isLet_r2 w c (by omega) (by omega)
  by_cases g3 : (c.toNat : Int) ≤ 95
  · rw [show identS c.toNat = true by simp [identS, identI, identS, decI]; omega]; exact isLet_r3 w c (by omega) (by omega)
  by_cases g4 : (c.toNat : Int) ≤ 96
  · rw [show identS c.toNat = false by simp [identS, identI, identS, decI]; omega]; exact isLet_r4 w c (by omega) (by omega)
  by_cases g5 : (c.toNat : Int) ≤ 122
  · rw [show identS c.toNat = true by simp [identS, identI, identS, decI]; omega]; exact isLet_r5 w c (by omega) (by omega)
  rw [show identS c.toNat = false by simp [identS, identI, identS, decI]; omega]; exact isLet_r6 w c (by omega)
theorem isLet_yes (w : World) (c : UInt8) (h : Hid (identS c.toNat = true)) : Calls Tryd.prog 16 #[.int .u8 c.toNat] w fun e w' => e = .returned (.bool true) ∧ w = w' := by
  have := isLet_any w c; rw [h.out] at this; exact this
theorem isLet_no (w : World) (c : UInt8) (h : Hid (identS c.toNat = false)) : Calls Tryd.prog 16 #[.int .u8 c.toNat] w fun e w' => e = .returned (.bool false) ∧ w = w' := by
  have := isLet_any w c; rw [h.out] at this; exact this

set_option maxRecDepth 100000 in
set_option maxHeartbeats 1600000 in
theorem isDec4_r0 (w : World) (c : UInt8) (h2 : (c.toNat : Int) ≤ 47) : Calls Tryd.prog 20 #[.int .u8 c.toNat] w fun e w' => e = .returned (.bool false) ∧ w = w' := by
  have hc0 : (0 : Int) ≤ (c.toNat : Int) := by omega
  have hc1 : (c.toNat : Int) ≤ 255 := by have := c.toNat_lt; omega
  have e95 : ((c.toNat : Int) == 95) = false := by rw [beq_eq_false_iff_ne]; omega
  have d0 : decide (48 ≤ (c.toNat : Int)) = false := by rw [decide_eq_false_iff_not]; omega
  have d1 : decide ((c.toNat : Int) ≤ 57) = true := by rw [decide_eq_true_eq]; omega
  have d2 : decide (65 ≤ (c.toNat : Int)) = false := by rw [decide_eq_false_iff_not]; omega
  have d3 : decide ((c.toNat : Int) ≤ 90) = true := by rw [decide_eq_true_eq]; omega
  have d4 : decide (97 ≤ (c.toNat : Int)) = false := by rw [decide_eq_false_iff_not]; omega
  have d5 : decide ((c.toNat : Int) ≤ 122) = true := by rw [decide_eq_true_eq]; omega
  go_enter Tryd.func20, Tryd.ntmps20
  go_wp2
  go_ret
  exact ⟨rfl, rfl⟩

set_option maxRecDepth 100000 in
set_option maxHeartbeats 1600000 in
theorem isDec4_r1 (w : World) (c : UInt8) (h1 : 48 ≤ (c.toNat : Int)) (h2 : (c.toNat : Int) ≤ 57) : Calls Tryd.prog 20 #[.int .u8 c.toNat] w fun e w' => e = .returned (.bool true) ∧ w = w' := by
  have hc0 : (0 : Int) ≤ (c.toNat : Int) := by omega
  have hc1 : (c.toNat : Int) ≤ 255 := by have := c.toNat_lt; omega
  have e95 : ((c.toNat : Int) == 95) = false := by rw [beq_eq_false_iff_ne]; omega
  have d0 : decide (48 ≤ (c.toNat : Int)) = true := by rw [decide_eq_true_eq]; omega
  have d1 : decide ((c.toNat : Int) ≤ 57) = true := by rw [decide_eq_true_eq]; omega
  have d2 : decide (65 ≤ (c.toNat : Int)) = false := by rw [decide_eq_false_iff_not]; omega
  have d3 : decide ((c.toNat : Int) ≤ 90) = true := by rw [decide_eq_true_eq]; omega
  have d4 : decide (97 ≤ (c.toNat : Int)) = false := by rw [decide_eq_false_iff_not]; omega
  have d5 : decide ((c.toNat : Int) ≤ 122) = true := by rw [decide_eq_true_eq]; omega
  go_enter Tryd.func20, Tryd.ntmps20
  go_wp2
  go_ret
  exact ⟨rfl, rfl⟩

set_option maxRecDepth 100000 in
set_option maxHeartbeats 1600000 in
theorem isDec4_r2 (w : World) (c : UInt8) (h1 : 58 ≤ (c.toNat : Int)) : Calls Tryd.prog 20 #[.int .u8 c.toNat] w fun e w' => e = .returned (.bool false) ∧ w = w' := by
  have hc0 : (0 : Int) ≤ (c.toNat : Int) := by omega
  have hc1 : (c.toNat : Int) ≤ 255 := by have := c.toNat_lt; omega
  have d0 : decide (48 ≤ (c.toNat : Int)) = true := by rw [decide_eq_true_eq]; omega
  have d1 : decide ((c.toNat : Int) ≤ 57) = false := by rw [decide_eq_false_iff_not]; omega
  go_enter Tryd.func20, Tryd.ntmps20
  go_wp2
  go_ret
  exact ⟨rfl, rfl⟩

theorem isDec4_any (w : World) (c : UInt8) : Calls Tryd.prog 20 #[.int .u8 c.toNat] w fun e w' => e = .returned (.bool (decI c.toNat)) ∧ w = w' := by
  by_cases g0 : (c.toNat : Int) ≤ 47
  · rw [show decI c.toNat = false by rw [dec_iff, decide_eq_false_iff_not]; omega]; exact isDec4_r0 w c (by omega)
  by_cases g1 : (c.toNat : Int) ≤ 57
  · rw [show decI c.toNat = true by rw [dec_iff, decide_eq_true_eq]; omega]; exact isDec4_r1 w c (by omega) (by omega)
  rw [show decI c.toNat = false by rw [dec_iff, decide_eq_false_iff_not]; omega]; exact isDec4_r2 w c (by omega)
theorem isDec4_yes (w : World) (c : UInt8) (h : Hid (decI c.toNat = true)) : Calls Tryd.prog 20 #[.int .u8 c.toNat] w fun e w' => e = .returned (.bool true) ∧ w = w' := by
  have := isDec4_any w c; rw [h.out] at this; exact this
theorem isDec4_no (w : World) (c : UInt8) (h : Hid (decI c.toNat = false)) : Calls Tryd.prog 20 #[.int .u8 c.toNat] w fun e w' => e = .returned (.bool false) ∧ w = w' := by
  have := isDec4_any w c; rw [h.out] at this; exact this

end Go.Proofs.YtpjnggpjcbojcaaDoor
