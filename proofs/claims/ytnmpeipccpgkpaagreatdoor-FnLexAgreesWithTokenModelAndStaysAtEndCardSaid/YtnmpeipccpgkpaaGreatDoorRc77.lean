/- The reference's classes of characters and its keywords, walked. -/
import Derived.Test.YtnmpeipccpgkpaaGreatDoorCls
import Derived.Test.YtnmpeipccpgkpaaGreatDoorScM
namespace Go.Proofs.YtnmpeipccpgkpaaGreatDoor
open Go.RowKit

set_option maxRecDepth 100000 in
set_option maxHeartbeats 1600000 in
theorem rdec_r0 (w : World) (c : Int) (h2 : c ≤ 47) : Calls Tryz.prog 20 #[.int .i64 c] w fun e w' => e = .returned (.bool false) ∧ w = w' := by
  have d0 : decide (48 ≤ c) = false := by rw [decide_eq_false_iff_not]; omega
  have d1 : decide (c ≤ 57) = true := by rw [decide_eq_true_eq]; omega
  go_enter Tryz.func20, Tryz.ntmps20
  go_wp2
  go_ret
  exact ⟨rfl, rfl⟩

set_option maxRecDepth 100000 in
set_option maxHeartbeats 1600000 in
theorem rdec_r1 (w : World) (c : Int) (h1 : 48 ≤ c) (h2 : c ≤ 57) : Calls Tryz.prog 20 #[.int .i64 c] w fun e w' => e = .returned (.bool true) ∧ w = w' := by
  have d0 : decide (48 ≤ c) = true := by rw [decide_eq_true_eq]; omega
  have d1 : decide (c ≤ 57) = true := by rw [decide_eq_true_eq]; omega
  go_enter Tryz.func20, Tryz.ntmps20
  go_wp2
  go_ret
  exact ⟨rfl, rfl⟩

set_option maxRecDepth 100000 in
set_option maxHeartbeats 1600000 in
theorem rdec_r2 (w : World) (c : Int) (h1 : 58 ≤ c) : Calls Tryz.prog 20 #[.int .i64 c] w fun e w' => e = .returned (.bool false) ∧ w = w' := by
  have d0 : decide (48 ≤ c) = true := by rw [decide_eq_true_eq]; omega
  have d1 : decide (c ≤ 57) = false := by rw [decide_eq_false_iff_not]; omega
  go_enter Tryz.func20, Tryz.ntmps20
  go_wp2
  go_ret
  exact ⟨rfl, rfl⟩

theorem rdec_any (w : World) (c : Int) : Calls Tryz.prog 20 #[.int .i64 c] w fun e w' => e = .returned (.bool (decI c)) ∧ w = w' := by
  by_cases g0 : c ≤ 47
  · rw [show decI c = false by simp [decI, identS, decI, hexI]; omega]; exact rdec_r0 w c (by omega)
  by_cases g1 : c ≤ 57
  · rw [show decI c = true by simp [decI, identS, decI, hexI]; omega]; exact rdec_r1 w c (by omega) (by omega)
  rw [show decI c = false by simp [decI, identS, decI, hexI]; omega]; exact rdec_r2 w c (by omega)
theorem rdec_true (w : World) (c : Int) (h : decI c = true) : Calls Tryz.prog 20 #[.int .i64 c] w fun e w' => e = .returned (.bool true) ∧ w = w' := h ▸ rdec_any w c
theorem rdec_false (w : World) (c : Int) (h : decI c = false) : Calls Tryz.prog 20 #[.int .i64 c] w fun e w' => e = .returned (.bool false) ∧ w = w' := h ▸ rdec_any w c

set_option maxRecDepth 100000 in
set_option maxHeartbeats 1600000 in
theorem rstart_r0 (w : World) (c : Int) (h2 : c ≤ 64) : Calls Tryz.prog 17 #[.int .i64 c] w fun e w' => e = .returned (.bool false) ∧ w = w' := by
  have e95 : (c == 95) = false := by rw [beq_eq_false_iff_ne]; omega
  have d0 : decide (65 ≤ c) = false := by rw [decide_eq_false_iff_not]; omega
  have d1 : decide (c ≤ 90) = true := by rw [decide_eq_true_eq]; omega
  have d2 : decide (97 ≤ c) = false := by rw [decide_eq_false_iff_not]; omega
  have d3 : decide (c ≤ 122) = true := by rw [decide_eq_true_eq]; omega
  go_enter Tryz.func17, Tryz.ntmps17
  go_wp2
  go_ret
  exact ⟨rfl, rfl⟩

set_option maxRecDepth 100000 in
set_option maxHeartbeats 1600000 in
theorem rstart_r1 (w : World) (c : Int) (h1 : 65 ≤ c) (h2 : c ≤ 90) : Calls Tryz.prog 17 #[.int .i64 c] w fun e w' => e = .returned (.bool true) ∧ w = w' := by
  have e95 : (c == 95) = false := by rw [beq_eq_false_iff_ne]; omega
  have d0 : decide (65 ≤ c) = true := by rw [decide_eq_true_eq]; omega
  have d1 : decide (c ≤ 90) = true := by rw [decide_eq_true_eq]; omega
  have d2 : decide (97 ≤ c) = false := by rw [decide_eq_false_iff_not]; omega
  have d3 : decide (c ≤ 122) = true := by rw [decide_eq_true_eq]; omega
  go_enter Tryz.func17, Tryz.ntmps17
  go_wp2
  go_ret
  exact ⟨rfl, rfl⟩

set_option maxRecDepth 100000 in
set_option maxHeartbeats 1600000 in
theorem rstart_r2 (w : World) (c : Int) (h1 : 91 ≤ c) (h2 : c ≤ 94) : Calls Tryz.prog 17 #[.int .i64 c] w fun e w' => e = .returned (.bool false) ∧ w = w' := by
  have e95 : (c == 95) = false := by rw [beq_eq_false_iff_ne]; omega
  have d0 : decide (65 ≤ c) = true := by rw [decide_eq_true_eq]; omega
  have d1 : decide (c ≤ 90) = false := by rw [decide_eq_false_iff_not]; omega
  have d2 : decide (97 ≤ c) = false := by rw [decide_eq_false_iff_not]; omega
  have d3 : decide (c ≤ 122) = true := by rw [decide_eq_true_eq]; omega
  go_enter Tryz.func17, Tryz.ntmps17
  go_wp2
  go_ret
  exact ⟨rfl, rfl⟩

set_option maxRecDepth 100000 in
set_option maxHeartbeats 1600000 in
theorem rstart_r3 (w : World) (c : Int) (h1 : 95 ≤ c) (h2 : c ≤ 95) : Calls Tryz.prog 17 #[.int .i64 c] w fun e w' => e = .returned (.bool true) ∧ w = w' := by
  have e95 : (c == 95) = true := by rw [beq_iff_eq]; omega
  have d0 : decide (65 ≤ c) = true := by rw [decide_eq_true_eq]; omega
  have d1 : decide (c ≤ 90) = false := by rw [decide_eq_false_iff_not]; omega
  have d2 : decide (97 ≤ c) = false := by rw [decide_eq_false_iff_not]; omega
  have d3 : decide (c ≤ 122) = true := by rw [decide_eq_true_eq]; omega
  go_enter Tryz.func17, Tryz.ntmps17
  go_wp2
  go_ret
  exact ⟨rfl, rfl⟩

set_option maxRecDepth 100000 in
set_option maxHeartbeats 1600000 in
theorem rstart_r4 (w : World) (c : Int) (h1 : 96 ≤ c) (h2 : c ≤ 96) : Calls Tryz.prog 17 #[.int .i64 c] w fun e w' => e = .returned (.bool false) ∧ w = w' := by
  have e95 : (c == 95) = false := by rw [beq_eq_false_iff_ne]; omega
  have d0 : decide (65 ≤ c) = true := by rw [decide_eq_true_eq]; omega
  have d1 : decide (c ≤ 90) = false := by rw [decide_eq_false_iff_not]; omega
  have d2 : decide (97 ≤ c) = false := by rw [decide_eq_false_iff_not]; omega
  have d3 : decide (c ≤ 122) = true := by rw [decide_eq_true_eq]; omega
  go_enter Tryz.func17, Tryz.ntmps17
  go_wp2
  go_ret
  exact ⟨rfl, rfl⟩

set_option maxRecDepth 100000 in
set_option maxHeartbeats 1600000 in
theorem rstart_r5 (w : World) (c : Int) (h1 : 97 ≤ c) (h2 : c ≤ 122) : Calls Tryz.prog 17 #[.int .i64 c] w fun e w' => e = .returned (.bool true) ∧ w = w' := by
  have e95 : (c == 95) = false := by rw [beq_eq_false_iff_ne]; omega
  have d0 : decide (65 ≤ c) = true := by rw [decide_eq_true_eq]; omega
  have d1 : decide (c ≤ 90) = false := by rw [decide_eq_false_iff_not]; omega
  have d2 : decide (97 ≤ c) = true := by rw [decide_eq_true_eq]; omega
  have d3 : decide (c ≤ 122) = true := by rw [decide_eq_true_eq]; omega
  go_enter Tryz.func17, Tryz.ntmps17
  go_wp2
  go_ret
  exact ⟨rfl, rfl⟩

set_option maxRecDepth 100000 in
set_option maxHeartbeats 1600000 in
theorem rstart_r6 (w : World) (c : Int) (h1 : 123 ≤ c) : Calls Tryz.prog 17 #[.int .i64 c] w fun e w' => e = .returned (.bool false) ∧ w = w' := by
  have e95 : (c == 95) = false := by rw [beq_eq_false_iff_ne]; omega
  have d0 : decide (65 ≤ c) = true := by rw [decide_eq_true_eq]; omega
  have d1 : decide (c ≤ 90) = false := by rw [decide_eq_false_iff_not]; omega
  have d2 : decide (97 ≤ c) = true := by rw [decide_eq_true_eq]; omega
  have d3 : decide (c ≤ 122) = false := by rw [decide_eq_false_iff_not]; omega
  go_enter Tryz.func17, Tryz.ntmps17
  go_wp2
  go_ret
  exact ⟨rfl, rfl⟩

theorem rstart_any (w : World) (c : Int) : Calls Tryz.prog 17 #[.int .i64 c] w fun e w' => e = .returned (.bool (identS c)) ∧ w = w' := by
  by_cases g0 : c ≤ 64
  · rw [show identS c = false by simp [identS, identS, decI, hexI]; omega]; exact rstart_r0 w c (by omega)
  by_cases g1 : c ≤ 90
  · rw [show identS c = true by simp [identS, identS, decI, hexI]; omega]; exact rstart_r1 w c (by omega) (by omega)
  by_cases g2 : c ≤ 94
  · rw [show identS c = false by simp [identS, identS, decI, hexI]; omega]; exact rstart_r2 w c (by omega) (by omega)
  by_cases g3 : c ≤ 95
  · rw [show identS c = true by simp [identS, identS, decI, hexI]; omega]; exact rstart_r3 w c (by omega) (by omega)
  by_cases g4 : c ≤ 96
  · rw [show identS c = false by simp [identS, identS, decI, hexI]; omega]; exact rstart_r4 w c (by omega) (by omega)
  by_cases g5 : c ≤ 122
  · rw [show identS c = true by simp [identS, identS, decI, hexI]; omega]; exact rstart_r5 w c (by omega) (by omega)
  rw [show identS c = false by simp [identS, identS, decI, hexI]; omega]; exact rstart_r6 w c (by omega)
theorem rstart_true (w : World) (c : Int) (h : identS c = true) : Calls Tryz.prog 17 #[.int .i64 c] w fun e w' => e = .returned (.bool true) ∧ w = w' := h ▸ rstart_any w c
theorem rstart_false (w : World) (c : Int) (h : identS c = false) : Calls Tryz.prog 17 #[.int .i64 c] w fun e w' => e = .returned (.bool false) ∧ w = w' := h ▸ rstart_any w c

set_option maxRecDepth 100000 in
set_option maxHeartbeats 1600000 in
theorem rcont_0 (w : World) (c : Int) (h1 : identS c = true) : Calls Tryz.prog 18 #[.int .i64 c] w fun e w' => e = .returned (.bool true) ∧ w = w' := by
  have H1 := Lib.hid h1
  clear h1

  go_enter Tryz.func18, Tryz.ntmps18
  go_wp2_with ((go_at_call 17; refine (rstart_true _ _ H1.out).mono ?_; rintro e w' ⟨rfl, rfl⟩))
  go_ret
  exact ⟨rfl, rfl⟩

set_option maxRecDepth 100000 in
set_option maxHeartbeats 1600000 in
theorem rcont_1 (w : World) (c : Int) (h1 : identS c = false) (h2 : decI c = true) : Calls Tryz.prog 18 #[.int .i64 c] w fun e w' => e = .returned (.bool true) ∧ w = w' := by
  have H1 := Lib.hid h1
  have H2 := Lib.hid h2
  clear h1 h2
  go_enter Tryz.func18, Tryz.ntmps18
  go_wp2_with (first | (go_at_call 17; refine (rstart_false _ _ H1.out).mono ?_; rintro e w' ⟨rfl, rfl⟩) | (go_at_call 20; refine (rdec_true _ _ H2.out).mono ?_; rintro e w' ⟨rfl, rfl⟩))
  go_ret
  exact ⟨rfl, rfl⟩

set_option maxRecDepth 100000 in
set_option maxHeartbeats 1600000 in
theorem rcont_2 (w : World) (c : Int) (h1 : identS c = false) (h2 : decI c = false) : Calls Tryz.prog 18 #[.int .i64 c] w fun e w' => e = .returned (.bool false) ∧ w = w' := by
  have H1 := Lib.hid h1
  have H2 := Lib.hid h2
  clear h1 h2
  go_enter Tryz.func18, Tryz.ntmps18
  go_wp2_with (first | (go_at_call 17; refine (rstart_false _ _ H1.out).mono ?_; rintro e w' ⟨rfl, rfl⟩) | (go_at_call 20; refine (rdec_false _ _ H2.out).mono ?_; rintro e w' ⟨rfl, rfl⟩))
  go_ret
  exact ⟨rfl, rfl⟩

theorem rcont_any (w : World) (c : Int) : Calls Tryz.prog 18 #[.int .i64 c] w fun e w' => e = .returned (.bool (identI c)) ∧ w = w' := by
  cases h1 : identS c
  · cases h2 : decI c
    · rw [show identI c = false by simp [identI, h1, h2]]; exact rcont_2 w c h1 h2
    · rw [show identI c = true by simp [identI, h1, h2]]; exact rcont_1 w c h1 h2
  · rw [show identI c = true by simp [identI, h1]]; exact rcont_0 w c h1
theorem rcont_true (w : World) (c : Int) (h : identI c = true) : Calls Tryz.prog 18 #[.int .i64 c] w fun e w' => e = .returned (.bool true) ∧ w = w' := h ▸ rcont_any w c
theorem rcont_false (w : World) (c : Int) (h : identI c = false) : Calls Tryz.prog 18 #[.int .i64 c] w fun e w' => e = .returned (.bool false) ∧ w = w' := h ▸ rcont_any w c

set_option maxRecDepth 100000 in
set_option maxHeartbeats 1600000 in
theorem kw_r0 (w : World) : Calls Tryz.prog 19 #[.string ⟨([97, 110, 100] : List UInt8).toArray⟩] w fun e w' => e = .returned (.int .i64 57346) ∧ w = w' := by
  go_enter Tryz.func19, Tryz.ntmps19
  go_wp2
  go_ret
  exact ⟨rfl, rfl⟩

set_option maxRecDepth 100000 in
set_option maxHeartbeats 1600000 in
theorem kw_r1 (w : World) : Calls Tryz.prog 19 #[.string ⟨([98, 114, 101, 97, 107] : List UInt8).toArray⟩] w fun e w' => e = .returned (.int .i64 57347) ∧ w = w' := by
  go_enter Tryz.func19, Tryz.ntmps19
  go_wp2
  go_ret
  exact ⟨rfl, rfl⟩

set_option maxRecDepth 100000 in
set_option maxHeartbeats 1600000 in
theorem kw_r2 (w : World) : Calls Tryz.prog 19 #[.string ⟨([100, 111] : List UInt8).toArray⟩] w fun e w' => e = .returned (.int .i64 57348) ∧ w = w' := by
  go_enter Tryz.func19, Tryz.ntmps19
  go_wp2
  go_ret
  exact ⟨rfl, rfl⟩

set_option maxRecDepth 100000 in
set_option maxHeartbeats 1600000 in
theorem kw_r3 (w : World) : Calls Tryz.prog 19 #[.string ⟨([101, 108, 115, 101] : List UInt8).toArray⟩] w fun e w' => e = .returned (.int .i64 57349) ∧ w = w' := by
  go_enter Tryz.func19, Tryz.ntmps19
  go_wp2
  go_ret
  exact ⟨rfl, rfl⟩

set_option maxRecDepth 100000 in
set_option maxHeartbeats 1600000 in
theorem kw_r4 (w : World) : Calls Tryz.prog 19 #[.string ⟨([101, 108, 115, 101, 105, 102] : List UInt8).toArray⟩] w fun e w' => e = .returned (.int .i64 57350) ∧ w = w' := by
  go_enter Tryz.func19, Tryz.ntmps19
  go_wp2
  go_ret
  exact ⟨rfl, rfl⟩

set_option maxRecDepth 100000 in
set_option maxHeartbeats 1600000 in
theorem kw_r5 (w : World) : Calls Tryz.prog 19 #[.string ⟨([101, 110, 100] : List UInt8).toArray⟩] w fun e w' => e = .returned (.int .i64 57351) ∧ w = w' := by
  go_enter Tryz.func19, Tryz.ntmps19
  go_wp2
  go_ret
  exact ⟨rfl, rfl⟩

set_option maxRecDepth 100000 in
set_option maxHeartbeats 1600000 in
theorem kw_r6 (w : World) : Calls Tryz.prog 19 #[.string ⟨([102, 97, 108, 115, 101] : List UInt8).toArray⟩] w fun e w' => e = .returned (.int .i64 57352) ∧ w = w' := by
  go_enter Tryz.func19, Tryz.ntmps19
  go_wp2
  go_ret
  exact ⟨rfl, rfl⟩

set_option maxRecDepth 100000 in
set_option maxHeartbeats 1600000 in
theorem kw_r7 (w : World) : Calls Tryz.prog 19 #[.string ⟨([102, 111, 114] : List UInt8).toArray⟩] w fun e w' => e = .returned (.int .i64 57353) ∧ w = w' := by
  go_enter Tryz.func19, Tryz.ntmps19
  go_wp2
  go_ret
  exact ⟨rfl, rfl⟩

set_option maxRecDepth 100000 in
set_option maxHeartbeats 1600000 in
theorem kw_r8 (w : World) : Calls Tryz.prog 19 #[.string ⟨([102, 117, 110, 99, 116, 105, 111, 110] : List UInt8).toArray⟩] w fun e w' => e = .returned (.int .i64 57354) ∧ w = w' := by
  go_enter Tryz.func19, Tryz.ntmps19
  go_wp2
  go_ret
  exact ⟨rfl, rfl⟩

set_option maxRecDepth 100000 in
set_option maxHeartbeats 1600000 in
theorem kw_r9 (w : World) : Calls Tryz.prog 19 #[.string ⟨([105, 102] : List UInt8).toArray⟩] w fun e w' => e = .returned (.int .i64 57355) ∧ w = w' := by
  go_enter Tryz.func19, Tryz.ntmps19
  go_wp2
  go_ret
  exact ⟨rfl, rfl⟩

set_option maxRecDepth 100000 in
set_option maxHeartbeats 1600000 in
theorem kw_r10 (w : World) : Calls Tryz.prog 19 #[.string ⟨([105, 110] : List UInt8).toArray⟩] w fun e w' => e = .returned (.int .i64 57356) ∧ w = w' := by
  go_enter Tryz.func19, Tryz.ntmps19
  go_wp2
  go_ret
  exact ⟨rfl, rfl⟩

set_option maxRecDepth 100000 in
set_option maxHeartbeats 1600000 in
theorem kw_r11 (w : World) : Calls Tryz.prog 19 #[.string ⟨([108, 111, 99, 97, 108] : List UInt8).toArray⟩] w fun e w' => e = .returned (.int .i64 57357) ∧ w = w' := by
  go_enter Tryz.func19, Tryz.ntmps19
  go_wp2
  go_ret
  exact ⟨rfl, rfl⟩

set_option maxRecDepth 100000 in
set_option maxHeartbeats 1600000 in
theorem kw_r12 (w : World) : Calls Tryz.prog 19 #[.string ⟨([110, 105, 108] : List UInt8).toArray⟩] w fun e w' => e = .returned (.int .i64 57358) ∧ w = w' := by
  go_enter Tryz.func19, Tryz.ntmps19
  go_wp2
  go_ret
  exact ⟨rfl, rfl⟩

set_option maxRecDepth 100000 in
set_option maxHeartbeats 1600000 in
theorem kw_r13 (w : World) : Calls Tryz.prog 19 #[.string ⟨([110, 111, 116] : List UInt8).toArray⟩] w fun e w' => e = .returned (.int .i64 57359) ∧ w = w' := by
  go_enter Tryz.func19, Tryz.ntmps19
  go_wp2
  go_ret
  exact ⟨rfl, rfl⟩

set_option maxRecDepth 100000 in
set_option maxHeartbeats 1600000 in
theorem kw_r14 (w : World) : Calls Tryz.prog 19 #[.string ⟨([111, 114] : List UInt8).toArray⟩] w fun e w' => e = .returned (.int .i64 57360) ∧ w = w' := by
  go_enter Tryz.func19, Tryz.ntmps19
  go_wp2
  go_ret
  exact ⟨rfl, rfl⟩

set_option maxRecDepth 100000 in
set_option maxHeartbeats 1600000 in
theorem kw_r15 (w : World) : Calls Tryz.prog 19 #[.string ⟨([114, 101, 116, 117, 114, 110] : List UInt8).toArray⟩] w fun e w' => e = .returned (.int .i64 57361) ∧ w = w' := by
  go_enter Tryz.func19, Tryz.ntmps19
  go_wp2
  go_ret
  exact ⟨rfl, rfl⟩

set_option maxRecDepth 100000 in
set_option maxHeartbeats 1600000 in
theorem kw_r16 (w : World) : Calls Tryz.prog 19 #[.string ⟨([114, 101, 112, 101, 97, 116] : List UInt8).toArray⟩] w fun e w' => e = .returned (.int .i64 57362) ∧ w = w' := by
  go_enter Tryz.func19, Tryz.ntmps19
  go_wp2
  go_ret
  exact ⟨rfl, rfl⟩

set_option maxRecDepth 100000 in
set_option maxHeartbeats 1600000 in
theorem kw_r17 (w : World) : Calls Tryz.prog 19 #[.string ⟨([116, 104, 101, 110] : List UInt8).toArray⟩] w fun e w' => e = .returned (.int .i64 57363) ∧ w = w' := by
  go_enter Tryz.func19, Tryz.ntmps19
  go_wp2
  go_ret
  exact ⟨rfl, rfl⟩

set_option maxRecDepth 100000 in
set_option maxHeartbeats 1600000 in
theorem kw_r18 (w : World) : Calls Tryz.prog 19 #[.string ⟨([116, 114, 117, 101] : List UInt8).toArray⟩] w fun e w' => e = .returned (.int .i64 57364) ∧ w = w' := by
  go_enter Tryz.func19, Tryz.ntmps19
  go_wp2
  go_ret
  exact ⟨rfl, rfl⟩

set_option maxRecDepth 100000 in
set_option maxHeartbeats 1600000 in
theorem kw_r19 (w : World) : Calls Tryz.prog 19 #[.string ⟨([117, 110, 116, 105, 108] : List UInt8).toArray⟩] w fun e w' => e = .returned (.int .i64 57365) ∧ w = w' := by
  go_enter Tryz.func19, Tryz.ntmps19
  go_wp2
  go_ret
  exact ⟨rfl, rfl⟩

set_option maxRecDepth 100000 in
set_option maxHeartbeats 1600000 in
theorem kw_r20 (w : World) : Calls Tryz.prog 19 #[.string ⟨([119, 104, 105, 108, 101] : List UInt8).toArray⟩] w fun e w' => e = .returned (.int .i64 57366) ∧ w = w' := by
  go_enter Tryz.func19, Tryz.ntmps19
  go_wp2
  go_ret
  exact ⟨rfl, rfl⟩

set_option maxRecDepth 100000 in
set_option maxHeartbeats 1600000 in
theorem kw_r21 (w : World) : Calls Tryz.prog 19 #[.string ⟨([103, 111, 116, 111] : List UInt8).toArray⟩] w fun e w' => e = .returned (.int .i64 57367) ∧ w = w' := by
  go_enter Tryz.func19, Tryz.ntmps19
  go_wp2
  go_ret
  exact ⟨rfl, rfl⟩

theorem str_ne {s : ByteArray} {k : List UInt8} (h : s.data.toList ≠ k) : (s.toList == k) = false := by
  rw [beq_eq_false_iff_ne]
  intro e
  apply h
  have e3 := congrArg List.toArray e
  have e4 : s.data = k.toArray := by simpa [ByteArray.toList_eq] using e3
  rw [e4]
set_option maxRecDepth 100000 in
set_option maxHeartbeats 3200000 in
theorem kw_none (w : World) (s : ByteArray) (h0 : s.data.toList ≠ [97, 110, 100]) (h1 : s.data.toList ≠ [98, 114, 101, 97, 107]) (h2 : s.data.toList ≠ [100, 111]) (h3 : s.data.toList ≠ [101, 108, 115, 101]) (h4 : s.data.toList ≠ [101, 108, 115, 101, 105, 102]) (h5 : s.data.toList ≠ [101, 110, 100]) (h6 : s.data.toList ≠ [102, 97, 108, 115, 101]) (h7 : s.data.toList ≠ [102, 111, 114]) (h8 : s.data.toList ≠ [102, 117, 110, 99, 116, 105, 111, 110]) (h9 : s.data.toList ≠ [105, 102]) (h10 : s.data.toList ≠ [105, 110]) (h11 : s.data.toList ≠ [108, 111, 99, 97, 108]) (h12 : s.data.toList ≠ [110, 105, 108]) (h13 : s.data.toList ≠ [110, 111, 116]) (h14 : s.data.toList ≠ [111, 114]) (h15 : s.data.toList ≠ [114, 101, 116, 117, 114, 110]) (h16 : s.data.toList ≠ [114, 101, 112, 101, 97, 116]) (h17 : s.data.toList ≠ [116, 104, 101, 110]) (h18 : s.data.toList ≠ [116, 114, 117, 101]) (h19 : s.data.toList ≠ [117, 110, 116, 105, 108]) (h20 : s.data.toList ≠ [119, 104, 105, 108, 101]) (h21 : s.data.toList ≠ [103, 111, 116, 111]) : Calls Tryz.prog 19 #[.string s] w fun e w' => e = .returned (.int .i64 57375) ∧ w = w' := by
  have e0 : (s.toList == [97, 110, 100]) = false := str_ne h0
  have e1 : (s.toList == [98, 114, 101, 97, 107]) = false := str_ne h1
  have e2 : (s.toList == [100, 111]) = false := str_ne h2
  have e3 : (s.toList == [101, 108, 115, 101]) = false := str_ne h3
  have e4 : (s.toList == [101, 108, 115, 101, 105, 102]) = false := str_ne h4
  have e5 : (s.toList == [101, 110, 100]) = false := str_ne h5
  have e6 : (s.toList == [102, 97, 108, 115, 101]) = false := str_ne h6
  have e7 : (s.toList == [102, 111, 114]) = false := str_ne h7
  have e8 : (s.toList == [102, 117, 110, 99, 116, 105, 111, 110]) = false := str_ne h8
  have e9 : (s.toList == [105, 102]) = false := str_ne h9
  have e10 : (s.toList == [105, 110]) = false := str_ne h10
  have e11 : (s.toList == [108, 111, 99, 97, 108]) = false := str_ne h11
  have e12 : (s.toList == [110, 105, 108]) = false := str_ne h12
  have e13 : (s.toList == [110, 111, 116]) = false := str_ne h13
  have e14 : (s.toList == [111, 114]) = false := str_ne h14
  have e15 : (s.toList == [114, 101, 116, 117, 114, 110]) = false := str_ne h15
  have e16 : (s.toList == [114, 101, 112, 101, 97, 116]) = false := str_ne h16
  have e17 : (s.toList == [116, 104, 101, 110]) = false := str_ne h17
  have e18 : (s.toList == [116, 114, 117, 101]) = false := str_ne h18
  have e19 : (s.toList == [117, 110, 116, 105, 108]) = false := str_ne h19
  have e20 : (s.toList == [119, 104, 105, 108, 101]) = false := str_ne h20
  have e21 : (s.toList == [103, 111, 116, 111]) = false := str_ne h21
  go_enter Tryz.func19, Tryz.ntmps19
  go_wp2
  go_ret
  exact ⟨rfl, rfl⟩

theorem kw_any (w : World) (l : List UInt8) : Calls Tryz.prog 19 #[.string ⟨l.toArray⟩] w fun e w' => e = .returned (.int .i64 (kw l)) ∧ w = w' := by
  by_cases h0 : l = [97, 110, 100]
  · subst h0; rw [show kw [97, 110, 100] = 57346 by decide]; exact kw_r0 w
  by_cases h1 : l = [98, 114, 101, 97, 107]
  · subst h1; rw [show kw [98, 114, 101, 97, 107] = 57347 by decide]; exact kw_r1 w
  by_cases h2 : l = [100, 111]
  · subst h2; rw [show kw [100, 111] = 57348 by decide]; exact kw_r2 w
  by_cases h3 : l = [101, 108, 115, 101]
  · subst h3; rw [show kw [101, 108, 115, 101] = 57349 by decide]; exact kw_r3 w
  by_cases h4 : l = [101, 108, 115, 101, 105, 102]
  · subst h4; rw [show kw [101, 108, 115, 101, 105, 102] = 57350 by decide]; exact kw_r4 w
  by_cases h5 : l = [101, 110, 100]
  · subst h5; rw [show kw [101, 110, 100] = 57351 by decide]; exact kw_r5 w
  by_cases h6 : l = [102, 97, 108, 115, 101]
  · subst h6; rw [show kw [102, 97, 108, 115, 101] = 57352 by decide]; exact kw_r6 w
  by_cases h7 : l = [102, 111, 114]
  · subst h7; rw [show kw [102, 111, 114] = 57353 by decide]; exact kw_r7 w
  by_cases h8 : l = [102, 117, 110, 99, 116, 105, 111, 110]
  · subst h8; rw [show kw [102, 117, 110, 99, 116, 105, 111, 110] = 57354 by decide]; exact kw_r8 w
  by_cases h9 : l = [105, 102]
  · subst h9; rw [show kw [105, 102] = 57355 by decide]; exact kw_r9 w
  by_cases h10 : l = [105, 110]
  · subst h10; rw [show kw [105, 110] = 57356 by decide]; exact kw_r10 w
  by_cases h11 : l = [108, 111, 99, 97, 108]
  · subst h11; rw [show kw [108, 111, 99, 97, 108] = 57357 by decide]; exact kw_r11 w
  by_cases h12 : l = [110, 105, 108]
  · subst h12; rw [show kw [110, 105, 108] = 57358 by decide]; exact kw_r12 w
  by_cases h13 : l = [110, 111, 116]
  · subst h13; rw [show kw [110, 111, 116] = 57359 by decide]; exact kw_r13 w
  by_cases h14 : l = [111, 114]
  · subst h14; rw [show kw [111, 114] = 57360 by decide]; exact kw_r14 w
  by_cases h15 : l = [114, 101, 116, 117, 114, 110]
  · subst h15; rw [show kw [114, 101, 116, 117, 114, 110] = 57361 by decide]; exact kw_r15 w
  by_cases h16 : l = [114, 101, 112, 101, 97, 116]
  · subst h16; rw [show kw [114, 101, 112, 101, 97, 116] = 57362 by decide]; exact kw_r16 w
  by_cases h17 : l = [116, 104, 101, 110]
  · subst h17; rw [show kw [116, 104, 101, 110] = 57363 by decide]; exact kw_r17 w
  by_cases h18 : l = [116, 114, 117, 101]
  · subst h18; rw [show kw [116, 114, 117, 101] = 57364 by decide]; exact kw_r18 w
  by_cases h19 : l = [117, 110, 116, 105, 108]
  · subst h19; rw [show kw [117, 110, 116, 105, 108] = 57365 by decide]; exact kw_r19 w
  by_cases h20 : l = [119, 104, 105, 108, 101]
  · subst h20; rw [show kw [119, 104, 105, 108, 101] = 57366 by decide]; exact kw_r20 w
  by_cases h21 : l = [103, 111, 116, 111]
  · subst h21; rw [show kw [103, 111, 116, 111] = 57367 by decide]; exact kw_r21 w
  have hk : kw l = 57375 := by
    unfold kw kwTab
    simp only [kwIn]
    rw [if_neg (fun e => h0 e.symm), if_neg (fun e => h1 e.symm), if_neg (fun e => h2 e.symm), if_neg (fun e => h3 e.symm), if_neg (fun e => h4 e.symm), if_neg (fun e => h5 e.symm), if_neg (fun e => h6 e.symm), if_neg (fun e => h7 e.symm), if_neg (fun e => h8 e.symm), if_neg (fun e => h9 e.symm), if_neg (fun e => h10 e.symm), if_neg (fun e => h11 e.symm), if_neg (fun e => h12 e.symm), if_neg (fun e => h13 e.symm), if_neg (fun e => h14 e.symm), if_neg (fun e => h15 e.symm), if_neg (fun e => h16 e.symm), if_neg (fun e => h17 e.symm), if_neg (fun e => h18 e.symm), if_neg (fun e => h19 e.symm), if_neg (fun e => h20 e.symm), if_neg (fun e => h21 e.symm)]
  rw [hk]
  exact kw_none w _ h0 h1 h2 h3 h4 h5 h6 h7 h8 h9 h10 h11 h12 h13 h14 h15 h16 h17 h18 h19 h20 h21

end Go.Proofs.YtnmpeipccpgkpaaGreatDoor
