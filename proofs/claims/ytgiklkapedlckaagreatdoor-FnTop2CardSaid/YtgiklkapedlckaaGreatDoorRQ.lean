/- The reference's classes of characters and its keywords, walked. The reference's reader over the bytes: next, peek, walked. The reference's reader beside a byte slice of the call's own. The reference scanner of n005_1002, walked: skip, decimal. The reference scanner of n005_1002, walked: number. The reference scanner of n005_1002, walked: number whole. The reference scanner of n005_1002, walked: long, its loops. The reference scanner of n005_1002, walked: long, comment, two. The reference scanner of n005_1002, walked: str. -/
import Derived.Test.YtgiklkapedlckaaGreatDoorCls
import Derived.Test.YtgiklkapedlckaaGreatDoorScM
import Derived.Test.YtgiklkapedlckaaGreatDoorOpen
import Derived.Test.YtgiklkapedlckaaGreatDoorStream
import Derived.Test.YtgiklkapedlckaaGreatDoorRd
import Derived.Test.YtgiklkapedlckaaGreatDoorBit
import Derived.WalkKit
import Derived.Test.YtgiklkapedlckaaGreatDoorBs2
import Derived.Test.YtgiklkapedlckaaGreatDoorP77
import Derived.Deep.LoopGhost
namespace Go.Proofs.YtgiklkapedlckaaGreatDoor
open Go.RowKit

set_option maxRecDepth 100000 in
set_option maxHeartbeats 1600000 in
theorem rdec_r0 (w : World) (c : Int) (h2 : c ≤ 47) : Calls Tryz.prog 30 #[.int .i64 c] w fun e w' => e = .returned (.bool false) ∧ w = w' := by
  have d0 : decide (48 ≤ c) = false := by rw [decide_eq_false_iff_not]; omega
  have d1 : decide (c ≤ 57) = true := by rw [decide_eq_true_eq]; omega
  go_enter Tryz.func30, Tryz.ntmps30
  go_wp2
  go_ret
  exact ⟨rfl, rfl⟩

set_option maxRecDepth 100000 in
set_option maxHeartbeats 1600000 in
theorem rdec_r1 (w : World) (c : Int) (h1 : 48 ≤ c) (h2 : c ≤ 57) : Calls Tryz.prog 30 #[.int .i64 c] w fun e w' => e = .returned (.bool true) ∧ w = w' := by
  have d0 : decide (48 ≤ c) = true := by rw [decide_eq_true_eq]; omega
  have d1 : decide (c ≤ 57) = true := by rw [decide_eq_true_eq]; omega
  go_enter Tryz.func30, Tryz.ntmps30
  go_wp2
  go_ret
  exact ⟨rfl, rfl⟩

set_option maxRecDepth 100000 in
set_option maxHeartbeats 1600000 in
theorem rdec_r2 (w : World) (c : Int) (h1 : 58 ≤ c) : Calls Tryz.prog 30 #[.int .i64 c] w fun e w' => e = .returned (.bool false) ∧ w = w' := by
  have d0 : decide (48 ≤ c) = true := by rw [decide_eq_true_eq]; omega
  have d1 : decide (c ≤ 57) = false := by rw [decide_eq_false_iff_not]; omega
  go_enter Tryz.func30, Tryz.ntmps30
  go_wp2
  go_ret
  exact ⟨rfl, rfl⟩

theorem rdec_any (w : World) (c : Int) : Calls Tryz.prog 30 #[.int .i64 c] w fun e w' => e = .returned (.bool (decI c)) ∧ w = w' := by
  by_cases g0 : c ≤ 47
  · rw [show decI c = false by simp [decI, identS, decI, hexI]; omega]; exact rdec_r0 w c (by omega)
  by_cases g1 : c ≤ 57
  · rw [show decI c = true by simp [decI, identS, decI, hexI]; omega]; exact rdec_r1 w c (by omega) (by omega)
  rw [show decI c = false by simp [decI, identS, decI, hexI]; omega]; exact rdec_r2 w c (by omega)
theorem rdec_true (w : World) (c : Int) (h : decI c = true) : Calls Tryz.prog 30 #[.int .i64 c] w fun e w' => e = .returned (.bool true) ∧ w = w' := h ▸ rdec_any w c
theorem rdec_false (w : World) (c : Int) (h : decI c = false) : Calls Tryz.prog 30 #[.int .i64 c] w fun e w' => e = .returned (.bool false) ∧ w = w' := h ▸ rdec_any w c

set_option maxRecDepth 100000 in
set_option maxHeartbeats 1600000 in
theorem rhex_r0 (w : World) (c : Int) (h2 : c ≤ 47) : Calls Tryz.prog 47 #[.int .i64 c] w fun e w' => e = .returned (.bool false) ∧ w = w' := by
  have d0 : decide (48 ≤ c) = false := by rw [decide_eq_false_iff_not]; omega
  have d1 : decide (c ≤ 57) = true := by rw [decide_eq_true_eq]; omega
  have d2 : decide (97 ≤ c) = false := by rw [decide_eq_false_iff_not]; omega
  have d3 : decide (c ≤ 102) = true := by rw [decide_eq_true_eq]; omega
  have d4 : decide (65 ≤ c) = false := by rw [decide_eq_false_iff_not]; omega
  have d5 : decide (c ≤ 70) = true := by rw [decide_eq_true_eq]; omega
  go_enter Tryz.func47, Tryz.ntmps47
  go_wp2
  go_ret
  exact ⟨rfl, rfl⟩

set_option maxRecDepth 100000 in
set_option maxHeartbeats 1600000 in
theorem rhex_r1 (w : World) (c : Int) (h1 : 48 ≤ c) (h2 : c ≤ 57) : Calls Tryz.prog 47 #[.int .i64 c] w fun e w' => e = .returned (.bool true) ∧ w = w' := by
  have d0 : decide (48 ≤ c) = true := by rw [decide_eq_true_eq]; omega
  have d1 : decide (c ≤ 57) = true := by rw [decide_eq_true_eq]; omega
  have d2 : decide (97 ≤ c) = false := by rw [decide_eq_false_iff_not]; omega
  have d3 : decide (c ≤ 102) = true := by rw [decide_eq_true_eq]; omega
  have d4 : decide (65 ≤ c) = false := by rw [decide_eq_false_iff_not]; omega
  have d5 : decide (c ≤ 70) = true := by rw [decide_eq_true_eq]; omega
  go_enter Tryz.func47, Tryz.ntmps47
  go_wp2
  go_ret
  exact ⟨rfl, rfl⟩

set_option maxRecDepth 100000 in
set_option maxHeartbeats 1600000 in
theorem rhex_r2 (w : World) (c : Int) (h1 : 58 ≤ c) (h2 : c ≤ 64) : Calls Tryz.prog 47 #[.int .i64 c] w fun e w' => e = .returned (.bool false) ∧ w = w' := by
  have d0 : decide (48 ≤ c) = true := by rw [decide_eq_true_eq]; omega
  have d1 : decide (c ≤ 57) = false := by rw [decide_eq_false_iff_not]; omega
  have d2 : decide (97 ≤ c) = false := by rw [decide_eq_false_iff_not]; omega
  have d3 : decide (c ≤ 102) = true := by rw [decide_eq_true_eq]; omega
  have d4 : decide (65 ≤ c) = false := by rw [decide_eq_false_iff_not]; omega
  have d5 : decide (c ≤ 70) = true := by rw [decide_eq_true_eq]; omega
  go_enter Tryz.func47, Tryz.ntmps47
  go_wp2
  go_ret
  exact ⟨rfl, rfl⟩

set_option maxRecDepth 100000 in
set_option maxHeartbeats 1600000 in
theorem rhex_r3 (w : World) (c : Int) (h1 : 65 ≤ c) (h2 : c ≤ 70) : Calls Tryz.prog 47 #[.int .i64 c] w fun e w' => e = .returned (.bool true) ∧ w = w' := by
  have d0 : decide (48 ≤ c) = true := by rw [decide_eq_true_eq]; omega
  have d1 : decide (c ≤ 57) = false := by rw [decide_eq_false_iff_not]; omega
  have d2 : decide (97 ≤ c) = false := by rw [decide_eq_false_iff_not]; omega
  have d3 : decide (c ≤ 102) = true := by rw [decide_eq_true_eq]; omega
  have d4 : decide (65 ≤ c) = true := by rw [decide_eq_true_eq]; omega
  have d5 : decide (c ≤ 70) = true := by rw [decide_eq_true_eq]; omega
  go_enter Tryz.func47, Tryz.ntmps47
  go_wp2
  go_ret
  exact ⟨rfl, rfl⟩

set_option maxRecDepth 100000 in
set_option maxHeartbeats 1600000 in
theorem rhex_r4 (w : World) (c : Int) (h1 : 71 ≤ c) (h2 : c ≤ 96) : Calls Tryz.prog 47 #[.int .i64 c] w fun e w' => e = .returned (.bool false) ∧ w = w' := by
  have d0 : decide (48 ≤ c) = true := by rw [decide_eq_true_eq]; omega
  have d1 : decide (c ≤ 57) = false := by rw [decide_eq_false_iff_not]; omega
  have d2 : decide (97 ≤ c) = false := by rw [decide_eq_false_iff_not]; omega
  have d3 : decide (c ≤ 102) = true := by rw [decide_eq_true_eq]; omega
  have d4 : decide (65 ≤ c) = true := by rw [decide_eq_true_eq]; omega
  have d5 : decide (c ≤ 70) = false := by rw [decide_eq_false_iff_not]; omega
  go_enter Tryz.func47, Tryz.ntmps47
  go_wp2
  go_ret
  exact ⟨rfl, rfl⟩

set_option maxRecDepth 100000 in
set_option maxHeartbeats 1600000 in
theorem rhex_r5 (w : World) (c : Int) (h1 : 97 ≤ c) (h2 : c ≤ 102) : Calls Tryz.prog 47 #[.int .i64 c] w fun e w' => e = .returned (.bool true) ∧ w = w' := by
  have d0 : decide (48 ≤ c) = true := by rw [decide_eq_true_eq]; omega
  have d1 : decide (c ≤ 57) = false := by rw [decide_eq_false_iff_not]; omega
  have d2 : decide (97 ≤ c) = true := by rw [decide_eq_true_eq]; omega
  have d3 : decide (c ≤ 102) = true := by rw [decide_eq_true_eq]; omega
  have d4 : decide (65 ≤ c) = true := by rw [decide_eq_true_eq]; omega
  have d5 : decide (c ≤ 70) = false := by rw [decide_eq_false_iff_not]; omega
  go_enter Tryz.func47, Tryz.ntmps47
  go_wp2
  go_ret
  exact ⟨rfl, rfl⟩

set_option maxRecDepth 100000 in
set_option maxHeartbeats 1600000 in
theorem rhex_r6 (w : World) (c : Int) (h1 : 103 ≤ c) : Calls Tryz.prog 47 #[.int .i64 c] w fun e w' => e = .returned (.bool false) ∧ w = w' := by
  have d0 : decide (48 ≤ c) = true := by rw [decide_eq_true_eq]; omega
  have d1 : decide (c ≤ 57) = false := by rw [decide_eq_false_iff_not]; omega
  have d2 : decide (97 ≤ c) = true := by rw [decide_eq_true_eq]; omega
  have d3 : decide (c ≤ 102) = false := by rw [decide_eq_false_iff_not]; omega
  have d4 : decide (65 ≤ c) = true := by rw [decide_eq_true_eq]; omega
  have d5 : decide (c ≤ 70) = false := by rw [decide_eq_false_iff_not]; omega
  go_enter Tryz.func47, Tryz.ntmps47
  go_wp2
  go_ret
  exact ⟨rfl, rfl⟩

theorem rhex_any (w : World) (c : Int) : Calls Tryz.prog 47 #[.int .i64 c] w fun e w' => e = .returned (.bool (hexI c)) ∧ w = w' := by
  by_cases g0 : c ≤ 47
  · rw [show hexI c = false by simp [hexI, identS, decI, hexI]; omega]; exact rhex_r0 w c (by omega)
  by_cases g1 : c ≤ 57
  · rw [show hexI c = true by simp [hexI, identS, decI, hexI]; omega]; exact rhex_r1 w c (by omega) (by omega)
  by_cases g2 : c ≤ 64
  · rw [show hexI c = false by simp [hexI, identS, decI, hexI]; omega]; exact rhex_r2 w c (by omega) (by omega)
  by_cases g3 : c ≤ 70
  · rw [show hexI c = true by simp [hexI, identS, decI, hexI]; omega]; exact rhex_r3 w c (by omega) (by omega)
  by_cases g4 : c ≤ 96
  · rw [show hexI c = false by simp [hexI, identS, decI, hexI]; omega]; exact rhex_r4 w c (by omega) (by omega)
  by_cases g5 : c ≤ 102
  · rw [show hexI c = true by simp [hexI, identS, decI, hexI]; omega]; exact rhex_r5 w c (by omega) (by omega)
  rw [show hexI c = false by simp [hexI, identS, decI, hexI]; omega]; exact rhex_r6 w c (by omega)
theorem rhex_true (w : World) (c : Int) (h : hexI c = true) : Calls Tryz.prog 47 #[.int .i64 c] w fun e w' => e = .returned (.bool true) ∧ w = w' := h ▸ rhex_any w c
theorem rhex_false (w : World) (c : Int) (h : hexI c = false) : Calls Tryz.prog 47 #[.int .i64 c] w fun e w' => e = .returned (.bool false) ∧ w = w' := h ▸ rhex_any w c

set_option maxRecDepth 100000 in
set_option maxHeartbeats 1600000 in
theorem rstart_r0 (w : World) (c : Int) (h2 : c ≤ 64) : Calls Tryz.prog 25 #[.int .i64 c] w fun e w' => e = .returned (.bool false) ∧ w = w' := by
  have e95 : (c == 95) = false := by rw [beq_eq_false_iff_ne]; omega
  have d0 : decide (65 ≤ c) = false := by rw [decide_eq_false_iff_not]; omega
  have d1 : decide (c ≤ 90) = true := by rw [decide_eq_true_eq]; omega
  have d2 : decide (97 ≤ c) = false := by rw [decide_eq_false_iff_not]; omega
  have d3 : decide (c ≤ 122) = true := by rw [decide_eq_true_eq]; omega
  go_enter Tryz.func25, Tryz.ntmps25
  go_wp2
  go_ret
  exact ⟨rfl, rfl⟩

set_option maxRecDepth 100000 in
set_option maxHeartbeats 1600000 in
theorem rstart_r1 (w : World) (c : Int) (h1 : 65 ≤ c) (h2 : c ≤ 90) : Calls Tryz.prog 25 #[.int .i64 c] w fun e w' => e = .returned (.bool true) ∧ w = w' := by
  have e95 : (c == 95) = false := by rw [beq_eq_false_iff_ne]; omega
  have d0 : decide (65 ≤ c) = true := by rw [decide_eq_true_eq]; omega
  have d1 : decide (c ≤ 90) = true := by rw [decide_eq_true_eq]; omega
  have d2 : decide (97 ≤ c) = false := by rw [decide_eq_false_iff_not]; omega
  have d3 : decide (c ≤ 122) = true := by rw [decide_eq_true_eq]; omega
  go_enter Tryz.func25, Tryz.ntmps25
  go_wp2
  go_ret
  exact ⟨rfl, rfl⟩

set_option maxRecDepth 100000 in
set_option maxHeartbeats 1600000 in
theorem rstart_r2 (w : World) (c : Int) (h1 : 91 ≤ c) (h2 : c ≤ 94) : Calls Tryz.prog 25 #[.int .i64 c] w fun e w' => e = .returned (.bool false) ∧ w = w' := by
  have e95 : (c == 95) = false := by rw [beq_eq_false_iff_ne]; omega
  have d0 : decide (65 ≤ c) = true := by rw [decide_eq_true_eq]; omega
  have d1 : decide (c ≤ 90) = false := by rw [decide_eq_false_iff_not]; omega
  have d2 : decide (97 ≤ c) = false := by rw [decide_eq_false_iff_not]; omega
  have d3 : decide (c ≤ 122) = true := by rw [decide_eq_true_eq]; omega
  go_enter Tryz.func25, Tryz.ntmps25
  go_wp2
  go_ret
  exact ⟨rfl, rfl⟩

set_option maxRecDepth 100000 in
set_option maxHeartbeats 1600000 in
theorem rstart_r3 (w : World) (c : Int) (h1 : 95 ≤ c) (h2 : c ≤ 95) : Calls Tryz.prog 25 #[.int .i64 c] w fun e w' => e = .returned (.bool true) ∧ w = w' := by
  have e95 : (c == 95) = true := by rw [beq_iff_eq]; omega
  have d0 : decide (65 ≤ c) = true := by rw [decide_eq_true_eq]; omega
  have d1 : decide (c ≤ 90) = false := by rw [decide_eq_false_iff_not]; omega
  have d2 : decide (97 ≤ c) = false := by rw [decide_eq_false_iff_not]; omega
  have d3 : decide (c ≤ 122) = true := by rw [decide_eq_true_eq]; omega
  go_enter Tryz.func25, Tryz.ntmps25
  go_wp2
  go_ret
  exact ⟨rfl, rfl⟩

set_option maxRecDepth 100000 in
set_option maxHeartbeats 1600000 in
theorem rstart_r4 (w : World) (c : Int) (h1 : 96 ≤ c) (h2 : c ≤ 96) : Calls Tryz.prog 25 #[.int .i64 c] w fun e w' => e = .returned (.bool false) ∧ w = w' := by
  have e95 : (c == 95) = false := by rw [beq_eq_false_iff_ne]; omega
  have d0 : decide (65 ≤ c) = true := by rw [decide_eq_true_eq]; omega
  have d1 : decide (c ≤ 90) = false := by rw [decide_eq_false_iff_not]; omega
  have d2 : decide (97 ≤ c) = false := by rw [decide_eq_false_iff_not]; omega
  have d3 : decide (c ≤ 122) = true := by rw [decide_eq_true_eq]; omega
  go_enter Tryz.func25, Tryz.ntmps25
  go_wp2
  go_ret
  exact ⟨rfl, rfl⟩

set_option maxRecDepth 100000 in
set_option maxHeartbeats 1600000 in
theorem rstart_r5 (w : World) (c : Int) (h1 : 97 ≤ c) (h2 : c ≤ 122) : Calls Tryz.prog 25 #[.int .i64 c] w fun e w' => e = .returned (.bool true) ∧ w = w' := by
  have e95 : (c == 95) = false := by rw [beq_eq_false_iff_ne]; omega
  have d0 : decide (65 ≤ c) = true := by rw [decide_eq_true_eq]; omega
  have d1 : decide (c ≤ 90) = false := by rw [decide_eq_false_iff_not]; omega
  have d2 : decide (97 ≤ c) = true := by rw [decide_eq_true_eq]; omega
  have d3 : decide (c ≤ 122) = true := by rw [decide_eq_true_eq]; omega
  go_enter Tryz.func25, Tryz.ntmps25
  go_wp2
  go_ret
  exact ⟨rfl, rfl⟩

set_option maxRecDepth 100000 in
set_option maxHeartbeats 1600000 in
theorem rstart_r6 (w : World) (c : Int) (h1 : 123 ≤ c) : Calls Tryz.prog 25 #[.int .i64 c] w fun e w' => e = .returned (.bool false) ∧ w = w' := by
  have e95 : (c == 95) = false := by rw [beq_eq_false_iff_ne]; omega
  have d0 : decide (65 ≤ c) = true := by rw [decide_eq_true_eq]; omega
  have d1 : decide (c ≤ 90) = false := by rw [decide_eq_false_iff_not]; omega
  have d2 : decide (97 ≤ c) = true := by rw [decide_eq_true_eq]; omega
  have d3 : decide (c ≤ 122) = false := by rw [decide_eq_false_iff_not]; omega
  go_enter Tryz.func25, Tryz.ntmps25
  go_wp2
  go_ret
  exact ⟨rfl, rfl⟩

theorem rstart_any (w : World) (c : Int) : Calls Tryz.prog 25 #[.int .i64 c] w fun e w' => e = .returned (.bool (identS c)) ∧ w = w' := by
  by_cases g0 : c ≤ 64
  · rw [show identS c = false by simp [identS, identS, decI, hexI]; omega]; exact rstart_r0 w c (by omega)
  by_cases g1 : c ≤ 90
  · rw [show identS c = true by simp [identS, identS, decI, hexI]; omega]; exact rstart_r1 w c (by omega) (by omega)
  by_cases g2 : c ≤ 94
  · rw [show identS c = false by simp [identS, identS, decI, hexI]; omega]; exact rstart_r2 w c (by omega) (by omega)
  by_cases g3 : c ≤ 95
  · rw [show identS c = true by simp [identS, identS, decI, hexI]; omega]; exact rstart_r3 w c (by omega) (by omega)
  by_cases g4 : c ≤ 96
  · rw [show identS c = false by simp [identS, identS, decI, hexI]; omega]; exact rstart_r4 w c (by omega) (by omega)
  by_cases g5 : c ≤ 122
  · rw [show identS c = true by simp [identS, identS, decI, hexI]; omega]; exact rstart_r5 w c (by omega) (by omega)
  rw [show identS c = false by simp [identS, identS, decI, hexI]; omega]; exact rstart_r6 w c (by omega)
theorem rstart_true (w : World) (c : Int) (h : identS c = true) : Calls Tryz.prog 25 #[.int .i64 c] w fun e w' => e = .returned (.bool true) ∧ w = w' := h ▸ rstart_any w c
theorem rstart_false (w : World) (c : Int) (h : identS c = false) : Calls Tryz.prog 25 #[.int .i64 c] w fun e w' => e = .returned (.bool false) ∧ w = w' := h ▸ rstart_any w c

set_option maxRecDepth 100000 in
set_option maxHeartbeats 1600000 in
theorem rcont_0 (w : World) (c : Int) (h1 : identS c = true) : Calls Tryz.prog 26 #[.int .i64 c] w fun e w' => e = .returned (.bool true) ∧ w = w' := by
  have H1 := Lib.hid h1
  clear h1

  go_enter Tryz.func26, Tryz.ntmps26
  go_wp2_with ((go_at_call 25; refine (rstart_true _ _ H1.out).mono ?_; rintro e w' ⟨rfl, rfl⟩))
  go_ret
  exact ⟨rfl, rfl⟩

set_option maxRecDepth 100000 in
set_option maxHeartbeats 1600000 in
theorem rcont_1 (w : World) (c : Int) (h1 : identS c = false) (h2 : decI c = true) : Calls Tryz.prog 26 #[.int .i64 c] w fun e w' => e = .returned (.bool true) ∧ w = w' := by
  have H1 := Lib.hid h1
  have H2 := Lib.hid h2
  clear h1 h2
  go_enter Tryz.func26, Tryz.ntmps26
  go_wp2_with (first | (go_at_call 25; refine (rstart_false _ _ H1.out).mono ?_; rintro e w' ⟨rfl, rfl⟩) | (go_at_call 30; refine (rdec_true _ _ H2.out).mono ?_; rintro e w' ⟨rfl, rfl⟩))
  go_ret
  exact ⟨rfl, rfl⟩

set_option maxRecDepth 100000 in
set_option maxHeartbeats 1600000 in
theorem rcont_2 (w : World) (c : Int) (h1 : identS c = false) (h2 : decI c = false) : Calls Tryz.prog 26 #[.int .i64 c] w fun e w' => e = .returned (.bool false) ∧ w = w' := by
  have H1 := Lib.hid h1
  have H2 := Lib.hid h2
  clear h1 h2
  go_enter Tryz.func26, Tryz.ntmps26
  go_wp2_with (first | (go_at_call 25; refine (rstart_false _ _ H1.out).mono ?_; rintro e w' ⟨rfl, rfl⟩) | (go_at_call 30; refine (rdec_false _ _ H2.out).mono ?_; rintro e w' ⟨rfl, rfl⟩))
  go_ret
  exact ⟨rfl, rfl⟩

theorem rcont_any (w : World) (c : Int) : Calls Tryz.prog 26 #[.int .i64 c] w fun e w' => e = .returned (.bool (identI c)) ∧ w = w' := by
  cases h1 : identS c
  · cases h2 : decI c
    · rw [show identI c = false by simp [identI, h1, h2]]; exact rcont_2 w c h1 h2
    · rw [show identI c = true by simp [identI, h1, h2]]; exact rcont_1 w c h1 h2
  · rw [show identI c = true by simp [identI, h1]]; exact rcont_0 w c h1
theorem rcont_true (w : World) (c : Int) (h : identI c = true) : Calls Tryz.prog 26 #[.int .i64 c] w fun e w' => e = .returned (.bool true) ∧ w = w' := h ▸ rcont_any w c
theorem rcont_false (w : World) (c : Int) (h : identI c = false) : Calls Tryz.prog 26 #[.int .i64 c] w fun e w' => e = .returned (.bool false) ∧ w = w' := h ▸ rcont_any w c

set_option maxRecDepth 100000 in
set_option maxHeartbeats 1600000 in
theorem kw_r0 (w : World) : Calls Tryz.prog 29 #[.string ⟨([97, 110, 100] : List UInt8).toArray⟩] w fun e w' => e = .returned (.int .i64 57346) ∧ w = w' := by
  go_enter Tryz.func29, Tryz.ntmps29
  go_wp2
  go_ret
  exact ⟨rfl, rfl⟩

set_option maxRecDepth 100000 in
set_option maxHeartbeats 1600000 in
theorem kw_r1 (w : World) : Calls Tryz.prog 29 #[.string ⟨([98, 114, 101, 97, 107] : List UInt8).toArray⟩] w fun e w' => e = .returned (.int .i64 57347) ∧ w = w' := by
  go_enter Tryz.func29, Tryz.ntmps29
  go_wp2
  go_ret
  exact ⟨rfl, rfl⟩

set_option maxRecDepth 100000 in
set_option maxHeartbeats 1600000 in
theorem kw_r2 (w : World) : Calls Tryz.prog 29 #[.string ⟨([100, 111] : List UInt8).toArray⟩] w fun e w' => e = .returned (.int .i64 57348) ∧ w = w' := by
  go_enter Tryz.func29, Tryz.ntmps29
  go_wp2
  go_ret
  exact ⟨rfl, rfl⟩

set_option maxRecDepth 100000 in
set_option maxHeartbeats 1600000 in
theorem kw_r3 (w : World) : Calls Tryz.prog 29 #[.string ⟨([101, 108, 115, 101] : List UInt8).toArray⟩] w fun e w' => e = .returned (.int .i64 57349) ∧ w = w' := by
  go_enter Tryz.func29, Tryz.ntmps29
  go_wp2
  go_ret
  exact ⟨rfl, rfl⟩

set_option maxRecDepth 100000 in
set_option maxHeartbeats 1600000 in
theorem kw_r4 (w : World) : Calls Tryz.prog 29 #[.string ⟨([101, 108, 115, 101, 105, 102] : List UInt8).toArray⟩] w fun e w' => e = .returned (.int .i64 57350) ∧ w = w' := by
  go_enter Tryz.func29, Tryz.ntmps29
  go_wp2
  go_ret
  exact ⟨rfl, rfl⟩

set_option maxRecDepth 100000 in
set_option maxHeartbeats 1600000 in
theorem kw_r5 (w : World) : Calls Tryz.prog 29 #[.string ⟨([101, 110, 100] : List UInt8).toArray⟩] w fun e w' => e = .returned (.int .i64 57351) ∧ w = w' := by
  go_enter Tryz.func29, Tryz.ntmps29
  go_wp2
  go_ret
  exact ⟨rfl, rfl⟩

set_option maxRecDepth 100000 in
set_option maxHeartbeats 1600000 in
theorem kw_r6 (w : World) : Calls Tryz.prog 29 #[.string ⟨([102, 97, 108, 115, 101] : List UInt8).toArray⟩] w fun e w' => e = .returned (.int .i64 57352) ∧ w = w' := by
  go_enter Tryz.func29, Tryz.ntmps29
  go_wp2
  go_ret
  exact ⟨rfl, rfl⟩

set_option maxRecDepth 100000 in
set_option maxHeartbeats 1600000 in
theorem kw_r7 (w : World) : Calls Tryz.prog 29 #[.string ⟨([102, 111, 114] : List UInt8).toArray⟩] w fun e w' => e = .returned (.int .i64 57353) ∧ w = w' := by
  go_enter Tryz.func29, Tryz.ntmps29
  go_wp2
  go_ret
  exact ⟨rfl, rfl⟩

set_option maxRecDepth 100000 in
set_option maxHeartbeats 1600000 in
theorem kw_r8 (w : World) : Calls Tryz.prog 29 #[.string ⟨([102, 117, 110, 99, 116, 105, 111, 110] : List UInt8).toArray⟩] w fun e w' => e = .returned (.int .i64 57354) ∧ w = w' := by
  go_enter Tryz.func29, Tryz.ntmps29
  go_wp2
  go_ret
  exact ⟨rfl, rfl⟩

set_option maxRecDepth 100000 in
set_option maxHeartbeats 1600000 in
theorem kw_r9 (w : World) : Calls Tryz.prog 29 #[.string ⟨([105, 102] : List UInt8).toArray⟩] w fun e w' => e = .returned (.int .i64 57355) ∧ w = w' := by
  go_enter Tryz.func29, Tryz.ntmps29
  go_wp2
  go_ret
  exact ⟨rfl, rfl⟩

set_option maxRecDepth 100000 in
set_option maxHeartbeats 1600000 in
theorem kw_r10 (w : World) : Calls Tryz.prog 29 #[.string ⟨([105, 110] : List UInt8).toArray⟩] w fun e w' => e = .returned (.int .i64 57356) ∧ w = w' := by
  go_enter Tryz.func29, Tryz.ntmps29
  go_wp2
  go_ret
  exact ⟨rfl, rfl⟩

set_option maxRecDepth 100000 in
set_option maxHeartbeats 1600000 in
theorem kw_r11 (w : World) : Calls Tryz.prog 29 #[.string ⟨([108, 111, 99, 97, 108] : List UInt8).toArray⟩] w fun e w' => e = .returned (.int .i64 57357) ∧ w = w' := by
  go_enter Tryz.func29, Tryz.ntmps29
  go_wp2
  go_ret
  exact ⟨rfl, rfl⟩

set_option maxRecDepth 100000 in
set_option maxHeartbeats 1600000 in
theorem kw_r12 (w : World) : Calls Tryz.prog 29 #[.string ⟨([110, 105, 108] : List UInt8).toArray⟩] w fun e w' => e = .returned (.int .i64 57358) ∧ w = w' := by
  go_enter Tryz.func29, Tryz.ntmps29
  go_wp2
  go_ret
  exact ⟨rfl, rfl⟩

set_option maxRecDepth 100000 in
set_option maxHeartbeats 1600000 in
theorem kw_r13 (w : World) : Calls Tryz.prog 29 #[.string ⟨([110, 111, 116] : List UInt8).toArray⟩] w fun e w' => e = .returned (.int .i64 57359) ∧ w = w' := by
  go_enter Tryz.func29, Tryz.ntmps29
  go_wp2
  go_ret
  exact ⟨rfl, rfl⟩

set_option maxRecDepth 100000 in
set_option maxHeartbeats 1600000 in
theorem kw_r14 (w : World) : Calls Tryz.prog 29 #[.string ⟨([111, 114] : List UInt8).toArray⟩] w fun e w' => e = .returned (.int .i64 57360) ∧ w = w' := by
  go_enter Tryz.func29, Tryz.ntmps29
  go_wp2
  go_ret
  exact ⟨rfl, rfl⟩

set_option maxRecDepth 100000 in
set_option maxHeartbeats 1600000 in
theorem kw_r15 (w : World) : Calls Tryz.prog 29 #[.string ⟨([114, 101, 116, 117, 114, 110] : List UInt8).toArray⟩] w fun e w' => e = .returned (.int .i64 57361) ∧ w = w' := by
  go_enter Tryz.func29, Tryz.ntmps29
  go_wp2
  go_ret
  exact ⟨rfl, rfl⟩

set_option maxRecDepth 100000 in
set_option maxHeartbeats 1600000 in
theorem kw_r16 (w : World) : Calls Tryz.prog 29 #[.string ⟨([114, 101, 112, 101, 97, 116] : List UInt8).toArray⟩] w fun e w' => e = .returned (.int .i64 57362) ∧ w = w' := by
  go_enter Tryz.func29, Tryz.ntmps29
  go_wp2
  go_ret
  exact ⟨rfl, rfl⟩

set_option maxRecDepth 100000 in
set_option maxHeartbeats 1600000 in
theorem kw_r17 (w : World) : Calls Tryz.prog 29 #[.string ⟨([116, 104, 101, 110] : List UInt8).toArray⟩] w fun e w' => e = .returned (.int .i64 57363) ∧ w = w' := by
  go_enter Tryz.func29, Tryz.ntmps29
  go_wp2
  go_ret
  exact ⟨rfl, rfl⟩

set_option maxRecDepth 100000 in
set_option maxHeartbeats 1600000 in
theorem kw_r18 (w : World) : Calls Tryz.prog 29 #[.string ⟨([116, 114, 117, 101] : List UInt8).toArray⟩] w fun e w' => e = .returned (.int .i64 57364) ∧ w = w' := by
  go_enter Tryz.func29, Tryz.ntmps29
  go_wp2
  go_ret
  exact ⟨rfl, rfl⟩

set_option maxRecDepth 100000 in
set_option maxHeartbeats 1600000 in
theorem kw_r19 (w : World) : Calls Tryz.prog 29 #[.string ⟨([117, 110, 116, 105, 108] : List UInt8).toArray⟩] w fun e w' => e = .returned (.int .i64 57365) ∧ w = w' := by
  go_enter Tryz.func29, Tryz.ntmps29
  go_wp2
  go_ret
  exact ⟨rfl, rfl⟩

set_option maxRecDepth 100000 in
set_option maxHeartbeats 1600000 in
theorem kw_r20 (w : World) : Calls Tryz.prog 29 #[.string ⟨([119, 104, 105, 108, 101] : List UInt8).toArray⟩] w fun e w' => e = .returned (.int .i64 57366) ∧ w = w' := by
  go_enter Tryz.func29, Tryz.ntmps29
  go_wp2
  go_ret
  exact ⟨rfl, rfl⟩

set_option maxRecDepth 100000 in
set_option maxHeartbeats 1600000 in
theorem kw_r21 (w : World) : Calls Tryz.prog 29 #[.string ⟨([103, 111, 116, 111] : List UInt8).toArray⟩] w fun e w' => e = .returned (.int .i64 57367) ∧ w = w' := by
  go_enter Tryz.func29, Tryz.ntmps29
  go_wp2
  go_ret
  exact ⟨rfl, rfl⟩

theorem str_ne {s : ByteArray} {k : List UInt8} (h : s.data.toList ≠ k) : (s.toList == k) = false := by
  rw [beq_eq_false_iff_ne]
  intro e
  apply h
  have e3 := congrArg List.toArray e
  have e4 : s.data = k.toArray := by simpa [ByteArray.toList_eq] using e3
  rw [e4]
set_option maxRecDepth 100000 in
set_option maxHeartbeats 3200000 in
theorem kw_none (w : World) (s : ByteArray) (h0 : s.data.toList ≠ [97, 110, 100]) (h1 : s.data.toList ≠ [98, 114, 101, 97, 107]) (h2 : s.data.toList ≠ [100, 111]) (h3 : s.data.toList ≠ [101, 108, 115, 101]) (h4 : s.data.toList ≠ [101, 108, 115, 101, 105, 102]) (h5 : s.data.toList ≠ [101, 110, 100]) (h6 : s.data.toList ≠ [102, 97, 108, 115, 101]) (h7 : s.data.toList ≠ [102, 111, 114]) (h8 : s.data.toList ≠ [102, 117, 110, 99, 116, 105, 111, 110]) (h9 : s.data.toList ≠ [105, 102]) (h10 : s.data.toList ≠ [105, 110]) (h11 : s.data.toList ≠ [108, 111, 99, 97, 108]) (h12 : s.data.toList ≠ [110, 105, 108]) (h13 : s.data.toList ≠ [110, 111, 116]) (h14 : s.data.toList ≠ [111, 114]) (h15 : s.data.toList ≠ [114, 101, 116, 117, 114, 110]) (h16 : s.data.toList ≠ [114, 101, 112, 101, 97, 116]) (h17 : s.data.toList ≠ [116, 104, 101, 110]) (h18 : s.data.toList ≠ [116, 114, 117, 101]) (h19 : s.data.toList ≠ [117, 110, 116, 105, 108]) (h20 : s.data.toList ≠ [119, 104, 105, 108, 101]) (h21 : s.data.toList ≠ [103, 111, 116, 111]) : Calls Tryz.prog 29 #[.string s] w fun e w' => e = .returned (.int .i64 57375) ∧ w = w' := by
  have e0 : (s.toList == [97, 110, 100]) = false := str_ne h0
  have e1 : (s.toList == [98, 114, 101, 97, 107]) = false := str_ne h1
  have e2 : (s.toList == [100, 111]) = false := str_ne h2
  have e3 : (s.toList == [101, 108, 115, 101]) = false := str_ne h3
  have e4 : (s.toList == [101, 108, 115, 101, 105, 102]) = false := str_ne h4
  have e5 : (s.toList == [101, 110, 100]) = false := str_ne h5
  have e6 : (s.toList == [102, 97, 108, 115, 101]) = false := str_ne h6
  have e7 : (s.toList == [102, 111, 114]) = false := str_ne h7
  have e8 : (s.toList == [102, 117, 110, 99, 116, 105, 111, 110]) = false := str_ne h8
  have e9 : (s.toList == [105, 102]) = false := str_ne h9
  have e10 : (s.toList == [105, 110]) = false := str_ne h10
  have e11 : (s.toList == [108, 111, 99, 97, 108]) = false := str_ne h11
  have e12 : (s.toList == [110, 105, 108]) = false := str_ne h12
  have e13 : (s.toList == [110, 111, 116]) = false := str_ne h13
  have e14 : (s.toList == [111, 114]) = false := str_ne h14
  have e15 : (s.toList == [114, 101, 116, 117, 114, 110]) = false := str_ne h15
  have e16 : (s.toList == [114, 101, 112, 101, 97, 116]) = false := str_ne h16
  have e17 : (s.toList == [116, 104, 101, 110]) = false := str_ne h17
  have e18 : (s.toList == [116, 114, 117, 101]) = false := str_ne h18
  have e19 : (s.toList == [117, 110, 116, 105, 108]) = false := str_ne h19
  have e20 : (s.toList == [119, 104, 105, 108, 101]) = false := str_ne h20
  have e21 : (s.toList == [103, 111, 116, 111]) = false := str_ne h21
  go_enter Tryz.func29, Tryz.ntmps29
  go_wp2
  go_ret
  exact ⟨rfl, rfl⟩

theorem kw_any (w : World) (l : List UInt8) : Calls Tryz.prog 29 #[.string ⟨l.toArray⟩] w fun e w' => e = .returned (.int .i64 (kw l)) ∧ w = w' := by
  by_cases h0 : l = [97, 110, 100]
  · subst h0; rw [show kw [97, 110, 100] = 57346 by decide]; exact kw_r0 w
  by_cases h1 : l = [98, 114, 101, 97, 107]
  · subst h1; rw [show kw [98, 114, 101, 97, 107] = 57347 by decide]; exact kw_r1 w
  by_cases h2 : l = [100, 111]
  · subst h2; rw [show kw [100, 111] = 57348 by decide]; exact kw_r2 w
  by_cases h3 : l = [101, 108, 115, 101]
  · subst h3; rw [show kw [101, 108, 115, 101] = 57349 by decide]; exact kw_r3 w
  by_cases h4 : l = [101, 108, 115, 101, 105, 102]
  · subst h4; rw [show kw [101, 108, 115, 101, 105, 102] = 57350 by decide]; exact kw_r4 w
  by_cases h5 : l = [101, 110, 100]
  · subst h5; rw [show kw [101, 110, 100] = 57351 by decide]; exact kw_r5 w
  by_cases h6 : l = [102, 97, 108, 115, 101]
  · subst h6; rw [show kw [102, 97, 108, 115, 101] = 57352 by decide]; exact kw_r6 w
  by_cases h7 : l = [102, 111, 114]
  · subst h7; rw [show kw [102, 111, 114] = 57353 by decide]; exact kw_r7 w
  by_cases h8 : l = [102, 117, 110, 99, 116, 105, 111, 110]
  · subst h8; rw [show kw [102, 117, 110, 99, 116, 105, 111, 110] = 57354 by decide]; exact kw_r8 w
  by_cases h9 : l = [105, 102]
  · subst h9; rw [show kw [105, 102] = 57355 by decide]; exact kw_r9 w
  by_cases h10 : l = [105, 110]
  · subst h10; rw [show kw [105, 110] = 57356 by decide]; exact kw_r10 w
  by_cases h11 : l = [108, 111, 99, 97, 108]
  · subst h11; rw [show kw [108, 111, 99, 97, 108] = 57357 by decide]; exact kw_r11 w
  by_cases h12 : l = [110, 105, 108]
  · subst h12; rw [show kw [110, 105, 108] = 57358 by decide]; exact kw_r12 w
  by_cases h13 : l = [110, 111, 116]
  · subst h13; rw [show kw [110, 111, 116] = 57359 by decide]; exact kw_r13 w
  by_cases h14 : l = [111, 114]
  · subst h14; rw [show kw [111, 114] = 57360 by decide]; exact kw_r14 w
  by_cases h15 : l = [114, 101, 116, 117, 114, 110]
  · subst h15; rw [show kw [114, 101, 116, 117, 114, 110] = 57361 by decide]; exact kw_r15 w
  by_cases h16 : l = [114, 101, 112, 101, 97, 116]
  · subst h16; rw [show kw [114, 101, 112, 101, 97, 116] = 57362 by decide]; exact kw_r16 w
  by_cases h17 : l = [116, 104, 101, 110]
  · subst h17; rw [show kw [116, 104, 101, 110] = 57363 by decide]; exact kw_r17 w
  by_cases h18 : l = [116, 114, 117, 101]
  · subst h18; rw [show kw [116, 114, 117, 101] = 57364 by decide]; exact kw_r18 w
  by_cases h19 : l = [117, 110, 116, 105, 108]
  · subst h19; rw [show kw [117, 110, 116, 105, 108] = 57365 by decide]; exact kw_r19 w
  by_cases h20 : l = [119, 104, 105, 108, 101]
  · subst h20; rw [show kw [119, 104, 105, 108, 101] = 57366 by decide]; exact kw_r20 w
  by_cases h21 : l = [103, 111, 116, 111]
  · subst h21; rw [show kw [103, 111, 116, 111] = 57367 by decide]; exact kw_r21 w
  have hk : kw l = 57375 := by
    unfold kw kwTab
    simp only [kwIn]
    rw [if_neg (fun e => h0 e.symm), if_neg (fun e => h1 e.symm), if_neg (fun e => h2 e.symm), if_neg (fun e => h3 e.symm), if_neg (fun e => h4 e.symm), if_neg (fun e => h5 e.symm), if_neg (fun e => h6 e.symm), if_neg (fun e => h7 e.symm), if_neg (fun e => h8 e.symm), if_neg (fun e => h9 e.symm), if_neg (fun e => h10 e.symm), if_neg (fun e => h11 e.symm), if_neg (fun e => h12 e.symm), if_neg (fun e => h13 e.symm), if_neg (fun e => h14 e.symm), if_neg (fun e => h15 e.symm), if_neg (fun e => h16 e.symm), if_neg (fun e => h17 e.symm), if_neg (fun e => h18 e.symm), if_neg (fun e => h19 e.symm), if_neg (fun e => h20 e.symm), if_neg (fun e => h21 e.symm)]
  rw [hk]
  exact kw_none w _ h0 h1 h2 h3 h4 h5 h6 h7 h8 h9 h10 h11 h12 h13 h14 h15 h16 h17 h18 h19 h20 h21

end Go.Proofs.YtgiklkapedlckaaGreatDoor

namespace Go.Proofs.YtgiklkapedlckaaGreatDoor
open Go.RowKit

/-- The reader in block R over the slice v, which lies in block M. -/
def Rf (w : World) (R M : Nat) (v : Value) (all : List UInt8) (st : St) : Prop :=
  ∃ i : Nat, Blk w R [v, .int .i64 i, .int .i64 st.line, .int .i64 st.col] ∧ Sm w M v all ∧ i ≤ all.length ∧ all.length ≤ 1099511627776 ∧ st.rest = all.drop i ∧ st.Bd ∧ R ≠ M
theorem Rf.fr {w w' : World} {R M : Nat} {v : Value} {all : List UInt8} {st : St} (h : Rf w R M v all st) {own : List Nat} (f : Fr own w w') (hR : R ∉ own) (hM : M ∉ own) : Rf w' R M v all st := by
  obtain ⟨i, h1, h2, h3⟩ := h
  exact ⟨i, f.blk h1 hR, h2.of_block (f.block _ h2.1 hM) f.size, h3⟩
theorem Rf.lt {w : World} {R M : Nat} {v : Value} {all : List UInt8} {st : St} (h : Rf w R M v all st) : R < w.heap.size ∧ M < w.heap.size := by
  obtain ⟨i, h1, h2, h3⟩ := h
  exact ⟨h1.lt, h2.1⟩
theorem Rf.bd {w : World} {R M : Nat} {v : Value} {all : List UInt8} {st : St} (h : Rf w R M v all st) : st.Bd ∧ st.rest.length ≤ all.length ∧ all.length ≤ 1099511627776 := by
  obtain ⟨i, h1, h2, h3, h4, h5, h6, _⟩ := h
  exact ⟨h6, by rw [h5]; simp, h4⟩

theorem St.Bd.adv {st : St} (h : st.Bd) : (-1 ≤ st.line ∧ st.line ≤ 2305843009213693951) ∧ (0 ≤ st.col ∧ st.col ≤ 2305843009213693952) := by
  have h1 := h.l0
  have h2 := h.c0
  have h3 := h.top
  omega

set_option maxRecDepth 100000 in
set_option maxHeartbeats 1600000 in
theorem peek_rf (w : World) (R M : Nat) (v : Value) (all : List UInt8) (st : St) (h : Rf w R M v all st) :
    Calls Tryz.prog 27 #[.pointer (some ⟨R, 0, none⟩)] w fun e w' => e = .returned (.int .i64 (hd st.rest)) ∧ Fr [] w w' := by
  obtain ⟨i, hb, ⟨hM, a, c, rfl, hlc, hcell⟩, hi, hal, hr, hbd, hne⟩ := h
  have c0 := hb.cell 0 _ rfl
  have c1 := hb.cell 1 _ rfl
  have hii : (i : Int) ≤ 1099511627776 := by omega
  have hli : (all.length : Int) ≤ 1099511627776 := by omega
  rw [hr]
  clear hb hr hbd
  by_cases hlt : i < all.length
  · have hlti : (i : Int) < (all.length : Int) := by omega
    obtain ⟨ad, rfl, hab, hcl⟩ := hcell (by omega)
    obtain ⟨x, hx⟩ : ∃ x, x = all[i] := ⟨_, rfl⟩
    have hc1 : w.cell? (ad.add i) = some (.int .u8 x.toNat) := by rw [hx]; exact hcl i hlt
    have HX := Lib.hid (show hd (all.drop i) = (x.toNat : Int) by rw [List.drop_eq_getElem_cons hlt, hx]; rfl)
    rw [HX.out]
    have hx0 : (0 : Int) ≤ (x.toNat : Int) := by omega
    have hx1 : (x.toNat : Int) ≤ 255 := by have := x.toNat_lt; omega
    clear hcl hcell hx HX
    go_enter Tryz.func27, Tryz.ntmps27
    go_wp2
    go_quiet (fail)
    go_wp2
    go_quiet (fail)
    go_wp2
    go_ret
    exact ⟨rfl, ((((Fr.refl _ _).drewN _).drewN _))⟩
  · have hge : (all.length : Int) ≤ (i : Int) := by omega
    rw [List.drop_eq_nil_of_le (by omega)]
    clear hcell
    go_enter Tryz.func27, Tryz.ntmps27
    go_wp2
    go_quiet (fail)
    go_wp2
    go_ret
    exact ⟨rfl, (((Fr.refl _ _).drewN _))⟩

/-- What next stores. -/
theorem Rf.put {w : World} {R M : Nat} {v : Value} {all : List UInt8} {i : Nat} {line col : Int} (hb : Blk w R [v, .int .i64 i, .int .i64 line, .int .i64 col]) (hm : Sm w M v all) (hal : all.length ≤ 1099511627776) (hne : R ≠ M)
    {w' : World} {i' : Nat} {st' : St} (hb' : Blk w' R [v, .int .i64 i', .int .i64 st'.line, .int .i64 st'.col]) (hf : Fr [R] w w') (hi' : i' ≤ all.length) (hr : st'.rest = all.drop i') (hbd : st'.Bd) : Rf w' R M v all st' ∧ Fr [R] w w' :=
  ⟨⟨i', hb', hm.of_block (hf.block _ hm.1 (by simpa using hne.symm)) hf.size, hi', hal, hr, hbd, hne⟩, hf⟩

set_option maxRecDepth 100000 in
set_option maxHeartbeats 3200000 in
theorem next_rf (w : World) (R M : Nat) (v : Value) (all : List UInt8) (st : St) (h : Rf w R M v all st) :
    Calls Tryz.prog 28 #[.pointer (some ⟨R, 0, none⟩)] w fun e w' => e = .returned (.int .i64 st.nextC) ∧ Rf w' R M v all st.nextS ∧ Fr [R] w w' := by
  obtain ⟨i, hb, hm, hi, hal, hr, hbd, hne⟩ := h
  have hm' := hm
  obtain ⟨hM, a, c, rfl, hlc, hcell⟩ := hm'
  have hbdn := hbd.next
  have hadv := hbd.adv
  obtain ⟨rest, line, col⟩ := st
  obtain rfl : rest = all.drop i := hr
  obtain ⟨⟨l0, l1⟩, ⟨k0, k1⟩⟩ := hadv
  simp only at l0 l1 k0 k1 hb
  have c0 := hb.cell 0 _ rfl
  have c1 := hb.cell 1 _ rfl
  have c2 := hb.cell 2 _ rfl
  have c3 := hb.cell 3 _ rfl
  have f1 := hb.free 1
  have f2 := hb.free 2
  have f3 := hb.free 3
  have hii : (i : Int) ≤ 1099511627776 := by omega
  have hli : (all.length : Int) ≤ 1099511627776 := by omega
  have HB := Lib.hid hb
  have HM := Lib.hid hm
  clear hb hm hbd
  by_cases hlt : i < all.length
  · have hlti : (i : Int) < (all.length : Int) := by omega
    obtain ⟨ad, rfl, hab, hcl⟩ := hcell (by omega)
    have far : ∀ (wz : World) (j k : Nat) (u : Value), (wz.setCell ⟨R, j, none⟩ u).cell? (ad.add k) = wz.cell? (ad.add k) := fun wz j k u => World.cell?_of_block (a := ad.add k) (by
      rw [block_add', hab]; exact Below.heap_setCell _ _ _ _ (Ne.symm hne))
    obtain ⟨x, hx⟩ : ∃ x, x = all[i] := ⟨_, rfl⟩
    have hc1 : w.cell? (ad.add i) = some (.int .u8 x.toNat) := by rw [hx]; exact hcl i hlt
    have hdr : all.drop i = x :: all.drop (i + 1) := by rw [List.drop_eq_getElem_cons hlt, hx]
    rw [hdr] at hbdn ⊢
    have hx0 : (0 : Int) ≤ (x.toNat : Int) := by omega
    have hx1 : (x.toNat : Int) ≤ 255 := by have := x.toNat_lt; omega
    by_cases hbr : (x.toNat : Int) = 10 ∨ (x.toNat : Int) = 13
    · rw [St.nextC_brk hbr, St.nextS_brk hbr, St.newline_pos (by omega)] at *
      simp only at hbdn ⊢
      by_cases hl2 : i + 1 < all.length
      · have hl2i : (i : Int) + 1 < (all.length : Int) := by omega
        obtain ⟨j, hj⟩ : ∃ j : Nat, j = i + 1 := ⟨_, rfl⟩
        have hji : (i : Int) + 1 = (j : Int) := by omega
        have hl2j : (j : Int) < (all.length : Int) := by omega
        obtain ⟨y, hy⟩ : ∃ y, y = all[i + 1] := ⟨_, rfl⟩
        have hc2 : w.cell? (ad.add j) = some (.int .u8 y.toNat) := by rw [hy, hj]; exact hcl (i + 1) hl2
        have hdr2 : all.drop (i + 1) = y :: all.drop (i + 1 + 1) := by rw [List.drop_eq_getElem_cons hl2, hy]
        rw [hdr2] at hbdn ⊢
        have hy0 : (0 : Int) ≤ (y.toNat : Int) := by omega
        have hy1 : (y.toNat : Int) ≤ 255 := by have := y.toNat_lt; omega
        have HD := Lib.hid (And.intro hdr (And.intro hdr2 (And.intro hj hl2)))
        clear hcl hcell hx hy hdr hdr2 hj hl2 hl2i
        by_cases hp : pair x.toNat (hd (y :: all.drop (i + 1 + 1))) = true
        · rw [if_pos hp] at hbdn ⊢
          have HBD := Lib.hid hbdn
          have hcd : ((x.toNat : Int) = 10 ∧ (y.toNat : Int) = 13) ∨ ((x.toNat : Int) = 13 ∧ (y.toNat : Int) = 10) := by
            simpa [pair, hd, Bool.or_eq_true, Bool.and_eq_true, beq_iff_eq] using hp
          clear hp hbr hbdn
          rcases hcd with ⟨h1, h2⟩ | ⟨h1, h2⟩
          · obtain ⟨e1, e2⟩ := b_yes h1
            obtain ⟨e5, e6⟩ := b_yes h2
            clear h1 h2
            go_enter Tryz.func28, Tryz.ntmps28
            go_wp2
            go_quiet (fail)
            go_wp2
            go_quiet (fail)
            go_wp2
            go_quiet (fail)
            go_wp2
            go_quiet (fail)
            go_wp2
            go_ret
            exact ⟨rfl, Rf.put HB.out HM.out hal hne (i' := j + 1) (st' := ⟨all.drop (i + 1 + 1), line + 1, 0⟩) (((((((HB.out).drewN _).set 1 _).set 2 _).set 3 _).drewN _).set 1 _) (((((((Fr.refl _ _).drewN _).setCell (by simp) _).setCell (by simp) _).setCell (by simp) _).drewN _).setCell (by simp) _) (by have := HD.out.2.2; omega) (by rw [HD.out.2.2.1]) HBD.out⟩
          · obtain ⟨e1, e2⟩ := b_no (show (x.toNat : Int) ≠ 10 by omega)
            obtain ⟨e3, e4⟩ := b_yes h1
            obtain ⟨e5, e6⟩ := b_yes h2
            clear h1 h2
            go_enter Tryz.func28, Tryz.ntmps28
            go_wp2
            go_quiet (fail)
            go_wp2
            go_quiet (fail)
            go_wp2
            go_quiet (fail)
            go_wp2
            go_quiet (fail)
            go_wp2
            go_ret
            exact ⟨rfl, Rf.put HB.out HM.out hal hne (i' := j + 1) (st' := ⟨all.drop (i + 1 + 1), line + 1, 0⟩) (((((((HB.out).drewN _).set 1 _).set 2 _).set 3 _).drewN _).set 1 _) (((((((Fr.refl _ _).drewN _).setCell (by simp) _).setCell (by simp) _).setCell (by simp) _).drewN _).setCell (by simp) _) (by have := HD.out.2.2; omega) (by rw [HD.out.2.2.1]) HBD.out⟩
        · rw [if_neg hp] at hbdn ⊢
          have HBD := Lib.hid hbdn
          have hcd : ((x.toNat : Int) = 10 ∧ (y.toNat : Int) ≠ 13) ∨ ((x.toNat : Int) = 13 ∧ (y.toNat : Int) ≠ 10) := by
            have : ¬ (((x.toNat : Int) = 10 ∧ (y.toNat : Int) = 13) ∨ ((x.toNat : Int) = 13 ∧ (y.toNat : Int) = 10)) := by
              simpa [pair, hd, Bool.or_eq_true, Bool.and_eq_true, beq_iff_eq] using hp
            omega
          clear hp hbr hbdn
          rcases hcd with ⟨h1, h2⟩ | ⟨h1, h2⟩
          · obtain ⟨e1, e2⟩ := b_yes h1
            obtain ⟨e3, e4⟩ := b_no (show (x.toNat : Int) ≠ 13 by omega)
            obtain ⟨e5, e6⟩ := b_no h2
            clear h1 h2
            go_enter Tryz.func28, Tryz.ntmps28
            go_wp2
            go_quiet (fail)
            go_wp2
            go_quiet (fail)
            go_wp2
            go_quiet (fail)
            go_wp2
            go_quiet (fail)
            go_wp2
            go_ret
            exact ⟨rfl, Rf.put HB.out HM.out hal hne (i' := j) (st' := ⟨y :: all.drop (i + 1 + 1), line + 1, 0⟩) ((((((HB.out).drewN _).set 1 _).set 2 _).set 3 _).drewN _) ((((((Fr.refl _ _).drewN _).setCell (by simp) _).setCell (by simp) _).setCell (by simp) _).drewN _) (by have := HD.out.2.2; omega) (by rw [HD.out.2.2.1]; exact HD.out.2.1.symm) HBD.out⟩
          · obtain ⟨e1, e2⟩ := b_no (show (x.toNat : Int) ≠ 10 by omega)
            obtain ⟨e3, e4⟩ := b_yes h1
            obtain ⟨e5, e6⟩ := b_no h2
            clear h1 h2
            go_enter Tryz.func28, Tryz.ntmps28
            go_wp2
            go_quiet (fail)
            go_wp2
            go_quiet (fail)
            go_wp2
            go_quiet (fail)
            go_wp2
            go_quiet (fail)
            go_wp2
            go_ret
            exact ⟨rfl, Rf.put HB.out HM.out hal hne (i' := j) (st' := ⟨y :: all.drop (i + 1 + 1), line + 1, 0⟩) ((((((HB.out).drewN _).set 1 _).set 2 _).set 3 _).drewN _) ((((((Fr.refl _ _).drewN _).setCell (by simp) _).setCell (by simp) _).setCell (by simp) _).drewN _) (by have := HD.out.2.2; omega) (by rw [HD.out.2.2.1]; exact HD.out.2.1.symm) HBD.out⟩
      · have hl2i : (all.length : Int) ≤ (i : Int) + 1 := by omega
        have hdn : all.drop (i + 1) = [] := List.drop_eq_nil_of_le (by omega)
        rw [hdn, show pair x.toNat (hd []) = false by simp [pair, hd]] at hbdn
        rw [hdn, show pair x.toNat (hd []) = false by simp [pair, hd]]
        have HBD := Lib.hid hbdn
        have HD := Lib.hid hdn
        clear hcl hcell hx hdr hdn hbdn
        rcases hbr with h1 | h1
        · obtain ⟨e1, e2⟩ := b_yes h1
          clear h1
          go_enter Tryz.func28, Tryz.ntmps28
          go_wp2
          go_quiet (fail)
          go_wp2
          go_quiet (fail)
          go_wp2
          go_quiet (fail)
          go_wp2
          go_ret
          exact ⟨rfl, Rf.put HB.out HM.out hal hne (i' := i + 1) (st' := ⟨[], line + 1, 0⟩) ((((((HB.out).drewN _).set 1 _).set 2 _).set 3 _).drewN _) ((((((Fr.refl _ _).drewN _).setCell (by simp) _).setCell (by simp) _).setCell (by simp) _).drewN _) (by omega) HD.out.symm HBD.out⟩
        · obtain ⟨e1, e2⟩ := b_no (show (x.toNat : Int) ≠ 10 by omega)
          obtain ⟨e3, e4⟩ := b_yes h1
          clear h1
          go_enter Tryz.func28, Tryz.ntmps28
          go_wp2
          go_quiet (fail)
          go_wp2
          go_quiet (fail)
          go_wp2
          go_quiet (fail)
          go_wp2
          go_ret
          exact ⟨rfl, Rf.put HB.out HM.out hal hne (i' := i + 1) (st' := ⟨[], line + 1, 0⟩) ((((((HB.out).drewN _).set 1 _).set 2 _).set 3 _).drewN _) ((((((Fr.refl _ _).drewN _).setCell (by simp) _).setCell (by simp) _).setCell (by simp) _).drewN _) (by omega) HD.out.symm HBD.out⟩
    · rw [St.nextC_else hbr]
      rw [St.nextS_else hbr] at hbdn ⊢
      have HBD := Lib.hid hbdn
      obtain ⟨e1, e2⟩ := b_no (show (x.toNat : Int) ≠ 10 by omega)
      obtain ⟨e3, e4⟩ := b_no (show (x.toNat : Int) ≠ 13 by omega)
      clear hcl hcell hx hdr hbr hbdn
      go_enter Tryz.func28, Tryz.ntmps28
      go_wp2
      go_quiet (fail)
      go_wp2
      go_quiet (fail)
      go_wp2
      go_ret
      exact ⟨rfl, Rf.put HB.out HM.out hal hne (i' := i + 1) (st' := ⟨all.drop (i + 1), line, col + 1⟩) ((((HB.out).drewN _).set 1 _).set 3 _) ((((Fr.refl _ _).drewN _).setCell (by simp) _).setCell (by simp) _) (by omega) rfl HBD.out⟩
  · have hge : (all.length : Int) ≤ (i : Int) := by omega
    have hdn : all.drop i = [] := List.drop_eq_nil_of_le (by omega)
    rw [St.nextS_eof (show (⟨all.drop i, line, col⟩ : St).rest = [] from hdn)] at hbdn ⊢
    rw [St.nextC_eof (show (⟨all.drop i, line, col⟩ : St).rest = [] from hdn)]
    have HD := Lib.hid hdn
    have HBD := Lib.hid hbdn
    clear hcell hdn hbdn
    go_enter Tryz.func28, Tryz.ntmps28
    go_wp2
    go_quiet (fail)
    go_wp2
    go_ret
    exact ⟨rfl, Rf.put HB.out HM.out hal hne (i' := i) (st' := ⟨[], -1, 0⟩) ((((HB.out).drewN _).set 2 _).set 3 _) ((((Fr.refl _ _).drewN _).setCell (by simp) _).setCell (by simp) _) hi HD.out.symm HBD.out⟩
end Go.Proofs.YtgiklkapedlckaaGreatDoor

namespace Go.Proofs.YtgiklkapedlckaaGreatDoor
open Go.RowKit

structure Ro (W0 : World) (R M : Nat) (sv : Value) (all : List UInt8) (B : Nat) (w : World) (st : St) (v : Value) (l : List UInt8) : Prop where
  rf : Rf w R M sv all st
  bs : Bs w B v l
  fb : Fb [R] B W0 w
  lr : R < B
  lm : M < B
  le : B ≤ w.heap.size
section
variable {W0 w : World} {R M : Nat} {sv : Value} {all : List UInt8} {B : Nat} {st : St} {v : Value} {l : List UInt8}
theorem Ro.scan {w' : World} {st' : St} (h : Ro W0 R M sv all B w st v l) (h' : Rf w' R M sv all st') (f : Fr [R] w w') : Ro W0 R M sv all B w' st' v l :=
  ⟨h', h.bs.fr f (fun k hk => by rw [List.mem_singleton.1 hk]; exact h.lr), h.fb.trans (f.fb h.le), h.lr, h.lm, Nat.le_trans h.le f.size⟩
theorem Rf.bl {w' : World} (h : Rf w R M sv all st) (f : Below B w w') (hR : R < B) (hM : M < B) : Rf w' R M sv all st := by
  obtain ⟨i, h1, h2, h3⟩ := h
  exact ⟨i, h1.of_block (f.block _ hR), h2.of_block (f.block _ hM) f.size, h3⟩
theorem Ro.wrote {w' : World} {v' : Value} {l' : List UInt8} (h : Ro W0 R M sv all B w st v l) (h' : Bs w' B v' l') (f : Below B w w') : Ro W0 R M sv all B w' st v' l' :=
  ⟨h.rf.bl f h.lr h.lm, h', h.fb.trans (fb_below f), h.lr, h.lm, Nat.le_trans h.le f.size⟩
theorem Ro.start {w' : World} (h : Rf w R M sv all st) (h' : Bs w' w.heap.size v l) (f : Below w.heap.size w w') : Ro w R M sv all w.heap.size w' st v l :=
  ⟨h.bl f h.lt.1 h.lt.2, h', fb_below f, h.lt.1, h.lt.2, f.size⟩
theorem Ro.done {w' : World} (h : Ro w R M sv all w.heap.size w' st v l) : Fr [R] w w' := h.fb.fr
theorem Ro.lim (h : Ro W0 R M sv all B w st v l) : st.rest.length ≤ 1099511627776 := Nat.le_trans h.rf.bd.2.1 h.rf.bd.2.2
theorem peek_ro (h : Ro W0 R M sv all B w st v l) : Calls Tryz.prog 27 #[.pointer (some ⟨R, 0, none⟩)] w fun e w' => e = .returned (.int .i64 (hd st.rest)) ∧ Ro W0 R M sv all B w' st v l :=
  (peek_rf w R M sv all st h.rf).mono fun _ _ ⟨he, f⟩ => ⟨he, h.scan (h.rf.fr f (by simp) (by simp)) (f.mono (by simp))⟩
theorem next_ro (h : Ro W0 R M sv all B w st v l) : Calls Tryz.prog 28 #[.pointer (some ⟨R, 0, none⟩)] w fun e w' => e = .returned (.int .i64 st.nextC) ∧ Ro W0 R M sv all B w' st.nextS v l :=
  (next_rf w R M sv all st h.rf).mono fun _ _ ⟨he, hs, f⟩ => ⟨he, h.scan hs f⟩
end
end Go.Proofs.YtgiklkapedlckaaGreatDoor

namespace Go.Proofs.YtgiklkapedlckaaGreatDoor
open Go.RowKit

set_option maxRecDepth 100000 in
set_option maxHeartbeats 12800000 in
theorem rskip0 (w : World) (R M : Nat) (sv : Value) (all : List UInt8) (st : St) (h : Rf w R M sv all st) :
    Calls Tryz.prog 24 #[.pointer (some ⟨R, 0, none⟩), .bool false] w fun e w' => e = .returned (.int .i64 (st.skip mk1).1) ∧ Rf w' R M sv all (st.skip mk1).2 ∧ Fr [R] w w' := by
  obtain ⟨E, hE⟩ : ∃ E, E = st.skip mk1 := ⟨_, rfl⟩
  rw [← hE]
  have HE := Lib.hid hE
  clear hE
  go_enter Tryz.func24, Tryz.ntmps24
  go_wp2_with (go_at_call 28; refine (next_rf _ R M sv all _ h).mono ?_; rintro e w1 ⟨rfl, rx, fx⟩; refine Hid.out ?_)
  refine Lib.hid ?_
  have HS := Lib.hid (And.intro rx fx)
  clear h rx fx
  go_wp2
  go_loopg [5] st.rest.length (fun n ch wr => ∃ q : St, q.rest.length ≤ n ∧ ch = .int .i64 q.nextC ∧ Rf wr R M sv all q.nextS ∧ Fr [R] w wr ∧ q.skip mk1 = E)
  case atStart => exact ⟨st, Nat.le_refl _, rfl, HS.out.1, HS.out.2, HE.out.symm⟩
  case round =>
    clear HS
    obtain ⟨q, hg, rfl, hrf, hfr, he⟩ := hrel
    have hin := in_mk1 q.nextC_lo q.nextC_hi
    have hcr := q.nextC_cr
    have HG := Lib.hid hg
    obtain ⟨cc, hcc⟩ : ∃ cc, cc = q.nextC := ⟨_, rfl⟩
    by_cases hy : cc = 32 ∨ cc = 9
    · have hin2 : inM mk1 q.nextC = true := by rw [hin, decide_eq_true_eq, ← hcc]; omega
      have HN := Lib.hid (And.intro (St.nextS_len (rest_of_inM hin2)).1 ((skip_more hin2).symm.trans he))
      rw [← hcc]
      clear hin hin2 hcr hg he hcc
      rcases hy with hy | hy
      · skip
        obtain ⟨m0, l0⟩ := b_yes hy
        clear hy
        go_wp2_with (go_at_call 28; refine (next_rf _ R M sv all _ hrf).mono ?_; rintro e w5 ⟨rfl, rx, fx⟩; refine Hid.out ?_)
        refine Lib.hid ?_
        have H5 := Lib.hid (And.intro rx (hfr.trans fx))
        clear hrf hfr rx fx
        go_wp2
        go_roundg q.nextS.rest.length
        case measure => have h8 := HN.out.1; have h9 := HG.out; omega
        case rel => exact ⟨q.nextS, Nat.le_refl _, rfl, H5.out.1, H5.out.2, HN.out.2⟩
      · skip
        obtain ⟨m0, l0⟩ := b_no (show cc ≠ 32 by omega)
        obtain ⟨m1, l1⟩ := b_yes hy
        clear hy
        go_wp2_with (go_at_call 28; refine (next_rf _ R M sv all _ hrf).mono ?_; rintro e w5 ⟨rfl, rx, fx⟩; refine Hid.out ?_)
        refine Lib.hid ?_
        have H5 := Lib.hid (And.intro rx (hfr.trans fx))
        clear hrf hfr rx fx
        go_wp2
        go_roundg q.nextS.rest.length
        case measure => have h8 := HN.out.1; have h9 := HG.out; omega
        case rel => exact ⟨q.nextS, Nat.le_refl _, rfl, H5.out.1, H5.out.2, HN.out.2⟩
    · have hin2 : inM mk1 q.nextC = false := by rw [hin, decide_eq_false_iff_not, ← hcc]; omega
      have hee : E = (q.nextC, q.nextS) := he.symm.trans (skip_stop hin2)
      rw [← hcc] at hee ⊢
      subst hee
      obtain ⟨m0, l0⟩ := b_no (show cc ≠ 32 by omega)
      obtain ⟨m1, l1⟩ := b_no (show cc ≠ 9 by omega)
      have HF := Lib.hid (And.intro hrf hfr)
      clear hy hin hin2 hcr hg he hcc hrf hfr HE HG
      go_wp2
      go_ret
      exact ⟨rfl, HF.out⟩
set_option maxRecDepth 100000 in
set_option maxHeartbeats 12800000 in
theorem rskip1 (w : World) (R M : Nat) (sv : Value) (all : List UInt8) (st : St) (h : Rf w R M sv all st) :
    Calls Tryz.prog 24 #[.pointer (some ⟨R, 0, none⟩), .bool true] w fun e w' => e = .returned (.int .i64 (st.skip mk2).1) ∧ Rf w' R M sv all (st.skip mk2).2 ∧ Fr [R] w w' := by
  obtain ⟨E, hE⟩ : ∃ E, E = st.skip mk2 := ⟨_, rfl⟩
  rw [← hE]
  have HE := Lib.hid hE
  clear hE
  go_enter Tryz.func24, Tryz.ntmps24
  go_wp2_with (go_at_call 28; refine (next_rf _ R M sv all _ h).mono ?_; rintro e w1 ⟨rfl, rx, fx⟩; refine Hid.out ?_)
  refine Lib.hid ?_
  have HS := Lib.hid (And.intro rx fx)
  clear h rx fx
  go_wp2
  go_loopg [5] st.rest.length (fun n ch wr => ∃ q : St, q.rest.length ≤ n ∧ ch = .int .i64 q.nextC ∧ Rf wr R M sv all q.nextS ∧ Fr [R] w wr ∧ q.skip mk2 = E)
  case atStart => exact ⟨st, Nat.le_refl _, rfl, HS.out.1, HS.out.2, HE.out.symm⟩
  case round =>
    clear HS
    obtain ⟨q, hg, rfl, hrf, hfr, he⟩ := hrel
    have hin := in_mk2 q.nextC_lo q.nextC_hi
    have hcr := q.nextC_cr
    have HG := Lib.hid hg
    obtain ⟨cc, hcc⟩ : ∃ cc, cc = q.nextC := ⟨_, rfl⟩
    by_cases hy : cc = 32 ∨ cc = 9 ∨ cc = 10
    · have hin2 : inM mk2 q.nextC = true := by rw [hin, decide_eq_true_eq, ← hcc]; omega
      have HN := Lib.hid (And.intro (St.nextS_len (rest_of_inM hin2)).1 ((skip_more hin2).symm.trans he))
      rw [← hcc]
      clear hin hin2 hcr hg he hcc
      rcases hy with hy | hy | hy
      · skip
        obtain ⟨m0, l0⟩ := b_yes hy
        clear hy
        go_wp2_with (go_at_call 28; refine (next_rf _ R M sv all _ hrf).mono ?_; rintro e w5 ⟨rfl, rx, fx⟩; refine Hid.out ?_)
        refine Lib.hid ?_
        have H5 := Lib.hid (And.intro rx (hfr.trans fx))
        clear hrf hfr rx fx
        go_wp2
        go_roundg q.nextS.rest.length
        case measure => have h8 := HN.out.1; have h9 := HG.out; omega
        case rel => exact ⟨q.nextS, Nat.le_refl _, rfl, H5.out.1, H5.out.2, HN.out.2⟩
      · skip
        obtain ⟨m0, l0⟩ := b_no (show cc ≠ 32 by omega)
        obtain ⟨m1, l1⟩ := b_yes hy
        clear hy
        go_wp2_with (go_at_call 28; refine (next_rf _ R M sv all _ hrf).mono ?_; rintro e w5 ⟨rfl, rx, fx⟩; refine Hid.out ?_)
        refine Lib.hid ?_
        have H5 := Lib.hid (And.intro rx (hfr.trans fx))
        clear hrf hfr rx fx
        go_wp2
        go_roundg q.nextS.rest.length
        case measure => have h8 := HN.out.1; have h9 := HG.out; omega
        case rel => exact ⟨q.nextS, Nat.le_refl _, rfl, H5.out.1, H5.out.2, HN.out.2⟩
      · skip
        obtain ⟨m0, l0⟩ := b_no (show cc ≠ 32 by omega)
        obtain ⟨m1, l1⟩ := b_no (show cc ≠ 9 by omega)
        obtain ⟨m2, l2⟩ := b_yes hy
        clear hy
        go_wp2_with (go_at_call 28; refine (next_rf _ R M sv all _ hrf).mono ?_; rintro e w5 ⟨rfl, rx, fx⟩; refine Hid.out ?_)
        refine Lib.hid ?_
        have H5 := Lib.hid (And.intro rx (hfr.trans fx))
        clear hrf hfr rx fx
        go_wp2
        go_roundg q.nextS.rest.length
        case measure => have h8 := HN.out.1; have h9 := HG.out; omega
        case rel => exact ⟨q.nextS, Nat.le_refl _, rfl, H5.out.1, H5.out.2, HN.out.2⟩
    · have hin2 : inM mk2 q.nextC = false := by rw [hin, decide_eq_false_iff_not, ← hcc]; omega
      have hee : E = (q.nextC, q.nextS) := he.symm.trans (skip_stop hin2)
      rw [← hcc] at hee ⊢
      subst hee
      obtain ⟨m0, l0⟩ := b_no (show cc ≠ 32 by omega)
      obtain ⟨m1, l1⟩ := b_no (show cc ≠ 9 by omega)
      obtain ⟨m2, l2⟩ := b_no (show cc ≠ 10 by omega)
      have HF := Lib.hid (And.intro hrf hfr)
      clear hy hin hin2 hcr hg he hcc hrf hfr HE HG
      go_wp2
      go_ret
      exact ⟨rfl, HF.out⟩

set_option maxRecDepth 100000 in
set_option maxHeartbeats 12800000 in
theorem rdecimal {W0 w : World} {R M : Nat} {sv : Value} {all : List UInt8} {B : Nat} {st : St} {v : Value} {l : List UInt8} (h : Ro W0 R M sv all B w st v l) (c : Int) (hl : l.length + st.rest.length ≤ 8796093022208) :
    Calls Tryz.prog 48 #[.pointer (some ⟨R, 0, none⟩), .int .i64 c, v] w fun e w' => ∃ v', e = .returned v' ∧ Ro W0 R M sv all B w' (dec c st).2 v' (l ++ (dec c st).1) := by
  have HX := Lib.hid (show c % 256 = ((by8 c).toNat : Int) from (by8_toNat c).symm)
  have HLM := Lib.hid (show l.length + 1 ≤ 140737488355328 by omega)
  have HLIM := Lib.hid (show (l ++ [by8 c]).length + st.rest.length ≤ 8796093022209 by rw [List.length_append]; simp only [List.length_cons, List.length_nil]; omega)
  go_enter Tryz.func48, Tryz.ntmps48
  go_wp2_with (at_builtin; refine wpList_app1 rfl (.tmp 7) (.tmp 10) rfl _ B _ l _ (by8 c) rfl rfl h.bs HX h.le HLM ?_; intro v1 w1 hb9 hl9; refine Hid.out ?_)
  refine Lib.hid ?_
  have H1 := Lib.hid (h.wrote hb9 hl9)
  clear h hb9 hl9 hl
  go_wp2
  go_loopg [2] st.rest.length (fun n sw wr => ∃ (sp : St) (ds : List UInt8), sp.rest.length ≤ n ∧ Ro W0 R M sv all B wr sp sw ((l ++ [by8 c]) ++ ds) ∧ ds ++ sp.run decI = st.run decI ∧ sp.adv decI = st.adv decI ∧ ds.length + sp.rest.length ≤ st.rest.length)
  case atStart => exact ⟨st, [], Nat.le_refl _, by have h5 := H1.out; simpa using h5, rfl, rfl, by simp⟩
  case round =>
    clear H1
    obtain ⟨sp, ds, hg, ho, h1, h2, h3⟩ := hrel
    have HLM := Lib.hid (show ((l ++ [by8 c]) ++ ds).length + 1 ≤ 140737488355328 by have := HLIM.out; rw [List.length_append]; omega)
    have HG := Lib.hid hg
    clear hg
    cases hp : decI (hd sp.rest)
    · have hds : st.run decI = ds := by rw [← h1, run_no hp, List.append_nil]
      have hsp : st.adv decI = sp := by rw [← h2, adv_no hp]
      have HP := Lib.hid hp
      have HDS := Lib.hid (And.intro hds hsp)
      clear hp h1 h2 h3 hds hsp
      go_wp2_with (go_at_call 27; refine (peek_ro ho).mono ?_; rintro e w1 ⟨rfl, ho1⟩; refine Hid.out ?_)
      refine Lib.hid ?_
      clear ho
      go_wp2_with (go_at_call 30; refine (rdec_false _ _ HP.out).mono ?_; rintro e w' ⟨rfl, rfl⟩)
      go_ret
      refine ⟨_, rfl, ?_⟩
      have h5 := ho1
      rw [← HDS.out.1, ← HDS.out.2] at h5
      show Ro W0 R M sv all B _ (st.adv decI) _ (l ++ by8 c :: st.run decI)
      rw [List.append_assoc] at h5
      exact h5
    · obtain ⟨x, n1, n2, n3, n4⟩ := cls_step cls_dec hp
      have HP := Lib.hid hp
      have HXX := Lib.hid (show sp.nextC % 256 = (x.toNat : Int) by rw [n1]; have := x.toNat_lt; omega)
      have HN := Lib.hid (And.intro (show (ds ++ [x]) ++ sp.nextS.run decI = st.run decI by rw [← h1, n2, List.append_assoc]; rfl) (And.intro (n3.symm.trans h2) (And.intro n4 (show (ds ++ [x]).length + sp.nextS.rest.length ≤ st.rest.length by rw [List.length_append]; simp only [List.length_cons, List.length_nil]; omega))))
      clear hp h1 h2 h3 n1 n2 n3 n4
      go_wp2_with (go_at_call 27; refine (peek_ro ho).mono ?_; rintro e w1 ⟨rfl, ho1⟩; refine Hid.out ?_)
      refine Lib.hid ?_
      clear ho
      go_wp2_with (first | (go_at_call 30; refine (rdec_true _ _ HP.out).mono ?_; rintro e w' ⟨rfl, rfl⟩) | (go_at_call 28; refine (next_ro ho1).mono ?_; rintro e w2 ⟨rfl, ho2⟩; refine Hid.out ?_))
      refine Lib.hid ?_
      clear ho1
      go_wp2_with (at_builtin; refine wpList_app1 rfl (.tmp 15) (.tmp 19) rfl _ B _ ((l ++ [by8 c]) ++ ds) _ x rfl rfl ho2.bs HXX ho2.le HLM ?_; intro v9 w9 hb9 hl9; refine Hid.out ?_)
      refine Lib.hid ?_
      have H9 := Lib.hid (ho2.wrote hb9 hl9)
      clear ho2 hb9 hl9
      go_wp2
      go_roundg sp.nextS.rest.length
      case measure => have h8 := HN.out.2.2.1; have h9 := HG.out; omega
      case rel => exact ⟨sp.nextS, ds ++ [x], Nat.le_refl _, by have h5 := H9.out; rw [List.append_assoc] at h5; exact h5, HN.out.1, HN.out.2.1, HN.out.2.2.2⟩
end Go.Proofs.YtgiklkapedlckaaGreatDoor

namespace Go.Proofs.YtgiklkapedlckaaGreatDoor
open Go.RowKit

def rSnd : Code → Code
  | .seq _ c => c
  | c => c
def rFst : Code → Code
  | .seq c _ => c
  | c => c
/-- number's code from its first decimal on, in parts. -/
noncomputable def numB : Code := Tryz.f31.body.getD .skip
noncomputable def n13 : Code := rSnd (rSnd (rSnd numB))
noncomputable def n14 : Code := rSnd n13
noncomputable def n16 : Code := rSnd n14
noncomputable def n23 : Code := rSnd n16
theorem rdec_len (c : Int) (st : St) : (dec c st).1.length + (dec c st).2.rest.length = st.rest.length + 1 := by
  have := run_len decI st
  show (by8 c :: st.run decI).length + (st.adv decI).rest.length = _
  rw [List.length_cons]; omega
set_option maxRecDepth 1000000 in
set_option maxHeartbeats 16000000 in
theorem nm_13 {W0 w : World} {R M : Nat} {sv : Value} {all : List UInt8} {B : Nat} {st : St} {v : Value} {l : List UInt8} {Q : Exit → Act → World → Prop} {c : Int} (h : Ro W0 R M sv all B w st v l) (hl : l.length + st.rest.length ≤ 1099511627800)
    (hQ : ∀ (v' : Value) (w' : World) (u1 u2 u3 u4 u5 u7 u8 u9 u10 u11 u12 u13 u14 u15 u16 u17 u18 u19 u20 u21 u22 u23 u24 u25 u26 u27 u28 u29 u30 u31 u32 u33 u34 u35 u36 u37 u38 u39 u40 u41 u42 u43 u44 u45 u46 u47 u48 u49 u50 u51 u52 u53 u54 u55 u56 u57 u58 u59 u60 u61 u62 u63 u64 u65 u66 u67 u68 u69 u70 u71 u72 u73 u74 u75 u76 u77 u78 u79 u80 u81 u82 u83 u84 u85 u86 u87 : Value), Ro W0 R M sv all B w' (dec c st).2 v' (l ++ (dec c st).1) → Q .normal ⟨(Value.pointer (some ⟨R, 0, none⟩) :: u1 :: u2 :: u3 :: u4 :: u5 :: v' :: u7 :: u8 :: u9 :: u10 :: u11 :: u12 :: u13 :: u14 :: u15 :: u16 :: u17 :: u18 :: u19 :: u20 :: u21 :: u22 :: u23 :: u24 :: u25 :: u26 :: u27 :: u28 :: u29 :: u30 :: u31 :: u32 :: u33 :: u34 :: u35 :: u36 :: u37 :: u38 :: u39 :: u40 :: u41 :: u42 :: u43 :: u44 :: u45 :: u46 :: u47 :: u48 :: u49 :: u50 :: u51 :: u52 :: u53 :: u54 :: u55 :: u56 :: u57 :: u58 :: u59 :: u60 :: u61 :: u62 :: u63 :: u64 :: u65 :: u66 :: u67 :: u68 :: u69 :: u70 :: u71 :: u72 :: u73 :: u74 :: u75 :: u76 :: u77 :: u78 :: u79 :: u80 :: u81 :: u82 :: u83 :: u84 :: u85 :: u86 :: u87 :: []).toArray, []⟩ w') (u2 u3 u4 u5 u7 u8 u9 u10 u11 u12 u13 u14 u15 u16 u17 u18 u19 u20 u21 u22 u23 u24 u25 u26 u27 u28 u29 u30 u31 u32 u33 u34 u35 u36 u37 u38 u39 u40 u41 u42 u43 u44 u45 u46 u47 u48 u49 u50 u51 u52 u53 u54 u55 u56 u57 u58 u59 u60 u61 u62 u63 u64 u65 u66 u67 u68 u69 u70 u71 u72 u73 u74 u75 u76 u77 u78 u79 u80 u81 u82 u83 u84 u85 u86 u87 : Value) : Code.wp Tryz.prog (rFst n13) Q ⟨#[Value.pointer (some ⟨R, 0, none⟩), Value.int .i64 c, u2, u3, u4, u5, v, u7, u8, u9, u10, u11, u12, u13, u14, u15, u16, u17, u18, u19, u20, u21, u22, u23, u24, u25, u26, u27, u28, u29, u30, u31, u32, u33, u34, u35, u36, u37, u38, u39, u40, u41, u42, u43, u44, u45, u46, u47, u48, u49, u50, u51, u52, u53, u54, u55, u56, u57, u58, u59, u60, u61, u62, u63, u64, u65, u66, u67, u68, u69, u70, u71, u72, u73, u74, u75, u76, u77, u78, u79, u80, u81, u82, u83, u84, u85, u86, u87], []⟩ w := by
  conv => arg 2; whnf
  go_wp2_with (go_at_call 48; refine (rdecimal h c (by omega)).mono ?_; rintro e w1 ⟨v1, rfl, h1⟩; refine Hid.out ?_)
  refine Lib.hid ?_
  have HE := Lib.hid h1
  clear h1
  go_wp2
  first | exact hQ _ _ _ _ _ _ _ _ _ _ _ _ _ _ _ _ _ _ _ _ _ _ _ _ _ _ _ _ _ _ _ _ _ _ _ _ _ _ _ _ _ _ _ _ _ _ _ _ _ _ _ _ _ _ _ _ _ _ _ _ _ _ _ _ _ _ _ _ _ _ _ _ _ _ _ _ _ _ _ _ _ _ _ _ _ _ _ _ HE.out | exact HE.out
set_option maxRecDepth 1000000 in
set_option maxHeartbeats 16000000 in
theorem nm_14n {W0 w : World} {R M : Nat} {sv : Value} {all : List UInt8} {B : Nat} {st : St} {v : Value} {l : List UInt8} {Q : Exit → Act → World → Prop} (h : Ro W0 R M sv all B w st v l) (hx : (hd st.rest == 46) = false)
    (hQ : ∀ (v' : Value) (w' : World) (u1 u2 u3 u4 u5 u7 u8 u9 u10 u11 u12 u13 u14 u15 u16 u17 u18 u19 u20 u21 u22 u23 u24 u25 u26 u27 u28 u29 u30 u31 u32 u33 u34 u35 u36 u37 u38 u39 u40 u41 u42 u43 u44 u45 u46 u47 u48 u49 u50 u51 u52 u53 u54 u55 u56 u57 u58 u59 u60 u61 u62 u63 u64 u65 u66 u67 u68 u69 u70 u71 u72 u73 u74 u75 u76 u77 u78 u79 u80 u81 u82 u83 u84 u85 u86 u87 : Value), Ro W0 R M sv all B w' st v' l → Q .normal ⟨(Value.pointer (some ⟨R, 0, none⟩) :: u1 :: u2 :: u3 :: u4 :: u5 :: v' :: u7 :: u8 :: u9 :: u10 :: u11 :: u12 :: u13 :: u14 :: u15 :: u16 :: u17 :: u18 :: u19 :: u20 :: u21 :: u22 :: u23 :: u24 :: u25 :: u26 :: u27 :: u28 :: u29 :: u30 :: u31 :: u32 :: u33 :: u34 :: u35 :: u36 :: u37 :: u38 :: u39 :: u40 :: u41 :: u42 :: u43 :: u44 :: u45 :: u46 :: u47 :: u48 :: u49 :: u50 :: u51 :: u52 :: u53 :: u54 :: u55 :: u56 :: u57 :: u58 :: u59 :: u60 :: u61 :: u62 :: u63 :: u64 :: u65 :: u66 :: u67 :: u68 :: u69 :: u70 :: u71 :: u72 :: u73 :: u74 :: u75 :: u76 :: u77 :: u78 :: u79 :: u80 :: u81 :: u82 :: u83 :: u84 :: u85 :: u86 :: u87 :: []).toArray, []⟩ w') (u1 u2 u3 u4 u5 u7 u8 u9 u10 u11 u12 u13 u14 u15 u16 u17 u18 u19 u20 u21 u22 u23 u24 u25 u26 u27 u28 u29 u30 u31 u32 u33 u34 u35 u36 u37 u38 u39 u40 u41 u42 u43 u44 u45 u46 u47 u48 u49 u50 u51 u52 u53 u54 u55 u56 u57 u58 u59 u60 u61 u62 u63 u64 u65 u66 u67 u68 u69 u70 u71 u72 u73 u74 u75 u76 u77 u78 u79 u80 u81 u82 u83 u84 u85 u86 u87 : Value) : Code.wp Tryz.prog (rFst n14) Q ⟨#[Value.pointer (some ⟨R, 0, none⟩), u1, u2, u3, u4, u5, v, u7, u8, u9, u10, u11, u12, u13, u14, u15, u16, u17, u18, u19, u20, u21, u22, u23, u24, u25, u26, u27, u28, u29, u30, u31, u32, u33, u34, u35, u36, u37, u38, u39, u40, u41, u42, u43, u44, u45, u46, u47, u48, u49, u50, u51, u52, u53, u54, u55, u56, u57, u58, u59, u60, u61, u62, u63, u64, u65, u66, u67, u68, u69, u70, u71, u72, u73, u74, u75, u76, u77, u78, u79, u80, u81, u82, u83, u84, u85, u86, u87], []⟩ w := by
  conv => arg 2; whnf
  go_wp2_with (go_at_call 27; refine (peek_ro h).mono ?_; rintro e w1 ⟨rfl, h1⟩; refine Hid.out ?_)
  refine Lib.hid ?_
  have HE := Lib.hid h1
  clear h1
  go_wp2
  first | exact hQ _ _ _ _ _ _ _ _ _ _ _ _ _ _ _ _ _ _ _ _ _ _ _ _ _ _ _ _ _ _ _ _ _ _ _ _ _ _ _ _ _ _ _ _ _ _ _ _ _ _ _ _ _ _ _ _ _ _ _ _ _ _ _ _ _ _ _ _ _ _ _ _ _ _ _ _ _ _ _ _ _ _ _ _ _ _ _ _ HE.out | exact HE.out
set_option maxRecDepth 1000000 in
set_option maxHeartbeats 16000000 in
theorem nm_14y {W0 w : World} {R M : Nat} {sv : Value} {all : List UInt8} {B : Nat} {st : St} {v : Value} {l : List UInt8} {Q : Exit → Act → World → Prop} (h : Ro W0 R M sv all B w st v l) (hx : (hd st.rest == 46) = true) (hl : l.length + st.rest.length ≤ 1099511627800)
    (hQ : ∀ (v' : Value) (w' : World) (u1 u2 u3 u4 u5 u7 u8 u9 u10 u11 u12 u13 u14 u15 u16 u17 u18 u19 u20 u21 u22 u23 u24 u25 u26 u27 u28 u29 u30 u31 u32 u33 u34 u35 u36 u37 u38 u39 u40 u41 u42 u43 u44 u45 u46 u47 u48 u49 u50 u51 u52 u53 u54 u55 u56 u57 u58 u59 u60 u61 u62 u63 u64 u65 u66 u67 u68 u69 u70 u71 u72 u73 u74 u75 u76 u77 u78 u79 u80 u81 u82 u83 u84 u85 u86 u87 : Value), Ro W0 R M sv all B w' (dec st.nextC st.nextS).2 v' (l ++ (dec st.nextC st.nextS).1) → Q .normal ⟨(Value.pointer (some ⟨R, 0, none⟩) :: u1 :: u2 :: u3 :: u4 :: u5 :: v' :: u7 :: u8 :: u9 :: u10 :: u11 :: u12 :: u13 :: u14 :: u15 :: u16 :: u17 :: u18 :: u19 :: u20 :: u21 :: u22 :: u23 :: u24 :: u25 :: u26 :: u27 :: u28 :: u29 :: u30 :: u31 :: u32 :: u33 :: u34 :: u35 :: u36 :: u37 :: u38 :: u39 :: u40 :: u41 :: u42 :: u43 :: u44 :: u45 :: u46 :: u47 :: u48 :: u49 :: u50 :: u51 :: u52 :: u53 :: u54 :: u55 :: u56 :: u57 :: u58 :: u59 :: u60 :: u61 :: u62 :: u63 :: u64 :: u65 :: u66 :: u67 :: u68 :: u69 :: u70 :: u71 :: u72 :: u73 :: u74 :: u75 :: u76 :: u77 :: u78 :: u79 :: u80 :: u81 :: u82 :: u83 :: u84 :: u85 :: u86 :: u87 :: []).toArray, []⟩ w') (u1 u2 u3 u4 u5 u7 u8 u9 u10 u11 u12 u13 u14 u15 u16 u17 u18 u19 u20 u21 u22 u23 u24 u25 u26 u27 u28 u29 u30 u31 u32 u33 u34 u35 u36 u37 u38 u39 u40 u41 u42 u43 u44 u45 u46 u47 u48 u49 u50 u51 u52 u53 u54 u55 u56 u57 u58 u59 u60 u61 u62 u63 u64 u65 u66 u67 u68 u69 u70 u71 u72 u73 u74 u75 u76 u77 u78 u79 u80 u81 u82 u83 u84 u85 u86 u87 : Value) : Code.wp Tryz.prog (rFst n14) Q ⟨#[Value.pointer (some ⟨R, 0, none⟩), u1, u2, u3, u4, u5, v, u7, u8, u9, u10, u11, u12, u13, u14, u15, u16, u17, u18, u19, u20, u21, u22, u23, u24, u25, u26, u27, u28, u29, u30, u31, u32, u33, u34, u35, u36, u37, u38, u39, u40, u41, u42, u43, u44, u45, u46, u47, u48, u49, u50, u51, u52, u53, u54, u55, u56, u57, u58, u59, u60, u61, u62, u63, u64, u65, u66, u67, u68, u69, u70, u71, u72, u73, u74, u75, u76, u77, u78, u79, u80, u81, u82, u83, u84, u85, u86, u87], []⟩ w := by
  have hr := rest_next_le st
  conv => arg 2; whnf
  go_wp2_with (go_at_call 27; refine (peek_ro h).mono ?_; rintro e w1 ⟨rfl, h1⟩; refine Hid.out ?_)
  refine Lib.hid ?_
  clear h
  go_wp2_with (go_at_call 28; refine (next_ro h1).mono ?_; rintro e w2 ⟨rfl, h2⟩; refine Hid.out ?_)
  refine Lib.hid ?_
  clear h1 hx
  go_wp2_with (go_at_call 48; refine (rdecimal h2 st.nextC (by omega)).mono ?_; rintro e w3 ⟨v3, rfl, h3⟩; refine Hid.out ?_)
  refine Lib.hid ?_
  have HE := Lib.hid h3
  clear h3
  go_wp2
  first | exact hQ _ _ _ _ _ _ _ _ _ _ _ _ _ _ _ _ _ _ _ _ _ _ _ _ _ _ _ _ _ _ _ _ _ _ _ _ _ _ _ _ _ _ _ _ _ _ _ _ _ _ _ _ _ _ _ _ _ _ _ _ _ _ _ _ _ _ _ _ _ _ _ _ _ _ _ _ _ _ _ _ _ _ _ _ _ _ _ _ HE.out | exact HE.out
set_option maxRecDepth 1000000 in
set_option maxHeartbeats 16000000 in
theorem nm_16n {W0 w : World} {R M : Nat} {sv : Value} {all : List UInt8} {B : Nat} {st : St} {v : Value} {l : List UInt8} {Q : Exit → Act → World → Prop} (h : Ro W0 R M sv all B w st v l) (hx : (hd st.rest == 101) = false) (hy : (hd st.rest == 69) = false)
    (hQ : ∀ (v' : Value) (w' : World) (u1 u2 u3 u4 u5 u7 u8 u9 u10 u11 u12 u13 u14 u15 u16 u17 u18 u19 u20 u21 u22 u23 u24 u25 u26 u27 u28 u29 u30 u31 u32 u33 u34 u35 u36 u37 u38 u39 u40 u41 u42 u43 u44 u45 u46 u47 u48 u49 u50 u51 u52 u53 u54 u55 u56 u57 u58 u59 u60 u61 u62 u63 u64 u65 u66 u67 u68 u69 u70 u71 u72 u73 u74 u75 u76 u77 u78 u79 u80 u81 u82 u83 u84 u85 u86 u87 : Value), Ro W0 R M sv all B w' st v' l → Q .normal ⟨(Value.pointer (some ⟨R, 0, none⟩) :: u1 :: u2 :: u3 :: u4 :: u5 :: v' :: u7 :: u8 :: u9 :: u10 :: u11 :: u12 :: u13 :: u14 :: u15 :: u16 :: u17 :: u18 :: u19 :: u20 :: u21 :: u22 :: u23 :: u24 :: u25 :: u26 :: u27 :: u28 :: u29 :: u30 :: u31 :: u32 :: u33 :: u34 :: u35 :: u36 :: u37 :: u38 :: u39 :: u40 :: u41 :: u42 :: u43 :: u44 :: u45 :: u46 :: u47 :: u48 :: u49 :: u50 :: u51 :: u52 :: u53 :: u54 :: u55 :: u56 :: u57 :: u58 :: u59 :: u60 :: u61 :: u62 :: u63 :: u64 :: u65 :: u66 :: u67 :: u68 :: u69 :: u70 :: u71 :: u72 :: u73 :: u74 :: u75 :: u76 :: u77 :: u78 :: u79 :: u80 :: u81 :: u82 :: u83 :: u84 :: u85 :: u86 :: u87 :: []).toArray, []⟩ w') (u1 u2 u3 u4 u5 u7 u8 u9 u10 u11 u12 u13 u14 u15 u16 u17 u18 u19 u20 u21 u22 u23 u24 u25 u26 u27 u28 u29 u30 u31 u32 u33 u34 u35 u36 u37 u38 u39 u40 u41 u42 u43 u44 u45 u46 u47 u48 u49 u50 u51 u52 u53 u54 u55 u56 u57 u58 u59 u60 u61 u62 u63 u64 u65 u66 u67 u68 u69 u70 u71 u72 u73 u74 u75 u76 u77 u78 u79 u80 u81 u82 u83 u84 u85 u86 u87 : Value) : Code.wp Tryz.prog (rFst n16) Q ⟨#[Value.pointer (some ⟨R, 0, none⟩), u1, u2, u3, u4, u5, v, u7, u8, u9, u10, u11, u12, u13, u14, u15, u16, u17, u18, u19, u20, u21, u22, u23, u24, u25, u26, u27, u28, u29, u30, u31, u32, u33, u34, u35, u36, u37, u38, u39, u40, u41, u42, u43, u44, u45, u46, u47, u48, u49, u50, u51, u52, u53, u54, u55, u56, u57, u58, u59, u60, u61, u62, u63, u64, u65, u66, u67, u68, u69, u70, u71, u72, u73, u74, u75, u76, u77, u78, u79, u80, u81, u82, u83, u84, u85, u86, u87], []⟩ w := by
  conv => arg 2; whnf
  go_wp2_with (go_at_call 27; refine (peek_ro h).mono ?_; rintro e w1 ⟨rfl, h1⟩; refine Hid.out ?_)
  refine Lib.hid ?_
  have HE := Lib.hid h1
  clear h1
  go_wp2
  first | exact hQ _ _ _ _ _ _ _ _ _ _ _ _ _ _ _ _ _ _ _ _ _ _ _ _ _ _ _ _ _ _ _ _ _ _ _ _ _ _ _ _ _ _ _ _ _ _ _ _ _ _ _ _ _ _ _ _ _ _ _ _ _ _ _ _ _ _ _ _ _ _ _ _ _ _ _ _ _ _ _ _ _ _ _ _ _ _ _ _ HE.out | exact HE.out
set_option maxRecDepth 1000000 in
set_option maxHeartbeats 16000000 in
theorem nm_16en {W0 w : World} {R M : Nat} {sv : Value} {all : List UInt8} {B : Nat} {st : St} {v : Value} {l : List UInt8} {Q : Exit → Act → World → Prop} (h : Ro W0 R M sv all B w st v l) (hx : (hd st.rest == 101) = true) (hs : (hd st.nextS.rest == 45) = false) (ht : (hd st.nextS.rest == 43) = false) (hl : l.length + st.rest.length ≤ 1099511627800)
    (hQ : ∀ (v' : Value) (w' : World) (u1 u2 u3 u4 u5 u7 u8 u9 u10 u11 u12 u13 u14 u15 u16 u17 u18 u19 u20 u21 u22 u23 u24 u25 u26 u27 u28 u29 u30 u31 u32 u33 u34 u35 u36 u37 u38 u39 u40 u41 u42 u43 u44 u45 u46 u47 u48 u49 u50 u51 u52 u53 u54 u55 u56 u57 u58 u59 u60 u61 u62 u63 u64 u65 u66 u67 u68 u69 u70 u71 u72 u73 u74 u75 u76 u77 u78 u79 u80 u81 u82 u83 u84 u85 u86 u87 : Value), Ro W0 R M sv all B w' (dec st.nextS.nextC st.nextS.nextS).2 v' ((l ++ [by8 st.nextC]) ++ (dec st.nextS.nextC st.nextS.nextS).1) → Q .normal ⟨(Value.pointer (some ⟨R, 0, none⟩) :: u1 :: u2 :: u3 :: u4 :: u5 :: v' :: u7 :: u8 :: u9 :: u10 :: u11 :: u12 :: u13 :: u14 :: u15 :: u16 :: u17 :: u18 :: u19 :: u20 :: u21 :: u22 :: u23 :: u24 :: u25 :: u26 :: u27 :: u28 :: u29 :: u30 :: u31 :: u32 :: u33 :: u34 :: u35 :: u36 :: u37 :: u38 :: u39 :: u40 :: u41 :: u42 :: u43 :: u44 :: u45 :: u46 :: u47 :: u48 :: u49 :: u50 :: u51 :: u52 :: u53 :: u54 :: u55 :: u56 :: u57 :: u58 :: u59 :: u60 :: u61 :: u62 :: u63 :: u64 :: u65 :: u66 :: u67 :: u68 :: u69 :: u70 :: u71 :: u72 :: u73 :: u74 :: u75 :: u76 :: u77 :: u78 :: u79 :: u80 :: u81 :: u82 :: u83 :: u84 :: u85 :: u86 :: u87 :: []).toArray, []⟩ w') (u1 u2 u3 u4 u5 u7 u8 u9 u10 u11 u12 u13 u14 u15 u16 u17 u18 u19 u20 u21 u22 u23 u24 u25 u26 u27 u28 u29 u30 u31 u32 u33 u34 u35 u36 u37 u38 u39 u40 u41 u42 u43 u44 u45 u46 u47 u48 u49 u50 u51 u52 u53 u54 u55 u56 u57 u58 u59 u60 u61 u62 u63 u64 u65 u66 u67 u68 u69 u70 u71 u72 u73 u74 u75 u76 u77 u78 u79 u80 u81 u82 u83 u84 u85 u86 u87 : Value) : Code.wp Tryz.prog (rFst n16) Q ⟨#[Value.pointer (some ⟨R, 0, none⟩), u1, u2, u3, u4, u5, v, u7, u8, u9, u10, u11, u12, u13, u14, u15, u16, u17, u18, u19, u20, u21, u22, u23, u24, u25, u26, u27, u28, u29, u30, u31, u32, u33, u34, u35, u36, u37, u38, u39, u40, u41, u42, u43, u44, u45, u46, u47, u48, u49, u50, u51, u52, u53, u54, u55, u56, u57, u58, u59, u60, u61, u62, u63, u64, u65, u66, u67, u68, u69, u70, u71, u72, u73, u74, u75, u76, u77, u78, u79, u80, u81, u82, u83, u84, u85, u86, u87], []⟩ w := by
  have hr := rest_next_le st
  have hr2 := rest_next_le st.nextS
  have hr3 := rest_next_le st.nextS.nextS
  have HX1 := Lib.hid (show st.nextC % 256 = ((by8 st.nextC).toNat : Int) from (by8_toNat _).symm)
  have HX2 := Lib.hid (show st.nextS.nextC % 256 = ((by8 st.nextS.nextC).toNat : Int) from (by8_toNat _).symm)
  have HLM1 := Lib.hid (show l.length + 1 ≤ 140737488355328 by omega)
  have HLM2 := Lib.hid (show (l ++ [by8 st.nextC]).length + 1 ≤ 140737488355328 by rw [List.length_append]; simp only [List.length_cons, List.length_nil]; omega)
  have HLM3 := Lib.hid (show (l ++ [by8 st.nextC]).length + st.nextS.nextS.rest.length ≤ 8796093022208 by simp only [List.length_append, List.length_cons, List.length_nil]; omega)
  clear hr hr2 hr3 hl
  conv => arg 2; whnf
  go_wp2_with (go_at_call 27; refine (peek_ro h).mono ?_; rintro e w1 ⟨rfl, h1⟩; refine Hid.out ?_)
  refine Lib.hid ?_
  clear h
  go_wp2_with (go_at_call 28; refine (next_ro h1).mono ?_; rintro e w2 ⟨rfl, h2⟩; refine Hid.out ?_)
  refine Lib.hid ?_
  clear h1
  go_wp2_with (at_builtin; refine wpList_app1 rfl (.tmp 62) (.tmp 66) rfl _ B _ l _ (by8 st.nextC) rfl rfl h2.bs HX1 h2.le HLM1 ?_; intro v3 w3 hb9 hl9; refine Hid.out ?_)
  refine Lib.hid ?_
  have h3 := h2.wrote hb9 hl9
  clear h2 hb9 hl9
  go_wp2_with (go_at_call 27; refine (peek_ro h3).mono ?_; rintro e w4 ⟨rfl, h4⟩; refine Hid.out ?_)
  refine Lib.hid ?_
  clear h3
  go_wp2_with (go_at_call 28; refine (next_ro h4).mono ?_; rintro e w7 ⟨rfl, h7⟩; refine Hid.out ?_)
  refine Lib.hid ?_
  clear h4
  go_wp2_with (go_at_call 48; refine (rdecimal h7 st.nextS.nextC (HLM3.out)).mono ?_; rintro e w8 ⟨v8, rfl, h8⟩; refine Hid.out ?_)
  refine Lib.hid ?_
  clear h7
  have HE := Lib.hid h8
  clear h8
  go_wp2
  first | exact hQ _ _ _ _ _ _ _ _ _ _ _ _ _ _ _ _ _ _ _ _ _ _ _ _ _ _ _ _ _ _ _ _ _ _ _ _ _ _ _ _ _ _ _ _ _ _ _ _ _ _ _ _ _ _ _ _ _ _ _ _ _ _ _ _ _ _ _ _ _ _ _ _ _ _ _ _ _ _ _ _ _ _ _ _ _ _ _ _ HE.out | exact HE.out
set_option maxRecDepth 1000000 in
set_option maxHeartbeats 16000000 in
theorem nm_16em {W0 w : World} {R M : Nat} {sv : Value} {all : List UInt8} {B : Nat} {st : St} {v : Value} {l : List UInt8} {Q : Exit → Act → World → Prop} (h : Ro W0 R M sv all B w st v l) (hx : (hd st.rest == 101) = true) (hs : (hd st.nextS.rest == 45) = true) (hl : l.length + st.rest.length ≤ 1099511627800)
    (hQ : ∀ (v' : Value) (w' : World) (u1 u2 u3 u4 u5 u7 u8 u9 u10 u11 u12 u13 u14 u15 u16 u17 u18 u19 u20 u21 u22 u23 u24 u25 u26 u27 u28 u29 u30 u31 u32 u33 u34 u35 u36 u37 u38 u39 u40 u41 u42 u43 u44 u45 u46 u47 u48 u49 u50 u51 u52 u53 u54 u55 u56 u57 u58 u59 u60 u61 u62 u63 u64 u65 u66 u67 u68 u69 u70 u71 u72 u73 u74 u75 u76 u77 u78 u79 u80 u81 u82 u83 u84 u85 u86 u87 : Value), Ro W0 R M sv all B w' (dec st.nextS.nextS.nextC st.nextS.nextS.nextS).2 v' ((l ++ [by8 st.nextC] ++ [by8 st.nextS.nextC]) ++ (dec st.nextS.nextS.nextC st.nextS.nextS.nextS).1) → Q .normal ⟨(Value.pointer (some ⟨R, 0, none⟩) :: u1 :: u2 :: u3 :: u4 :: u5 :: v' :: u7 :: u8 :: u9 :: u10 :: u11 :: u12 :: u13 :: u14 :: u15 :: u16 :: u17 :: u18 :: u19 :: u20 :: u21 :: u22 :: u23 :: u24 :: u25 :: u26 :: u27 :: u28 :: u29 :: u30 :: u31 :: u32 :: u33 :: u34 :: u35 :: u36 :: u37 :: u38 :: u39 :: u40 :: u41 :: u42 :: u43 :: u44 :: u45 :: u46 :: u47 :: u48 :: u49 :: u50 :: u51 :: u52 :: u53 :: u54 :: u55 :: u56 :: u57 :: u58 :: u59 :: u60 :: u61 :: u62 :: u63 :: u64 :: u65 :: u66 :: u67 :: u68 :: u69 :: u70 :: u71 :: u72 :: u73 :: u74 :: u75 :: u76 :: u77 :: u78 :: u79 :: u80 :: u81 :: u82 :: u83 :: u84 :: u85 :: u86 :: u87 :: []).toArray, []⟩ w') (u1 u2 u3 u4 u5 u7 u8 u9 u10 u11 u12 u13 u14 u15 u16 u17 u18 u19 u20 u21 u22 u23 u24 u25 u26 u27 u28 u29 u30 u31 u32 u33 u34 u35 u36 u37 u38 u39 u40 u41 u42 u43 u44 u45 u46 u47 u48 u49 u50 u51 u52 u53 u54 u55 u56 u57 u58 u59 u60 u61 u62 u63 u64 u65 u66 u67 u68 u69 u70 u71 u72 u73 u74 u75 u76 u77 u78 u79 u80 u81 u82 u83 u84 u85 u86 u87 : Value) : Code.wp Tryz.prog (rFst n16) Q ⟨#[Value.pointer (some ⟨R, 0, none⟩), u1, u2, u3, u4, u5, v, u7, u8, u9, u10, u11, u12, u13, u14, u15, u16, u17, u18, u19, u20, u21, u22, u23, u24, u25, u26, u27, u28, u29, u30, u31, u32, u33, u34, u35, u36, u37, u38, u39, u40, u41, u42, u43, u44, u45, u46, u47, u48, u49, u50, u51, u52, u53, u54, u55, u56, u57, u58, u59, u60, u61, u62, u63, u64, u65, u66, u67, u68, u69, u70, u71, u72, u73, u74, u75, u76, u77, u78, u79, u80, u81, u82, u83, u84, u85, u86, u87], []⟩ w := by
  have hr := rest_next_le st
  have hr2 := rest_next_le st.nextS
  have hr3 := rest_next_le st.nextS.nextS
  have HX1 := Lib.hid (show st.nextC % 256 = ((by8 st.nextC).toNat : Int) from (by8_toNat _).symm)
  have HX2 := Lib.hid (show st.nextS.nextC % 256 = ((by8 st.nextS.nextC).toNat : Int) from (by8_toNat _).symm)
  have HLM1 := Lib.hid (show l.length + 1 ≤ 140737488355328 by omega)
  have HLM2 := Lib.hid (show (l ++ [by8 st.nextC]).length + 1 ≤ 140737488355328 by rw [List.length_append]; simp only [List.length_cons, List.length_nil]; omega)
  have HLM3 := Lib.hid (show (l ++ [by8 st.nextC] ++ [by8 st.nextS.nextC]).length + st.nextS.nextS.nextS.rest.length ≤ 8796093022208 by simp only [List.length_append, List.length_cons, List.length_nil]; omega)
  clear hr hr2 hr3 hl
  conv => arg 2; whnf
  go_wp2_with (go_at_call 27; refine (peek_ro h).mono ?_; rintro e w1 ⟨rfl, h1⟩; refine Hid.out ?_)
  refine Lib.hid ?_
  clear h
  go_wp2_with (go_at_call 28; refine (next_ro h1).mono ?_; rintro e w2 ⟨rfl, h2⟩; refine Hid.out ?_)
  refine Lib.hid ?_
  clear h1
  go_wp2_with (at_builtin; refine wpList_app1 rfl (.tmp 62) (.tmp 66) rfl _ B _ l _ (by8 st.nextC) rfl rfl h2.bs HX1 h2.le HLM1 ?_; intro v3 w3 hb9 hl9; refine Hid.out ?_)
  refine Lib.hid ?_
  have h3 := h2.wrote hb9 hl9
  clear h2 hb9 hl9
  go_wp2_with (go_at_call 27; refine (peek_ro h3).mono ?_; rintro e w4 ⟨rfl, h4⟩; refine Hid.out ?_)
  refine Lib.hid ?_
  clear h3
  go_wp2_with (go_at_call 28; refine (next_ro h4).mono ?_; rintro e w5 ⟨rfl, h5⟩; refine Hid.out ?_)
  refine Lib.hid ?_
  clear h4
  go_wp2_with (at_builtin; refine wpList_app1 rfl (.tmp 76) (.tmp 80) rfl _ B _ (l ++ [by8 st.nextC]) _ (by8 st.nextS.nextC) rfl rfl h5.bs HX2 h5.le HLM2 ?_; intro v6 w6 hb9 hl9; refine Hid.out ?_)
  refine Lib.hid ?_
  have h6 := h5.wrote hb9 hl9
  clear h5 hb9 hl9
  go_wp2_with (go_at_call 28; refine (next_ro h6).mono ?_; rintro e w7 ⟨rfl, h7⟩; refine Hid.out ?_)
  refine Lib.hid ?_
  clear h6
  go_wp2_with (go_at_call 48; refine (rdecimal h7 st.nextS.nextS.nextC (HLM3.out)).mono ?_; rintro e w8 ⟨v8, rfl, h8⟩; refine Hid.out ?_)
  refine Lib.hid ?_
  clear h7
  have HE := Lib.hid h8
  clear h8
  go_wp2
  first | exact hQ _ _ _ _ _ _ _ _ _ _ _ _ _ _ _ _ _ _ _ _ _ _ _ _ _ _ _ _ _ _ _ _ _ _ _ _ _ _ _ _ _ _ _ _ _ _ _ _ _ _ _ _ _ _ _ _ _ _ _ _ _ _ _ _ _ _ _ _ _ _ _ _ _ _ _ _ _ _ _ _ _ _ _ _ _ _ _ _ HE.out | exact HE.out
set_option maxRecDepth 1000000 in
set_option maxHeartbeats 16000000 in
theorem nm_16ep {W0 w : World} {R M : Nat} {sv : Value} {all : List UInt8} {B : Nat} {st : St} {v : Value} {l : List UInt8} {Q : Exit → Act → World → Prop} (h : Ro W0 R M sv all B w st v l) (hx : (hd st.rest == 101) = true) (hs : (hd st.nextS.rest == 45) = false) (ht : (hd st.nextS.rest == 43) = true) (hl : l.length + st.rest.length ≤ 1099511627800)
    (hQ : ∀ (v' : Value) (w' : World) (u1 u2 u3 u4 u5 u7 u8 u9 u10 u11 u12 u13 u14 u15 u16 u17 u18 u19 u20 u21 u22 u23 u24 u25 u26 u27 u28 u29 u30 u31 u32 u33 u34 u35 u36 u37 u38 u39 u40 u41 u42 u43 u44 u45 u46 u47 u48 u49 u50 u51 u52 u53 u54 u55 u56 u57 u58 u59 u60 u61 u62 u63 u64 u65 u66 u67 u68 u69 u70 u71 u72 u73 u74 u75 u76 u77 u78 u79 u80 u81 u82 u83 u84 u85 u86 u87 : Value), Ro W0 R M sv all B w' (dec st.nextS.nextS.nextC st.nextS.nextS.nextS).2 v' ((l ++ [by8 st.nextC] ++ [by8 st.nextS.nextC]) ++ (dec st.nextS.nextS.nextC st.nextS.nextS.nextS).1) → Q .normal ⟨(Value.pointer (some ⟨R, 0, none⟩) :: u1 :: u2 :: u3 :: u4 :: u5 :: v' :: u7 :: u8 :: u9 :: u10 :: u11 :: u12 :: u13 :: u14 :: u15 :: u16 :: u17 :: u18 :: u19 :: u20 :: u21 :: u22 :: u23 :: u24 :: u25 :: u26 :: u27 :: u28 :: u29 :: u30 :: u31 :: u32 :: u33 :: u34 :: u35 :: u36 :: u37 :: u38 :: u39 :: u40 :: u41 :: u42 :: u43 :: u44 :: u45 :: u46 :: u47 :: u48 :: u49 :: u50 :: u51 :: u52 :: u53 :: u54 :: u55 :: u56 :: u57 :: u58 :: u59 :: u60 :: u61 :: u62 :: u63 :: u64 :: u65 :: u66 :: u67 :: u68 :: u69 :: u70 :: u71 :: u72 :: u73 :: u74 :: u75 :: u76 :: u77 :: u78 :: u79 :: u80 :: u81 :: u82 :: u83 :: u84 :: u85 :: u86 :: u87 :: []).toArray, []⟩ w') (u1 u2 u3 u4 u5 u7 u8 u9 u10 u11 u12 u13 u14 u15 u16 u17 u18 u19 u20 u21 u22 u23 u24 u25 u26 u27 u28 u29 u30 u31 u32 u33 u34 u35 u36 u37 u38 u39 u40 u41 u42 u43 u44 u45 u46 u47 u48 u49 u50 u51 u52 u53 u54 u55 u56 u57 u58 u59 u60 u61 u62 u63 u64 u65 u66 u67 u68 u69 u70 u71 u72 u73 u74 u75 u76 u77 u78 u79 u80 u81 u82 u83 u84 u85 u86 u87 : Value) : Code.wp Tryz.prog (rFst n16) Q ⟨#[Value.pointer (some ⟨R, 0, none⟩), u1, u2, u3, u4, u5, v, u7, u8, u9, u10, u11, u12, u13, u14, u15, u16, u17, u18, u19, u20, u21, u22, u23, u24, u25, u26, u27, u28, u29, u30, u31, u32, u33, u34, u35, u36, u37, u38, u39, u40, u41, u42, u43, u44, u45, u46, u47, u48, u49, u50, u51, u52, u53, u54, u55, u56, u57, u58, u59, u60, u61, u62, u63, u64, u65, u66, u67, u68, u69, u70, u71, u72, u73, u74, u75, u76, u77, u78, u79, u80, u81, u82, u83, u84, u85, u86, u87], []⟩ w := by
  have hr := rest_next_le st
  have hr2 := rest_next_le st.nextS
  have hr3 := rest_next_le st.nextS.nextS
  have HX1 := Lib.hid (show st.nextC % 256 = ((by8 st.nextC).toNat : Int) from (by8_toNat _).symm)
  have HX2 := Lib.hid (show st.nextS.nextC % 256 = ((by8 st.nextS.nextC).toNat : Int) from (by8_toNat _).symm)
  have HLM1 := Lib.hid (show l.length + 1 ≤ 140737488355328 by omega)
  have HLM2 := Lib.hid (show (l ++ [by8 st.nextC]).length + 1 ≤ 140737488355328 by rw [List.length_append]; simp only [List.length_cons, List.length_nil]; omega)
  have HLM3 := Lib.hid (show (l ++ [by8 st.nextC] ++ [by8 st.nextS.nextC]).length + st.nextS.nextS.nextS.rest.length ≤ 8796093022208 by simp only [List.length_append, List.length_cons, List.length_nil]; omega)
  clear hr hr2 hr3 hl
  conv => arg 2; whnf
  go_wp2_with (go_at_call 27; refine (peek_ro h).mono ?_; rintro e w1 ⟨rfl, h1⟩; refine Hid.out ?_)
  refine Lib.hid ?_
  clear h
  go_wp2_with (go_at_call 28; refine (next_ro h1).mono ?_; rintro e w2 ⟨rfl, h2⟩; refine Hid.out ?_)
  refine Lib.hid ?_
  clear h1
  go_wp2_with (at_builtin; refine wpList_app1 rfl (.tmp 62) (.tmp 66) rfl _ B _ l _ (by8 st.nextC) rfl rfl h2.bs HX1 h2.le HLM1 ?_; intro v3 w3 hb9 hl9; refine Hid.out ?_)
  refine Lib.hid ?_
  have h3 := h2.wrote hb9 hl9
  clear h2 hb9 hl9
  go_wp2_with (go_at_call 27; refine (peek_ro h3).mono ?_; rintro e w4 ⟨rfl, h4⟩; refine Hid.out ?_)
  refine Lib.hid ?_
  clear h3
  go_wp2_with (go_at_call 28; refine (next_ro h4).mono ?_; rintro e w5 ⟨rfl, h5⟩; refine Hid.out ?_)
  refine Lib.hid ?_
  clear h4
  go_wp2_with (at_builtin; refine wpList_app1 rfl (.tmp 76) (.tmp 80) rfl _ B _ (l ++ [by8 st.nextC]) _ (by8 st.nextS.nextC) rfl rfl h5.bs HX2 h5.le HLM2 ?_; intro v6 w6 hb9 hl9; refine Hid.out ?_)
  refine Lib.hid ?_
  have h6 := h5.wrote hb9 hl9
  clear h5 hb9 hl9
  go_wp2_with (go_at_call 28; refine (next_ro h6).mono ?_; rintro e w7 ⟨rfl, h7⟩; refine Hid.out ?_)
  refine Lib.hid ?_
  clear h6
  go_wp2_with (go_at_call 48; refine (rdecimal h7 st.nextS.nextS.nextC (HLM3.out)).mono ?_; rintro e w8 ⟨v8, rfl, h8⟩; refine Hid.out ?_)
  refine Lib.hid ?_
  clear h7
  have HE := Lib.hid h8
  clear h8
  go_wp2
  first | exact hQ _ _ _ _ _ _ _ _ _ _ _ _ _ _ _ _ _ _ _ _ _ _ _ _ _ _ _ _ _ _ _ _ _ _ _ _ _ _ _ _ _ _ _ _ _ _ _ _ _ _ _ _ _ _ _ _ _ _ _ _ _ _ _ _ _ _ _ _ _ _ _ _ _ _ _ _ _ _ _ _ _ _ _ _ _ _ _ _ HE.out | exact HE.out
set_option maxRecDepth 1000000 in
set_option maxHeartbeats 16000000 in
theorem nm_16En {W0 w : World} {R M : Nat} {sv : Value} {all : List UInt8} {B : Nat} {st : St} {v : Value} {l : List UInt8} {Q : Exit → Act → World → Prop} (h : Ro W0 R M sv all B w st v l) (hx : (hd st.rest == 101) = false) (hy : (hd st.rest == 69) = true) (hs : (hd st.nextS.rest == 45) = false) (ht : (hd st.nextS.rest == 43) = false) (hl : l.length + st.rest.length ≤ 1099511627800)
    (hQ : ∀ (v' : Value) (w' : World) (u1 u2 u3 u4 u5 u7 u8 u9 u10 u11 u12 u13 u14 u15 u16 u17 u18 u19 u20 u21 u22 u23 u24 u25 u26 u27 u28 u29 u30 u31 u32 u33 u34 u35 u36 u37 u38 u39 u40 u41 u42 u43 u44 u45 u46 u47 u48 u49 u50 u51 u52 u53 u54 u55 u56 u57 u58 u59 u60 u61 u62 u63 u64 u65 u66 u67 u68 u69 u70 u71 u72 u73 u74 u75 u76 u77 u78 u79 u80 u81 u82 u83 u84 u85 u86 u87 : Value), Ro W0 R M sv all B w' (dec st.nextS.nextC st.nextS.nextS).2 v' ((l ++ [by8 st.nextC]) ++ (dec st.nextS.nextC st.nextS.nextS).1) → Q .normal ⟨(Value.pointer (some ⟨R, 0, none⟩) :: u1 :: u2 :: u3 :: u4 :: u5 :: v' :: u7 :: u8 :: u9 :: u10 :: u11 :: u12 :: u13 :: u14 :: u15 :: u16 :: u17 :: u18 :: u19 :: u20 :: u21 :: u22 :: u23 :: u24 :: u25 :: u26 :: u27 :: u28 :: u29 :: u30 :: u31 :: u32 :: u33 :: u34 :: u35 :: u36 :: u37 :: u38 :: u39 :: u40 :: u41 :: u42 :: u43 :: u44 :: u45 :: u46 :: u47 :: u48 :: u49 :: u50 :: u51 :: u52 :: u53 :: u54 :: u55 :: u56 :: u57 :: u58 :: u59 :: u60 :: u61 :: u62 :: u63 :: u64 :: u65 :: u66 :: u67 :: u68 :: u69 :: u70 :: u71 :: u72 :: u73 :: u74 :: u75 :: u76 :: u77 :: u78 :: u79 :: u80 :: u81 :: u82 :: u83 :: u84 :: u85 :: u86 :: u87 :: []).toArray, []⟩ w') (u1 u2 u3 u4 u5 u7 u8 u9 u10 u11 u12 u13 u14 u15 u16 u17 u18 u19 u20 u21 u22 u23 u24 u25 u26 u27 u28 u29 u30 u31 u32 u33 u34 u35 u36 u37 u38 u39 u40 u41 u42 u43 u44 u45 u46 u47 u48 u49 u50 u51 u52 u53 u54 u55 u56 u57 u58 u59 u60 u61 u62 u63 u64 u65 u66 u67 u68 u69 u70 u71 u72 u73 u74 u75 u76 u77 u78 u79 u80 u81 u82 u83 u84 u85 u86 u87 : Value) : Code.wp Tryz.prog (rFst n16) Q ⟨#[Value.pointer (some ⟨R, 0, none⟩), u1, u2, u3, u4, u5, v, u7, u8, u9, u10, u11, u12, u13, u14, u15, u16, u17, u18, u19, u20, u21, u22, u23, u24, u25, u26, u27, u28, u29, u30, u31, u32, u33, u34, u35, u36, u37, u38, u39, u40, u41, u42, u43, u44, u45, u46, u47, u48, u49, u50, u51, u52, u53, u54, u55, u56, u57, u58, u59, u60, u61, u62, u63, u64, u65, u66, u67, u68, u69, u70, u71, u72, u73, u74, u75, u76, u77, u78, u79, u80, u81, u82, u83, u84, u85, u86, u87], []⟩ w := by
  have hr := rest_next_le st
  have hr2 := rest_next_le st.nextS
  have hr3 := rest_next_le st.nextS.nextS
  have HX1 := Lib.hid (show st.nextC % 256 = ((by8 st.nextC).toNat : Int) from (by8_toNat _).symm)
  have HX2 := Lib.hid (show st.nextS.nextC % 256 = ((by8 st.nextS.nextC).toNat : Int) from (by8_toNat _).symm)
  have HLM1 := Lib.hid (show l.length + 1 ≤ 140737488355328 by omega)
  have HLM2 := Lib.hid (show (l ++ [by8 st.nextC]).length + 1 ≤ 140737488355328 by rw [List.length_append]; simp only [List.length_cons, List.length_nil]; omega)
  have HLM3 := Lib.hid (show (l ++ [by8 st.nextC]).length + st.nextS.nextS.rest.length ≤ 8796093022208 by simp only [List.length_append, List.length_cons, List.length_nil]; omega)
  clear hr hr2 hr3 hl
  conv => arg 2; whnf
  go_wp2_with (go_at_call 27; refine (peek_ro h).mono ?_; rintro e w1 ⟨rfl, h1⟩; refine Hid.out ?_)
  refine Lib.hid ?_
  clear h
  go_wp2_with (go_at_call 28; refine (next_ro h1).mono ?_; rintro e w2 ⟨rfl, h2⟩; refine Hid.out ?_)
  refine Lib.hid ?_
  clear h1
  go_wp2_with (at_builtin; refine wpList_app1 rfl (.tmp 62) (.tmp 66) rfl _ B _ l _ (by8 st.nextC) rfl rfl h2.bs HX1 h2.le HLM1 ?_; intro v3 w3 hb9 hl9; refine Hid.out ?_)
  refine Lib.hid ?_
  have h3 := h2.wrote hb9 hl9
  clear h2 hb9 hl9
  go_wp2_with (go_at_call 27; refine (peek_ro h3).mono ?_; rintro e w4 ⟨rfl, h4⟩; refine Hid.out ?_)
  refine Lib.hid ?_
  clear h3
  go_wp2_with (go_at_call 28; refine (next_ro h4).mono ?_; rintro e w7 ⟨rfl, h7⟩; refine Hid.out ?_)
  refine Lib.hid ?_
  clear h4
  go_wp2_with (go_at_call 48; refine (rdecimal h7 st.nextS.nextC (HLM3.out)).mono ?_; rintro e w8 ⟨v8, rfl, h8⟩; refine Hid.out ?_)
  refine Lib.hid ?_
  clear h7
  have HE := Lib.hid h8
  clear h8
  go_wp2
  first | exact hQ _ _ _ _ _ _ _ _ _ _ _ _ _ _ _ _ _ _ _ _ _ _ _ _ _ _ _ _ _ _ _ _ _ _ _ _ _ _ _ _ _ _ _ _ _ _ _ _ _ _ _ _ _ _ _ _ _ _ _ _ _ _ _ _ _ _ _ _ _ _ _ _ _ _ _ _ _ _ _ _ _ _ _ _ _ _ _ _ HE.out | exact HE.out
set_option maxRecDepth 1000000 in
set_option maxHeartbeats 16000000 in
theorem nm_16Em {W0 w : World} {R M : Nat} {sv : Value} {all : List UInt8} {B : Nat} {st : St} {v : Value} {l : List UInt8} {Q : Exit → Act → World → Prop} (h : Ro W0 R M sv all B w st v l) (hx : (hd st.rest == 101) = false) (hy : (hd st.rest == 69) = true) (hs : (hd st.nextS.rest == 45) = true) (hl : l.length + st.rest.length ≤ 1099511627800)
    (hQ : ∀ (v' : Value) (w' : World) (u1 u2 u3 u4 u5 u7 u8 u9 u10 u11 u12 u13 u14 u15 u16 u17 u18 u19 u20 u21 u22 u23 u24 u25 u26 u27 u28 u29 u30 u31 u32 u33 u34 u35 u36 u37 u38 u39 u40 u41 u42 u43 u44 u45 u46 u47 u48 u49 u50 u51 u52 u53 u54 u55 u56 u57 u58 u59 u60 u61 u62 u63 u64 u65 u66 u67 u68 u69 u70 u71 u72 u73 u74 u75 u76 u77 u78 u79 u80 u81 u82 u83 u84 u85 u86 u87 : Value), Ro W0 R M sv all B w' (dec st.nextS.nextS.nextC st.nextS.nextS.nextS).2 v' ((l ++ [by8 st.nextC] ++ [by8 st.nextS.nextC]) ++ (dec st.nextS.nextS.nextC st.nextS.nextS.nextS).1) → Q .normal ⟨(Value.pointer (some ⟨R, 0, none⟩) :: u1 :: u2 :: u3 :: u4 :: u5 :: v' :: u7 :: u8 :: u9 :: u10 :: u11 :: u12 :: u13 :: u14 :: u15 :: u16 :: u17 :: u18 :: u19 :: u20 :: u21 :: u22 :: u23 :: u24 :: u25 :: u26 :: u27 :: u28 :: u29 :: u30 :: u31 :: u32 :: u33 :: u34 :: u35 :: u36 :: u37 :: u38 :: u39 :: u40 :: u41 :: u42 :: u43 :: u44 :: u45 :: u46 :: u47 :: u48 :: u49 :: u50 :: u51 :: u52 :: u53 :: u54 :: u55 :: u56 :: u57 :: u58 :: u59 :: u60 :: u61 :: u62 :: u63 :: u64 :: u65 :: u66 :: u67 :: u68 :: u69 :: u70 :: u71 :: u72 :: u73 :: u74 :: u75 :: u76 :: u77 :: u78 :: u79 :: u80 :: u81 :: u82 :: u83 :: u84 :: u85 :: u86 :: u87 :: []).toArray, []⟩ w') (u1 u2 u3 u4 u5 u7 u8 u9 u10 u11 u12 u13 u14 u15 u16 u17 u18 u19 u20 u21 u22 u23 u24 u25 u26 u27 u28 u29 u30 u31 u32 u33 u34 u35 u36 u37 u38 u39 u40 u41 u42 u43 u44 u45 u46 u47 u48 u49 u50 u51 u52 u53 u54 u55 u56 u57 u58 u59 u60 u61 u62 u63 u64 u65 u66 u67 u68 u69 u70 u71 u72 u73 u74 u75 u76 u77 u78 u79 u80 u81 u82 u83 u84 u85 u86 u87 : Value) : Code.wp Tryz.prog (rFst n16) Q ⟨#[Value.pointer (some ⟨R, 0, none⟩), u1, u2, u3, u4, u5, v, u7, u8, u9, u10, u11, u12, u13, u14, u15, u16, u17, u18, u19, u20, u21, u22, u23, u24, u25, u26, u27, u28, u29, u30, u31, u32, u33, u34, u35, u36, u37, u38, u39, u40, u41, u42, u43, u44, u45, u46, u47, u48, u49, u50, u51, u52, u53, u54, u55, u56, u57, u58, u59, u60, u61, u62, u63, u64, u65, u66, u67, u68, u69, u70, u71, u72, u73, u74, u75, u76, u77, u78, u79, u80, u81, u82, u83, u84, u85, u86, u87], []⟩ w := by
  have hr := rest_next_le st
  have hr2 := rest_next_le st.nextS
  have hr3 := rest_next_le st.nextS.nextS
  have HX1 := Lib.hid (show st.nextC % 256 = ((by8 st.nextC).toNat : Int) from (by8_toNat _).symm)
  have HX2 := Lib.hid (show st.nextS.nextC % 256 = ((by8 st.nextS.nextC).toNat : Int) from (by8_toNat _).symm)
  have HLM1 := Lib.hid (show l.length + 1 ≤ 140737488355328 by omega)
  have HLM2 := Lib.hid (show (l ++ [by8 st.nextC]).length + 1 ≤ 140737488355328 by rw [List.length_append]; simp only [List.length_cons, List.length_nil]; omega)
  have HLM3 := Lib.hid (show (l ++ [by8 st.nextC] ++ [by8 st.nextS.nextC]).length + st.nextS.nextS.nextS.rest.length ≤ 8796093022208 by simp only [List.length_append, List.length_cons, List.length_nil]; omega)
  clear hr hr2 hr3 hl
  conv => arg 2; whnf
  go_wp2_with (go_at_call 27; refine (peek_ro h).mono ?_; rintro e w1 ⟨rfl, h1⟩; refine Hid.out ?_)
  refine Lib.hid ?_
  clear h
  go_wp2_with (go_at_call 28; refine (next_ro h1).mono ?_; rintro e w2 ⟨rfl, h2⟩; refine Hid.out ?_)
  refine Lib.hid ?_
  clear h1
  go_wp2_with (at_builtin; refine wpList_app1 rfl (.tmp 62) (.tmp 66) rfl _ B _ l _ (by8 st.nextC) rfl rfl h2.bs HX1 h2.le HLM1 ?_; intro v3 w3 hb9 hl9; refine Hid.out ?_)
  refine Lib.hid ?_
  have h3 := h2.wrote hb9 hl9
  clear h2 hb9 hl9
  go_wp2_with (go_at_call 27; refine (peek_ro h3).mono ?_; rintro e w4 ⟨rfl, h4⟩; refine Hid.out ?_)
  refine Lib.hid ?_
  clear h3
  go_wp2_with (go_at_call 28; refine (next_ro h4).mono ?_; rintro e w5 ⟨rfl, h5⟩; refine Hid.out ?_)
  refine Lib.hid ?_
  clear h4
  go_wp2_with (at_builtin; refine wpList_app1 rfl (.tmp 76) (.tmp 80) rfl _ B _ (l ++ [by8 st.nextC]) _ (by8 st.nextS.nextC) rfl rfl h5.bs HX2 h5.le HLM2 ?_; intro v6 w6 hb9 hl9; refine Hid.out ?_)
  refine Lib.hid ?_
  have h6 := h5.wrote hb9 hl9
  clear h5 hb9 hl9
  go_wp2_with (go_at_call 28; refine (next_ro h6).mono ?_; rintro e w7 ⟨rfl, h7⟩; refine Hid.out ?_)
  refine Lib.hid ?_
  clear h6
  go_wp2_with (go_at_call 48; refine (rdecimal h7 st.nextS.nextS.nextC (HLM3.out)).mono ?_; rintro e w8 ⟨v8, rfl, h8⟩; refine Hid.out ?_)
  refine Lib.hid ?_
  clear h7
  have HE := Lib.hid h8
  clear h8
  go_wp2
  first | exact hQ _ _ _ _ _ _ _ _ _ _ _ _ _ _ _ _ _ _ _ _ _ _ _ _ _ _ _ _ _ _ _ _ _ _ _ _ _ _ _ _ _ _ _ _ _ _ _ _ _ _ _ _ _ _ _ _ _ _ _ _ _ _ _ _ _ _ _ _ _ _ _ _ _ _ _ _ _ _ _ _ _ _ _ _ _ _ _ _ HE.out | exact HE.out
set_option maxRecDepth 1000000 in
set_option maxHeartbeats 16000000 in
theorem nm_16Ep {W0 w : World} {R M : Nat} {sv : Value} {all : List UInt8} {B : Nat} {st : St} {v : Value} {l : List UInt8} {Q : Exit → Act → World → Prop} (h : Ro W0 R M sv all B w st v l) (hx : (hd st.rest == 101) = false) (hy : (hd st.rest == 69) = true) (hs : (hd st.nextS.rest == 45) = false) (ht : (hd st.nextS.rest == 43) = true) (hl : l.length + st.rest.length ≤ 1099511627800)
    (hQ : ∀ (v' : Value) (w' : World) (u1 u2 u3 u4 u5 u7 u8 u9 u10 u11 u12 u13 u14 u15 u16 u17 u18 u19 u20 u21 u22 u23 u24 u25 u26 u27 u28 u29 u30 u31 u32 u33 u34 u35 u36 u37 u38 u39 u40 u41 u42 u43 u44 u45 u46 u47 u48 u49 u50 u51 u52 u53 u54 u55 u56 u57 u58 u59 u60 u61 u62 u63 u64 u65 u66 u67 u68 u69 u70 u71 u72 u73 u74 u75 u76 u77 u78 u79 u80 u81 u82 u83 u84 u85 u86 u87 : Value), Ro W0 R M sv all B w' (dec st.nextS.nextS.nextC st.nextS.nextS.nextS).2 v' ((l ++ [by8 st.nextC] ++ [by8 st.nextS.nextC]) ++ (dec st.nextS.nextS.nextC st.nextS.nextS.nextS).1) → Q .normal ⟨(Value.pointer (some ⟨R, 0, none⟩) :: u1 :: u2 :: u3 :: u4 :: u5 :: v' :: u7 :: u8 :: u9 :: u10 :: u11 :: u12 :: u13 :: u14 :: u15 :: u16 :: u17 :: u18 :: u19 :: u20 :: u21 :: u22 :: u23 :: u24 :: u25 :: u26 :: u27 :: u28 :: u29 :: u30 :: u31 :: u32 :: u33 :: u34 :: u35 :: u36 :: u37 :: u38 :: u39 :: u40 :: u41 :: u42 :: u43 :: u44 :: u45 :: u46 :: u47 :: u48 :: u49 :: u50 :: u51 :: u52 :: u53 :: u54 :: u55 :: u56 :: u57 :: u58 :: u59 :: u60 :: u61 :: u62 :: u63 :: u64 :: u65 :: u66 :: u67 :: u68 :: u69 :: u70 :: u71 :: u72 :: u73 :: u74 :: u75 :: u76 :: u77 :: u78 :: u79 :: u80 :: u81 :: u82 :: u83 :: u84 :: u85 :: u86 :: u87 :: []).toArray, []⟩ w') (u1 u2 u3 u4 u5 u7 u8 u9 u10 u11 u12 u13 u14 u15 u16 u17 u18 u19 u20 u21 u22 u23 u24 u25 u26 u27 u28 u29 u30 u31 u32 u33 u34 u35 u36 u37 u38 u39 u40 u41 u42 u43 u44 u45 u46 u47 u48 u49 u50 u51 u52 u53 u54 u55 u56 u57 u58 u59 u60 u61 u62 u63 u64 u65 u66 u67 u68 u69 u70 u71 u72 u73 u74 u75 u76 u77 u78 u79 u80 u81 u82 u83 u84 u85 u86 u87 : Value) : Code.wp Tryz.prog (rFst n16) Q ⟨#[Value.pointer (some ⟨R, 0, none⟩), u1, u2, u3, u4, u5, v, u7, u8, u9, u10, u11, u12, u13, u14, u15, u16, u17, u18, u19, u20, u21, u22, u23, u24, u25, u26, u27, u28, u29, u30, u31, u32, u33, u34, u35, u36, u37, u38, u39, u40, u41, u42, u43, u44, u45, u46, u47, u48, u49, u50, u51, u52, u53, u54, u55, u56, u57, u58, u59, u60, u61, u62, u63, u64, u65, u66, u67, u68, u69, u70, u71, u72, u73, u74, u75, u76, u77, u78, u79, u80, u81, u82, u83, u84, u85, u86, u87], []⟩ w := by
  have hr := rest_next_le st
  have hr2 := rest_next_le st.nextS
  have hr3 := rest_next_le st.nextS.nextS
  have HX1 := Lib.hid (show st.nextC % 256 = ((by8 st.nextC).toNat : Int) from (by8_toNat _).symm)
  have HX2 := Lib.hid (show st.nextS.nextC % 256 = ((by8 st.nextS.nextC).toNat : Int) from (by8_toNat _).symm)
  have HLM1 := Lib.hid (show l.length + 1 ≤ 140737488355328 by omega)
  have HLM2 := Lib.hid (show (l ++ [by8 st.nextC]).length + 1 ≤ 140737488355328 by rw [List.length_append]; simp only [List.length_cons, List.length_nil]; omega)
  have HLM3 := Lib.hid (show (l ++ [by8 st.nextC] ++ [by8 st.nextS.nextC]).length + st.nextS.nextS.nextS.rest.length ≤ 8796093022208 by simp only [List.length_append, List.length_cons, List.length_nil]; omega)
  clear hr hr2 hr3 hl
  conv => arg 2; whnf
  go_wp2_with (go_at_call 27; refine (peek_ro h).mono ?_; rintro e w1 ⟨rfl, h1⟩; refine Hid.out ?_)
  refine Lib.hid ?_
  clear h
  go_wp2_with (go_at_call 28; refine (next_ro h1).mono ?_; rintro e w2 ⟨rfl, h2⟩; refine Hid.out ?_)
  refine Lib.hid ?_
  clear h1
  go_wp2_with (at_builtin; refine wpList_app1 rfl (.tmp 62) (.tmp 66) rfl _ B _ l _ (by8 st.nextC) rfl rfl h2.bs HX1 h2.le HLM1 ?_; intro v3 w3 hb9 hl9; refine Hid.out ?_)
  refine Lib.hid ?_
  have h3 := h2.wrote hb9 hl9
  clear h2 hb9 hl9
  go_wp2_with (go_at_call 27; refine (peek_ro h3).mono ?_; rintro e w4 ⟨rfl, h4⟩; refine Hid.out ?_)
  refine Lib.hid ?_
  clear h3
  go_wp2_with (go_at_call 28; refine (next_ro h4).mono ?_; rintro e w5 ⟨rfl, h5⟩; refine Hid.out ?_)
  refine Lib.hid ?_
  clear h4
  go_wp2_with (at_builtin; refine wpList_app1 rfl (.tmp 76) (.tmp 80) rfl _ B _ (l ++ [by8 st.nextC]) _ (by8 st.nextS.nextC) rfl rfl h5.bs HX2 h5.le HLM2 ?_; intro v6 w6 hb9 hl9; refine Hid.out ?_)
  refine Lib.hid ?_
  have h6 := h5.wrote hb9 hl9
  clear h5 hb9 hl9
  go_wp2_with (go_at_call 28; refine (next_ro h6).mono ?_; rintro e w7 ⟨rfl, h7⟩; refine Hid.out ?_)
  refine Lib.hid ?_
  clear h6
  go_wp2_with (go_at_call 48; refine (rdecimal h7 st.nextS.nextS.nextC (HLM3.out)).mono ?_; rintro e w8 ⟨v8, rfl, h8⟩; refine Hid.out ?_)
  refine Lib.hid ?_
  clear h7
  have HE := Lib.hid h8
  clear h8
  go_wp2
  first | exact hQ _ _ _ _ _ _ _ _ _ _ _ _ _ _ _ _ _ _ _ _ _ _ _ _ _ _ _ _ _ _ _ _ _ _ _ _ _ _ _ _ _ _ _ _ _ _ _ _ _ _ _ _ _ _ _ _ _ _ _ _ _ _ _ _ _ _ _ _ _ _ _ _ _ _ _ _ _ _ _ _ _ _ _ _ _ _ _ _ HE.out | exact HE.out
set_option maxRecDepth 1000000 in
set_option maxHeartbeats 16000000 in
theorem nm_23 {R : Nat} {v : Value} {w : World} {Q : Exit → Act → World → Prop} (hQ : ∀ (u1 u2 u3 u7 u8 u9 u10 u11 u12 u13 u14 u15 u16 u17 u18 u19 u20 u21 u22 u23 u24 u25 u26 u27 u28 u29 u30 u31 u32 u33 u34 u35 u36 u37 u38 u39 u40 u41 u42 u43 u44 u45 u46 u47 u48 u49 u50 u51 u52 u53 u54 u55 u56 u57 u58 u59 u60 u61 u62 u63 u64 u65 u66 u67 u68 u69 u70 u71 u72 u73 u74 u75 u76 u77 u78 u79 u80 u81 u82 u83 u84 u85 u86 u87 : Value), True → Q .ret ⟨(Value.pointer (some ⟨R, 0, none⟩) :: u1 :: u2 :: u3 :: v :: Value.bool true :: v :: u7 :: u8 :: u9 :: u10 :: u11 :: u12 :: u13 :: u14 :: u15 :: u16 :: u17 :: u18 :: u19 :: u20 :: u21 :: u22 :: u23 :: u24 :: u25 :: u26 :: u27 :: u28 :: u29 :: u30 :: u31 :: u32 :: u33 :: u34 :: u35 :: u36 :: u37 :: u38 :: u39 :: u40 :: u41 :: u42 :: u43 :: u44 :: u45 :: u46 :: u47 :: u48 :: u49 :: u50 :: u51 :: u52 :: u53 :: u54 :: u55 :: u56 :: u57 :: u58 :: u59 :: u60 :: u61 :: u62 :: u63 :: u64 :: u65 :: u66 :: u67 :: u68 :: u69 :: u70 :: u71 :: u72 :: u73 :: u74 :: u75 :: u76 :: u77 :: u78 :: u79 :: u80 :: u81 :: u82 :: u83 :: u84 :: u85 :: u86 :: u87 :: []).toArray, []⟩ w) (u1 u2 u3 u4 u5 u7 u8 u9 u10 u11 u12 u13 u14 u15 u16 u17 u18 u19 u20 u21 u22 u23 u24 u25 u26 u27 u28 u29 u30 u31 u32 u33 u34 u35 u36 u37 u38 u39 u40 u41 u42 u43 u44 u45 u46 u47 u48 u49 u50 u51 u52 u53 u54 u55 u56 u57 u58 u59 u60 u61 u62 u63 u64 u65 u66 u67 u68 u69 u70 u71 u72 u73 u74 u75 u76 u77 u78 u79 u80 u81 u82 u83 u84 u85 u86 u87 : Value) : Code.wp Tryz.prog n23 Q ⟨#[Value.pointer (some ⟨R, 0, none⟩), u1, u2, u3, u4, u5, v, u7, u8, u9, u10, u11, u12, u13, u14, u15, u16, u17, u18, u19, u20, u21, u22, u23, u24, u25, u26, u27, u28, u29, u30, u31, u32, u33, u34, u35, u36, u37, u38, u39, u40, u41, u42, u43, u44, u45, u46, u47, u48, u49, u50, u51, u52, u53, u54, u55, u56, u57, u58, u59, u60, u61, u62, u63, u64, u65, u66, u67, u68, u69, u70, u71, u72, u73, u74, u75, u76, u77, u78, u79, u80, u81, u82, u83, u84, u85, u86, u87], []⟩ w := by
  conv => arg 2; whnf
  go_wp2
  first | exact hQ _ _ _ _ _ _ _ _ _ _ _ _ _ _ _ _ _ _ _ _ _ _ _ _ _ _ _ _ _ _ _ _ _ _ _ _ _ _ _ _ _ _ _ _ _ _ _ _ _ _ _ _ _ _ _ _ _ _ _ _ _ _ _ _ _ _ _ _ _ _ _ _ _ _ _ _ _ _ _ _ _ _ _ _ trivial | trivial
set_option maxRecDepth 1000000 in
set_option maxHeartbeats 16000000 in
theorem nm_f {W0 w : World} {R M : Nat} {sv : Value} {all : List UInt8} {B : Nat} {st : St} {v : Value} {l : List UInt8} {Q : Exit → Act → World → Prop} (h : Ro W0 R M sv all B w st v l) (hl : l.length + st.rest.length ≤ 1099511627800)
    (hQ : ∀ (v' : Value) (w' : World) (u1 u2 u3 u4 u5 u7 u8 u9 u10 u11 u12 u13 u14 u15 u16 u17 u18 u19 u20 u21 u22 u23 u24 u25 u26 u27 u28 u29 u30 u31 u32 u33 u34 u35 u36 u37 u38 u39 u40 u41 u42 u43 u44 u45 u46 u47 u48 u49 u50 u51 u52 u53 u54 u55 u56 u57 u58 u59 u60 u61 u62 u63 u64 u65 u66 u67 u68 u69 u70 u71 u72 u73 u74 u75 u76 u77 u78 u79 u80 u81 u82 u83 u84 u85 u86 u87 : Value), Ro W0 R M sv all B w' (frac st).2 v' (l ++ (frac st).1) → Q .normal ⟨(Value.pointer (some ⟨R, 0, none⟩) :: u1 :: u2 :: u3 :: u4 :: u5 :: v' :: u7 :: u8 :: u9 :: u10 :: u11 :: u12 :: u13 :: u14 :: u15 :: u16 :: u17 :: u18 :: u19 :: u20 :: u21 :: u22 :: u23 :: u24 :: u25 :: u26 :: u27 :: u28 :: u29 :: u30 :: u31 :: u32 :: u33 :: u34 :: u35 :: u36 :: u37 :: u38 :: u39 :: u40 :: u41 :: u42 :: u43 :: u44 :: u45 :: u46 :: u47 :: u48 :: u49 :: u50 :: u51 :: u52 :: u53 :: u54 :: u55 :: u56 :: u57 :: u58 :: u59 :: u60 :: u61 :: u62 :: u63 :: u64 :: u65 :: u66 :: u67 :: u68 :: u69 :: u70 :: u71 :: u72 :: u73 :: u74 :: u75 :: u76 :: u77 :: u78 :: u79 :: u80 :: u81 :: u82 :: u83 :: u84 :: u85 :: u86 :: u87 :: []).toArray, []⟩ w') (u1 u2 u3 u4 u5 u7 u8 u9 u10 u11 u12 u13 u14 u15 u16 u17 u18 u19 u20 u21 u22 u23 u24 u25 u26 u27 u28 u29 u30 u31 u32 u33 u34 u35 u36 u37 u38 u39 u40 u41 u42 u43 u44 u45 u46 u47 u48 u49 u50 u51 u52 u53 u54 u55 u56 u57 u58 u59 u60 u61 u62 u63 u64 u65 u66 u67 u68 u69 u70 u71 u72 u73 u74 u75 u76 u77 u78 u79 u80 u81 u82 u83 u84 u85 u86 u87 : Value) : Code.wp Tryz.prog (rFst n14) Q ⟨(Value.pointer (some ⟨R, 0, none⟩) :: u1 :: u2 :: u3 :: u4 :: u5 :: v :: u7 :: u8 :: u9 :: u10 :: u11 :: u12 :: u13 :: u14 :: u15 :: u16 :: u17 :: u18 :: u19 :: u20 :: u21 :: u22 :: u23 :: u24 :: u25 :: u26 :: u27 :: u28 :: u29 :: u30 :: u31 :: u32 :: u33 :: u34 :: u35 :: u36 :: u37 :: u38 :: u39 :: u40 :: u41 :: u42 :: u43 :: u44 :: u45 :: u46 :: u47 :: u48 :: u49 :: u50 :: u51 :: u52 :: u53 :: u54 :: u55 :: u56 :: u57 :: u58 :: u59 :: u60 :: u61 :: u62 :: u63 :: u64 :: u65 :: u66 :: u67 :: u68 :: u69 :: u70 :: u71 :: u72 :: u73 :: u74 :: u75 :: u76 :: u77 :: u78 :: u79 :: u80 :: u81 :: u82 :: u83 :: u84 :: u85 :: u86 :: u87 :: []).toArray, []⟩ w := by
  unfold frac at hQ
  cases hx : (hd st.rest == 46)
  · rw [if_neg (beq_eq_false_iff_ne.1 hx)] at hQ
    exact nm_14n h hx (fun v' w' u1 u2 u3 u4 u5 u7 u8 u9 u10 u11 u12 u13 u14 u15 u16 u17 u18 u19 u20 u21 u22 u23 u24 u25 u26 u27 u28 u29 u30 u31 u32 u33 u34 u35 u36 u37 u38 u39 u40 u41 u42 u43 u44 u45 u46 u47 u48 u49 u50 u51 u52 u53 u54 u55 u56 u57 u58 u59 u60 u61 u62 u63 u64 u65 u66 u67 u68 u69 u70 u71 u72 u73 u74 u75 u76 u77 u78 u79 u80 u81 u82 u83 u84 u85 u86 u87 r => hQ v' w' u1 u2 u3 u4 u5 u7 u8 u9 u10 u11 u12 u13 u14 u15 u16 u17 u18 u19 u20 u21 u22 u23 u24 u25 u26 u27 u28 u29 u30 u31 u32 u33 u34 u35 u36 u37 u38 u39 u40 u41 u42 u43 u44 u45 u46 u47 u48 u49 u50 u51 u52 u53 u54 u55 u56 u57 u58 u59 u60 u61 u62 u63 u64 u65 u66 u67 u68 u69 u70 u71 u72 u73 u74 u75 u76 u77 u78 u79 u80 u81 u82 u83 u84 u85 u86 u87 (by rw [List.append_nil]; exact r)) u1 u2 u3 u4 u5 u7 u8 u9 u10 u11 u12 u13 u14 u15 u16 u17 u18 u19 u20 u21 u22 u23 u24 u25 u26 u27 u28 u29 u30 u31 u32 u33 u34 u35 u36 u37 u38 u39 u40 u41 u42 u43 u44 u45 u46 u47 u48 u49 u50 u51 u52 u53 u54 u55 u56 u57 u58 u59 u60 u61 u62 u63 u64 u65 u66 u67 u68 u69 u70 u71 u72 u73 u74 u75 u76 u77 u78 u79 u80 u81 u82 u83 u84 u85 u86 u87
  · rw [if_pos (beq_iff_eq.1 hx)] at hQ
    exact nm_14y h hx hl hQ u1 u2 u3 u4 u5 u7 u8 u9 u10 u11 u12 u13 u14 u15 u16 u17 u18 u19 u20 u21 u22 u23 u24 u25 u26 u27 u28 u29 u30 u31 u32 u33 u34 u35 u36 u37 u38 u39 u40 u41 u42 u43 u44 u45 u46 u47 u48 u49 u50 u51 u52 u53 u54 u55 u56 u57 u58 u59 u60 u61 u62 u63 u64 u65 u66 u67 u68 u69 u70 u71 u72 u73 u74 u75 u76 u77 u78 u79 u80 u81 u82 u83 u84 u85 u86 u87
set_option maxRecDepth 1000000 in
set_option maxHeartbeats 16000000 in
theorem nm_e {W0 w : World} {R M : Nat} {sv : Value} {all : List UInt8} {B : Nat} {st : St} {v : Value} {l : List UInt8} {Q : Exit → Act → World → Prop} (h : Ro W0 R M sv all B w st v l) (hl : l.length + st.rest.length ≤ 1099511627800)
    (hQ : ∀ (v' : Value) (w' : World) (u1 u2 u3 u4 u5 u7 u8 u9 u10 u11 u12 u13 u14 u15 u16 u17 u18 u19 u20 u21 u22 u23 u24 u25 u26 u27 u28 u29 u30 u31 u32 u33 u34 u35 u36 u37 u38 u39 u40 u41 u42 u43 u44 u45 u46 u47 u48 u49 u50 u51 u52 u53 u54 u55 u56 u57 u58 u59 u60 u61 u62 u63 u64 u65 u66 u67 u68 u69 u70 u71 u72 u73 u74 u75 u76 u77 u78 u79 u80 u81 u82 u83 u84 u85 u86 u87 : Value), Ro W0 R M sv all B w' (expo st).2 v' (l ++ (expo st).1) → Q .normal ⟨(Value.pointer (some ⟨R, 0, none⟩) :: u1 :: u2 :: u3 :: u4 :: u5 :: v' :: u7 :: u8 :: u9 :: u10 :: u11 :: u12 :: u13 :: u14 :: u15 :: u16 :: u17 :: u18 :: u19 :: u20 :: u21 :: u22 :: u23 :: u24 :: u25 :: u26 :: u27 :: u28 :: u29 :: u30 :: u31 :: u32 :: u33 :: u34 :: u35 :: u36 :: u37 :: u38 :: u39 :: u40 :: u41 :: u42 :: u43 :: u44 :: u45 :: u46 :: u47 :: u48 :: u49 :: u50 :: u51 :: u52 :: u53 :: u54 :: u55 :: u56 :: u57 :: u58 :: u59 :: u60 :: u61 :: u62 :: u63 :: u64 :: u65 :: u66 :: u67 :: u68 :: u69 :: u70 :: u71 :: u72 :: u73 :: u74 :: u75 :: u76 :: u77 :: u78 :: u79 :: u80 :: u81 :: u82 :: u83 :: u84 :: u85 :: u86 :: u87 :: []).toArray, []⟩ w') (u1 u2 u3 u4 u5 u7 u8 u9 u10 u11 u12 u13 u14 u15 u16 u17 u18 u19 u20 u21 u22 u23 u24 u25 u26 u27 u28 u29 u30 u31 u32 u33 u34 u35 u36 u37 u38 u39 u40 u41 u42 u43 u44 u45 u46 u47 u48 u49 u50 u51 u52 u53 u54 u55 u56 u57 u58 u59 u60 u61 u62 u63 u64 u65 u66 u67 u68 u69 u70 u71 u72 u73 u74 u75 u76 u77 u78 u79 u80 u81 u82 u83 u84 u85 u86 u87 : Value) : Code.wp Tryz.prog (rFst n16) Q ⟨(Value.pointer (some ⟨R, 0, none⟩) :: u1 :: u2 :: u3 :: u4 :: u5 :: v :: u7 :: u8 :: u9 :: u10 :: u11 :: u12 :: u13 :: u14 :: u15 :: u16 :: u17 :: u18 :: u19 :: u20 :: u21 :: u22 :: u23 :: u24 :: u25 :: u26 :: u27 :: u28 :: u29 :: u30 :: u31 :: u32 :: u33 :: u34 :: u35 :: u36 :: u37 :: u38 :: u39 :: u40 :: u41 :: u42 :: u43 :: u44 :: u45 :: u46 :: u47 :: u48 :: u49 :: u50 :: u51 :: u52 :: u53 :: u54 :: u55 :: u56 :: u57 :: u58 :: u59 :: u60 :: u61 :: u62 :: u63 :: u64 :: u65 :: u66 :: u67 :: u68 :: u69 :: u70 :: u71 :: u72 :: u73 :: u74 :: u75 :: u76 :: u77 :: u78 :: u79 :: u80 :: u81 :: u82 :: u83 :: u84 :: u85 :: u86 :: u87 :: []).toArray, []⟩ w := by
  unfold expo at hQ
  cases hx : (hd st.rest == 101)
  · cases hy : (hd st.rest == 69)
    · rw [if_neg (by rw [beq_eq_false_iff_ne] at hx hy; omega)] at hQ
      exact nm_16n h hx hy (fun v' w' u1 u2 u3 u4 u5 u7 u8 u9 u10 u11 u12 u13 u14 u15 u16 u17 u18 u19 u20 u21 u22 u23 u24 u25 u26 u27 u28 u29 u30 u31 u32 u33 u34 u35 u36 u37 u38 u39 u40 u41 u42 u43 u44 u45 u46 u47 u48 u49 u50 u51 u52 u53 u54 u55 u56 u57 u58 u59 u60 u61 u62 u63 u64 u65 u66 u67 u68 u69 u70 u71 u72 u73 u74 u75 u76 u77 u78 u79 u80 u81 u82 u83 u84 u85 u86 u87 r => hQ v' w' u1 u2 u3 u4 u5 u7 u8 u9 u10 u11 u12 u13 u14 u15 u16 u17 u18 u19 u20 u21 u22 u23 u24 u25 u26 u27 u28 u29 u30 u31 u32 u33 u34 u35 u36 u37 u38 u39 u40 u41 u42 u43 u44 u45 u46 u47 u48 u49 u50 u51 u52 u53 u54 u55 u56 u57 u58 u59 u60 u61 u62 u63 u64 u65 u66 u67 u68 u69 u70 u71 u72 u73 u74 u75 u76 u77 u78 u79 u80 u81 u82 u83 u84 u85 u86 u87 (by rw [List.append_nil]; exact r)) u1 u2 u3 u4 u5 u7 u8 u9 u10 u11 u12 u13 u14 u15 u16 u17 u18 u19 u20 u21 u22 u23 u24 u25 u26 u27 u28 u29 u30 u31 u32 u33 u34 u35 u36 u37 u38 u39 u40 u41 u42 u43 u44 u45 u46 u47 u48 u49 u50 u51 u52 u53 u54 u55 u56 u57 u58 u59 u60 u61 u62 u63 u64 u65 u66 u67 u68 u69 u70 u71 u72 u73 u74 u75 u76 u77 u78 u79 u80 u81 u82 u83 u84 u85 u86 u87
    · rw [if_pos (Or.inr (beq_iff_eq.1 hy))] at hQ
      cases hs : (hd st.nextS.rest == 45)
      · cases ht : (hd st.nextS.rest == 43)
        · skip
          have es : sign st.nextS = _ := (if_neg (by rw [beq_eq_false_iff_ne] at hs ht; omega))
          rw [es] at hQ
          exact nm_16En h hx hy hs ht hl (fun v' w' u1 u2 u3 u4 u5 u7 u8 u9 u10 u11 u12 u13 u14 u15 u16 u17 u18 u19 u20 u21 u22 u23 u24 u25 u26 u27 u28 u29 u30 u31 u32 u33 u34 u35 u36 u37 u38 u39 u40 u41 u42 u43 u44 u45 u46 u47 u48 u49 u50 u51 u52 u53 u54 u55 u56 u57 u58 u59 u60 u61 u62 u63 u64 u65 u66 u67 u68 u69 u70 u71 u72 u73 u74 u75 u76 u77 u78 u79 u80 u81 u82 u83 u84 u85 u86 u87 r => hQ v' w' u1 u2 u3 u4 u5 u7 u8 u9 u10 u11 u12 u13 u14 u15 u16 u17 u18 u19 u20 u21 u22 u23 u24 u25 u26 u27 u28 u29 u30 u31 u32 u33 u34 u35 u36 u37 u38 u39 u40 u41 u42 u43 u44 u45 u46 u47 u48 u49 u50 u51 u52 u53 u54 u55 u56 u57 u58 u59 u60 u61 u62 u63 u64 u65 u66 u67 u68 u69 u70 u71 u72 u73 u74 u75 u76 u77 u78 u79 u80 u81 u82 u83 u84 u85 u86 u87 (by simpa using r)) u1 u2 u3 u4 u5 u7 u8 u9 u10 u11 u12 u13 u14 u15 u16 u17 u18 u19 u20 u21 u22 u23 u24 u25 u26 u27 u28 u29 u30 u31 u32 u33 u34 u35 u36 u37 u38 u39 u40 u41 u42 u43 u44 u45 u46 u47 u48 u49 u50 u51 u52 u53 u54 u55 u56 u57 u58 u59 u60 u61 u62 u63 u64 u65 u66 u67 u68 u69 u70 u71 u72 u73 u74 u75 u76 u77 u78 u79 u80 u81 u82 u83 u84 u85 u86 u87
        · skip
          have es : sign st.nextS = _ := (if_pos (Or.inr (beq_iff_eq.1 ht)))
          rw [es] at hQ
          exact nm_16Ep h hx hy hs ht hl (fun v' w' u1 u2 u3 u4 u5 u7 u8 u9 u10 u11 u12 u13 u14 u15 u16 u17 u18 u19 u20 u21 u22 u23 u24 u25 u26 u27 u28 u29 u30 u31 u32 u33 u34 u35 u36 u37 u38 u39 u40 u41 u42 u43 u44 u45 u46 u47 u48 u49 u50 u51 u52 u53 u54 u55 u56 u57 u58 u59 u60 u61 u62 u63 u64 u65 u66 u67 u68 u69 u70 u71 u72 u73 u74 u75 u76 u77 u78 u79 u80 u81 u82 u83 u84 u85 u86 u87 r => hQ v' w' u1 u2 u3 u4 u5 u7 u8 u9 u10 u11 u12 u13 u14 u15 u16 u17 u18 u19 u20 u21 u22 u23 u24 u25 u26 u27 u28 u29 u30 u31 u32 u33 u34 u35 u36 u37 u38 u39 u40 u41 u42 u43 u44 u45 u46 u47 u48 u49 u50 u51 u52 u53 u54 u55 u56 u57 u58 u59 u60 u61 u62 u63 u64 u65 u66 u67 u68 u69 u70 u71 u72 u73 u74 u75 u76 u77 u78 u79 u80 u81 u82 u83 u84 u85 u86 u87 (by simpa using r)) u1 u2 u3 u4 u5 u7 u8 u9 u10 u11 u12 u13 u14 u15 u16 u17 u18 u19 u20 u21 u22 u23 u24 u25 u26 u27 u28 u29 u30 u31 u32 u33 u34 u35 u36 u37 u38 u39 u40 u41 u42 u43 u44 u45 u46 u47 u48 u49 u50 u51 u52 u53 u54 u55 u56 u57 u58 u59 u60 u61 u62 u63 u64 u65 u66 u67 u68 u69 u70 u71 u72 u73 u74 u75 u76 u77 u78 u79 u80 u81 u82 u83 u84 u85 u86 u87
      · skip
        have es : sign st.nextS = _ := (if_pos (Or.inl (beq_iff_eq.1 hs)))
        rw [es] at hQ
        exact nm_16Em h hx hy hs hl (fun v' w' u1 u2 u3 u4 u5 u7 u8 u9 u10 u11 u12 u13 u14 u15 u16 u17 u18 u19 u20 u21 u22 u23 u24 u25 u26 u27 u28 u29 u30 u31 u32 u33 u34 u35 u36 u37 u38 u39 u40 u41 u42 u43 u44 u45 u46 u47 u48 u49 u50 u51 u52 u53 u54 u55 u56 u57 u58 u59 u60 u61 u62 u63 u64 u65 u66 u67 u68 u69 u70 u71 u72 u73 u74 u75 u76 u77 u78 u79 u80 u81 u82 u83 u84 u85 u86 u87 r => hQ v' w' u1 u2 u3 u4 u5 u7 u8 u9 u10 u11 u12 u13 u14 u15 u16 u17 u18 u19 u20 u21 u22 u23 u24 u25 u26 u27 u28 u29 u30 u31 u32 u33 u34 u35 u36 u37 u38 u39 u40 u41 u42 u43 u44 u45 u46 u47 u48 u49 u50 u51 u52 u53 u54 u55 u56 u57 u58 u59 u60 u61 u62 u63 u64 u65 u66 u67 u68 u69 u70 u71 u72 u73 u74 u75 u76 u77 u78 u79 u80 u81 u82 u83 u84 u85 u86 u87 (by simpa using r)) u1 u2 u3 u4 u5 u7 u8 u9 u10 u11 u12 u13 u14 u15 u16 u17 u18 u19 u20 u21 u22 u23 u24 u25 u26 u27 u28 u29 u30 u31 u32 u33 u34 u35 u36 u37 u38 u39 u40 u41 u42 u43 u44 u45 u46 u47 u48 u49 u50 u51 u52 u53 u54 u55 u56 u57 u58 u59 u60 u61 u62 u63 u64 u65 u66 u67 u68 u69 u70 u71 u72 u73 u74 u75 u76 u77 u78 u79 u80 u81 u82 u83 u84 u85 u86 u87
  · rw [if_pos (Or.inl (beq_iff_eq.1 hx))] at hQ
    cases hs : (hd st.nextS.rest == 45)
    · cases ht : (hd st.nextS.rest == 43)
      · skip
        have es : sign st.nextS = _ := (if_neg (by rw [beq_eq_false_iff_ne] at hs ht; omega))
        rw [es] at hQ
        exact nm_16en h hx hs ht hl (fun v' w' u1 u2 u3 u4 u5 u7 u8 u9 u10 u11 u12 u13 u14 u15 u16 u17 u18 u19 u20 u21 u22 u23 u24 u25 u26 u27 u28 u29 u30 u31 u32 u33 u34 u35 u36 u37 u38 u39 u40 u41 u42 u43 u44 u45 u46 u47 u48 u49 u50 u51 u52 u53 u54 u55 u56 u57 u58 u59 u60 u61 u62 u63 u64 u65 u66 u67 u68 u69 u70 u71 u72 u73 u74 u75 u76 u77 u78 u79 u80 u81 u82 u83 u84 u85 u86 u87 r => hQ v' w' u1 u2 u3 u4 u5 u7 u8 u9 u10 u11 u12 u13 u14 u15 u16 u17 u18 u19 u20 u21 u22 u23 u24 u25 u26 u27 u28 u29 u30 u31 u32 u33 u34 u35 u36 u37 u38 u39 u40 u41 u42 u43 u44 u45 u46 u47 u48 u49 u50 u51 u52 u53 u54 u55 u56 u57 u58 u59 u60 u61 u62 u63 u64 u65 u66 u67 u68 u69 u70 u71 u72 u73 u74 u75 u76 u77 u78 u79 u80 u81 u82 u83 u84 u85 u86 u87 (by simpa using r)) u1 u2 u3 u4 u5 u7 u8 u9 u10 u11 u12 u13 u14 u15 u16 u17 u18 u19 u20 u21 u22 u23 u24 u25 u26 u27 u28 u29 u30 u31 u32 u33 u34 u35 u36 u37 u38 u39 u40 u41 u42 u43 u44 u45 u46 u47 u48 u49 u50 u51 u52 u53 u54 u55 u56 u57 u58 u59 u60 u61 u62 u63 u64 u65 u66 u67 u68 u69 u70 u71 u72 u73 u74 u75 u76 u77 u78 u79 u80 u81 u82 u83 u84 u85 u86 u87
      · skip
        have es : sign st.nextS = _ := (if_pos (Or.inr (beq_iff_eq.1 ht)))
        rw [es] at hQ
        exact nm_16ep h hx hs ht hl (fun v' w' u1 u2 u3 u4 u5 u7 u8 u9 u10 u11 u12 u13 u14 u15 u16 u17 u18 u19 u20 u21 u22 u23 u24 u25 u26 u27 u28 u29 u30 u31 u32 u33 u34 u35 u36 u37 u38 u39 u40 u41 u42 u43 u44 u45 u46 u47 u48 u49 u50 u51 u52 u53 u54 u55 u56 u57 u58 u59 u60 u61 u62 u63 u64 u65 u66 u67 u68 u69 u70 u71 u72 u73 u74 u75 u76 u77 u78 u79 u80 u81 u82 u83 u84 u85 u86 u87 r => hQ v' w' u1 u2 u3 u4 u5 u7 u8 u9 u10 u11 u12 u13 u14 u15 u16 u17 u18 u19 u20 u21 u22 u23 u24 u25 u26 u27 u28 u29 u30 u31 u32 u33 u34 u35 u36 u37 u38 u39 u40 u41 u42 u43 u44 u45 u46 u47 u48 u49 u50 u51 u52 u53 u54 u55 u56 u57 u58 u59 u60 u61 u62 u63 u64 u65 u66 u67 u68 u69 u70 u71 u72 u73 u74 u75 u76 u77 u78 u79 u80 u81 u82 u83 u84 u85 u86 u87 (by simpa using r)) u1 u2 u3 u4 u5 u7 u8 u9 u10 u11 u12 u13 u14 u15 u16 u17 u18 u19 u20 u21 u22 u23 u24 u25 u26 u27 u28 u29 u30 u31 u32 u33 u34 u35 u36 u37 u38 u39 u40 u41 u42 u43 u44 u45 u46 u47 u48 u49 u50 u51 u52 u53 u54 u55 u56 u57 u58 u59 u60 u61 u62 u63 u64 u65 u66 u67 u68 u69 u70 u71 u72 u73 u74 u75 u76 u77 u78 u79 u80 u81 u82 u83 u84 u85 u86 u87
    · skip
      have es : sign st.nextS = _ := (if_pos (Or.inl (beq_iff_eq.1 hs)))
      rw [es] at hQ
      exact nm_16em h hx hs hl (fun v' w' u1 u2 u3 u4 u5 u7 u8 u9 u10 u11 u12 u13 u14 u15 u16 u17 u18 u19 u20 u21 u22 u23 u24 u25 u26 u27 u28 u29 u30 u31 u32 u33 u34 u35 u36 u37 u38 u39 u40 u41 u42 u43 u44 u45 u46 u47 u48 u49 u50 u51 u52 u53 u54 u55 u56 u57 u58 u59 u60 u61 u62 u63 u64 u65 u66 u67 u68 u69 u70 u71 u72 u73 u74 u75 u76 u77 u78 u79 u80 u81 u82 u83 u84 u85 u86 u87 r => hQ v' w' u1 u2 u3 u4 u5 u7 u8 u9 u10 u11 u12 u13 u14 u15 u16 u17 u18 u19 u20 u21 u22 u23 u24 u25 u26 u27 u28 u29 u30 u31 u32 u33 u34 u35 u36 u37 u38 u39 u40 u41 u42 u43 u44 u45 u46 u47 u48 u49 u50 u51 u52 u53 u54 u55 u56 u57 u58 u59 u60 u61 u62 u63 u64 u65 u66 u67 u68 u69 u70 u71 u72 u73 u74 u75 u76 u77 u78 u79 u80 u81 u82 u83 u84 u85 u86 u87 (by simpa using r)) u1 u2 u3 u4 u5 u7 u8 u9 u10 u11 u12 u13 u14 u15 u16 u17 u18 u19 u20 u21 u22 u23 u24 u25 u26 u27 u28 u29 u30 u31 u32 u33 u34 u35 u36 u37 u38 u39 u40 u41 u42 u43 u44 u45 u46 u47 u48 u49 u50 u51 u52 u53 u54 u55 u56 u57 u58 u59 u60 u61 u62 u63 u64 u65 u66 u67 u68 u69 u70 u71 u72 u73 u74 u75 u76 u77 u78 u79 u80 u81 u82 u83 u84 u85 u86 u87
set_option maxRecDepth 1000000 in
set_option maxHeartbeats 16000000 in
theorem nm_t {W0 w : World} {R M : Nat} {sv : Value} {all : List UInt8} {B : Nat} {st : St} {v : Value} {l : List UInt8} {Q : Exit → Act → World → Prop} {c : Int} (h : Ro W0 R M sv all B w st v []) (hl : st.rest.length ≤ 1099511627776)
    (hQ : ∀ (v : Value) (w' : World) (u1 u2 u3 u7 u8 u9 u10 u11 u12 u13 u14 u15 u16 u17 u18 u19 u20 u21 u22 u23 u24 u25 u26 u27 u28 u29 u30 u31 u32 u33 u34 u35 u36 u37 u38 u39 u40 u41 u42 u43 u44 u45 u46 u47 u48 u49 u50 u51 u52 u53 u54 u55 u56 u57 u58 u59 u60 u61 u62 u63 u64 u65 u66 u67 u68 u69 u70 u71 u72 u73 u74 u75 u76 u77 u78 u79 u80 u81 u82 u83 u84 u85 u86 u87 : Value), Ro W0 R M sv all B w' (numT c st).2 v (numT c st).1 → Q .ret ⟨(Value.pointer (some ⟨R, 0, none⟩) :: u1 :: u2 :: u3 :: v :: Value.bool true :: v :: u7 :: u8 :: u9 :: u10 :: u11 :: u12 :: u13 :: u14 :: u15 :: u16 :: u17 :: u18 :: u19 :: u20 :: u21 :: u22 :: u23 :: u24 :: u25 :: u26 :: u27 :: u28 :: u29 :: u30 :: u31 :: u32 :: u33 :: u34 :: u35 :: u36 :: u37 :: u38 :: u39 :: u40 :: u41 :: u42 :: u43 :: u44 :: u45 :: u46 :: u47 :: u48 :: u49 :: u50 :: u51 :: u52 :: u53 :: u54 :: u55 :: u56 :: u57 :: u58 :: u59 :: u60 :: u61 :: u62 :: u63 :: u64 :: u65 :: u66 :: u67 :: u68 :: u69 :: u70 :: u71 :: u72 :: u73 :: u74 :: u75 :: u76 :: u77 :: u78 :: u79 :: u80 :: u81 :: u82 :: u83 :: u84 :: u85 :: u86 :: u87 :: []).toArray, []⟩ w') (u2 u3 u4 u5 u7 u8 u9 u10 u11 u12 u13 u14 u15 u16 u17 u18 u19 u20 u21 u22 u23 u24 u25 u26 u27 u28 u29 u30 u31 u32 u33 u34 u35 u36 u37 u38 u39 u40 u41 u42 u43 u44 u45 u46 u47 u48 u49 u50 u51 u52 u53 u54 u55 u56 u57 u58 u59 u60 u61 u62 u63 u64 u65 u66 u67 u68 u69 u70 u71 u72 u73 u74 u75 u76 u77 u78 u79 u80 u81 u82 u83 u84 u85 u86 u87 : Value) : Code.wp Tryz.prog n13 Q ⟨(Value.pointer (some ⟨R, 0, none⟩) :: Value.int .i64 c :: u2 :: u3 :: u4 :: u5 :: v :: u7 :: u8 :: u9 :: u10 :: u11 :: u12 :: u13 :: u14 :: u15 :: u16 :: u17 :: u18 :: u19 :: u20 :: u21 :: u22 :: u23 :: u24 :: u25 :: u26 :: u27 :: u28 :: u29 :: u30 :: u31 :: u32 :: u33 :: u34 :: u35 :: u36 :: u37 :: u38 :: u39 :: u40 :: u41 :: u42 :: u43 :: u44 :: u45 :: u46 :: u47 :: u48 :: u49 :: u50 :: u51 :: u52 :: u53 :: u54 :: u55 :: u56 :: u57 :: u58 :: u59 :: u60 :: u61 :: u62 :: u63 :: u64 :: u65 :: u66 :: u67 :: u68 :: u69 :: u70 :: u71 :: u72 :: u73 :: u74 :: u75 :: u76 :: u77 :: u78 :: u79 :: u80 :: u81 :: u82 :: u83 :: u84 :: u85 :: u86 :: u87 :: []).toArray, []⟩ w := by
  have e1 : n13 = .seq (rFst n13) (.seq (rFst n14) (.seq (rFst n16) n23)) := rfl
  rw [e1]
  have l1 := rdec_len c st
  refine wp_seq (nm_13 h (by simpa using (by omega : st.rest.length ≤ 1099511627800)) (fun v1 w1 u1 u2 u3 u4 u5 u7 u8 u9 u10 u11 u12 u13 u14 u15 u16 u17 u18 u19 u20 u21 u22 u23 u24 u25 u26 u27 u28 u29 u30 u31 u32 u33 u34 u35 u36 u37 u38 u39 u40 u41 u42 u43 u44 u45 u46 u47 u48 u49 u50 u51 u52 u53 u54 u55 u56 u57 u58 u59 u60 u61 u62 u63 u64 u65 u66 u67 u68 u69 u70 u71 u72 u73 u74 u75 u76 u77 u78 u79 u80 u81 u82 u83 u84 u85 u86 u87 h1 => ?_) u2 u3 u4 u5 u7 u8 u9 u10 u11 u12 u13 u14 u15 u16 u17 u18 u19 u20 u21 u22 u23 u24 u25 u26 u27 u28 u29 u30 u31 u32 u33 u34 u35 u36 u37 u38 u39 u40 u41 u42 u43 u44 u45 u46 u47 u48 u49 u50 u51 u52 u53 u54 u55 u56 u57 u58 u59 u60 u61 u62 u63 u64 u65 u66 u67 u68 u69 u70 u71 u72 u73 u74 u75 u76 u77 u78 u79 u80 u81 u82 u83 u84 u85 u86 u87)
  show Code.wp Tryz.prog (.seq (rFst n14) (.seq (rFst n16) n23)) Q _ w1
  rw [List.nil_append] at h1
  refine wp_seq (nm_f h1 (by omega) (fun v2 w2 u1 u2 u3 u4 u5 u7 u8 u9 u10 u11 u12 u13 u14 u15 u16 u17 u18 u19 u20 u21 u22 u23 u24 u25 u26 u27 u28 u29 u30 u31 u32 u33 u34 u35 u36 u37 u38 u39 u40 u41 u42 u43 u44 u45 u46 u47 u48 u49 u50 u51 u52 u53 u54 u55 u56 u57 u58 u59 u60 u61 u62 u63 u64 u65 u66 u67 u68 u69 u70 u71 u72 u73 u74 u75 u76 u77 u78 u79 u80 u81 u82 u83 u84 u85 u86 u87 h2 => ?_) u1 u2 u3 u4 u5 u7 u8 u9 u10 u11 u12 u13 u14 u15 u16 u17 u18 u19 u20 u21 u22 u23 u24 u25 u26 u27 u28 u29 u30 u31 u32 u33 u34 u35 u36 u37 u38 u39 u40 u41 u42 u43 u44 u45 u46 u47 u48 u49 u50 u51 u52 u53 u54 u55 u56 u57 u58 u59 u60 u61 u62 u63 u64 u65 u66 u67 u68 u69 u70 u71 u72 u73 u74 u75 u76 u77 u78 u79 u80 u81 u82 u83 u84 u85 u86 u87)
  show Code.wp Tryz.prog (.seq (rFst n16) n23) Q _ w2
  have l2 : (frac (dec c st).2).1.length + (frac (dec c st).2).2.rest.length ≤ (dec c st).2.rest.length + 1 := by
    unfold frac
    split
    · have := rdec_len (dec c st).2.nextC (dec c st).2.nextS
      have := rest_next_le (dec c st).2
      omega
    · simp
  refine wp_seq (nm_e h2 (by rw [List.length_append]; omega) (fun v3 w3 u1 u2 u3 u4 u5 u7 u8 u9 u10 u11 u12 u13 u14 u15 u16 u17 u18 u19 u20 u21 u22 u23 u24 u25 u26 u27 u28 u29 u30 u31 u32 u33 u34 u35 u36 u37 u38 u39 u40 u41 u42 u43 u44 u45 u46 u47 u48 u49 u50 u51 u52 u53 u54 u55 u56 u57 u58 u59 u60 u61 u62 u63 u64 u65 u66 u67 u68 u69 u70 u71 u72 u73 u74 u75 u76 u77 u78 u79 u80 u81 u82 u83 u84 u85 u86 u87 h3 => ?_) u1 u2 u3 u4 u5 u7 u8 u9 u10 u11 u12 u13 u14 u15 u16 u17 u18 u19 u20 u21 u22 u23 u24 u25 u26 u27 u28 u29 u30 u31 u32 u33 u34 u35 u36 u37 u38 u39 u40 u41 u42 u43 u44 u45 u46 u47 u48 u49 u50 u51 u52 u53 u54 u55 u56 u57 u58 u59 u60 u61 u62 u63 u64 u65 u66 u67 u68 u69 u70 u71 u72 u73 u74 u75 u76 u77 u78 u79 u80 u81 u82 u83 u84 u85 u86 u87)
  show Code.wp Tryz.prog n23 Q _ w3
  exact nm_23 (fun u1 u2 u3 u7 u8 u9 u10 u11 u12 u13 u14 u15 u16 u17 u18 u19 u20 u21 u22 u23 u24 u25 u26 u27 u28 u29 u30 u31 u32 u33 u34 u35 u36 u37 u38 u39 u40 u41 u42 u43 u44 u45 u46 u47 u48 u49 u50 u51 u52 u53 u54 u55 u56 u57 u58 u59 u60 u61 u62 u63 u64 u65 u66 u67 u68 u69 u70 u71 u72 u73 u74 u75 u76 u77 u78 u79 u80 u81 u82 u83 u84 u85 u86 u87 _ => hQ v3 w3 u1 u2 u3 u7 u8 u9 u10 u11 u12 u13 u14 u15 u16 u17 u18 u19 u20 u21 u22 u23 u24 u25 u26 u27 u28 u29 u30 u31 u32 u33 u34 u35 u36 u37 u38 u39 u40 u41 u42 u43 u44 u45 u46 u47 u48 u49 u50 u51 u52 u53 u54 u55 u56 u57 u58 u59 u60 u61 u62 u63 u64 u65 u66 u67 u68 u69 u70 u71 u72 u73 u74 u75 u76 u77 u78 u79 u80 u81 u82 u83 u84 u85 u86 u87 (by
    show Ro W0 R M sv all B w3 (expo (frac (dec c st).2).2).2 v3 ((dec c st).1 ++ ((frac (dec c st).2).1 ++ (expo (frac (dec c st).2).2).1))
    rw [← List.append_assoc]; exact h3)) u1 u2 u3 u4 u5 u7 u8 u9 u10 u11 u12 u13 u14 u15 u16 u17 u18 u19 u20 u21 u22 u23 u24 u25 u26 u27 u28 u29 u30 u31 u32 u33 u34 u35 u36 u37 u38 u39 u40 u41 u42 u43 u44 u45 u46 u47 u48 u49 u50 u51 u52 u53 u54 u55 u56 u57 u58 u59 u60 u61 u62 u63 u64 u65 u66 u67 u68 u69 u70 u71 u72 u73 u74 u75 u76 u77 u78 u79 u80 u81 u82 u83 u84 u85 u86 u87
end Go.Proofs.YtgiklkapedlckaaGreatDoor

namespace Go.Proofs.YtgiklkapedlckaaGreatDoor
open Go.RowKit

noncomputable def nA : Code := rFst (rSnd (rSnd numB))
theorem num_code : numB = .seq (rFst numB) (.seq (rFst (rSnd numB)) (.seq nA n13)) := rfl
set_option maxRecDepth 1000000 in
set_option maxHeartbeats 16000000 in
theorem nm_0a {R : Nat} {w : World} {c : Int} {Q : Exit → Act → World → Prop} (hQ : ∀ (u2 u3 u4 u5 u6 u7 u8 u9 u10 u11 u12 u13 u14 u15 u16 u17 u18 u19 u20 u21 u22 u23 u24 u25 u26 u27 u28 u29 u30 u31 u32 u33 u34 u35 u36 u37 u38 u39 u40 u41 u42 u43 u44 u45 u46 u47 u48 u49 u50 u51 u52 u53 u54 u55 u56 u57 u58 u59 u60 u61 u62 u63 u64 u65 u66 u67 u68 u69 u70 u71 u72 u73 u74 u75 u76 u77 u78 u79 u80 u81 u82 u83 u84 u85 u86 u87 : Value), True → Q .normal ⟨(Value.pointer (some ⟨R, 0, none⟩) :: Value.int .i64 c :: u2 :: u3 :: u4 :: u5 :: u6 :: u7 :: u8 :: u9 :: u10 :: u11 :: u12 :: u13 :: u14 :: u15 :: u16 :: u17 :: u18 :: u19 :: u20 :: u21 :: u22 :: u23 :: u24 :: u25 :: u26 :: u27 :: u28 :: u29 :: u30 :: u31 :: u32 :: u33 :: u34 :: u35 :: u36 :: u37 :: u38 :: u39 :: u40 :: u41 :: u42 :: u43 :: u44 :: u45 :: u46 :: u47 :: u48 :: u49 :: u50 :: u51 :: u52 :: u53 :: u54 :: u55 :: u56 :: u57 :: u58 :: u59 :: u60 :: u61 :: u62 :: u63 :: u64 :: u65 :: u66 :: u67 :: u68 :: u69 :: u70 :: u71 :: u72 :: u73 :: u74 :: u75 :: u76 :: u77 :: u78 :: u79 :: u80 :: u81 :: u82 :: u83 :: u84 :: u85 :: u86 :: u87 :: []).toArray, []⟩ w) (u2 u3 u4 u5 u6 u7 u8 u9 u10 u11 u12 u13 u14 u15 u16 u17 u18 u19 u20 u21 u22 u23 u24 u25 u26 u27 u28 u29 u30 u31 u32 u33 u34 u35 u36 u37 u38 u39 u40 u41 u42 u43 u44 u45 u46 u47 u48 u49 u50 u51 u52 u53 u54 u55 u56 u57 u58 u59 u60 u61 u62 u63 u64 u65 u66 u67 u68 u69 u70 u71 u72 u73 u74 u75 u76 u77 u78 u79 u80 u81 u82 u83 u84 u85 u86 u87 : Value) : Code.wp Tryz.prog (rFst numB) Q ⟨#[Value.pointer (some ⟨R, 0, none⟩), Value.int .i64 c, u2, u3, u4, u5, u6, u7, u8, u9, u10, u11, u12, u13, u14, u15, u16, u17, u18, u19, u20, u21, u22, u23, u24, u25, u26, u27, u28, u29, u30, u31, u32, u33, u34, u35, u36, u37, u38, u39, u40, u41, u42, u43, u44, u45, u46, u47, u48, u49, u50, u51, u52, u53, u54, u55, u56, u57, u58, u59, u60, u61, u62, u63, u64, u65, u66, u67, u68, u69, u70, u71, u72, u73, u74, u75, u76, u77, u78, u79, u80, u81, u82, u83, u84, u85, u86, u87], []⟩ w := by
  conv => arg 2; whnf
  go_wp2
  first | exact hQ _ _ _ _ _ _ _ _ _ _ _ _ _ _ _ _ _ _ _ _ _ _ _ _ _ _ _ _ _ _ _ _ _ _ _ _ _ _ _ _ _ _ _ _ _ _ _ _ _ _ _ _ _ _ _ _ _ _ _ _ _ _ _ _ _ _ _ _ _ _ _ _ _ _ _ _ _ _ _ _ _ _ _ _ _ _ trivial | trivial
set_option maxRecDepth 1000000 in
set_option maxHeartbeats 16000000 in
theorem nm_0b {R : Nat} {w : World} {c : Int} {Q : Exit → Act → World → Prop} (hQ : ∀ (u2 u3 u4 u5 u7 u8 u9 u10 u11 u12 u13 u14 u15 u16 u17 u18 u19 u20 u21 u22 u23 u24 u25 u26 u27 u28 u29 u30 u31 u32 u33 u34 u35 u36 u37 u38 u39 u40 u41 u42 u43 u44 u45 u46 u47 u48 u49 u50 u51 u52 u53 u54 u55 u56 u57 u58 u59 u60 u61 u62 u63 u64 u65 u66 u67 u68 u69 u70 u71 u72 u73 u74 u75 u76 u77 u78 u79 u80 u81 u82 u83 u84 u85 u86 u87 : Value), True → Q .normal ⟨(Value.pointer (some ⟨R, 0, none⟩) :: Value.int .i64 c :: u2 :: u3 :: u4 :: u5 :: Value.slice none 0 0 :: u7 :: u8 :: u9 :: u10 :: u11 :: u12 :: u13 :: u14 :: u15 :: u16 :: u17 :: u18 :: u19 :: u20 :: u21 :: u22 :: u23 :: u24 :: u25 :: u26 :: u27 :: u28 :: u29 :: u30 :: u31 :: u32 :: u33 :: u34 :: u35 :: u36 :: u37 :: u38 :: u39 :: u40 :: u41 :: u42 :: u43 :: u44 :: u45 :: u46 :: u47 :: u48 :: u49 :: u50 :: u51 :: u52 :: u53 :: u54 :: u55 :: u56 :: u57 :: u58 :: u59 :: u60 :: u61 :: u62 :: u63 :: u64 :: u65 :: u66 :: u67 :: u68 :: u69 :: u70 :: u71 :: u72 :: u73 :: u74 :: u75 :: u76 :: u77 :: u78 :: u79 :: u80 :: u81 :: u82 :: u83 :: u84 :: u85 :: u86 :: u87 :: []).toArray, []⟩ w) (u2 u3 u4 u5 u6 u7 u8 u9 u10 u11 u12 u13 u14 u15 u16 u17 u18 u19 u20 u21 u22 u23 u24 u25 u26 u27 u28 u29 u30 u31 u32 u33 u34 u35 u36 u37 u38 u39 u40 u41 u42 u43 u44 u45 u46 u47 u48 u49 u50 u51 u52 u53 u54 u55 u56 u57 u58 u59 u60 u61 u62 u63 u64 u65 u66 u67 u68 u69 u70 u71 u72 u73 u74 u75 u76 u77 u78 u79 u80 u81 u82 u83 u84 u85 u86 u87 : Value) : Code.wp Tryz.prog (rFst (rSnd numB)) Q ⟨#[Value.pointer (some ⟨R, 0, none⟩), Value.int .i64 c, u2, u3, u4, u5, u6, u7, u8, u9, u10, u11, u12, u13, u14, u15, u16, u17, u18, u19, u20, u21, u22, u23, u24, u25, u26, u27, u28, u29, u30, u31, u32, u33, u34, u35, u36, u37, u38, u39, u40, u41, u42, u43, u44, u45, u46, u47, u48, u49, u50, u51, u52, u53, u54, u55, u56, u57, u58, u59, u60, u61, u62, u63, u64, u65, u66, u67, u68, u69, u70, u71, u72, u73, u74, u75, u76, u77, u78, u79, u80, u81, u82, u83, u84, u85, u86, u87], []⟩ w := by
  conv => arg 2; whnf
  go_wp2
  first | exact hQ _ _ _ _ _ _ _ _ _ _ _ _ _ _ _ _ _ _ _ _ _ _ _ _ _ _ _ _ _ _ _ _ _ _ _ _ _ _ _ _ _ _ _ _ _ _ _ _ _ _ _ _ _ _ _ _ _ _ _ _ _ _ _ _ _ _ _ _ _ _ _ _ _ _ _ _ _ _ _ _ _ _ _ _ _ trivial | trivial
set_option maxRecDepth 1000000 in
set_option maxHeartbeats 16000000 in
theorem nm_A0 {W0 w : World} {R M : Nat} {sv : Value} {all : List UInt8} {B : Nat} {st : St} {Q : Exit → Act → World → Prop} {c : Int} (h : Ro W0 R M sv all B w st (.slice none 0 0) []) (h48 : (c == 48) = false) (hQ : ∀ (w' : World) (u2 u3 u4 u5 u7 u8 u9 u10 u11 u12 u13 u14 u15 u16 u17 u18 u19 u20 u21 u22 u23 u24 u25 u26 u27 u28 u29 u30 u31 u32 u33 u34 u35 u36 u37 u38 u39 u40 u41 u42 u43 u44 u45 u46 u47 u48 u49 u50 u51 u52 u53 u54 u55 u56 u57 u58 u59 u60 u61 u62 u63 u64 u65 u66 u67 u68 u69 u70 u71 u72 u73 u74 u75 u76 u77 u78 u79 u80 u81 u82 u83 u84 u85 u86 u87 : Value), Ro W0 R M sv all B w' st (.slice none 0 0) [] → Q .normal ⟨(Value.pointer (some ⟨R, 0, none⟩) :: Value.int .i64 c :: u2 :: u3 :: u4 :: u5 :: Value.slice none 0 0 :: u7 :: u8 :: u9 :: u10 :: u11 :: u12 :: u13 :: u14 :: u15 :: u16 :: u17 :: u18 :: u19 :: u20 :: u21 :: u22 :: u23 :: u24 :: u25 :: u26 :: u27 :: u28 :: u29 :: u30 :: u31 :: u32 :: u33 :: u34 :: u35 :: u36 :: u37 :: u38 :: u39 :: u40 :: u41 :: u42 :: u43 :: u44 :: u45 :: u46 :: u47 :: u48 :: u49 :: u50 :: u51 :: u52 :: u53 :: u54 :: u55 :: u56 :: u57 :: u58 :: u59 :: u60 :: u61 :: u62 :: u63 :: u64 :: u65 :: u66 :: u67 :: u68 :: u69 :: u70 :: u71 :: u72 :: u73 :: u74 :: u75 :: u76 :: u77 :: u78 :: u79 :: u80 :: u81 :: u82 :: u83 :: u84 :: u85 :: u86 :: u87 :: []).toArray, []⟩ w') (u2 u3 u4 u5 u7 u8 u9 u10 u11 u12 u13 u14 u15 u16 u17 u18 u19 u20 u21 u22 u23 u24 u25 u26 u27 u28 u29 u30 u31 u32 u33 u34 u35 u36 u37 u38 u39 u40 u41 u42 u43 u44 u45 u46 u47 u48 u49 u50 u51 u52 u53 u54 u55 u56 u57 u58 u59 u60 u61 u62 u63 u64 u65 u66 u67 u68 u69 u70 u71 u72 u73 u74 u75 u76 u77 u78 u79 u80 u81 u82 u83 u84 u85 u86 u87 : Value) : Code.wp Tryz.prog nA Q ⟨#[Value.pointer (some ⟨R, 0, none⟩), Value.int .i64 c, u2, u3, u4, u5, Value.slice none 0 0, u7, u8, u9, u10, u11, u12, u13, u14, u15, u16, u17, u18, u19, u20, u21, u22, u23, u24, u25, u26, u27, u28, u29, u30, u31, u32, u33, u34, u35, u36, u37, u38, u39, u40, u41, u42, u43, u44, u45, u46, u47, u48, u49, u50, u51, u52, u53, u54, u55, u56, u57, u58, u59, u60, u61, u62, u63, u64, u65, u66, u67, u68, u69, u70, u71, u72, u73, u74, u75, u76, u77, u78, u79, u80, u81, u82, u83, u84, u85, u86, u87], []⟩ w := by
  have HE := Lib.hid h
  clear h
  conv => arg 2; whnf
  go_wp2
  first | exact hQ _ _ _ _ _ _ _ _ _ _ _ _ _ _ _ _ _ _ _ _ _ _ _ _ _ _ _ _ _ _ _ _ _ _ _ _ _ _ _ _ _ _ _ _ _ _ _ _ _ _ _ _ _ _ _ _ _ _ _ _ _ _ _ _ _ _ _ _ _ _ _ _ _ _ _ _ _ _ _ _ _ _ _ _ _ _ HE.out | exact HE.out
set_option maxRecDepth 1000000 in
set_option maxHeartbeats 16000000 in
theorem nm_A1 {W0 w : World} {R M : Nat} {sv : Value} {all : List UInt8} {B : Nat} {st : St} {Q : Exit → Act → World → Prop} (h : Ro W0 R M sv all B w st (.slice none 0 0) []) (hx : (hd st.rest == 120) = false) (hy : (hd st.rest == 88) = false) (HD : Hid (decI (hd st.rest) = true)) (hQ : ∀ (w' : World) (u2 u3 u4 u5 u7 u8 u9 u10 u11 u12 u13 u14 u15 u16 u17 u18 u19 u20 u21 u22 u23 u24 u25 u26 u27 u28 u29 u30 u31 u32 u33 u34 u35 u36 u37 u38 u39 u40 u41 u42 u43 u44 u45 u46 u47 u48 u49 u50 u51 u52 u53 u54 u55 u56 u57 u58 u59 u60 u61 u62 u63 u64 u65 u66 u67 u68 u69 u70 u71 u72 u73 u74 u75 u76 u77 u78 u79 u80 u81 u82 u83 u84 u85 u86 u87 : Value), Ro W0 R M sv all B w' st.nextS (.slice none 0 0) [] → Q .normal ⟨(Value.pointer (some ⟨R, 0, none⟩) :: Value.int .i64 st.nextC :: u2 :: u3 :: u4 :: u5 :: Value.slice none 0 0 :: u7 :: u8 :: u9 :: u10 :: u11 :: u12 :: u13 :: u14 :: u15 :: u16 :: u17 :: u18 :: u19 :: u20 :: u21 :: u22 :: u23 :: u24 :: u25 :: u26 :: u27 :: u28 :: u29 :: u30 :: u31 :: u32 :: u33 :: u34 :: u35 :: u36 :: u37 :: u38 :: u39 :: u40 :: u41 :: u42 :: u43 :: u44 :: u45 :: u46 :: u47 :: u48 :: u49 :: u50 :: u51 :: u52 :: u53 :: u54 :: u55 :: u56 :: u57 :: u58 :: u59 :: u60 :: u61 :: u62 :: u63 :: u64 :: u65 :: u66 :: u67 :: u68 :: u69 :: u70 :: u71 :: u72 :: u73 :: u74 :: u75 :: u76 :: u77 :: u78 :: u79 :: u80 :: u81 :: u82 :: u83 :: u84 :: u85 :: u86 :: u87 :: []).toArray, []⟩ w') (u2 u3 u4 u5 u7 u8 u9 u10 u11 u12 u13 u14 u15 u16 u17 u18 u19 u20 u21 u22 u23 u24 u25 u26 u27 u28 u29 u30 u31 u32 u33 u34 u35 u36 u37 u38 u39 u40 u41 u42 u43 u44 u45 u46 u47 u48 u49 u50 u51 u52 u53 u54 u55 u56 u57 u58 u59 u60 u61 u62 u63 u64 u65 u66 u67 u68 u69 u70 u71 u72 u73 u74 u75 u76 u77 u78 u79 u80 u81 u82 u83 u84 u85 u86 u87 : Value) : Code.wp Tryz.prog nA Q ⟨#[Value.pointer (some ⟨R, 0, none⟩), Value.int .i64 48, u2, u3, u4, u5, Value.slice none 0 0, u7, u8, u9, u10, u11, u12, u13, u14, u15, u16, u17, u18, u19, u20, u21, u22, u23, u24, u25, u26, u27, u28, u29, u30, u31, u32, u33, u34, u35, u36, u37, u38, u39, u40, u41, u42, u43, u44, u45, u46, u47, u48, u49, u50, u51, u52, u53, u54, u55, u56, u57, u58, u59, u60, u61, u62, u63, u64, u65, u66, u67, u68, u69, u70, u71, u72, u73, u74, u75, u76, u77, u78, u79, u80, u81, u82, u83, u84, u85, u86, u87], []⟩ w := by
  conv => arg 2; whnf
  go_wp2_with (go_at_call 27; refine (peek_ro h).mono ?_; rintro e w1 ⟨rfl, h1⟩; refine Hid.out ?_)
  refine Lib.hid ?_
  clear h
  go_wp2_with (first | (go_at_call 30; refine (rdec_true _ _ HD.out).mono ?_; rintro e w' ⟨rfl, rfl⟩) | (go_at_call 28; refine (next_ro h1).mono ?_; rintro e w2 ⟨rfl, h2⟩; refine Hid.out ?_))
  refine Lib.hid ?_
  have HE := Lib.hid h2
  clear h1 h2
  go_wp2
  first | exact hQ _ _ _ _ _ _ _ _ _ _ _ _ _ _ _ _ _ _ _ _ _ _ _ _ _ _ _ _ _ _ _ _ _ _ _ _ _ _ _ _ _ _ _ _ _ _ _ _ _ _ _ _ _ _ _ _ _ _ _ _ _ _ _ _ _ _ _ _ _ _ _ _ _ _ _ _ _ _ _ _ _ _ _ _ _ _ HE.out | exact HE.out
set_option maxRecDepth 1000000 in
set_option maxHeartbeats 16000000 in
theorem nm_A2 {W0 w : World} {R M : Nat} {sv : Value} {all : List UInt8} {B : Nat} {st : St} {Q : Exit → Act → World → Prop} (h : Ro W0 R M sv all B w st (.slice none 0 0) []) (hx : (hd st.rest == 120) = false) (hy : (hd st.rest == 88) = false) (HD : Hid (decI (hd st.rest) = false)) (hQ : ∀ (w' : World) (u2 u3 u4 u5 u7 u8 u9 u10 u11 u12 u13 u14 u15 u16 u17 u18 u19 u20 u21 u22 u23 u24 u25 u26 u27 u28 u29 u30 u31 u32 u33 u34 u35 u36 u37 u38 u39 u40 u41 u42 u43 u44 u45 u46 u47 u48 u49 u50 u51 u52 u53 u54 u55 u56 u57 u58 u59 u60 u61 u62 u63 u64 u65 u66 u67 u68 u69 u70 u71 u72 u73 u74 u75 u76 u77 u78 u79 u80 u81 u82 u83 u84 u85 u86 u87 : Value), Ro W0 R M sv all B w' st (.slice none 0 0) [] → Q .normal ⟨(Value.pointer (some ⟨R, 0, none⟩) :: Value.int .i64 48 :: u2 :: u3 :: u4 :: u5 :: Value.slice none 0 0 :: u7 :: u8 :: u9 :: u10 :: u11 :: u12 :: u13 :: u14 :: u15 :: u16 :: u17 :: u18 :: u19 :: u20 :: u21 :: u22 :: u23 :: u24 :: u25 :: u26 :: u27 :: u28 :: u29 :: u30 :: u31 :: u32 :: u33 :: u34 :: u35 :: u36 :: u37 :: u38 :: u39 :: u40 :: u41 :: u42 :: u43 :: u44 :: u45 :: u46 :: u47 :: u48 :: u49 :: u50 :: u51 :: u52 :: u53 :: u54 :: u55 :: u56 :: u57 :: u58 :: u59 :: u60 :: u61 :: u62 :: u63 :: u64 :: u65 :: u66 :: u67 :: u68 :: u69 :: u70 :: u71 :: u72 :: u73 :: u74 :: u75 :: u76 :: u77 :: u78 :: u79 :: u80 :: u81 :: u82 :: u83 :: u84 :: u85 :: u86 :: u87 :: []).toArray, []⟩ w') (u2 u3 u4 u5 u7 u8 u9 u10 u11 u12 u13 u14 u15 u16 u17 u18 u19 u20 u21 u22 u23 u24 u25 u26 u27 u28 u29 u30 u31 u32 u33 u34 u35 u36 u37 u38 u39 u40 u41 u42 u43 u44 u45 u46 u47 u48 u49 u50 u51 u52 u53 u54 u55 u56 u57 u58 u59 u60 u61 u62 u63 u64 u65 u66 u67 u68 u69 u70 u71 u72 u73 u74 u75 u76 u77 u78 u79 u80 u81 u82 u83 u84 u85 u86 u87 : Value) : Code.wp Tryz.prog nA Q ⟨#[Value.pointer (some ⟨R, 0, none⟩), Value.int .i64 48, u2, u3, u4, u5, Value.slice none 0 0, u7, u8, u9, u10, u11, u12, u13, u14, u15, u16, u17, u18, u19, u20, u21, u22, u23, u24, u25, u26, u27, u28, u29, u30, u31, u32, u33, u34, u35, u36, u37, u38, u39, u40, u41, u42, u43, u44, u45, u46, u47, u48, u49, u50, u51, u52, u53, u54, u55, u56, u57, u58, u59, u60, u61, u62, u63, u64, u65, u66, u67, u68, u69, u70, u71, u72, u73, u74, u75, u76, u77, u78, u79, u80, u81, u82, u83, u84, u85, u86, u87], []⟩ w := by
  conv => arg 2; whnf
  go_wp2_with (go_at_call 27; refine (peek_ro h).mono ?_; rintro e w1 ⟨rfl, h1⟩; refine Hid.out ?_)
  refine Lib.hid ?_
  clear h
  have HE := Lib.hid h1
  clear h1
  go_wp2_with (go_at_call 30; refine (rdec_false _ _ HD.out).mono ?_; rintro e w' ⟨rfl, rfl⟩)
  first | exact hQ _ _ _ _ _ _ _ _ _ _ _ _ _ _ _ _ _ _ _ _ _ _ _ _ _ _ _ _ _ _ _ _ _ _ _ _ _ _ _ _ _ _ _ _ _ _ _ _ _ _ _ _ _ _ _ _ _ _ _ _ _ _ _ _ _ _ _ _ _ _ _ _ _ _ _ _ _ _ _ _ _ _ _ _ _ _ HE.out | exact HE.out
set_option maxRecDepth 1000000 in
set_option maxHeartbeats 16000000 in
theorem nm_X1 {W0 w : World} {R M : Nat} {sv : Value} {all : List UInt8} {B : Nat} {st : St} {Q : Exit → Act → World → Prop} (h : Ro W0 R M sv all B w st (.slice none 0 0) []) (hl : st.rest.length ≤ 1099511627776) (hx : (hd st.rest == 120) = true)
    (hQ : ∀ (v' : Value) (w' : World) (u1 u2 u3 u7 u8 u9 u10 u11 u12 u13 u14 u15 u16 u17 u18 u19 u20 u21 u22 u23 u24 u25 u26 u27 u28 u29 u30 u31 u32 u33 u34 u35 u36 u37 u38 u39 u40 u41 u42 u43 u44 u45 u46 u47 u48 u49 u50 u51 u52 u53 u54 u55 u56 u57 u58 u59 u60 u61 u62 u63 u64 u65 u66 u67 u68 u69 u70 u71 u72 u73 u74 u75 u76 u77 u78 u79 u80 u81 u82 u83 u84 u85 u86 u87 : Value), Ro W0 R M sv all B w' (st.nextS.adv hexI) v' (48 :: by8 st.nextC :: st.nextS.run hexI) → Q .ret ⟨(Value.pointer (some ⟨R, 0, none⟩) :: u1 :: u2 :: u3 :: v' :: Value.bool (!(st.nextS.run hexI).isEmpty) :: v' :: u7 :: u8 :: u9 :: u10 :: u11 :: u12 :: u13 :: u14 :: u15 :: u16 :: u17 :: u18 :: u19 :: u20 :: u21 :: u22 :: u23 :: u24 :: u25 :: u26 :: u27 :: u28 :: u29 :: u30 :: u31 :: u32 :: u33 :: u34 :: u35 :: u36 :: u37 :: u38 :: u39 :: u40 :: u41 :: u42 :: u43 :: u44 :: u45 :: u46 :: u47 :: u48 :: u49 :: u50 :: u51 :: u52 :: u53 :: u54 :: u55 :: u56 :: u57 :: u58 :: u59 :: u60 :: u61 :: u62 :: u63 :: u64 :: u65 :: u66 :: u67 :: u68 :: u69 :: u70 :: u71 :: u72 :: u73 :: u74 :: u75 :: u76 :: u77 :: u78 :: u79 :: u80 :: u81 :: u82 :: u83 :: u84 :: u85 :: u86 :: u87 :: []).toArray, []⟩ w') (u2 u3 u4 u5 u7 u8 u9 u10 u11 u12 u13 u14 u15 u16 u17 u18 u19 u20 u21 u22 u23 u24 u25 u26 u27 u28 u29 u30 u31 u32 u33 u34 u35 u36 u37 u38 u39 u40 u41 u42 u43 u44 u45 u46 u47 u48 u49 u50 u51 u52 u53 u54 u55 u56 u57 u58 u59 u60 u61 u62 u63 u64 u65 u66 u67 u68 u69 u70 u71 u72 u73 u74 u75 u76 u77 u78 u79 u80 u81 u82 u83 u84 u85 u86 u87 : Value) : Code.wp Tryz.prog nA Q ⟨#[Value.pointer (some ⟨R, 0, none⟩), Value.int .i64 48, u2, u3, u4, u5, Value.slice none 0 0, u7, u8, u9, u10, u11, u12, u13, u14, u15, u16, u17, u18, u19, u20, u21, u22, u23, u24, u25, u26, u27, u28, u29, u30, u31, u32, u33, u34, u35, u36, u37, u38, u39, u40, u41, u42, u43, u44, u45, u46, u47, u48, u49, u50, u51, u52, u53, u54, u55, u56, u57, u58, u59, u60, u61, u62, u63, u64, u65, u66, u67, u68, u69, u70, u71, u72, u73, u74, u75, u76, u77, u78, u79, u80, u81, u82, u83, u84, u85, u86, u87], []⟩ w := by
  have HX := Lib.hid (show st.nextC % 256 = ((by8 st.nextC).toNat : Int) from (by8_toNat _).symm)
  have HLM := Lib.hid (show ([] : List UInt8).length + 2 ≤ 140737488355328 by simp)
  have hr := rest_next_le st
  have HLIM := Lib.hid (show ([48, by8 st.nextC] : List UInt8).length + st.nextS.rest.length ≤ 8796093022209 by simp only [List.length_cons, List.length_nil]; omega)
  clear hr hl
  conv => arg 2; whnf
  go_wp2_with (go_at_call 27; refine (peek_ro h).mono ?_; rintro e w1 ⟨rfl, h1⟩; refine Hid.out ?_)
  refine Lib.hid ?_
  clear h
  go_wp2_with (go_at_call 28; refine (next_ro h1).mono ?_; rintro e w2 ⟨rfl, h2⟩; refine Hid.out ?_)
  refine Lib.hid ?_
  clear h1
  go_wp2_with (at_builtin; refine wpList_app2 rfl (.tmp 21) (.tmp 25) rfl _ B _ [] _ _ 48 (by8 st.nextC) rfl rfl h2.bs (Lib.hid rfl) HX h2.le HLM ?_; intro v3 w3 hb9 hl9; refine Hid.out ?_)
  refine Lib.hid ?_
  have H1 := Lib.hid (h2.wrote hb9 hl9)
  clear h2 hb9 hl9
  go_wp2
  go_loopg [6, 8] st.nextS.rest.length (fun n sw xv wr => ∃ (sp : St) (ds : List UInt8), sp.rest.length ≤ n ∧ xv = .bool (!ds.isEmpty) ∧ Ro W0 R M sv all B wr sp sw (([48, by8 st.nextC] : List UInt8) ++ ds) ∧ ds ++ sp.run hexI = st.nextS.run hexI ∧ sp.adv hexI = st.nextS.adv hexI ∧ ds.length + sp.rest.length ≤ st.nextS.rest.length)
  case atStart => exact ⟨st.nextS, [], Nat.le_refl _, rfl, by have h5 := H1.out; simpa using h5, rfl, rfl, by simp⟩
  case round =>
    clear H1
    obtain ⟨sp, ds, hg, rfl, ho, h1, h2, h3⟩ := hrel
    have HLM := Lib.hid (show (([48, by8 st.nextC] : List UInt8) ++ ds).length + 1 ≤ 140737488355328 by have := HLIM.out; rw [List.length_append]; omega)
    have HG := Lib.hid hg
    clear hg
    cases hp : hexI (hd sp.rest)
    · have hds : st.nextS.run hexI = ds := by rw [← h1, run_no hp, List.append_nil]
      have hsp : st.nextS.adv hexI = sp := by rw [← h2, adv_no hp]
      have HP := Lib.hid hp
      have HDS := Lib.hid (And.intro hds hsp)
      clear hp h1 h2 h3 hds hsp
      go_wp2_with (go_at_call 27; refine (peek_ro ho).mono ?_; rintro e w1 ⟨rfl, ho1⟩; refine Hid.out ?_)
      refine Lib.hid ?_
      clear ho
      have HE := Lib.hid (show Ro W0 R M sv all B w1 (st.nextS.adv hexI) u6 (48 :: by8 st.nextC :: st.nextS.run hexI) from by
        have h5 := ho1
        rw [← HDS.out.1, ← HDS.out.2] at h5
        exact h5)
      have HB := Lib.hid (show (!ds.isEmpty) = !(st.nextS.run hexI).isEmpty by rw [HDS.out.1])
      rw [HB.out]
      clear ho1
      go_wp2_with (go_at_call 47; refine (rhex_false _ _ HP.out).mono ?_; rintro e w' ⟨rfl, rfl⟩)
      first | exact hQ _ _ _ _ _ _ _ _ _ _ _ _ _ _ _ _ _ _ _ _ _ _ _ _ _ _ _ _ _ _ _ _ _ _ _ _ _ _ _ _ _ _ _ _ _ _ _ _ _ _ _ _ _ _ _ _ _ _ _ _ _ _ _ _ _ _ _ _ _ _ _ _ _ _ _ _ _ _ _ _ _ _ _ _ _ _ HE.out | exact HE.out
    · obtain ⟨x, n1, n2, n3, n4⟩ := cls_step cls_hex hp
      have HP := Lib.hid hp
      have HXX := Lib.hid (show sp.nextC % 256 = (x.toNat : Int) by rw [n1]; have := x.toNat_lt; omega)
      have HN := Lib.hid (And.intro (show (ds ++ [x]) ++ sp.nextS.run hexI = st.nextS.run hexI by rw [← h1, n2, List.append_assoc]; rfl) (And.intro (n3.symm.trans h2) (And.intro n4 (show (ds ++ [x]).length + sp.nextS.rest.length ≤ st.nextS.rest.length by rw [List.length_append]; simp only [List.length_cons, List.length_nil]; omega))))
      clear hp h1 h2 h3 n1 n2 n3 n4
      go_wp2_with (go_at_call 27; refine (peek_ro ho).mono ?_; rintro e w1 ⟨rfl, ho1⟩; refine Hid.out ?_)
      refine Lib.hid ?_
      clear ho
      go_wp2_with (first | (go_at_call 47; refine (rhex_true _ _ HP.out).mono ?_; rintro e w' ⟨rfl, rfl⟩) | (go_at_call 28; refine (next_ro ho1).mono ?_; rintro e w2 ⟨rfl, ho2⟩; refine Hid.out ?_))
      refine Lib.hid ?_
      clear ho1
      go_wp2_with (at_builtin; refine wpList_app1 rfl (.tmp 30) (.tmp 34) rfl _ B _ (([48, by8 st.nextC] : List UInt8) ++ ds) _ x rfl rfl ho2.bs HXX ho2.le HLM ?_; intro v9 w9 hb9 hl9; refine Hid.out ?_)
      refine Lib.hid ?_
      have H9 := Lib.hid (ho2.wrote hb9 hl9)
      clear ho2 hb9 hl9
      go_wp2
      go_roundg sp.nextS.rest.length
      case measure => have h8 := HN.out.2.2.1; have h9 := HG.out; omega
      case rel => exact ⟨sp.nextS, ds ++ [x], Nat.le_refl _, by simp, by have h5 := H9.out; rw [List.append_assoc] at h5; exact h5, HN.out.1, HN.out.2.1, HN.out.2.2.2⟩
set_option maxRecDepth 1000000 in
set_option maxHeartbeats 16000000 in
theorem nm_X2 {W0 w : World} {R M : Nat} {sv : Value} {all : List UInt8} {B : Nat} {st : St} {Q : Exit → Act → World → Prop} (h : Ro W0 R M sv all B w st (.slice none 0 0) []) (hl : st.rest.length ≤ 1099511627776) (hx : (hd st.rest == 120) = false) (hy : (hd st.rest == 88) = true)
    (hQ : ∀ (v' : Value) (w' : World) (u1 u2 u3 u7 u8 u9 u10 u11 u12 u13 u14 u15 u16 u17 u18 u19 u20 u21 u22 u23 u24 u25 u26 u27 u28 u29 u30 u31 u32 u33 u34 u35 u36 u37 u38 u39 u40 u41 u42 u43 u44 u45 u46 u47 u48 u49 u50 u51 u52 u53 u54 u55 u56 u57 u58 u59 u60 u61 u62 u63 u64 u65 u66 u67 u68 u69 u70 u71 u72 u73 u74 u75 u76 u77 u78 u79 u80 u81 u82 u83 u84 u85 u86 u87 : Value), Ro W0 R M sv all B w' (st.nextS.adv hexI) v' (48 :: by8 st.nextC :: st.nextS.run hexI) → Q .ret ⟨(Value.pointer (some ⟨R, 0, none⟩) :: u1 :: u2 :: u3 :: v' :: Value.bool (!(st.nextS.run hexI).isEmpty) :: v' :: u7 :: u8 :: u9 :: u10 :: u11 :: u12 :: u13 :: u14 :: u15 :: u16 :: u17 :: u18 :: u19 :: u20 :: u21 :: u22 :: u23 :: u24 :: u25 :: u26 :: u27 :: u28 :: u29 :: u30 :: u31 :: u32 :: u33 :: u34 :: u35 :: u36 :: u37 :: u38 :: u39 :: u40 :: u41 :: u42 :: u43 :: u44 :: u45 :: u46 :: u47 :: u48 :: u49 :: u50 :: u51 :: u52 :: u53 :: u54 :: u55 :: u56 :: u57 :: u58 :: u59 :: u60 :: u61 :: u62 :: u63 :: u64 :: u65 :: u66 :: u67 :: u68 :: u69 :: u70 :: u71 :: u72 :: u73 :: u74 :: u75 :: u76 :: u77 :: u78 :: u79 :: u80 :: u81 :: u82 :: u83 :: u84 :: u85 :: u86 :: u87 :: []).toArray, []⟩ w') (u2 u3 u4 u5 u7 u8 u9 u10 u11 u12 u13 u14 u15 u16 u17 u18 u19 u20 u21 u22 u23 u24 u25 u26 u27 u28 u29 u30 u31 u32 u33 u34 u35 u36 u37 u38 u39 u40 u41 u42 u43 u44 u45 u46 u47 u48 u49 u50 u51 u52 u53 u54 u55 u56 u57 u58 u59 u60 u61 u62 u63 u64 u65 u66 u67 u68 u69 u70 u71 u72 u73 u74 u75 u76 u77 u78 u79 u80 u81 u82 u83 u84 u85 u86 u87 : Value) : Code.wp Tryz.prog nA Q ⟨#[Value.pointer (some ⟨R, 0, none⟩), Value.int .i64 48, u2, u3, u4, u5, Value.slice none 0 0, u7, u8, u9, u10, u11, u12, u13, u14, u15, u16, u17, u18, u19, u20, u21, u22, u23, u24, u25, u26, u27, u28, u29, u30, u31, u32, u33, u34, u35, u36, u37, u38, u39, u40, u41, u42, u43, u44, u45, u46, u47, u48, u49, u50, u51, u52, u53, u54, u55, u56, u57, u58, u59, u60, u61, u62, u63, u64, u65, u66, u67, u68, u69, u70, u71, u72, u73, u74, u75, u76, u77, u78, u79, u80, u81, u82, u83, u84, u85, u86, u87], []⟩ w := by
  have HX := Lib.hid (show st.nextC % 256 = ((by8 st.nextC).toNat : Int) from (by8_toNat _).symm)
  have HLM := Lib.hid (show ([] : List UInt8).length + 2 ≤ 140737488355328 by simp)
  have hr := rest_next_le st
  have HLIM := Lib.hid (show ([48, by8 st.nextC] : List UInt8).length + st.nextS.rest.length ≤ 8796093022209 by simp only [List.length_cons, List.length_nil]; omega)
  clear hr hl
  conv => arg 2; whnf
  go_wp2_with (go_at_call 27; refine (peek_ro h).mono ?_; rintro e w1 ⟨rfl, h1⟩; refine Hid.out ?_)
  refine Lib.hid ?_
  clear h
  go_wp2_with (go_at_call 28; refine (next_ro h1).mono ?_; rintro e w2 ⟨rfl, h2⟩; refine Hid.out ?_)
  refine Lib.hid ?_
  clear h1
  go_wp2_with (at_builtin; refine wpList_app2 rfl (.tmp 21) (.tmp 25) rfl _ B _ [] _ _ 48 (by8 st.nextC) rfl rfl h2.bs (Lib.hid rfl) HX h2.le HLM ?_; intro v3 w3 hb9 hl9; refine Hid.out ?_)
  refine Lib.hid ?_
  have H1 := Lib.hid (h2.wrote hb9 hl9)
  clear h2 hb9 hl9
  go_wp2
  go_loopg [6, 8] st.nextS.rest.length (fun n sw xv wr => ∃ (sp : St) (ds : List UInt8), sp.rest.length ≤ n ∧ xv = .bool (!ds.isEmpty) ∧ Ro W0 R M sv all B wr sp sw (([48, by8 st.nextC] : List UInt8) ++ ds) ∧ ds ++ sp.run hexI = st.nextS.run hexI ∧ sp.adv hexI = st.nextS.adv hexI ∧ ds.length + sp.rest.length ≤ st.nextS.rest.length)
  case atStart => exact ⟨st.nextS, [], Nat.le_refl _, rfl, by have h5 := H1.out; simpa using h5, rfl, rfl, by simp⟩
  case round =>
    clear H1
    obtain ⟨sp, ds, hg, rfl, ho, h1, h2, h3⟩ := hrel
    have HLM := Lib.hid (show (([48, by8 st.nextC] : List UInt8) ++ ds).length + 1 ≤ 140737488355328 by have := HLIM.out; rw [List.length_append]; omega)
    have HG := Lib.hid hg
    clear hg
    cases hp : hexI (hd sp.rest)
    · have hds : st.nextS.run hexI = ds := by rw [← h1, run_no hp, List.append_nil]
      have hsp : st.nextS.adv hexI = sp := by rw [← h2, adv_no hp]
      have HP := Lib.hid hp
      have HDS := Lib.hid (And.intro hds hsp)
      clear hp h1 h2 h3 hds hsp
      go_wp2_with (go_at_call 27; refine (peek_ro ho).mono ?_; rintro e w1 ⟨rfl, ho1⟩; refine Hid.out ?_)
      refine Lib.hid ?_
      clear ho
      have HE := Lib.hid (show Ro W0 R M sv all B w1 (st.nextS.adv hexI) u6 (48 :: by8 st.nextC :: st.nextS.run hexI) from by
        have h5 := ho1
        rw [← HDS.out.1, ← HDS.out.2] at h5
        exact h5)
      have HB := Lib.hid (show (!ds.isEmpty) = !(st.nextS.run hexI).isEmpty by rw [HDS.out.1])
      rw [HB.out]
      clear ho1
      go_wp2_with (go_at_call 47; refine (rhex_false _ _ HP.out).mono ?_; rintro e w' ⟨rfl, rfl⟩)
      first | exact hQ _ _ _ _ _ _ _ _ _ _ _ _ _ _ _ _ _ _ _ _ _ _ _ _ _ _ _ _ _ _ _ _ _ _ _ _ _ _ _ _ _ _ _ _ _ _ _ _ _ _ _ _ _ _ _ _ _ _ _ _ _ _ _ _ _ _ _ _ _ _ _ _ _ _ _ _ _ _ _ _ _ _ _ _ _ _ HE.out | exact HE.out
    · obtain ⟨x, n1, n2, n3, n4⟩ := cls_step cls_hex hp
      have HP := Lib.hid hp
      have HXX := Lib.hid (show sp.nextC % 256 = (x.toNat : Int) by rw [n1]; have := x.toNat_lt; omega)
      have HN := Lib.hid (And.intro (show (ds ++ [x]) ++ sp.nextS.run hexI = st.nextS.run hexI by rw [← h1, n2, List.append_assoc]; rfl) (And.intro (n3.symm.trans h2) (And.intro n4 (show (ds ++ [x]).length + sp.nextS.rest.length ≤ st.nextS.rest.length by rw [List.length_append]; simp only [List.length_cons, List.length_nil]; omega))))
      clear hp h1 h2 h3 n1 n2 n3 n4
      go_wp2_with (go_at_call 27; refine (peek_ro ho).mono ?_; rintro e w1 ⟨rfl, ho1⟩; refine Hid.out ?_)
      refine Lib.hid ?_
      clear ho
      go_wp2_with (first | (go_at_call 47; refine (rhex_true _ _ HP.out).mono ?_; rintro e w' ⟨rfl, rfl⟩) | (go_at_call 28; refine (next_ro ho1).mono ?_; rintro e w2 ⟨rfl, ho2⟩; refine Hid.out ?_))
      refine Lib.hid ?_
      clear ho1
      go_wp2_with (at_builtin; refine wpList_app1 rfl (.tmp 30) (.tmp 34) rfl _ B _ (([48, by8 st.nextC] : List UInt8) ++ ds) _ x rfl rfl ho2.bs HXX ho2.le HLM ?_; intro v9 w9 hb9 hl9; refine Hid.out ?_)
      refine Lib.hid ?_
      have H9 := Lib.hid (ho2.wrote hb9 hl9)
      clear ho2 hb9 hl9
      go_wp2
      go_roundg sp.nextS.rest.length
      case measure => have h8 := HN.out.2.2.1; have h9 := HG.out; omega
      case rel => exact ⟨sp.nextS, ds ++ [x], Nat.le_refl _, by simp, by have h5 := H9.out; rw [List.append_assoc] at h5; exact h5, HN.out.1, HN.out.2.1, HN.out.2.2.2⟩
set_option maxRecDepth 100000 in
set_option maxHeartbeats 12800000 in
theorem rnumber (w : World) (R M : Nat) (sv : Value) (all : List UInt8) (st : St) (c : Int) (h : Rf w R M sv all st) :
    Calls Tryz.prog 31 #[.pointer (some ⟨R, 0, none⟩), .int .i64 c] w fun e w' => ∃ v', e = .returned (.tuple #[v', .bool (num c st).1]) ∧ Ro w R M sv all w.heap.size w' (num c st).2.2 v' (num c st).2.1 := by
  have h0 : Ro w R M sv all w.heap.size w st (.slice none 0 0) [] := Ro.start h (Bs.nil _ _) (Below.refl _ _)
  have hl : st.rest.length ≤ 1099511627776 := h0.lim
  have HH := Lib.hid (And.intro h0 hl)
  clear h h0 hl
  go_enter Tryz.func31, Tryz.ntmps31
  obtain ⟨h0, hl⟩ := HH.out
  clear HH
  change Code.wp Tryz.prog (.seq (rFst numB) (.seq (rFst (rSnd numB)) (.seq nA n13))) _ _ _
  refine wp_seq (nm_0a (fun u2 u3 u4 u5 u6 u7 u8 u9 u10 u11 u12 u13 u14 u15 u16 u17 u18 u19 u20 u21 u22 u23 u24 u25 u26 u27 u28 u29 u30 u31 u32 u33 u34 u35 u36 u37 u38 u39 u40 u41 u42 u43 u44 u45 u46 u47 u48 u49 u50 u51 u52 u53 u54 u55 u56 u57 u58 u59 u60 u61 u62 u63 u64 u65 u66 u67 u68 u69 u70 u71 u72 u73 u74 u75 u76 u77 u78 u79 u80 u81 u82 u83 u84 u85 u86 u87 _ => ?_) _ _ _ _ _ _ _ _ _ _ _ _ _ _ _ _ _ _ _ _ _ _ _ _ _ _ _ _ _ _ _ _ _ _ _ _ _ _ _ _ _ _ _ _ _ _ _ _ _ _ _ _ _ _ _ _ _ _ _ _ _ _ _ _ _ _ _ _ _ _ _ _ _ _ _ _ _ _ _ _ _ _ _ _ _ _)
  show Code.wp Tryz.prog (.seq (rFst (rSnd numB)) (.seq nA n13)) _ _ _
  refine wp_seq (nm_0b (fun u2 u3 u4 u5 u7 u8 u9 u10 u11 u12 u13 u14 u15 u16 u17 u18 u19 u20 u21 u22 u23 u24 u25 u26 u27 u28 u29 u30 u31 u32 u33 u34 u35 u36 u37 u38 u39 u40 u41 u42 u43 u44 u45 u46 u47 u48 u49 u50 u51 u52 u53 u54 u55 u56 u57 u58 u59 u60 u61 u62 u63 u64 u65 u66 u67 u68 u69 u70 u71 u72 u73 u74 u75 u76 u77 u78 u79 u80 u81 u82 u83 u84 u85 u86 u87 _ => ?_) u2 u3 u4 u5 u6 u7 u8 u9 u10 u11 u12 u13 u14 u15 u16 u17 u18 u19 u20 u21 u22 u23 u24 u25 u26 u27 u28 u29 u30 u31 u32 u33 u34 u35 u36 u37 u38 u39 u40 u41 u42 u43 u44 u45 u46 u47 u48 u49 u50 u51 u52 u53 u54 u55 u56 u57 u58 u59 u60 u61 u62 u63 u64 u65 u66 u67 u68 u69 u70 u71 u72 u73 u74 u75 u76 u77 u78 u79 u80 u81 u82 u83 u84 u85 u86 u87)
  show Code.wp Tryz.prog (.seq nA n13) _ _ _
  unfold num
  cases h48 : (c == 48)
  · rw [if_neg (beq_eq_false_iff_ne.1 h48)]
    refine wp_seq (nm_A0 h0 h48 (fun w1 u2 u3 u4 u5 u7 u8 u9 u10 u11 u12 u13 u14 u15 u16 u17 u18 u19 u20 u21 u22 u23 u24 u25 u26 u27 u28 u29 u30 u31 u32 u33 u34 u35 u36 u37 u38 u39 u40 u41 u42 u43 u44 u45 u46 u47 u48 u49 u50 u51 u52 u53 u54 u55 u56 u57 u58 u59 u60 u61 u62 u63 u64 u65 u66 u67 u68 u69 u70 u71 u72 u73 u74 u75 u76 u77 u78 u79 u80 u81 u82 u83 u84 u85 u86 u87 h1 => ?_) u2 u3 u4 u5 u7 u8 u9 u10 u11 u12 u13 u14 u15 u16 u17 u18 u19 u20 u21 u22 u23 u24 u25 u26 u27 u28 u29 u30 u31 u32 u33 u34 u35 u36 u37 u38 u39 u40 u41 u42 u43 u44 u45 u46 u47 u48 u49 u50 u51 u52 u53 u54 u55 u56 u57 u58 u59 u60 u61 u62 u63 u64 u65 u66 u67 u68 u69 u70 u71 u72 u73 u74 u75 u76 u77 u78 u79 u80 u81 u82 u83 u84 u85 u86 u87)
    refine nm_t (l := ([] : List UInt8)) h1 hl (fun v2 w2 u1 u2 u3 u7 u8 u9 u10 u11 u12 u13 u14 u15 u16 u17 u18 u19 u20 u21 u22 u23 u24 u25 u26 u27 u28 u29 u30 u31 u32 u33 u34 u35 u36 u37 u38 u39 u40 u41 u42 u43 u44 u45 u46 u47 u48 u49 u50 u51 u52 u53 u54 u55 u56 u57 u58 u59 u60 u61 u62 u63 u64 u65 u66 u67 u68 u69 u70 u71 u72 u73 u74 u75 u76 u77 u78 u79 u80 u81 u82 u83 u84 u85 u86 u87 h2 => ?_) _ _ _ _ _ _ _ _ _ _ _ _ _ _ _ _ _ _ _ _ _ _ _ _ _ _ _ _ _ _ _ _ _ _ _ _ _ _ _ _ _ _ _ _ _ _ _ _ _ _ _ _ _ _ _ _ _ _ _ _ _ _ _ _ _ _ _ _ _ _ _ _ _ _ _ _ _ _ _ _ _ _ _ _ _
    go_ret2
    exact ⟨v2, rfl, h2⟩
  · obtain rfl := beq_iff_eq.1 h48
    rw [if_pos rfl]
    cases hx : (hd st.rest == 120)
    · cases hy : (hd st.rest == 88)
      · rw [if_neg (by rw [beq_eq_false_iff_ne] at hx hy; omega)]
        cases hd1 : decI (hd st.rest)
        · rw [if_neg (by decide)]
          refine wp_seq (nm_A2 h0 hx hy (Lib.hid hd1) (fun w1 u2 u3 u4 u5 u7 u8 u9 u10 u11 u12 u13 u14 u15 u16 u17 u18 u19 u20 u21 u22 u23 u24 u25 u26 u27 u28 u29 u30 u31 u32 u33 u34 u35 u36 u37 u38 u39 u40 u41 u42 u43 u44 u45 u46 u47 u48 u49 u50 u51 u52 u53 u54 u55 u56 u57 u58 u59 u60 u61 u62 u63 u64 u65 u66 u67 u68 u69 u70 u71 u72 u73 u74 u75 u76 u77 u78 u79 u80 u81 u82 u83 u84 u85 u86 u87 h1 => ?_) u2 u3 u4 u5 u7 u8 u9 u10 u11 u12 u13 u14 u15 u16 u17 u18 u19 u20 u21 u22 u23 u24 u25 u26 u27 u28 u29 u30 u31 u32 u33 u34 u35 u36 u37 u38 u39 u40 u41 u42 u43 u44 u45 u46 u47 u48 u49 u50 u51 u52 u53 u54 u55 u56 u57 u58 u59 u60 u61 u62 u63 u64 u65 u66 u67 u68 u69 u70 u71 u72 u73 u74 u75 u76 u77 u78 u79 u80 u81 u82 u83 u84 u85 u86 u87)
          refine nm_t (l := ([] : List UInt8)) h1 hl (fun v2 w2 u1 u2 u3 u7 u8 u9 u10 u11 u12 u13 u14 u15 u16 u17 u18 u19 u20 u21 u22 u23 u24 u25 u26 u27 u28 u29 u30 u31 u32 u33 u34 u35 u36 u37 u38 u39 u40 u41 u42 u43 u44 u45 u46 u47 u48 u49 u50 u51 u52 u53 u54 u55 u56 u57 u58 u59 u60 u61 u62 u63 u64 u65 u66 u67 u68 u69 u70 u71 u72 u73 u74 u75 u76 u77 u78 u79 u80 u81 u82 u83 u84 u85 u86 u87 h2 => ?_) _ _ _ _ _ _ _ _ _ _ _ _ _ _ _ _ _ _ _ _ _ _ _ _ _ _ _ _ _ _ _ _ _ _ _ _ _ _ _ _ _ _ _ _ _ _ _ _ _ _ _ _ _ _ _ _ _ _ _ _ _ _ _ _ _ _ _ _ _ _ _ _ _ _ _ _ _ _ _ _ _ _ _ _ _
          go_ret2
          exact ⟨v2, rfl, h2⟩
        · rw [if_pos rfl]
          refine wp_seq (nm_A1 h0 hx hy (Lib.hid hd1) (fun w1 u2 u3 u4 u5 u7 u8 u9 u10 u11 u12 u13 u14 u15 u16 u17 u18 u19 u20 u21 u22 u23 u24 u25 u26 u27 u28 u29 u30 u31 u32 u33 u34 u35 u36 u37 u38 u39 u40 u41 u42 u43 u44 u45 u46 u47 u48 u49 u50 u51 u52 u53 u54 u55 u56 u57 u58 u59 u60 u61 u62 u63 u64 u65 u66 u67 u68 u69 u70 u71 u72 u73 u74 u75 u76 u77 u78 u79 u80 u81 u82 u83 u84 u85 u86 u87 h1 => ?_) u2 u3 u4 u5 u7 u8 u9 u10 u11 u12 u13 u14 u15 u16 u17 u18 u19 u20 u21 u22 u23 u24 u25 u26 u27 u28 u29 u30 u31 u32 u33 u34 u35 u36 u37 u38 u39 u40 u41 u42 u43 u44 u45 u46 u47 u48 u49 u50 u51 u52 u53 u54 u55 u56 u57 u58 u59 u60 u61 u62 u63 u64 u65 u66 u67 u68 u69 u70 u71 u72 u73 u74 u75 u76 u77 u78 u79 u80 u81 u82 u83 u84 u85 u86 u87)
          refine nm_t (l := ([] : List UInt8)) h1 (Nat.le_trans (rest_next_le st) hl) (fun v2 w2 u1 u2 u3 u7 u8 u9 u10 u11 u12 u13 u14 u15 u16 u17 u18 u19 u20 u21 u22 u23 u24 u25 u26 u27 u28 u29 u30 u31 u32 u33 u34 u35 u36 u37 u38 u39 u40 u41 u42 u43 u44 u45 u46 u47 u48 u49 u50 u51 u52 u53 u54 u55 u56 u57 u58 u59 u60 u61 u62 u63 u64 u65 u66 u67 u68 u69 u70 u71 u72 u73 u74 u75 u76 u77 u78 u79 u80 u81 u82 u83 u84 u85 u86 u87 h2 => ?_) _ _ _ _ _ _ _ _ _ _ _ _ _ _ _ _ _ _ _ _ _ _ _ _ _ _ _ _ _ _ _ _ _ _ _ _ _ _ _ _ _ _ _ _ _ _ _ _ _ _ _ _ _ _ _ _ _ _ _ _ _ _ _ _ _ _ _ _ _ _ _ _ _ _ _ _ _ _ _ _ _ _ _ _ _
          go_ret2
          exact ⟨v2, rfl, h2⟩
      · rw [if_pos (Or.inr (beq_iff_eq.1 hy))]
        refine wp_seq (nm_X2 h0 hl hx hy (fun v2 w2 u1 u2 u3 u7 u8 u9 u10 u11 u12 u13 u14 u15 u16 u17 u18 u19 u20 u21 u22 u23 u24 u25 u26 u27 u28 u29 u30 u31 u32 u33 u34 u35 u36 u37 u38 u39 u40 u41 u42 u43 u44 u45 u46 u47 u48 u49 u50 u51 u52 u53 u54 u55 u56 u57 u58 u59 u60 u61 u62 u63 u64 u65 u66 u67 u68 u69 u70 u71 u72 u73 u74 u75 u76 u77 u78 u79 u80 u81 u82 u83 u84 u85 u86 u87 h2 => ?_) u2 u3 u4 u5 u7 u8 u9 u10 u11 u12 u13 u14 u15 u16 u17 u18 u19 u20 u21 u22 u23 u24 u25 u26 u27 u28 u29 u30 u31 u32 u33 u34 u35 u36 u37 u38 u39 u40 u41 u42 u43 u44 u45 u46 u47 u48 u49 u50 u51 u52 u53 u54 u55 u56 u57 u58 u59 u60 u61 u62 u63 u64 u65 u66 u67 u68 u69 u70 u71 u72 u73 u74 u75 u76 u77 u78 u79 u80 u81 u82 u83 u84 u85 u86 u87)
        go_ret2
        exact ⟨v2, rfl, h2⟩
    · rw [if_pos (Or.inl (beq_iff_eq.1 hx))]
      refine wp_seq (nm_X1 h0 hl hx (fun v2 w2 u1 u2 u3 u7 u8 u9 u10 u11 u12 u13 u14 u15 u16 u17 u18 u19 u20 u21 u22 u23 u24 u25 u26 u27 u28 u29 u30 u31 u32 u33 u34 u35 u36 u37 u38 u39 u40 u41 u42 u43 u44 u45 u46 u47 u48 u49 u50 u51 u52 u53 u54 u55 u56 u57 u58 u59 u60 u61 u62 u63 u64 u65 u66 u67 u68 u69 u70 u71 u72 u73 u74 u75 u76 u77 u78 u79 u80 u81 u82 u83 u84 u85 u86 u87 h2 => ?_) u2 u3 u4 u5 u7 u8 u9 u10 u11 u12 u13 u14 u15 u16 u17 u18 u19 u20 u21 u22 u23 u24 u25 u26 u27 u28 u29 u30 u31 u32 u33 u34 u35 u36 u37 u38 u39 u40 u41 u42 u43 u44 u45 u46 u47 u48 u49 u50 u51 u52 u53 u54 u55 u56 u57 u58 u59 u60 u61 u62 u63 u64 u65 u66 u67 u68 u69 u70 u71 u72 u73 u74 u75 u76 u77 u78 u79 u80 u81 u82 u83 u84 u85 u86 u87)
      go_ret2
      exact ⟨v2, rfl, h2⟩
end Go.Proofs.YtgiklkapedlckaaGreatDoor

namespace Go.Proofs.YtgiklkapedlckaaGreatDoor
open Go.RowKit

/-- What a reader of a long text leaves. -/
def LOut (W0 : World) (R M : Nat) (sv : Value) (all : List UInt8) (B : Nat) (G : Bool × List UInt8 × St) (w' : World) (v' : Value) (ok : Bool) : Prop :=
  ok = G.1 ∧ ∃ (s' : St) (l' : List UInt8), Ro W0 R M sv all B w' s' v' l' ∧ (ok = true → s' = G.2.2 ∧ l' = G.2.1)
theorem sepL_lo (c : Int) (st : St) (hc : -1 ≤ c) : -1 ≤ (sepL c st).2.1 := by
  generalize hn : mu c st = n
  induction n using Nat.strongRecOn generalizing c st with
  | _ n ih =>
    by_cases h : c = 61
    · subst h
      rw [sepL_yes]
      exact ih _ (by have := mu_next (c := 61) (st := st) (by decide); omega) st.nextC st.nextS st.nextC_lo rfl
    · rw [sepL_no h]; exact hc
/-- long's code, in parts. -/
noncomputable def lgB : Code := Tryz.f34.body.getD .skip
noncomputable def lg3 : Code := rSnd (rSnd (rSnd lgB))
noncomputable def lg6 : Code := rSnd lg3
noncomputable def lgL : Code := rSnd (rSnd (rSnd lg6))
set_option maxRecDepth 1000000 in
set_option maxHeartbeats 16000000 in
theorem lg_a {W0 w : World} {R M : Nat} {sv : Value} {all : List UInt8} {B : Nat} {st : St} {v : Value} {Q : Exit → Act → World → Prop} {l : List UInt8} {c : Int} {E : Nat × Int × St} (h : Ro W0 R M sv all B w st v l) (hE : sepL c st = E) (hQ : ∀ (w' : World) (u2 u3 u4 u5 u8 u9 u10 u11 u12 u13 u14 u15 u16 u17 u18 u19 u20 u21 u22 u23 u24 u25 u26 u27 u28 u29 u30 u31 u32 u33 u34 u35 u36 u37 u38 u39 u40 u41 u42 u43 u44 u45 u46 u47 u48 u49 u50 u51 u52 u53 u54 u55 u56 u57 u58 u59 u60 u61 u62 u63 u64 u65 u66 u67 : Value), Ro W0 R M sv all B w' E.2.2 v l → Q .normal ⟨(Value.pointer (some ⟨R, 0, none⟩) :: Value.int .i64 E.2.1 :: u2 :: u3 :: u4 :: u5 :: v :: Value.int .i64 E.1 :: u8 :: u9 :: u10 :: u11 :: u12 :: u13 :: u14 :: u15 :: u16 :: u17 :: u18 :: u19 :: u20 :: u21 :: u22 :: u23 :: u24 :: u25 :: u26 :: u27 :: u28 :: u29 :: u30 :: u31 :: u32 :: u33 :: u34 :: u35 :: u36 :: u37 :: u38 :: u39 :: u40 :: u41 :: u42 :: u43 :: u44 :: u45 :: u46 :: u47 :: u48 :: u49 :: u50 :: u51 :: u52 :: u53 :: u54 :: u55 :: u56 :: u57 :: u58 :: u59 :: u60 :: u61 :: u62 :: u63 :: u64 :: u65 :: u66 :: u67 :: []).toArray, []⟩ w') (u2 u3 u4 u5 u8 u9 u10 u11 u12 u13 u14 u15 u16 u17 u18 u19 u20 u21 u22 u23 u24 u25 u26 u27 u28 u29 u30 u31 u32 u33 u34 u35 u36 u37 u38 u39 u40 u41 u42 u43 u44 u45 u46 u47 u48 u49 u50 u51 u52 u53 u54 u55 u56 u57 u58 u59 u60 u61 u62 u63 u64 u65 u66 u67 : Value) : Code.wp Tryz.prog (rFst lg3) Q ⟨#[Value.pointer (some ⟨R, 0, none⟩), Value.int .i64 c, u2, u3, u4, u5, v, Value.int .i64 0, u8, u9, u10, u11, u12, u13, u14, u15, u16, u17, u18, u19, u20, u21, u22, u23, u24, u25, u26, u27, u28, u29, u30, u31, u32, u33, u34, u35, u36, u37, u38, u39, u40, u41, u42, u43, u44, u45, u46, u47, u48, u49, u50, u51, u52, u53, u54, u55, u56, u57, u58, u59, u60, u61, u62, u63, u64, u65, u66, u67], []⟩ w := by
  have HEE := Lib.hid hE
  have HMU := Lib.hid (show mu c st ≤ 1099511627777 by have := mu_le c st; have := h.lim; omega)
  have HS := Lib.hid h
  clear h hE
  conv => arg 2; whnf
  go_wp2
  go_loopg [1, 7] (mu c st) (fun n chv cv wr => ∃ (c' : Int) (sp : St) (j : Nat), mu c' sp ≤ n ∧ chv = .int .i64 c' ∧ cv = .int .i64 j ∧ Ro W0 R M sv all B wr sp v l ∧ (sepL c st).1 = j + (sepL c' sp).1 ∧ (sepL c st).2 = (sepL c' sp).2 ∧ j + mu c' sp ≤ mu c st)
  case atStart => exact ⟨c, st, 0, Nat.le_refl _, rfl, rfl, HS.out, by omega, rfl, by omega⟩
  case round =>
    clear HS
    obtain ⟨cc, sp, j, hg, rfl, rfl, ho, q1, q2, q3⟩ := hrel
    have HG := Lib.hid hg
    have hj0 : (j : Int) ≤ 1099511627780 := by have := HMU.out; omega
    clear hg
    by_cases h61 : cc = 61
    · obtain ⟨m1, m2⟩ := b_yes h61
      subst h61
      have HN := Lib.hid (And.intro (mu_next (c := 61) (st := sp) (by decide)) (show (sepL c st).1 = (j + 1) + (sepL sp.nextC sp.nextS).1 ∧ (sepL c st).2 = (sepL sp.nextC sp.nextS).2 ∧ (j + 1) + mu sp.nextC sp.nextS ≤ mu c st from by
        have h8 := mu_next (c := 61) (st := sp) (by decide)
        rw [q1, q2, sepL_yes]
        refine ⟨?_, rfl, by omega⟩
        show j + ((sepL sp.nextC sp.nextS).1 + 1) = _
        omega))
      clear q1 q2 q3 m1 m2
      go_wp2_with (go_at_call 28; refine (next_ro ho).mono ?_; rintro e w9 ⟨rfl, hy9⟩; refine Hid.out ?_)
      refine Lib.hid ?_
      have H5 := Lib.hid hy9
      clear ho hy9
      go_wp2
      go_roundg (mu sp.nextC sp.nextS)
      case measure => have h8 := HN.out.1; have h9 := HG.out; omega
      case rel => exact ⟨sp.nextC, sp.nextS, j + 1, Nat.le_refl _, rfl, by go_num, H5.out, HN.out.2.1, HN.out.2.2.1, HN.out.2.2.2⟩
    · obtain ⟨m1, m2⟩ := b_no h61
      have hse : sepL c st = (j, cc, sp) := by
        have h8 : (sepL c st).1 = j := by rw [q1, sepL_no h61]; rfl
        have h9 : (sepL c st).2 = (cc, sp) := by rw [q2, sepL_no h61]
        exact Prod.ext h8 h9
      have HSE := Lib.hid hse
      have HQ3 := Lib.hid q3
      clear q1 q2 q3 h61 hse HG
      obtain rfl : E = (j, cc, sp) := HEE.out.symm.trans HSE.out
      have HF := Lib.hid ho
      clear ho HSE HEE
      go_wp2
      first | exact hQ _ _ _ _ _ _ _ _ _ _ _ _ _ _ _ _ _ _ _ _ _ _ _ _ _ _ _ _ _ _ _ _ _ _ _ _ _ _ _ _ _ _ _ _ _ _ _ _ _ _ _ _ _ _ _ _ _ _ _ _ _ _ _ _ _ HF.out | exact HF.out
set_option maxRecDepth 1000000 in
set_option maxHeartbeats 16000000 in
theorem lg_m {W0 w : World} {R M : Nat} {sv : Value} {all : List UInt8} {B : Nat} {st : St} {v : Value} {Q : Exit → Act → World → Prop} {c : Int} {k : Nat} {G : Bool × List UInt8 × St} (h : Ro W0 R M sv all B w st v []) (hG : longL k c st [] = G) (hc : -1 ≤ c) (hk : (k : Int) ≤ 1099511627780)
    (hQ : ∀ (v' : Value) (ok : Bool) (w' : World) (u1 u2 u3 u6 u7 u8 u9 u10 u11 u12 u13 u14 u15 u16 u17 u18 u19 u20 u21 u22 u23 u24 u25 u26 u27 u28 u29 u30 u31 u32 u33 u34 u35 u36 u37 u38 u39 u40 u41 u42 u43 u44 u45 u46 u47 u48 u49 u50 u51 u52 u53 u54 u55 u56 u57 u58 u59 u60 u61 u62 u63 u64 u65 u66 u67 : Value), LOut W0 R M sv all B G w' v' ok → Q .ret ⟨(Value.pointer (some ⟨R, 0, none⟩) :: u1 :: u2 :: u3 :: v' :: Value.bool ok :: u6 :: u7 :: u8 :: u9 :: u10 :: u11 :: u12 :: u13 :: u14 :: u15 :: u16 :: u17 :: u18 :: u19 :: u20 :: u21 :: u22 :: u23 :: u24 :: u25 :: u26 :: u27 :: u28 :: u29 :: u30 :: u31 :: u32 :: u33 :: u34 :: u35 :: u36 :: u37 :: u38 :: u39 :: u40 :: u41 :: u42 :: u43 :: u44 :: u45 :: u46 :: u47 :: u48 :: u49 :: u50 :: u51 :: u52 :: u53 :: u54 :: u55 :: u56 :: u57 :: u58 :: u59 :: u60 :: u61 :: u62 :: u63 :: u64 :: u65 :: u66 :: u67 :: []).toArray, []⟩ w') (u2 u3 u4 u5 u8 u9 u10 u11 u12 u13 u14 u15 u16 u17 u18 u19 u20 u21 u22 u23 u24 u25 u26 u27 u28 u29 u30 u31 u32 u33 u34 u35 u36 u37 u38 u39 u40 u41 u42 u43 u44 u45 u46 u47 u48 u49 u50 u51 u52 u53 u54 u55 u56 u57 u58 u59 u60 u61 u62 u63 u64 u65 u66 u67 : Value) : Code.wp Tryz.prog lgL Q ⟨#[Value.pointer (some ⟨R, 0, none⟩), Value.int .i64 c, u2, u3, u4, u5, v, Value.int .i64 k, u8, u9, u10, u11, u12, u13, u14, u15, u16, u17, u18, u19, u20, u21, u22, u23, u24, u25, u26, u27, u28, u29, u30, u31, u32, u33, u34, u35, u36, u37, u38, u39, u40, u41, u42, u43, u44, u45, u46, u47, u48, u49, u50, u51, u52, u53, u54, u55, u56, u57, u58, u59, u60, u61, u62, u63, u64, u65, u66, u67], []⟩ w := by
  have HS := Lib.hid (And.intro h (And.intro hG (And.intro hc (show mu c st ≤ 1099511627777 by have := mu_le c st; have := h.lim; omega))))
  have hk0 : (0 : Int) ≤ (k : Int) := by omega
  clear h hG hc
  conv => arg 2; whnf
  go_wp2
  go_loopg [1, 6] (mu c st) (fun n chv bv wr => ∃ (c2 : Int) (s2 : St) (ds : List UInt8), mu c2 s2 ≤ n ∧ chv = .int .i64 c2 ∧ -1 ≤ c2 ∧ Ro W0 R M sv all B wr s2 bv ds ∧ longL k c2 s2 ds = G ∧ ds.length + mu c2 s2 ≤ 1099511627777)
  case atStart => exact ⟨c, st, [], Nat.le_refl _, rfl, HS.out.2.2.1, HS.out.1, HS.out.2.1, by have := HS.out.2.2.2; simpa using this⟩
  case round =>
    clear HS
    obtain ⟨c2, s2, ds, hg2, rfl, hlo, hro, hlg, hdl⟩ := hrel
    have HG2 := Lib.hid hg2
    clear hg2
    by_cases hng : c2 < 0
    · have m9 : decide (c2 < 0) = true := by rw [decide_eq_true_eq]; exact hng
      have HF := Lib.hid (show LOut W0 R M sv all B G wr u6 false from ⟨by rw [← hlg, longL_end hng], _, _, hro, fun e => (by cases e)⟩)
      clear hro hlg hdl hlo hng
      go_wp2
      first | exact hQ _ _ _ _ _ _ _ _ _ _ _ _ _ _ _ _ _ _ _ _ _ _ _ _ _ _ _ _ _ _ _ _ _ _ _ _ _ _ _ _ _ _ _ _ _ _ _ _ _ _ _ _ _ _ _ _ _ _ _ _ _ _ _ _ _ _ _ _ HF.out | exact HF.out
    have m9 : decide (c2 < 0) = false := by rw [decide_eq_false_iff_not]; exact hng
    by_cases h93 : c2 = 93
    · obtain ⟨n1, n2⟩ := b_yes h93
      subst h93
      have HMN := Lib.hid (And.intro (mu_next (c := 93) (st := s2) (by decide)) hdl)
      have HLG := Lib.hid hlg
      have HMU := Lib.hid (show mu s2.nextC s2.nextS ≤ 1099511627777 by have := mu_next (c := 93) (st := s2) (by decide); omega)
      clear hng hlg hdl hlo
      go_wp2_with (go_at_call 28; refine (next_ro hro).mono ?_; rintro e w7 ⟨rfl, hy7⟩; refine Hid.out ?_)
      refine Lib.hid ?_
      have HS := Lib.hid hy7
      clear hro hy7 n1 n2 m9
      go_wp2
      go_loopg [1, 8] (mu s2.nextC s2.nextS) (fun n chv cv wr => ∃ (c' : Int) (sp : St) (j : Nat), mu c' sp ≤ n ∧ chv = .int .i64 c' ∧ cv = .int .i64 j ∧ Ro W0 R M sv all B wr sp u6 ds ∧ (sepL s2.nextC s2.nextS).1 = j + (sepL c' sp).1 ∧ (sepL s2.nextC s2.nextS).2 = (sepL c' sp).2 ∧ j + mu c' sp ≤ mu s2.nextC s2.nextS)
      case atStart => exact ⟨s2.nextC, s2.nextS, 0, Nat.le_refl _, rfl, rfl, HS.out, by omega, rfl, by omega⟩
      case round =>
        clear HS
        obtain ⟨cc, sp, j, hg, rfl, rfl, ho, q1, q2, q3⟩ := hrel
        have HG := Lib.hid hg
        have hj0 : (j : Int) ≤ 1099511627780 := by have := HMU.out; omega
        clear hg
        by_cases h61 : cc = 61
        · obtain ⟨m1, m2⟩ := b_yes h61
          subst h61
          have HN := Lib.hid (And.intro (mu_next (c := 61) (st := sp) (by decide)) (show (sepL s2.nextC s2.nextS).1 = (j + 1) + (sepL sp.nextC sp.nextS).1 ∧ (sepL s2.nextC s2.nextS).2 = (sepL sp.nextC sp.nextS).2 ∧ (j + 1) + mu sp.nextC sp.nextS ≤ mu s2.nextC s2.nextS from by
            have h8 := mu_next (c := 61) (st := sp) (by decide)
            rw [q1, q2, sepL_yes]
            refine ⟨?_, rfl, by omega⟩
            show j + ((sepL sp.nextC sp.nextS).1 + 1) = _
            omega))
          clear q1 q2 q3 m1 m2
          go_wp2_with (go_at_call 28; refine (next_ro ho).mono ?_; rintro e w9 ⟨rfl, hy9⟩; refine Hid.out ?_)
          refine Lib.hid ?_
          have H5 := Lib.hid hy9
          clear ho hy9
          go_wp2
          go_roundg (mu sp.nextC sp.nextS)
          case measure => have h8 := HN.out.1; have h9 := HG.out; omega
          case rel => exact ⟨sp.nextC, sp.nextS, j + 1, Nat.le_refl _, rfl, by go_num, H5.out, HN.out.2.1, HN.out.2.2.1, HN.out.2.2.2⟩
        · obtain ⟨m1, m2⟩ := b_no h61
          have hse : sepL s2.nextC s2.nextS = (j, cc, sp) := by
            have h8 : (sepL s2.nextC s2.nextS).1 = j := by rw [q1, sepL_no h61]; rfl
            have h9 : (sepL s2.nextC s2.nextS).2 = (cc, sp) := by rw [q2, sepL_no h61]
            exact Prod.ext h8 h9
          have HSE := Lib.hid hse
          have HQ3 := Lib.hid q3
          clear q1 q2 q3 h61 hse HG
          by_cases hcl : j = k ∧ cc = 93
          · obtain ⟨hjk, hcc⟩ := hcl
            subst hjk
            have z1 : (cc == 93) = true := by rw [beq_iff_eq]; exact hcc
            have HF := Lib.hid (show LOut W0 R M sv all B G wr u6 true from by
              have e1 : longL j 93 s2 ds = (true, ds, sp) := by
                rw [longL_close (by rw [HSE.out]) (by rw [HSE.out]; exact hcc), HSE.out]
              rw [← HLG.out, e1]
              exact ⟨rfl, _, _, ho, fun _ => ⟨rfl, rfl⟩⟩)
            clear ho hcc
            go_wp2
            first | exact hQ _ _ _ _ _ _ _ _ _ _ _ _ _ _ _ _ _ _ _ _ _ _ _ _ _ _ _ _ _ _ _ _ _ _ _ _ _ _ _ _ _ _ _ _ _ _ _ _ _ _ _ _ _ _ _ _ _ _ _ _ _ _ _ _ _ _ _ _ HF.out | exact HF.out
          · have HNX := Lib.hid (show longL k cc sp (ds ++ 93 :: List.replicate j 61) = G ∧ -1 ≤ cc from by
              have e1 := longL_sep (k := k) (st := s2) (acc := ds) (by rw [HSE.out]; exact hcl)
              rw [HSE.out] at e1
              refine ⟨e1.symm.trans HLG.out, ?_⟩
              have := sepL_lo s2.nextC s2.nextS s2.nextC_lo
              rw [HSE.out] at this
              exact this)
            have HLM := Lib.hid (show ds.length + 1 ≤ 140737488355328 by have := HMN.out.2; omega)
            have hkj : (k : Int) = (j : Int) ∧ (cc == 93) = false ∨ ((k : Int) == (j : Int)) = false := by
              by_cases hjk : j = k
              · exact Or.inl ⟨by omega, by rw [beq_eq_false_iff_ne]; exact fun e => hcl ⟨hjk, e⟩⟩
              · exact Or.inr (by rw [beq_eq_false_iff_ne]; omega)
            clear hcl HLG
            have HMM := Lib.hid (show ds.length + 1 + j + mu cc sp ≤ 1099511627777 by have := HMN.out; have := HQ3.out; omega)
            rcases hkj with ⟨hkj, z1⟩ | z1
            · have z2 : ((k : Int) == (j : Int)) = true := by rw [beq_iff_eq]; exact hkj
              clear hkj
              go_wp2_with (at_builtin; refine wpList_app1 rfl (.tmp 50) (.tmp 51) rfl _ B _ ds _ 93 rfl rfl ho.bs (Lib.hid rfl) ho.le HLM ?_; intro v8 w8 hb9 hl9; refine Hid.out ?_)
              refine Lib.hid ?_
              have HS2 := Lib.hid (ho.wrote hb9 hl9)
              clear ho hb9 hl9
              go_wp2
              go_loopg [6, 9] j (fun n bv iv wr => ∃ i : Nat, j - i ≤ n ∧ iv = .int .i64 i ∧ i ≤ j ∧ Ro W0 R M sv all B wr sp bv (ds ++ [93] ++ List.replicate i 61))
              case atStart => exact ⟨0, by omega, rfl, by omega, by have := HS2.out; simpa using this⟩
              case round =>
                clear HS2
                obtain ⟨i, hgi, rfl, hij, hoi⟩ := hrel
                have HGI := Lib.hid hgi
                clear hgi
                have hii : (i : Int) ≤ (j : Int) := by omega
                by_cases hlt : i < j
                · have hlti : (i : Int) < (j : Int) := by omega
                  have HLI := Lib.hid (show (ds ++ [93] ++ List.replicate i 61).length + 1 ≤ 140737488355328 by have := HMM.out; simp only [List.length_append, List.length_cons, List.length_nil, List.length_replicate]; omega)
                  go_wp2_with (at_builtin; refine wpList_app1 rfl (.tmp 58) (.tmp 59) rfl _ B _ _ _ 61 rfl rfl hoi.bs (Lib.hid rfl) hoi.le HLI ?_; intro v8 w8 hb9 hl9; refine Hid.out ?_)
                  refine Lib.hid ?_
                  have H6 := Lib.hid (hoi.wrote hb9 hl9)
                  clear hoi hb9 hl9
                  go_wp2
                  go_roundg (j - (i + 1))
                  case measure => have := HGI.out; omega
                  case rel => exact ⟨i + 1, Nat.le_refl _, by go_num, by omega, by have := H6.out; rw [List.append_assoc, ← List.replicate_succ'] at this; exact this⟩
                · obtain rfl : i = j := by omega
                  have H6 := Lib.hid hoi
                  clear hoi hlt
                  go_wp2
                  go_roundg (mu cc sp)
                  case measure => have h8 := HMN.out.1; have h9 := HG2.out; have := HQ3.out; omega
                  case rel => exact ⟨cc, sp, ds ++ 93 :: List.replicate i 61, Nat.le_refl _, rfl, HNX.out.2, by have := H6.out; rw [List.append_assoc] at this; exact this, HNX.out.1, by have := HMM.out; simp only [List.length_append, List.length_cons, List.length_replicate]; omega⟩
            · skip
              go_wp2_with (at_builtin; refine wpList_app1 rfl (.tmp 50) (.tmp 51) rfl _ B _ ds _ 93 rfl rfl ho.bs (Lib.hid rfl) ho.le HLM ?_; intro v8 w8 hb9 hl9; refine Hid.out ?_)
              refine Lib.hid ?_
              have HS2 := Lib.hid (ho.wrote hb9 hl9)
              clear ho hb9 hl9
              go_wp2
              go_loopg [6, 9] j (fun n bv iv wr => ∃ i : Nat, j - i ≤ n ∧ iv = .int .i64 i ∧ i ≤ j ∧ Ro W0 R M sv all B wr sp bv (ds ++ [93] ++ List.replicate i 61))
              case atStart => exact ⟨0, by omega, rfl, by omega, by have := HS2.out; simpa using this⟩
              case round =>
                clear HS2
                obtain ⟨i, hgi, rfl, hij, hoi⟩ := hrel
                have HGI := Lib.hid hgi
                clear hgi
                have hii : (i : Int) ≤ (j : Int) := by omega
                by_cases hlt : i < j
                · have hlti : (i : Int) < (j : Int) := by omega
                  have HLI := Lib.hid (show (ds ++ [93] ++ List.replicate i 61).length + 1 ≤ 140737488355328 by have := HMM.out; simp only [List.length_append, List.length_cons, List.length_nil, List.length_replicate]; omega)
                  go_wp2_with (at_builtin; refine wpList_app1 rfl (.tmp 58) (.tmp 59) rfl _ B _ _ _ 61 rfl rfl hoi.bs (Lib.hid rfl) hoi.le HLI ?_; intro v8 w8 hb9 hl9; refine Hid.out ?_)
                  refine Lib.hid ?_
                  have H6 := Lib.hid (hoi.wrote hb9 hl9)
                  clear hoi hb9 hl9
                  go_wp2
                  go_roundg (j - (i + 1))
                  case measure => have := HGI.out; omega
                  case rel => exact ⟨i + 1, Nat.le_refl _, by go_num, by omega, by have := H6.out; rw [List.append_assoc, ← List.replicate_succ'] at this; exact this⟩
                · obtain rfl : i = j := by omega
                  have H6 := Lib.hid hoi
                  clear hoi hlt
                  go_wp2
                  go_roundg (mu cc sp)
                  case measure => have h8 := HMN.out.1; have h9 := HG2.out; have := HQ3.out; omega
                  case rel => exact ⟨cc, sp, ds ++ 93 :: List.replicate i 61, Nat.le_refl _, rfl, HNX.out.2, by have := H6.out; rw [List.append_assoc] at this; exact this, HNX.out.1, by have := HMM.out; simp only [List.length_append, List.length_cons, List.length_replicate]; omega⟩
    · obtain ⟨n1, n2⟩ := b_no h93
      have HNX := Lib.hid (And.intro (mu_next (c := c2) (st := s2) (by omega)) (And.intro ((longL_byte (k := k) (c := c2) (st := s2) (acc := ds) (by omega) h93).symm.trans hlg) (And.intro s2.nextC_lo hdl)))
      have HX := Lib.hid (show c2 % 256 = ((by8 c2).toNat : Int) from (by8_toNat c2).symm)
      have HLM := Lib.hid (show ds.length + 1 ≤ 140737488355328 by omega)
      clear hng hlg hdl hlo h93
      go_wp2_with (at_builtin; refine wpList_app1 rfl (.tmp 61) (.tmp 64) rfl _ B _ ds _ (by8 c2) rfl rfl hro.bs HX hro.le HLM ?_; intro v8 w8 hb9 hl9; refine Hid.out ?_)
      refine Lib.hid ?_
      have hy := hro.wrote hb9 hl9
      clear hro hb9 hl9
      go_wp2_with (go_at_call 28; refine (next_ro hy).mono ?_; rintro e w9 ⟨rfl, hz9⟩; refine Hid.out ?_)
      refine Lib.hid ?_
      have H6 := Lib.hid hz9
      clear hy hz9
      go_wp2
      go_roundg (mu s2.nextC s2.nextS)
      case measure => have h8 := HNX.out.1; have h9 := HG2.out; omega
      case rel => exact ⟨s2.nextC, s2.nextS, ds ++ [by8 c2], Nat.le_refl _, rfl, HNX.out.2.2.1, H6.out, HNX.out.2.1, by have h8 := HNX.out.1; have h9 := HNX.out.2.2.2; rw [List.length_append]; simp only [List.length_cons, List.length_nil]; omega⟩
end Go.Proofs.YtgiklkapedlckaaGreatDoor

namespace Go.Proofs.YtgiklkapedlckaaGreatDoor
open Go.RowKit

set_option maxRecDepth 1000000 in
set_option maxHeartbeats 16000000 in
theorem lg_0 {R : Nat} {w : World} {c : Int} {Q : Exit → Act → World → Prop} (hQ : ∀ (u2 u3 u4 u5 u6 u7 u8 u9 u10 u11 u12 u13 u14 u15 u16 u17 u18 u19 u20 u21 u22 u23 u24 u25 u26 u27 u28 u29 u30 u31 u32 u33 u34 u35 u36 u37 u38 u39 u40 u41 u42 u43 u44 u45 u46 u47 u48 u49 u50 u51 u52 u53 u54 u55 u56 u57 u58 u59 u60 u61 u62 u63 u64 u65 u66 u67 : Value), True → Q .normal ⟨(Value.pointer (some ⟨R, 0, none⟩) :: Value.int .i64 c :: u2 :: u3 :: u4 :: u5 :: u6 :: u7 :: u8 :: u9 :: u10 :: u11 :: u12 :: u13 :: u14 :: u15 :: u16 :: u17 :: u18 :: u19 :: u20 :: u21 :: u22 :: u23 :: u24 :: u25 :: u26 :: u27 :: u28 :: u29 :: u30 :: u31 :: u32 :: u33 :: u34 :: u35 :: u36 :: u37 :: u38 :: u39 :: u40 :: u41 :: u42 :: u43 :: u44 :: u45 :: u46 :: u47 :: u48 :: u49 :: u50 :: u51 :: u52 :: u53 :: u54 :: u55 :: u56 :: u57 :: u58 :: u59 :: u60 :: u61 :: u62 :: u63 :: u64 :: u65 :: u66 :: u67 :: []).toArray, []⟩ w) (u2 u3 u4 u5 u6 u7 u8 u9 u10 u11 u12 u13 u14 u15 u16 u17 u18 u19 u20 u21 u22 u23 u24 u25 u26 u27 u28 u29 u30 u31 u32 u33 u34 u35 u36 u37 u38 u39 u40 u41 u42 u43 u44 u45 u46 u47 u48 u49 u50 u51 u52 u53 u54 u55 u56 u57 u58 u59 u60 u61 u62 u63 u64 u65 u66 u67 : Value) : Code.wp Tryz.prog (rFst lgB) Q ⟨#[Value.pointer (some ⟨R, 0, none⟩), Value.int .i64 c, u2, u3, u4, u5, u6, u7, u8, u9, u10, u11, u12, u13, u14, u15, u16, u17, u18, u19, u20, u21, u22, u23, u24, u25, u26, u27, u28, u29, u30, u31, u32, u33, u34, u35, u36, u37, u38, u39, u40, u41, u42, u43, u44, u45, u46, u47, u48, u49, u50, u51, u52, u53, u54, u55, u56, u57, u58, u59, u60, u61, u62, u63, u64, u65, u66, u67], []⟩ w := by
  conv => arg 2; whnf
  go_wp2
  first | exact hQ _ _ _ _ _ _ _ _ _ _ _ _ _ _ _ _ _ _ _ _ _ _ _ _ _ _ _ _ _ _ _ _ _ _ _ _ _ _ _ _ _ _ _ _ _ _ _ _ _ _ _ _ _ _ _ _ _ _ _ _ _ _ _ _ _ _ trivial | trivial
set_option maxRecDepth 1000000 in
set_option maxHeartbeats 16000000 in
theorem lg_1 {R : Nat} {w : World} {c : Int} {Q : Exit → Act → World → Prop} (hQ : ∀ (u2 u3 u4 u5 u7 u8 u9 u10 u11 u12 u13 u14 u15 u16 u17 u18 u19 u20 u21 u22 u23 u24 u25 u26 u27 u28 u29 u30 u31 u32 u33 u34 u35 u36 u37 u38 u39 u40 u41 u42 u43 u44 u45 u46 u47 u48 u49 u50 u51 u52 u53 u54 u55 u56 u57 u58 u59 u60 u61 u62 u63 u64 u65 u66 u67 : Value), True → Q .normal ⟨(Value.pointer (some ⟨R, 0, none⟩) :: Value.int .i64 c :: u2 :: u3 :: u4 :: u5 :: Value.slice none 0 0 :: u7 :: u8 :: u9 :: u10 :: u11 :: u12 :: u13 :: u14 :: u15 :: u16 :: u17 :: u18 :: u19 :: u20 :: u21 :: u22 :: u23 :: u24 :: u25 :: u26 :: u27 :: u28 :: u29 :: u30 :: u31 :: u32 :: u33 :: u34 :: u35 :: u36 :: u37 :: u38 :: u39 :: u40 :: u41 :: u42 :: u43 :: u44 :: u45 :: u46 :: u47 :: u48 :: u49 :: u50 :: u51 :: u52 :: u53 :: u54 :: u55 :: u56 :: u57 :: u58 :: u59 :: u60 :: u61 :: u62 :: u63 :: u64 :: u65 :: u66 :: u67 :: []).toArray, []⟩ w) (u2 u3 u4 u5 u6 u7 u8 u9 u10 u11 u12 u13 u14 u15 u16 u17 u18 u19 u20 u21 u22 u23 u24 u25 u26 u27 u28 u29 u30 u31 u32 u33 u34 u35 u36 u37 u38 u39 u40 u41 u42 u43 u44 u45 u46 u47 u48 u49 u50 u51 u52 u53 u54 u55 u56 u57 u58 u59 u60 u61 u62 u63 u64 u65 u66 u67 : Value) : Code.wp Tryz.prog (rFst (rSnd lgB)) Q ⟨#[Value.pointer (some ⟨R, 0, none⟩), Value.int .i64 c, u2, u3, u4, u5, u6, u7, u8, u9, u10, u11, u12, u13, u14, u15, u16, u17, u18, u19, u20, u21, u22, u23, u24, u25, u26, u27, u28, u29, u30, u31, u32, u33, u34, u35, u36, u37, u38, u39, u40, u41, u42, u43, u44, u45, u46, u47, u48, u49, u50, u51, u52, u53, u54, u55, u56, u57, u58, u59, u60, u61, u62, u63, u64, u65, u66, u67], []⟩ w := by
  conv => arg 2; whnf
  go_wp2
  first | exact hQ _ _ _ _ _ _ _ _ _ _ _ _ _ _ _ _ _ _ _ _ _ _ _ _ _ _ _ _ _ _ _ _ _ _ _ _ _ _ _ _ _ _ _ _ _ _ _ _ _ _ _ _ _ _ _ _ _ _ _ _ _ _ _ _ _ trivial | trivial
set_option maxRecDepth 1000000 in
set_option maxHeartbeats 16000000 in
theorem lg_2 {R : Nat} {w : World} {c : Int} {Q : Exit → Act → World → Prop} (hQ : ∀ (u2 u3 u4 u5 u8 u9 u10 u11 u12 u13 u14 u15 u16 u17 u18 u19 u20 u21 u22 u23 u24 u25 u26 u27 u28 u29 u30 u31 u32 u33 u34 u35 u36 u37 u38 u39 u40 u41 u42 u43 u44 u45 u46 u47 u48 u49 u50 u51 u52 u53 u54 u55 u56 u57 u58 u59 u60 u61 u62 u63 u64 u65 u66 u67 : Value), True → Q .normal ⟨(Value.pointer (some ⟨R, 0, none⟩) :: Value.int .i64 c :: u2 :: u3 :: u4 :: u5 :: Value.slice none 0 0 :: Value.int .i64 0 :: u8 :: u9 :: u10 :: u11 :: u12 :: u13 :: u14 :: u15 :: u16 :: u17 :: u18 :: u19 :: u20 :: u21 :: u22 :: u23 :: u24 :: u25 :: u26 :: u27 :: u28 :: u29 :: u30 :: u31 :: u32 :: u33 :: u34 :: u35 :: u36 :: u37 :: u38 :: u39 :: u40 :: u41 :: u42 :: u43 :: u44 :: u45 :: u46 :: u47 :: u48 :: u49 :: u50 :: u51 :: u52 :: u53 :: u54 :: u55 :: u56 :: u57 :: u58 :: u59 :: u60 :: u61 :: u62 :: u63 :: u64 :: u65 :: u66 :: u67 :: []).toArray, []⟩ w) (u2 u3 u4 u5 u7 u8 u9 u10 u11 u12 u13 u14 u15 u16 u17 u18 u19 u20 u21 u22 u23 u24 u25 u26 u27 u28 u29 u30 u31 u32 u33 u34 u35 u36 u37 u38 u39 u40 u41 u42 u43 u44 u45 u46 u47 u48 u49 u50 u51 u52 u53 u54 u55 u56 u57 u58 u59 u60 u61 u62 u63 u64 u65 u66 u67 : Value) : Code.wp Tryz.prog (rFst (rSnd (rSnd lgB))) Q ⟨#[Value.pointer (some ⟨R, 0, none⟩), Value.int .i64 c, u2, u3, u4, u5, Value.slice none 0 0, u7, u8, u9, u10, u11, u12, u13, u14, u15, u16, u17, u18, u19, u20, u21, u22, u23, u24, u25, u26, u27, u28, u29, u30, u31, u32, u33, u34, u35, u36, u37, u38, u39, u40, u41, u42, u43, u44, u45, u46, u47, u48, u49, u50, u51, u52, u53, u54, u55, u56, u57, u58, u59, u60, u61, u62, u63, u64, u65, u66, u67], []⟩ w := by
  conv => arg 2; whnf
  go_wp2
  first | exact hQ _ _ _ _ _ _ _ _ _ _ _ _ _ _ _ _ _ _ _ _ _ _ _ _ _ _ _ _ _ _ _ _ _ _ _ _ _ _ _ _ _ _ _ _ _ _ _ _ _ _ _ _ _ _ _ _ _ _ _ _ _ _ _ _ trivial | trivial
set_option maxRecDepth 1000000 in
set_option maxHeartbeats 16000000 in
theorem lg_6y {R : Nat} {v : Value} {w : World} {k : Int} {Q : Exit → Act → World → Prop} (hQ : ∀ (u2 u3 u4 u5 u8 u9 u10 u11 u12 u13 u14 u15 u16 u17 u18 u19 u20 u21 u22 u23 u24 u25 u26 u27 u28 u29 u30 u31 u32 u33 u34 u35 u36 u37 u38 u39 u40 u41 u42 u43 u44 u45 u46 u47 u48 u49 u50 u51 u52 u53 u54 u55 u56 u57 u58 u59 u60 u61 u62 u63 u64 u65 u66 u67 : Value), True → Q .normal ⟨(Value.pointer (some ⟨R, 0, none⟩) :: Value.int .i64 91 :: u2 :: u3 :: u4 :: u5 :: v :: Value.int .i64 k :: u8 :: u9 :: u10 :: u11 :: u12 :: u13 :: u14 :: u15 :: u16 :: u17 :: u18 :: u19 :: u20 :: u21 :: u22 :: u23 :: u24 :: u25 :: u26 :: u27 :: u28 :: u29 :: u30 :: u31 :: u32 :: u33 :: u34 :: u35 :: u36 :: u37 :: u38 :: u39 :: u40 :: u41 :: u42 :: u43 :: u44 :: u45 :: u46 :: u47 :: u48 :: u49 :: u50 :: u51 :: u52 :: u53 :: u54 :: u55 :: u56 :: u57 :: u58 :: u59 :: u60 :: u61 :: u62 :: u63 :: u64 :: u65 :: u66 :: u67 :: []).toArray, []⟩ w) (u2 u3 u4 u5 u8 u9 u10 u11 u12 u13 u14 u15 u16 u17 u18 u19 u20 u21 u22 u23 u24 u25 u26 u27 u28 u29 u30 u31 u32 u33 u34 u35 u36 u37 u38 u39 u40 u41 u42 u43 u44 u45 u46 u47 u48 u49 u50 u51 u52 u53 u54 u55 u56 u57 u58 u59 u60 u61 u62 u63 u64 u65 u66 u67 : Value) : Code.wp Tryz.prog (rFst lg6) Q ⟨#[Value.pointer (some ⟨R, 0, none⟩), Value.int .i64 91, u2, u3, u4, u5, v, Value.int .i64 k, u8, u9, u10, u11, u12, u13, u14, u15, u16, u17, u18, u19, u20, u21, u22, u23, u24, u25, u26, u27, u28, u29, u30, u31, u32, u33, u34, u35, u36, u37, u38, u39, u40, u41, u42, u43, u44, u45, u46, u47, u48, u49, u50, u51, u52, u53, u54, u55, u56, u57, u58, u59, u60, u61, u62, u63, u64, u65, u66, u67], []⟩ w := by
  conv => arg 2; whnf
  go_wp2
  first | exact hQ _ _ _ _ _ _ _ _ _ _ _ _ _ _ _ _ _ _ _ _ _ _ _ _ _ _ _ _ _ _ _ _ _ _ _ _ _ _ _ _ _ _ _ _ _ _ _ _ _ _ _ _ _ _ _ _ _ _ _ _ _ _ _ _ trivial | trivial
set_option maxRecDepth 1000000 in
set_option maxHeartbeats 16000000 in
theorem lg_6n {R : Nat} {v : Value} {w : World} {c k : Int} {Q : Exit → Act → World → Prop} (h : (c != 91) = true) (hQ : ∀ (v' : Value) (ok : Bool) (u1 u2 u3 u6 u7 u8 u9 u10 u11 u12 u13 u14 u15 u16 u17 u18 u19 u20 u21 u22 u23 u24 u25 u26 u27 u28 u29 u30 u31 u32 u33 u34 u35 u36 u37 u38 u39 u40 u41 u42 u43 u44 u45 u46 u47 u48 u49 u50 u51 u52 u53 u54 u55 u56 u57 u58 u59 u60 u61 u62 u63 u64 u65 u66 u67 : Value), (v' = v ∧ ok = false) → Q .ret ⟨(Value.pointer (some ⟨R, 0, none⟩) :: u1 :: u2 :: u3 :: v' :: Value.bool ok :: u6 :: u7 :: u8 :: u9 :: u10 :: u11 :: u12 :: u13 :: u14 :: u15 :: u16 :: u17 :: u18 :: u19 :: u20 :: u21 :: u22 :: u23 :: u24 :: u25 :: u26 :: u27 :: u28 :: u29 :: u30 :: u31 :: u32 :: u33 :: u34 :: u35 :: u36 :: u37 :: u38 :: u39 :: u40 :: u41 :: u42 :: u43 :: u44 :: u45 :: u46 :: u47 :: u48 :: u49 :: u50 :: u51 :: u52 :: u53 :: u54 :: u55 :: u56 :: u57 :: u58 :: u59 :: u60 :: u61 :: u62 :: u63 :: u64 :: u65 :: u66 :: u67 :: []).toArray, []⟩ w) (u2 u3 u4 u5 u8 u9 u10 u11 u12 u13 u14 u15 u16 u17 u18 u19 u20 u21 u22 u23 u24 u25 u26 u27 u28 u29 u30 u31 u32 u33 u34 u35 u36 u37 u38 u39 u40 u41 u42 u43 u44 u45 u46 u47 u48 u49 u50 u51 u52 u53 u54 u55 u56 u57 u58 u59 u60 u61 u62 u63 u64 u65 u66 u67 : Value) : Code.wp Tryz.prog (rFst lg6) Q ⟨#[Value.pointer (some ⟨R, 0, none⟩), Value.int .i64 c, u2, u3, u4, u5, v, Value.int .i64 k, u8, u9, u10, u11, u12, u13, u14, u15, u16, u17, u18, u19, u20, u21, u22, u23, u24, u25, u26, u27, u28, u29, u30, u31, u32, u33, u34, u35, u36, u37, u38, u39, u40, u41, u42, u43, u44, u45, u46, u47, u48, u49, u50, u51, u52, u53, u54, u55, u56, u57, u58, u59, u60, u61, u62, u63, u64, u65, u66, u67], []⟩ w := by
  conv => arg 2; whnf
  go_wp2
  try (first | exact hQ _ _ _ _ _ _ _ _ _ _ _ _ _ _ _ _ _ _ _ _ _ _ _ _ _ _ _ _ _ _ _ _ _ _ _ _ _ _ _ _ _ _ _ _ _ _ _ _ _ _ _ _ _ _ _ _ _ _ _ _ _ _ _ _ _ _ _ ⟨rfl, rfl⟩ | exact ⟨rfl, rfl⟩ | trivial)
set_option maxRecDepth 1000000 in
set_option maxHeartbeats 16000000 in
theorem lg_8 {W0 w : World} {R M : Nat} {sv : Value} {all : List UInt8} {B : Nat} {st : St} {v : Value} {l : List UInt8} {Q : Exit → Act → World → Prop} {c k : Int} (h : Ro W0 R M sv all B w st v l) (hQ : ∀ (w' : World) (u2 u3 u4 u5 u8 u9 u10 u11 u12 u13 u14 u15 u16 u17 u18 u19 u20 u21 u22 u23 u24 u25 u26 u27 u28 u29 u30 u31 u32 u33 u34 u35 u36 u37 u38 u39 u40 u41 u42 u43 u44 u45 u46 u47 u48 u49 u50 u51 u52 u53 u54 u55 u56 u57 u58 u59 u60 u61 u62 u63 u64 u65 u66 u67 : Value), Ro W0 R M sv all B w' st.nextS v l → Q .normal ⟨(Value.pointer (some ⟨R, 0, none⟩) :: Value.int .i64 st.nextC :: u2 :: u3 :: u4 :: u5 :: v :: Value.int .i64 k :: u8 :: u9 :: u10 :: u11 :: u12 :: u13 :: u14 :: u15 :: u16 :: u17 :: u18 :: u19 :: u20 :: u21 :: u22 :: u23 :: u24 :: u25 :: u26 :: u27 :: u28 :: u29 :: u30 :: u31 :: u32 :: u33 :: u34 :: u35 :: u36 :: u37 :: u38 :: u39 :: u40 :: u41 :: u42 :: u43 :: u44 :: u45 :: u46 :: u47 :: u48 :: u49 :: u50 :: u51 :: u52 :: u53 :: u54 :: u55 :: u56 :: u57 :: u58 :: u59 :: u60 :: u61 :: u62 :: u63 :: u64 :: u65 :: u66 :: u67 :: []).toArray, []⟩ w') (u2 u3 u4 u5 u8 u9 u10 u11 u12 u13 u14 u15 u16 u17 u18 u19 u20 u21 u22 u23 u24 u25 u26 u27 u28 u29 u30 u31 u32 u33 u34 u35 u36 u37 u38 u39 u40 u41 u42 u43 u44 u45 u46 u47 u48 u49 u50 u51 u52 u53 u54 u55 u56 u57 u58 u59 u60 u61 u62 u63 u64 u65 u66 u67 : Value) : Code.wp Tryz.prog (rFst (rSnd lg6)) Q ⟨#[Value.pointer (some ⟨R, 0, none⟩), Value.int .i64 c, u2, u3, u4, u5, v, Value.int .i64 k, u8, u9, u10, u11, u12, u13, u14, u15, u16, u17, u18, u19, u20, u21, u22, u23, u24, u25, u26, u27, u28, u29, u30, u31, u32, u33, u34, u35, u36, u37, u38, u39, u40, u41, u42, u43, u44, u45, u46, u47, u48, u49, u50, u51, u52, u53, u54, u55, u56, u57, u58, u59, u60, u61, u62, u63, u64, u65, u66, u67], []⟩ w := by
  conv => arg 2; whnf
  go_wp2_with (go_at_call 28; refine (next_ro h).mono ?_; rintro e w1 ⟨rfl, h1⟩; refine Hid.out ?_)
  refine Lib.hid ?_
  have HE := Lib.hid h1
  clear h h1
  go_wp2
  first | exact hQ _ _ _ _ _ _ _ _ _ _ _ _ _ _ _ _ _ _ _ _ _ _ _ _ _ _ _ _ _ _ _ _ _ _ _ _ _ _ _ _ _ _ _ _ _ _ _ _ _ _ _ _ _ _ _ _ _ _ _ _ _ _ _ _ _ HE.out | exact HE.out
set_option maxRecDepth 1000000 in
set_option maxHeartbeats 16000000 in
theorem lg_9y {W0 w : World} {R M : Nat} {sv : Value} {all : List UInt8} {B : Nat} {st : St} {v : Value} {l : List UInt8} {Q : Exit → Act → World → Prop} {k : Int} (h : Ro W0 R M sv all B w st v l) (hQ : ∀ (w' : World) (u2 u3 u4 u5 u8 u9 u10 u11 u12 u13 u14 u15 u16 u17 u18 u19 u20 u21 u22 u23 u24 u25 u26 u27 u28 u29 u30 u31 u32 u33 u34 u35 u36 u37 u38 u39 u40 u41 u42 u43 u44 u45 u46 u47 u48 u49 u50 u51 u52 u53 u54 u55 u56 u57 u58 u59 u60 u61 u62 u63 u64 u65 u66 u67 : Value), Ro W0 R M sv all B w' st.nextS v l → Q .normal ⟨(Value.pointer (some ⟨R, 0, none⟩) :: Value.int .i64 st.nextC :: u2 :: u3 :: u4 :: u5 :: v :: Value.int .i64 k :: u8 :: u9 :: u10 :: u11 :: u12 :: u13 :: u14 :: u15 :: u16 :: u17 :: u18 :: u19 :: u20 :: u21 :: u22 :: u23 :: u24 :: u25 :: u26 :: u27 :: u28 :: u29 :: u30 :: u31 :: u32 :: u33 :: u34 :: u35 :: u36 :: u37 :: u38 :: u39 :: u40 :: u41 :: u42 :: u43 :: u44 :: u45 :: u46 :: u47 :: u48 :: u49 :: u50 :: u51 :: u52 :: u53 :: u54 :: u55 :: u56 :: u57 :: u58 :: u59 :: u60 :: u61 :: u62 :: u63 :: u64 :: u65 :: u66 :: u67 :: []).toArray, []⟩ w') (u2 u3 u4 u5 u8 u9 u10 u11 u12 u13 u14 u15 u16 u17 u18 u19 u20 u21 u22 u23 u24 u25 u26 u27 u28 u29 u30 u31 u32 u33 u34 u35 u36 u37 u38 u39 u40 u41 u42 u43 u44 u45 u46 u47 u48 u49 u50 u51 u52 u53 u54 u55 u56 u57 u58 u59 u60 u61 u62 u63 u64 u65 u66 u67 : Value) : Code.wp Tryz.prog (rFst (rSnd (rSnd lg6))) Q ⟨#[Value.pointer (some ⟨R, 0, none⟩), Value.int .i64 10, u2, u3, u4, u5, v, Value.int .i64 k, u8, u9, u10, u11, u12, u13, u14, u15, u16, u17, u18, u19, u20, u21, u22, u23, u24, u25, u26, u27, u28, u29, u30, u31, u32, u33, u34, u35, u36, u37, u38, u39, u40, u41, u42, u43, u44, u45, u46, u47, u48, u49, u50, u51, u52, u53, u54, u55, u56, u57, u58, u59, u60, u61, u62, u63, u64, u65, u66, u67], []⟩ w := by
  conv => arg 2; whnf
  go_wp2_with (go_at_call 28; refine (next_ro h).mono ?_; rintro e w1 ⟨rfl, h1⟩; refine Hid.out ?_)
  refine Lib.hid ?_
  have HE := Lib.hid h1
  clear h h1
  go_wp2
  first | exact hQ _ _ _ _ _ _ _ _ _ _ _ _ _ _ _ _ _ _ _ _ _ _ _ _ _ _ _ _ _ _ _ _ _ _ _ _ _ _ _ _ _ _ _ _ _ _ _ _ _ _ _ _ _ _ _ _ _ _ _ _ _ _ _ _ _ HE.out | exact HE.out
set_option maxRecDepth 1000000 in
set_option maxHeartbeats 16000000 in
theorem lg_9n {R : Nat} {v : Value} {w : World} {c k : Int} {Q : Exit → Act → World → Prop} (h : (c == 10) = false) (h2 : (c == 13) = false) (hQ : ∀ (u2 u3 u4 u5 u8 u9 u10 u11 u12 u13 u14 u15 u16 u17 u18 u19 u20 u21 u22 u23 u24 u25 u26 u27 u28 u29 u30 u31 u32 u33 u34 u35 u36 u37 u38 u39 u40 u41 u42 u43 u44 u45 u46 u47 u48 u49 u50 u51 u52 u53 u54 u55 u56 u57 u58 u59 u60 u61 u62 u63 u64 u65 u66 u67 : Value), True → Q .normal ⟨(Value.pointer (some ⟨R, 0, none⟩) :: Value.int .i64 c :: u2 :: u3 :: u4 :: u5 :: v :: Value.int .i64 k :: u8 :: u9 :: u10 :: u11 :: u12 :: u13 :: u14 :: u15 :: u16 :: u17 :: u18 :: u19 :: u20 :: u21 :: u22 :: u23 :: u24 :: u25 :: u26 :: u27 :: u28 :: u29 :: u30 :: u31 :: u32 :: u33 :: u34 :: u35 :: u36 :: u37 :: u38 :: u39 :: u40 :: u41 :: u42 :: u43 :: u44 :: u45 :: u46 :: u47 :: u48 :: u49 :: u50 :: u51 :: u52 :: u53 :: u54 :: u55 :: u56 :: u57 :: u58 :: u59 :: u60 :: u61 :: u62 :: u63 :: u64 :: u65 :: u66 :: u67 :: []).toArray, []⟩ w) (u2 u3 u4 u5 u8 u9 u10 u11 u12 u13 u14 u15 u16 u17 u18 u19 u20 u21 u22 u23 u24 u25 u26 u27 u28 u29 u30 u31 u32 u33 u34 u35 u36 u37 u38 u39 u40 u41 u42 u43 u44 u45 u46 u47 u48 u49 u50 u51 u52 u53 u54 u55 u56 u57 u58 u59 u60 u61 u62 u63 u64 u65 u66 u67 : Value) : Code.wp Tryz.prog (rFst (rSnd (rSnd lg6))) Q ⟨#[Value.pointer (some ⟨R, 0, none⟩), Value.int .i64 c, u2, u3, u4, u5, v, Value.int .i64 k, u8, u9, u10, u11, u12, u13, u14, u15, u16, u17, u18, u19, u20, u21, u22, u23, u24, u25, u26, u27, u28, u29, u30, u31, u32, u33, u34, u35, u36, u37, u38, u39, u40, u41, u42, u43, u44, u45, u46, u47, u48, u49, u50, u51, u52, u53, u54, u55, u56, u57, u58, u59, u60, u61, u62, u63, u64, u65, u66, u67], []⟩ w := by
  conv => arg 2; whnf
  go_wp2
  first | exact hQ _ _ _ _ _ _ _ _ _ _ _ _ _ _ _ _ _ _ _ _ _ _ _ _ _ _ _ _ _ _ _ _ _ _ _ _ _ _ _ _ _ _ _ _ _ _ _ _ _ _ _ _ _ _ _ _ _ _ _ _ _ _ _ _ trivial | trivial
set_option maxRecDepth 100000 in
set_option maxHeartbeats 12800000 in
theorem rlong (w : World) (R M : Nat) (sv : Value) (all : List UInt8) (st : St) (c : Int) (hc : -1 ≤ c) (h : Rf w R M sv all st) :
    Calls Tryz.prog 34 #[.pointer (some ⟨R, 0, none⟩), .int .i64 c] w fun e w' => ∃ v', e = .returned (.tuple #[v', .bool (long c st).1]) ∧ LOut w R M sv all w.heap.size (long c st) w' v' (long c st).1 := by
  have h0 : Ro w R M sv all w.heap.size w st (.slice none 0 0) [] := Ro.start h (Bs.nil _ _) (Below.refl _ _)
  have HH := Lib.hid (And.intro h0 hc)
  clear h h0 hc
  go_enter Tryz.func34, Tryz.ntmps34
  obtain ⟨h0, hc⟩ := HH.out
  clear HH
  change Code.wp Tryz.prog (.seq (rFst lgB) (.seq (rFst (rSnd lgB)) (.seq (rFst (rSnd (rSnd lgB))) (.seq (rFst lg3) (.seq (rFst lg6) (.seq (rFst (rSnd lg6)) (.seq (rFst (rSnd (rSnd lg6))) lgL))))))) _ _ _
  refine wp_seq (lg_0 (fun u2 u3 u4 u5 u6 u7 u8 u9 u10 u11 u12 u13 u14 u15 u16 u17 u18 u19 u20 u21 u22 u23 u24 u25 u26 u27 u28 u29 u30 u31 u32 u33 u34 u35 u36 u37 u38 u39 u40 u41 u42 u43 u44 u45 u46 u47 u48 u49 u50 u51 u52 u53 u54 u55 u56 u57 u58 u59 u60 u61 u62 u63 u64 u65 u66 u67 _ => ?_) _ _ _ _ _ _ _ _ _ _ _ _ _ _ _ _ _ _ _ _ _ _ _ _ _ _ _ _ _ _ _ _ _ _ _ _ _ _ _ _ _ _ _ _ _ _ _ _ _ _ _ _ _ _ _ _ _ _ _ _ _ _ _ _ _ _)
  show Code.wp Tryz.prog (.seq (rFst (rSnd lgB)) (.seq (rFst (rSnd (rSnd lgB))) (.seq (rFst lg3) (.seq (rFst lg6) (.seq (rFst (rSnd lg6)) (.seq (rFst (rSnd (rSnd lg6))) lgL)))))) _ _ _
  refine wp_seq (lg_1 (fun u2 u3 u4 u5 u7 u8 u9 u10 u11 u12 u13 u14 u15 u16 u17 u18 u19 u20 u21 u22 u23 u24 u25 u26 u27 u28 u29 u30 u31 u32 u33 u34 u35 u36 u37 u38 u39 u40 u41 u42 u43 u44 u45 u46 u47 u48 u49 u50 u51 u52 u53 u54 u55 u56 u57 u58 u59 u60 u61 u62 u63 u64 u65 u66 u67 _ => ?_) u2 u3 u4 u5 u6 u7 u8 u9 u10 u11 u12 u13 u14 u15 u16 u17 u18 u19 u20 u21 u22 u23 u24 u25 u26 u27 u28 u29 u30 u31 u32 u33 u34 u35 u36 u37 u38 u39 u40 u41 u42 u43 u44 u45 u46 u47 u48 u49 u50 u51 u52 u53 u54 u55 u56 u57 u58 u59 u60 u61 u62 u63 u64 u65 u66 u67)
  show Code.wp Tryz.prog (.seq (rFst (rSnd (rSnd lgB))) (.seq (rFst lg3) (.seq (rFst lg6) (.seq (rFst (rSnd lg6)) (.seq (rFst (rSnd (rSnd lg6))) lgL))))) _ _ _
  refine wp_seq (lg_2 (fun u2 u3 u4 u5 u8 u9 u10 u11 u12 u13 u14 u15 u16 u17 u18 u19 u20 u21 u22 u23 u24 u25 u26 u27 u28 u29 u30 u31 u32 u33 u34 u35 u36 u37 u38 u39 u40 u41 u42 u43 u44 u45 u46 u47 u48 u49 u50 u51 u52 u53 u54 u55 u56 u57 u58 u59 u60 u61 u62 u63 u64 u65 u66 u67 _ => ?_) u2 u3 u4 u5 u7 u8 u9 u10 u11 u12 u13 u14 u15 u16 u17 u18 u19 u20 u21 u22 u23 u24 u25 u26 u27 u28 u29 u30 u31 u32 u33 u34 u35 u36 u37 u38 u39 u40 u41 u42 u43 u44 u45 u46 u47 u48 u49 u50 u51 u52 u53 u54 u55 u56 u57 u58 u59 u60 u61 u62 u63 u64 u65 u66 u67)
  show Code.wp Tryz.prog (.seq (rFst lg3) (.seq (rFst lg6) (.seq (rFst (rSnd lg6)) (.seq (rFst (rSnd (rSnd lg6))) lgL)))) _ _ _
  obtain ⟨E, hE⟩ : ∃ E, sepL c st = E := ⟨_, rfl⟩
  have hlo := sepL_lo c st hc
  have hmu := sepL_mu c st
  have hmc := mu_le c st
  have hlm := h0.lim
  rw [hE] at hlo hmu
  refine wp_seq (lg_a h0 hE (fun w1 u2 u3 u4 u5 u8 u9 u10 u11 u12 u13 u14 u15 u16 u17 u18 u19 u20 u21 u22 u23 u24 u25 u26 u27 u28 u29 u30 u31 u32 u33 u34 u35 u36 u37 u38 u39 u40 u41 u42 u43 u44 u45 u46 u47 u48 u49 u50 u51 u52 u53 u54 u55 u56 u57 u58 u59 u60 u61 u62 u63 u64 u65 u66 u67 h1 => ?_) u2 u3 u4 u5 u8 u9 u10 u11 u12 u13 u14 u15 u16 u17 u18 u19 u20 u21 u22 u23 u24 u25 u26 u27 u28 u29 u30 u31 u32 u33 u34 u35 u36 u37 u38 u39 u40 u41 u42 u43 u44 u45 u46 u47 u48 u49 u50 u51 u52 u53 u54 u55 u56 u57 u58 u59 u60 u61 u62 u63 u64 u65 u66 u67)
  show Code.wp Tryz.prog (.seq (rFst lg6) (.seq (rFst (rSnd lg6)) (.seq (rFst (rSnd (rSnd lg6))) lgL))) _ _ _
  obtain ⟨k, e1, s1⟩ := E
  simp only at hlo hmu h1 ⊢
  by_cases h91 : e1 = 91
  · subst h91
    have hL : long c st = longL k (longB s1).1 (longB s1).2 [] := by unfold long; rw [hE, if_pos rfl]
    rw [hL]
    refine wp_seq (lg_6y (fun u2 u3 u4 u5 u8 u9 u10 u11 u12 u13 u14 u15 u16 u17 u18 u19 u20 u21 u22 u23 u24 u25 u26 u27 u28 u29 u30 u31 u32 u33 u34 u35 u36 u37 u38 u39 u40 u41 u42 u43 u44 u45 u46 u47 u48 u49 u50 u51 u52 u53 u54 u55 u56 u57 u58 u59 u60 u61 u62 u63 u64 u65 u66 u67 _ => ?_) u2 u3 u4 u5 u8 u9 u10 u11 u12 u13 u14 u15 u16 u17 u18 u19 u20 u21 u22 u23 u24 u25 u26 u27 u28 u29 u30 u31 u32 u33 u34 u35 u36 u37 u38 u39 u40 u41 u42 u43 u44 u45 u46 u47 u48 u49 u50 u51 u52 u53 u54 u55 u56 u57 u58 u59 u60 u61 u62 u63 u64 u65 u66 u67)
    show Code.wp Tryz.prog (.seq (rFst (rSnd lg6)) (.seq (rFst (rSnd (rSnd lg6))) lgL)) _ _ _
    refine wp_seq (lg_8 h1 (fun w2 u2 u3 u4 u5 u8 u9 u10 u11 u12 u13 u14 u15 u16 u17 u18 u19 u20 u21 u22 u23 u24 u25 u26 u27 u28 u29 u30 u31 u32 u33 u34 u35 u36 u37 u38 u39 u40 u41 u42 u43 u44 u45 u46 u47 u48 u49 u50 u51 u52 u53 u54 u55 u56 u57 u58 u59 u60 u61 u62 u63 u64 u65 u66 u67 h2 => ?_) u2 u3 u4 u5 u8 u9 u10 u11 u12 u13 u14 u15 u16 u17 u18 u19 u20 u21 u22 u23 u24 u25 u26 u27 u28 u29 u30 u31 u32 u33 u34 u35 u36 u37 u38 u39 u40 u41 u42 u43 u44 u45 u46 u47 u48 u49 u50 u51 u52 u53 u54 u55 u56 u57 u58 u59 u60 u61 u62 u63 u64 u65 u66 u67)
    show Code.wp Tryz.prog (.seq (rFst (rSnd (rSnd lg6))) lgL) _ _ _
    have fin : ∀ (w3 : World) (c3 : Int) (s3 : St), longB s1 = (c3, s3) → -1 ≤ c3 → Ro w R M sv all w.heap.size w3 s3 (.slice none 0 0) [] → ∀ (u2 u3 u4 u5 u8 u9 u10 u11 u12 u13 u14 u15 u16 u17 u18 u19 u20 u21 u22 u23 u24 u25 u26 u27 u28 u29 u30 u31 u32 u33 u34 u35 u36 u37 u38 u39 u40 u41 u42 u43 u44 u45 u46 u47 u48 u49 u50 u51 u52 u53 u54 u55 u56 u57 u58 u59 u60 u61 u62 u63 u64 u65 u66 u67 : Value), Code.wp Tryz.prog lgL (bodyPost Tryz.prog Tryz.f34 fun e w' => ∃ v', e = .returned (.tuple #[v', .bool (longL k (longB s1).1 (longB s1).2 []).1]) ∧ LOut w R M sv all w.heap.size (longL k (longB s1).1 (longB s1).2 []) w' v' (longL k (longB s1).1 (longB s1).2 []).1) ⟨(Value.pointer (some ⟨R, 0, none⟩) :: Value.int .i64 c3 :: u2 :: u3 :: u4 :: u5 :: Value.slice none 0 0 :: Value.int .i64 k :: u8 :: u9 :: u10 :: u11 :: u12 :: u13 :: u14 :: u15 :: u16 :: u17 :: u18 :: u19 :: u20 :: u21 :: u22 :: u23 :: u24 :: u25 :: u26 :: u27 :: u28 :: u29 :: u30 :: u31 :: u32 :: u33 :: u34 :: u35 :: u36 :: u37 :: u38 :: u39 :: u40 :: u41 :: u42 :: u43 :: u44 :: u45 :: u46 :: u47 :: u48 :: u49 :: u50 :: u51 :: u52 :: u53 :: u54 :: u55 :: u56 :: u57 :: u58 :: u59 :: u60 :: u61 :: u62 :: u63 :: u64 :: u65 :: u66 :: u67 :: []).toArray, []⟩ w3 := by
      intro w3 c3 s3 q1 q2 q3 u2 u3 u4 u5 u8 u9 u10 u11 u12 u13 u14 u15 u16 u17 u18 u19 u20 u21 u22 u23 u24 u25 u26 u27 u28 u29 u30 u31 u32 u33 u34 u35 u36 u37 u38 u39 u40 u41 u42 u43 u44 u45 u46 u47 u48 u49 u50 u51 u52 u53 u54 u55 u56 u57 u58 u59 u60 u61 u62 u63 u64 u65 u66 u67
      rw [q1]
      refine lg_m q3 rfl q2 (by omega) (fun v4 ok w4 u1 u2 u3 u6 u7 u8 u9 u10 u11 u12 u13 u14 u15 u16 u17 u18 u19 u20 u21 u22 u23 u24 u25 u26 u27 u28 u29 u30 u31 u32 u33 u34 u35 u36 u37 u38 u39 u40 u41 u42 u43 u44 u45 u46 u47 u48 u49 u50 u51 u52 u53 u54 u55 u56 u57 u58 u59 u60 u61 u62 u63 u64 u65 u66 u67 q4 => ?_) u2 u3 u4 u5 u8 u9 u10 u11 u12 u13 u14 u15 u16 u17 u18 u19 u20 u21 u22 u23 u24 u25 u26 u27 u28 u29 u30 u31 u32 u33 u34 u35 u36 u37 u38 u39 u40 u41 u42 u43 u44 u45 u46 u47 u48 u49 u50 u51 u52 u53 u54 u55 u56 u57 u58 u59 u60 u61 u62 u63 u64 u65 u66 u67
      obtain ⟨rfl, q5⟩ := q4
      go_ret2
      exact ⟨v4, rfl, rfl, q5⟩
    have hcr := s1.nextC_cr
    by_cases h10 : s1.nextC = 10
    · rw [h10]
      refine wp_seq (lg_9y h2 (fun w3 u2 u3 u4 u5 u8 u9 u10 u11 u12 u13 u14 u15 u16 u17 u18 u19 u20 u21 u22 u23 u24 u25 u26 u27 u28 u29 u30 u31 u32 u33 u34 u35 u36 u37 u38 u39 u40 u41 u42 u43 u44 u45 u46 u47 u48 u49 u50 u51 u52 u53 u54 u55 u56 u57 u58 u59 u60 u61 u62 u63 u64 u65 u66 u67 h3 => ?_) u2 u3 u4 u5 u8 u9 u10 u11 u12 u13 u14 u15 u16 u17 u18 u19 u20 u21 u22 u23 u24 u25 u26 u27 u28 u29 u30 u31 u32 u33 u34 u35 u36 u37 u38 u39 u40 u41 u42 u43 u44 u45 u46 u47 u48 u49 u50 u51 u52 u53 u54 u55 u56 u57 u58 u59 u60 u61 u62 u63 u64 u65 u66 u67)
      exact fin w3 s1.nextS.nextC s1.nextS.nextS (by unfold longB; rw [if_pos (Or.inl h10)]) s1.nextS.nextC_lo h3 u2 u3 u4 u5 u8 u9 u10 u11 u12 u13 u14 u15 u16 u17 u18 u19 u20 u21 u22 u23 u24 u25 u26 u27 u28 u29 u30 u31 u32 u33 u34 u35 u36 u37 u38 u39 u40 u41 u42 u43 u44 u45 u46 u47 u48 u49 u50 u51 u52 u53 u54 u55 u56 u57 u58 u59 u60 u61 u62 u63 u64 u65 u66 u67
    · refine wp_seq (lg_9n (by rw [beq_eq_false_iff_ne]; exact h10) (by rw [beq_eq_false_iff_ne]; exact hcr) (fun u2 u3 u4 u5 u8 u9 u10 u11 u12 u13 u14 u15 u16 u17 u18 u19 u20 u21 u22 u23 u24 u25 u26 u27 u28 u29 u30 u31 u32 u33 u34 u35 u36 u37 u38 u39 u40 u41 u42 u43 u44 u45 u46 u47 u48 u49 u50 u51 u52 u53 u54 u55 u56 u57 u58 u59 u60 u61 u62 u63 u64 u65 u66 u67 _ => ?_) u2 u3 u4 u5 u8 u9 u10 u11 u12 u13 u14 u15 u16 u17 u18 u19 u20 u21 u22 u23 u24 u25 u26 u27 u28 u29 u30 u31 u32 u33 u34 u35 u36 u37 u38 u39 u40 u41 u42 u43 u44 u45 u46 u47 u48 u49 u50 u51 u52 u53 u54 u55 u56 u57 u58 u59 u60 u61 u62 u63 u64 u65 u66 u67)
      exact fin w2 s1.nextC s1.nextS (by unfold longB; rw [if_neg (by omega)]) s1.nextC_lo h2 u2 u3 u4 u5 u8 u9 u10 u11 u12 u13 u14 u15 u16 u17 u18 u19 u20 u21 u22 u23 u24 u25 u26 u27 u28 u29 u30 u31 u32 u33 u34 u35 u36 u37 u38 u39 u40 u41 u42 u43 u44 u45 u46 u47 u48 u49 u50 u51 u52 u53 u54 u55 u56 u57 u58 u59 u60 u61 u62 u63 u64 u65 u66 u67
  · have hL : (long c st).1 = false := by unfold long; rw [hE, if_neg h91]
    refine wp_seq (lg_6n (by rw [bne_iff_ne]; exact h91) (fun v4 ok u1 u2 u3 u6 u7 u8 u9 u10 u11 u12 u13 u14 u15 u16 u17 u18 u19 u20 u21 u22 u23 u24 u25 u26 u27 u28 u29 u30 u31 u32 u33 u34 u35 u36 u37 u38 u39 u40 u41 u42 u43 u44 u45 u46 u47 u48 u49 u50 u51 u52 u53 u54 u55 u56 u57 u58 u59 u60 u61 u62 u63 u64 u65 u66 u67 q4 => ?_) u2 u3 u4 u5 u8 u9 u10 u11 u12 u13 u14 u15 u16 u17 u18 u19 u20 u21 u22 u23 u24 u25 u26 u27 u28 u29 u30 u31 u32 u33 u34 u35 u36 u37 u38 u39 u40 u41 u42 u43 u44 u45 u46 u47 u48 u49 u50 u51 u52 u53 u54 u55 u56 u57 u58 u59 u60 u61 u62 u63 u64 u65 u66 u67)
    obtain ⟨rfl, rfl⟩ := q4
    rw [hL]
    go_ret2
    exact ⟨_, rfl, hL.symm, s1, [], h1, fun e => (by cases e)⟩
set_option maxRecDepth 100000 in
set_option maxHeartbeats 12800000 in
theorem rcom_0 (w : World) (R M : Nat) (sv : Value) (all : List UInt8) (st : St) (c : Int) (hc : -1 ≤ c) (h : Rf w R M sv all st) (hx : (hd st.rest == 91) = false) :
    Calls Tryz.prog 32 #[.pointer (some ⟨R, 0, none⟩), .int .i64 c] w fun e w' => e = .returned (.bool true) ∧ Rf w' R M sv all (lineL c st) ∧ Fr [R] w w' := by
  obtain ⟨E, hE⟩ : ∃ E, E = lineL c st := ⟨_, rfl⟩
  rw [← hE]
  have HE := Lib.hid hE
  have HC := Lib.hid hc
  clear hE hc
  go_enter Tryz.func32, Tryz.ntmps32
  go_wp2_with (go_at_call 27; refine (peek_rf _ R M sv all _ h).mono ?_; rintro e w1 ⟨rfl, fx⟩; refine Hid.out ?_)
  refine Lib.hid ?_
  have HS := Lib.hid (And.intro (h.fr fx (by simp) (by simp)) (show Fr [R] w w1 from fx.mono (by simp)))
  clear h fx
  go_wp2
  go_loopg [1] (mu c st) (fun n ch wr => ∃ (c' : Int) (sp : St), mu c' sp ≤ n ∧ ch = .int .i64 c' ∧ -1 ≤ c' ∧ Rf wr R M sv all sp ∧ Fr [R] w wr ∧ lineL c' sp = E)
  case atStart => exact ⟨c, st, Nat.le_refl _, rfl, HC.out, HS.out.1, HS.out.2, HE.out.symm⟩
  case round =>
    clear HS HC
    obtain ⟨cc, sp, hg, rfl, hlo, hrf, hfr, he⟩ := hrel
    have HG := Lib.hid hg
    clear hg
    by_cases h10 : cc = 10
    · obtain ⟨m1, m2⟩ := b_yes h10
      have hee : sp = E := by rw [← he, lineL_stop (Or.inl h10)]
      subst hee
      have HF := Lib.hid (And.intro hrf hfr)
      clear h10 he hrf hfr HE
      go_wp2
      go_ret
      exact ⟨rfl, HF.out⟩
    by_cases h13 : cc = 13
    · obtain ⟨m1, m2⟩ := b_no h10
      obtain ⟨m3, m4⟩ := b_yes h13
      have hee : sp = E := by rw [← he, lineL_stop (Or.inr (Or.inl h13))]
      subst hee
      have HF := Lib.hid (And.intro hrf hfr)
      clear h10 h13 he hrf hfr HE
      go_wp2
      go_ret
      exact ⟨rfl, HF.out⟩
    by_cases hng : cc < 0
    · obtain ⟨m1, m2⟩ := b_no h10
      obtain ⟨m3, m4⟩ := b_no h13
      have m5 : decide (cc < 0) = true := by rw [decide_eq_true_eq]; exact hng
      have hee : sp = E := by rw [← he, lineL_stop (Or.inr (Or.inr hng))]
      subst hee
      have HF := Lib.hid (And.intro hrf hfr)
      clear h10 h13 hng he hrf hfr HE
      go_wp2
      go_ret
      exact ⟨rfl, HF.out⟩
    obtain ⟨m1, m2⟩ := b_no h10
    obtain ⟨m3, m4⟩ := b_no h13
    have m5 : decide (cc < 0) = false := by rw [decide_eq_false_iff_not]; exact hng
    have HN := Lib.hid (And.intro (mu_next (c := cc) (st := sp) (by omega)) (And.intro ((lineL_more (c := cc) (st := sp) (by omega)).symm.trans he) sp.nextC_lo))
    clear h10 h13 hng he
    go_wp2_with (go_at_call 28; refine (next_rf _ R M sv all _ hrf).mono ?_; rintro e w5 ⟨rfl, rx, fx⟩; refine Hid.out ?_)
    refine Lib.hid ?_
    have H5 := Lib.hid (And.intro rx (hfr.trans fx))
    clear hrf hfr rx fx
    go_wp2
    go_roundg (mu sp.nextC sp.nextS)
    case measure => have h8 := HN.out.1; have h9 := HG.out; omega
    case rel => exact ⟨sp.nextC, sp.nextS, Nat.le_refl _, rfl, HN.out.2.2, H5.out.1, H5.out.2, HN.out.2.1⟩
set_option maxRecDepth 100000 in
set_option maxHeartbeats 12800000 in
theorem rcom_1 (w : World) (R M : Nat) (sv : Value) (all : List UInt8) (st : St) (c : Int) (hc : -1 ≤ c) (h : Rf w R M sv all st) (hx : (hd st.rest == 91) = true) (hy : (hd st.nextS.rest == 91) = false) (hz : (hd st.nextS.rest == 61) = false) :
    Calls Tryz.prog 32 #[.pointer (some ⟨R, 0, none⟩), .int .i64 c] w fun e w' => e = .returned (.bool true) ∧ Rf w' R M sv all (lineL 91 st.nextS) ∧ Fr [R] w w' := by
  have hn : st.nextC = 91 := by
    have := beq_iff_eq.1 hx
    unfold St.nextC
    rw [if_neg (by omega)]; exact this
  obtain ⟨E, hE⟩ : ∃ E, E = lineL 91 st.nextS := ⟨_, rfl⟩
  rw [← hE]
  have HE := Lib.hid hE
  have HC := Lib.hid (show (-1 : Int) ≤ 91 by decide)
  have HNC := Lib.hid hn
  clear hE hn hc
  go_enter Tryz.func32, Tryz.ntmps32
  go_wp2_with (go_at_call 27; refine (peek_rf _ R M sv all _ h).mono ?_; rintro e w1 ⟨rfl, fx⟩; refine Hid.out ?_)
  refine Lib.hid ?_
  have h1 := h.fr fx (by simp) (by simp)
  have f1 : Fr [R] w w1 := fx.mono (by simp)
  clear h fx
  go_wp2_with (go_at_call 28; refine (next_rf _ R M sv all _ h1).mono ?_; rintro e w2 ⟨rfl, rx, fx⟩; refine Hid.out ?_)
  refine Lib.hid ?_
  have f2 := f1.trans fx
  clear h1 f1 fx
  go_wp2_with (go_at_call 27; refine (peek_rf _ R M sv all _ rx).mono ?_; rintro e w3 ⟨rfl, fx⟩; refine Hid.out ?_)
  refine Lib.hid ?_
  have HS := Lib.hid (And.intro (rx.fr fx (by simp) (by simp)) (f2.trans (fx.mono (by simp))))
  rw [HNC.out]
  clear rx f2 fx hx
  go_wp2
  go_loopg [1] (mu 91 st.nextS) (fun n ch wr => ∃ (c' : Int) (sp : St), mu c' sp ≤ n ∧ ch = .int .i64 c' ∧ -1 ≤ c' ∧ Rf wr R M sv all sp ∧ Fr [R] w wr ∧ lineL c' sp = E)
  case atStart => exact ⟨91, st.nextS, Nat.le_refl _, rfl, HC.out, HS.out.1, HS.out.2, HE.out.symm⟩
  case round =>
    clear HS HC
    obtain ⟨cc, sp, hg, rfl, hlo, hrf, hfr, he⟩ := hrel
    have HG := Lib.hid hg
    clear hg
    by_cases h10 : cc = 10
    · obtain ⟨m1, m2⟩ := b_yes h10
      have hee : sp = E := by rw [← he, lineL_stop (Or.inl h10)]
      subst hee
      have HF := Lib.hid (And.intro hrf hfr)
      clear h10 he hrf hfr HE
      go_wp2
      go_ret
      exact ⟨rfl, HF.out⟩
    by_cases h13 : cc = 13
    · obtain ⟨m1, m2⟩ := b_no h10
      obtain ⟨m3, m4⟩ := b_yes h13
      have hee : sp = E := by rw [← he, lineL_stop (Or.inr (Or.inl h13))]
      subst hee
      have HF := Lib.hid (And.intro hrf hfr)
      clear h10 h13 he hrf hfr HE
      go_wp2
      go_ret
      exact ⟨rfl, HF.out⟩
    by_cases hng : cc < 0
    · obtain ⟨m1, m2⟩ := b_no h10
      obtain ⟨m3, m4⟩ := b_no h13
      have m5 : decide (cc < 0) = true := by rw [decide_eq_true_eq]; exact hng
      have hee : sp = E := by rw [← he, lineL_stop (Or.inr (Or.inr hng))]
      subst hee
      have HF := Lib.hid (And.intro hrf hfr)
      clear h10 h13 hng he hrf hfr HE
      go_wp2
      go_ret
      exact ⟨rfl, HF.out⟩
    obtain ⟨m1, m2⟩ := b_no h10
    obtain ⟨m3, m4⟩ := b_no h13
    have m5 : decide (cc < 0) = false := by rw [decide_eq_false_iff_not]; exact hng
    have HN := Lib.hid (And.intro (mu_next (c := cc) (st := sp) (by omega)) (And.intro ((lineL_more (c := cc) (st := sp) (by omega)).symm.trans he) sp.nextC_lo))
    clear h10 h13 hng he
    go_wp2_with (go_at_call 28; refine (next_rf _ R M sv all _ hrf).mono ?_; rintro e w5 ⟨rfl, rx, fx⟩; refine Hid.out ?_)
    refine Lib.hid ?_
    have H5 := Lib.hid (And.intro rx (hfr.trans fx))
    clear hrf hfr rx fx
    go_wp2
    go_roundg (mu sp.nextC sp.nextS)
    case measure => have h8 := HN.out.1; have h9 := HG.out; omega
    case rel => exact ⟨sp.nextC, sp.nextS, Nat.le_refl _, rfl, HN.out.2.2, H5.out.1, H5.out.2, HN.out.2.1⟩
set_option maxRecDepth 100000 in
set_option maxHeartbeats 12800000 in
theorem rcom_2 (w : World) (R M : Nat) (sv : Value) (all : List UInt8) (st : St) (c : Int) (hc : -1 ≤ c) (h : Rf w R M sv all st) (hx : (hd st.rest == 91) = true) (hy : (hd st.nextS.rest == 91) = true) :
    Calls Tryz.prog 32 #[.pointer (some ⟨R, 0, none⟩), .int .i64 c] w fun e w' => e = .returned (.bool (long st.nextS.nextC st.nextS.nextS).1) ∧ ((long st.nextS.nextC st.nextS.nextS).1 = true → Rf w' R M sv all (long st.nextS.nextC st.nextS.nextS).2.2) ∧ Fr [R] w w' := by
  clear hc
  go_enter Tryz.func32, Tryz.ntmps32
  go_wp2_with (go_at_call 27; refine (peek_rf _ R M sv all _ h).mono ?_; rintro e w1 ⟨rfl, fx⟩; refine Hid.out ?_)
  refine Lib.hid ?_
  have h1 := h.fr fx (by simp) (by simp)
  have f1 : Fr [R] w w1 := fx.mono (by simp)
  clear h fx
  go_wp2_with (go_at_call 28; refine (next_rf _ R M sv all _ h1).mono ?_; rintro e w2 ⟨rfl, rx, fx⟩; refine Hid.out ?_)
  refine Lib.hid ?_
  have f2 := f1.trans fx
  clear h1 f1 fx
  go_wp2_with (go_at_call 27; refine (peek_rf _ R M sv all _ rx).mono ?_; rintro e w3 ⟨rfl, fx⟩; refine Hid.out ?_)
  refine Lib.hid ?_
  have h3 := rx.fr fx (by simp) (by simp)
  have f3 : Fr [R] w w3 := f2.trans (fx.mono (by simp))
  clear rx f2 fx
  go_wp2_with (go_at_call 28; refine (next_rf _ R M sv all _ h3).mono ?_; rintro e w4 ⟨rfl, rx, fx⟩; refine Hid.out ?_)
  refine Lib.hid ?_
  have f4 := f3.trans fx
  have HL := Lib.hid (rlong w4 R M sv all _ st.nextS.nextC st.nextS.nextC_lo rx)
  clear h3 f3 fx rx
  go_wp2_with (go_at_call 34; refine (HL.out).mono ?_; rintro e w5 ⟨v5, rfl, -, s5, l5, h5, k5⟩)
  go_ret
  exact ⟨rfl, fun e => by have h6 := h5.rf; rw [(k5 e).1] at h6; exact h6, f4.trans h5.done⟩
set_option maxRecDepth 100000 in
set_option maxHeartbeats 12800000 in
theorem rcom_3 (w : World) (R M : Nat) (sv : Value) (all : List UInt8) (st : St) (c : Int) (hc : -1 ≤ c) (h : Rf w R M sv all st) (hx : (hd st.rest == 91) = true) (hy : (hd st.nextS.rest == 91) = false) (hz : (hd st.nextS.rest == 61) = true) :
    Calls Tryz.prog 32 #[.pointer (some ⟨R, 0, none⟩), .int .i64 c] w fun e w' => e = .returned (.bool (long st.nextS.nextC st.nextS.nextS).1) ∧ ((long st.nextS.nextC st.nextS.nextS).1 = true → Rf w' R M sv all (long st.nextS.nextC st.nextS.nextS).2.2) ∧ Fr [R] w w' := by
  clear hc
  go_enter Tryz.func32, Tryz.ntmps32
  go_wp2_with (go_at_call 27; refine (peek_rf _ R M sv all _ h).mono ?_; rintro e w1 ⟨rfl, fx⟩; refine Hid.out ?_)
  refine Lib.hid ?_
  have h1 := h.fr fx (by simp) (by simp)
  have f1 : Fr [R] w w1 := fx.mono (by simp)
  clear h fx
  go_wp2_with (go_at_call 28; refine (next_rf _ R M sv all _ h1).mono ?_; rintro e w2 ⟨rfl, rx, fx⟩; refine Hid.out ?_)
  refine Lib.hid ?_
  have f2 := f1.trans fx
  clear h1 f1 fx
  go_wp2_with (go_at_call 27; refine (peek_rf _ R M sv all _ rx).mono ?_; rintro e w3 ⟨rfl, fx⟩; refine Hid.out ?_)
  refine Lib.hid ?_
  have h3 := rx.fr fx (by simp) (by simp)
  have f3 : Fr [R] w w3 := f2.trans (fx.mono (by simp))
  clear rx f2 fx
  go_wp2_with (go_at_call 28; refine (next_rf _ R M sv all _ h3).mono ?_; rintro e w4 ⟨rfl, rx, fx⟩; refine Hid.out ?_)
  refine Lib.hid ?_
  have f4 := f3.trans fx
  have HL := Lib.hid (rlong w4 R M sv all _ st.nextS.nextC st.nextS.nextC_lo rx)
  clear h3 f3 fx rx
  go_wp2_with (go_at_call 34; refine (HL.out).mono ?_; rintro e w5 ⟨v5, rfl, -, s5, l5, h5, k5⟩)
  go_ret
  exact ⟨rfl, fun e => by have h6 := h5.rf; rw [(k5 e).1] at h6; exact h6, f4.trans h5.done⟩
theorem rcom_any (w : World) (R M : Nat) (sv : Value) (all : List UInt8) (st : St) (c : Int) (hc : -1 ≤ c) (h : Rf w R M sv all st) :
    Calls Tryz.prog 32 #[.pointer (some ⟨R, 0, none⟩), .int .i64 c] w (fun e w' => e = .returned (.bool (comment c st).1) ∧ ((comment c st).1 = true → Rf w' R M sv all (comment c st).2) ∧ Fr [R] w w') := by
  unfold comment
  cases hx : (hd st.rest == 91)
  · rw [if_neg (beq_eq_false_iff_ne.1 hx)]
    exact (rcom_0 w R M sv all st c hc h hx).mono fun e w' ⟨q1, q2, q3⟩ => ⟨q1, fun _ => q2, q3⟩
  · rw [if_pos (beq_iff_eq.1 hx)]
    cases hy : (hd st.nextS.rest == 91)
    · cases hz : (hd st.nextS.rest == 61)
      · rw [if_neg (by rw [beq_eq_false_iff_ne] at hy hz; omega)]
        exact (rcom_1 w R M sv all st c hc h hx hy hz).mono fun e w' ⟨q1, q2, q3⟩ => ⟨q1, fun _ => q2, q3⟩
      · rw [if_pos (Or.inr (beq_iff_eq.1 hz))]
        exact rcom_3 w R M sv all st c hc h hx hy hz
    · rw [if_pos (Or.inl (beq_iff_eq.1 hy))]
      exact rcom_2 w R M sv all st c hc h hx hy
set_option maxRecDepth 100000 in
set_option maxHeartbeats 12800000 in
theorem rtwo_1 (w : World) (R M : Nat) (sv : Value) (all : List UInt8) (st : St) (tb : Nat) (c typ : Int) (s : ByteArray) (t0 : Int) (z0 : ByteArray) (li ci : Int) (pn : Bool) (h : Rf w R M sv all st) (hT : Blk w tb [.int .i64 t0, .string z0, .int .i64 li, .int .i64 ci, .bool pn]) (hR : tb ≠ R) (hM : tb ≠ M) (hx : (hd st.rest == 61) = true) :
    Calls Tryz.prog 35 #[.pointer (some ⟨R, 0, none⟩), .pointer (some ⟨tb, 0, none⟩), .int .i64 c, .int .i64 typ, .string s] w fun e w' => e = .returned (.tuple #[]) ∧ Rf w' R M sv all st.nextS ∧ Blk w' tb [.int .i64 typ, .string s, .int .i64 li, .int .i64 ci, .bool pn] ∧ Fr [R, tb] w w' := by
  have HNE := Lib.hid (And.intro hR hM)
  clear hR hM
  go_enter Tryz.func35, Tryz.ntmps35
  go_wp2_with (go_at_call 27; refine (peek_rf _ R M sv all _ h).mono ?_; rintro e w1 ⟨rfl, fx⟩; refine Hid.out ?_)
  refine Lib.hid ?_
  have h1 := h.fr fx (by simp) (by simp)
  have hT1 := fx.blk hT (by simp)
  have f1 : Fr [R, tb] w w1 := fx.mono (by simp)
  clear h hT fx
  go_wp2_with (go_at_call 28; refine (next_rf _ R M sv all _ h1).mono ?_; rintro e w2 ⟨rfl, rx, fx⟩; refine Hid.out ?_)
  refine Lib.hid ?_
  have hT2 := fx.blk hT1 (by simpa using HNE.out.1)
  have f2 := f1.trans (fx.mono (by simp))
  clear h1 hT1 f1 fx
  have t0 := hT2.cell 0 _ rfl
  have t1 := hT2.cell 1 _ rfl
  have p0 := hT2.free 0
  have p1 := hT2.free 1
  have HF := Lib.hid (And.intro rx (And.intro hT2 f2))
  clear rx hT2 f2
  go_wp2
  obtain ⟨e1, e2, e3⟩ := HF.out
  have e4 : Fr [tb] w2 ((w2.setCell ⟨tb, 0, none⟩ (.int .i64 typ)).setCell ⟨tb, 1, none⟩ (.string s)) := ((Fr.refl _ _).setCell (by simp) _).setCell (by simp) _
  refine bodyPost_ret (v := .tuple #[]) ?_ rfl ⟨rfl, e1.fr e4 (by simp only [List.mem_singleton]; exact fun e => HNE.out.1 e.symm) (by simp only [List.mem_singleton]; exact fun e => HNE.out.2 e.symm), (e2.set 0 (.int .i64 typ)).set 1 (.string s), e3.trans (e4.mono (by simp))⟩
  exact results_none rfl _ _ _
set_option maxRecDepth 100000 in
set_option maxHeartbeats 12800000 in
theorem rtwo_0 (w : World) (R M : Nat) (sv : Value) (all : List UInt8) (st : St) (tb : Nat) (c typ : Int) (s : ByteArray) (t0 : Int) (z0 : ByteArray) (li ci : Int) (pn : Bool) (h : Rf w R M sv all st) (hT : Blk w tb [.int .i64 t0, .string z0, .int .i64 li, .int .i64 ci, .bool pn]) (hR : tb ≠ R) (hM : tb ≠ M) (hx : (hd st.rest == 61) = false) :
    Calls Tryz.prog 35 #[.pointer (some ⟨R, 0, none⟩), .pointer (some ⟨tb, 0, none⟩), .int .i64 c, .int .i64 typ, .string s] w fun e w' => e = .returned (.tuple #[]) ∧ Rf w' R M sv all st ∧ Blk w' tb [.int .i64 c, .string ⟨[by8 c].toArray⟩, .int .i64 li, .int .i64 ci, .bool pn] ∧ Fr [R, tb] w w' := by
  have HNE := Lib.hid (And.intro hR hM)
  clear hR hM
  go_enter Tryz.func35, Tryz.ntmps35
  go_wp2_with (go_at_call 27; refine (peek_rf _ R M sv all _ h).mono ?_; rintro e w1 ⟨rfl, fx⟩; refine Hid.out ?_)
  refine Lib.hid ?_
  have h1 := h.fr fx (by simp) (by simp)
  have hT1 := fx.blk hT (by simp)
  have f1 : Fr [R, tb] w w1 := fx.mono (by simp)
  clear h hT fx
  have t0 := hT1.cell 0 _ rfl
  have t1 := hT1.cell 1 _ rfl
  have p0 := hT1.free 0
  have p1 := hT1.free 1
  have HF := Lib.hid (And.intro h1 (And.intro hT1 f1))
  clear h1 hT1 f1
  go_upto_region 5 with fail
  have e4 : Fr [tb] w1 (w1.setCell ⟨tb, 0, none⟩ (.int .i64 c)) := (Fr.refl _ _).setCell (by simp) _
  have e5 := HF.out.2.1.set 0 (.int .i64 c)
  clear t0 t1 p0 p1
  generalize w1.setCell ⟨tb, 0, none⟩ (.int .i64 c) = w2 at e4 e5 ⊢
  have hcv := (Bs.one w2 (c % 256) (by8 c) (by rw [by8_toNat])).text
  have fA : Fr [] w2 (w2.alloc (.cells #[.int .u8 (c % 256)] 5)) := (Fr.refl _ _).alloc _
  have e6 := fA.blk e5 (by simp)
  have t1 := e6.cell 1 _ rfl
  have p1 := e6.free 1
  have H6 := Lib.hid (And.intro e4 (And.intro fA e6))
  clear e4 e5 fA e6
  go_wp2
  obtain ⟨e4, fA, e6⟩ := H6.out
  obtain ⟨e1, e2, e3⟩ := HF.out
  have e7 : Fr [tb] (w2.alloc (.cells #[.int .u8 (c % 256)] 5)) ((w2.alloc (.cells #[.int .u8 (c % 256)] 5)).setCell ⟨tb, 1, none⟩ (.string ⟨[by8 c].toArray⟩)) := (Fr.refl _ _).setCell (by simp) _
  have e8 := (e4.trans (fA.mono (by simp))).trans e7
  refine bodyPost_end (results_none rfl _ _ _) rfl ⟨rfl, e1.fr e8 (by simp only [List.mem_singleton]; exact fun e => HNE.out.1 e.symm) (by simp only [List.mem_singleton]; exact fun e => HNE.out.2 e.symm), e6.set 1 (.string ⟨[by8 c].toArray⟩), e3.trans (e8.mono (by simp))⟩
end Go.Proofs.YtgiklkapedlckaaGreatDoor

namespace Go.Proofs.YtgiklkapedlckaaGreatDoor
open Go.RowKit

/-- The digits of a decimal escape. -/
def digN : Nat → Int → St → Int × St
  | 0, v, st => (v, st)
  | n + 1, v, st => if decI (hd st.rest) = true then digN n (v * 10 + (st.nextC - 48)) st.nextS else (v, st)
theorem resc_dig {st : St} (h : decI st.nextC = true) : esc st = (by8 (digN 2 (st.nextC - 48) st.nextS).1, (digN 2 (st.nextC - 48) st.nextS).2) := by
  unfold esc digN dig1
  rw [if_pos h]
  by_cases h1 : decI (hd st.nextS.rest) = true
  · rw [if_pos h1, if_pos h1]
    simp only [h1, if_true]
    unfold digN
    by_cases h2 : decI (hd st.nextS.nextS.rest) = true
    · rw [if_pos h2, if_pos h2]; rfl
    · rw [if_neg h2, if_neg h2]
  · rw [if_neg h1, if_neg h1]
theorem esc_tab {st : St} (h : decI st.nextC = false) : esc st = (escTab st.nextC, st.nextS) := by
  unfold esc
  rw [if_neg (by rw [h]; decide)]
theorem digN_rest (n : Nat) (v : Int) (st : St) : (digN n v st).2.rest.length ≤ st.rest.length := by
  induction n generalizing v st with
  | zero => exact Nat.le_refl _
  | succ n ih =>
    unfold digN
    split
    · exact Nat.le_trans (ih _ _) (rest_next_le st)
    · exact Nat.le_refl _
theorem rdec_rng {c : Int} (h : decI c = true) : 48 ≤ c ∧ c ≤ 57 := by
  unfold decI at h
  simp only [Bool.and_eq_true, decide_eq_true_eq] at h
  exact h
set_option maxRecDepth 100000 in
set_option maxHeartbeats 12800000 in
theorem rstr (w : World) (R M : Nat) (sv : Value) (all : List UInt8) (st : St) (q : Int) (h : Rf w R M sv all st) :
    Calls Tryz.prog 33 #[.pointer (some ⟨R, 0, none⟩), .int .i64 q] w fun e w' => ∃ v', e = .returned (.tuple #[v', .bool (strL q st.nextC st.nextS []).1]) ∧ LOut w R M sv all w.heap.size (strL q st.nextC st.nextS []) w' v' (strL q st.nextC st.nextS []).1 := by
  have h0 : Ro w R M sv all w.heap.size w st (.slice none 0 0) [] := Ro.start h (Bs.nil _ _) (Below.refl _ _)
  obtain ⟨G, hG⟩ : ∃ G, strL q st.nextC st.nextS [] = G := ⟨_, rfl⟩
  rw [hG]
  obtain ⟨B, hB⟩ : ∃ B, B = w.heap.size := ⟨_, rfl⟩
  rw [← hB] at h0 ⊢
  have HB := Lib.hid hB
  have HLL := Lib.hid (And.intro hG h0.lim)
  clear h hG hB
  go_enter Tryz.func33, Tryz.ntmps33
  go_wp2_with (go_at_call 28; refine (next_ro h0).mono ?_; rintro e w1 ⟨rfl, h1⟩; refine Hid.out ?_)
  refine Lib.hid ?_
  have HS := Lib.hid h1
  clear h0 h1
  go_wp2
  go_loopg [6, 7] st.rest.length (fun n bv chv wr => ∃ (sp : St) (ds : List UInt8), sp.rest.length ≤ n ∧ chv = .int .i64 sp.nextC ∧ Ro w R M sv all B wr sp.nextS bv ds ∧ strL q sp.nextC sp.nextS ds = G ∧ ds.length + sp.rest.length ≤ 1099511627776)
  case atStart => exact ⟨st, [], Nat.le_refl _, rfl, HS.out, HLL.out.1, by simpa using HLL.out.2⟩
  case round =>
    clear HS
    obtain ⟨sp, ds, hg, rfl, hro, hs, hl⟩ := hrel
    have hcr := sp.nextC_cr
    have hlo := sp.nextC_lo
    have HG := Lib.hid (And.intro hg hl)
    have HLM := Lib.hid (show ds.length + 1 ≤ 140737488355328 by omega)
    obtain ⟨cc, hcc⟩ : ∃ cc, cc = sp.nextC := ⟨_, rfl⟩
    have HCC := Lib.hid hcc
    rw [← hcc] at hs hcr hlo ⊢
    clear hg hl
    by_cases hq : cc = q
    · obtain ⟨m1, m2⟩ : (cc == q) = true ∧ (cc != q) = false := ⟨by rw [beq_iff_eq]; exact hq, by rw [bne_eq_false_iff_eq]; exact hq⟩
      have e1 : strL q cc sp.nextS ds = (true, ds, sp.nextS) := by rw [hq, strL_close]
      have HE := Lib.hid (e1.symm.trans hs)
      have HR := Lib.hid hro
      clear hs hcr hlo hq hcc hro e1
      go_wp2
      have e2 := HE.out
      rw [← e2]
      go_ret2
      exact ⟨_, rfl, rfl, _, _, HR.out, fun _ => ⟨rfl, rfl⟩⟩
    obtain ⟨m1, m2⟩ : (cc == q) = false ∧ (cc != q) = true := ⟨by rw [beq_eq_false_iff_ne]; exact hq, by rw [bne_iff_ne]; exact hq⟩
    by_cases h10 : cc = 10
    · obtain ⟨m3, m4⟩ := b_yes h10
      have e1 : strL q cc sp.nextS ds = (false, ds, sp.nextS) := strL_bad hq (by omega)
      have HE := Lib.hid (show G.1 = false by rw [← hs, e1])
      have HR := Lib.hid hro
      clear hs hcr hlo hq hcc hro e1 h10
      go_wp2
      have e2 := HE.out
      rw [e2]
      go_ret2
      exact ⟨_, rfl, e2.symm, _, _, HR.out, fun e => (by cases e)⟩
    by_cases hng : cc < 0
    · obtain ⟨m3, m4⟩ := b_no h10
      obtain ⟨m5, m6⟩ := b_no hcr
      have m7 : decide (cc < 0) = true := by rw [decide_eq_true_eq]; exact hng
      have e1 : strL q cc sp.nextS ds = (false, ds, sp.nextS) := strL_bad hq (by omega)
      have HE := Lib.hid (show G.1 = false by rw [← hs, e1])
      have HR := Lib.hid hro
      clear hs hcr hlo hq hcc hro e1 h10 hng
      go_wp2
      have e2 := HE.out
      rw [e2]
      go_ret2
      exact ⟨_, rfl, e2.symm, _, _, HR.out, fun e => (by cases e)⟩
    obtain ⟨m3, m4⟩ := b_no h10
    obtain ⟨m5, m6⟩ := b_no hcr
    have m7 : decide (cc < 0) = false := by rw [decide_eq_false_iff_not]; exact hng
    have hne : sp.rest ≠ [] := fun e => hng (by rw [hcc]; exact St.nextC_neg.2 e)
    have HLN := Lib.hid (St.nextS_len hne).1
    by_cases h92 : cc = 92
    · obtain ⟨m8, m9⟩ := b_yes h92
      subst h92
      have hstr := strL_esc (q := q) (st := sp.nextS) (acc := ds) hq
      have HSTR := Lib.hid (hstr.symm.trans hs)
      have herest := esc_rest sp.nextS
      have HER := Lib.hid herest
      clear hs hcr hlo hq hcc h10 hng hne hstr herest
      go_wp2_with (go_at_call 28; refine (next_ro hro).mono ?_; rintro e w2 ⟨rfl, hy2⟩; refine Hid.out ?_)
      refine Lib.hid ?_
      clear hro m1 m2 m3 m4 m5 m6 m7 m8 m9
      have hlo := sp.nextS.nextC_lo
      have hhi := sp.nextS.nextC_hi
      obtain ⟨ee, hee⟩ : ∃ ee, ee = sp.nextS.nextC := ⟨_, rfl⟩
      have HEE := Lib.hid hee
      rw [← hee] at hlo hhi ⊢
      clear hee
      have fin : ∀ (b : UInt8) (s2 : St), esc sp.nextS = (b, s2) → strL q s2.nextC s2.nextS (ds ++ [b]) = G ∧ s2.rest.length < sp.rest.length ∧ (ds ++ [b]).length + s2.rest.length ≤ 1099511627776 := fun b s2 e => by
        have q1 := HSTR.out
        have q2 := HER.out
        have q3 := HLN.out
        have q5 := rest_next_le sp.nextS
        rw [e] at q1 q2
        refine ⟨q1, by simp only at q2; omega, ?_⟩
        have q4 := HG.out.2
        rw [List.length_append]
        simp only [List.length_cons, List.length_nil] at q2 ⊢
        omega
      have FIN := Lib.hid fin
      clear fin
      by_cases k97 : ee = 97
      · subst k97
        clear hlo hhi
        have HEQ := Lib.hid (FIN.out 7 sp.nextS.nextS (by rw [esc_tab (by rw [← HEE.out]; decide), ← HEE.out]; rfl))
        go_wp2_with (at_builtin; refine wpList_app1 rfl (.tmp 63) (.tmp 64) rfl _ B _ ds _ 7 rfl rfl hy2.bs (Lib.hid rfl) hy2.le HLM ?_; intro v8 w8 hb9 hl9; refine Hid.out ?_)
        refine Lib.hid ?_
        have hy8 := hy2.wrote hb9 hl9
        clear hy2 hb9 hl9
        go_wp2_with (go_at_call 28; refine (next_ro hy8).mono ?_; rintro e w9 ⟨rfl, hy9⟩; refine Hid.out ?_)
        refine Lib.hid ?_
        have H9 := Lib.hid hy9
        clear hy8 hy9
        go_wp2
        go_roundg sp.nextS.nextS.rest.length
        case measure => have h8 := HEQ.out.2.1; have h9 := HG.out.1; omega
        case rel => exact ⟨sp.nextS.nextS, ds ++ [7], Nat.le_refl _, rfl, H9.out, HEQ.out.1, HEQ.out.2.2⟩
      by_cases k98 : ee = 98
      · subst k98
        obtain ⟨a0, b0⟩ := b_no k97
        clear hlo hhi k97
        have HEQ := Lib.hid (FIN.out 8 sp.nextS.nextS (by rw [esc_tab (by rw [← HEE.out]; decide), ← HEE.out]; rfl))
        go_wp2_with (at_builtin; refine wpList_app1 rfl (.tmp 68) (.tmp 69) rfl _ B _ ds _ 8 rfl rfl hy2.bs (Lib.hid rfl) hy2.le HLM ?_; intro v8 w8 hb9 hl9; refine Hid.out ?_)
        refine Lib.hid ?_
        have hy8 := hy2.wrote hb9 hl9
        clear hy2 hb9 hl9
        go_wp2_with (go_at_call 28; refine (next_ro hy8).mono ?_; rintro e w9 ⟨rfl, hy9⟩; refine Hid.out ?_)
        refine Lib.hid ?_
        have H9 := Lib.hid hy9
        clear hy8 hy9
        go_wp2
        go_roundg sp.nextS.nextS.rest.length
        case measure => have h8 := HEQ.out.2.1; have h9 := HG.out.1; omega
        case rel => exact ⟨sp.nextS.nextS, ds ++ [8], Nat.le_refl _, rfl, H9.out, HEQ.out.1, HEQ.out.2.2⟩
      by_cases k102 : ee = 102
      · subst k102
        obtain ⟨a0, b0⟩ := b_no k97
        obtain ⟨a1, b1⟩ := b_no k98
        clear hlo hhi k97 k98
        have HEQ := Lib.hid (FIN.out 12 sp.nextS.nextS (by rw [esc_tab (by rw [← HEE.out]; decide), ← HEE.out]; rfl))
        go_wp2_with (at_builtin; refine wpList_app1 rfl (.tmp 73) (.tmp 74) rfl _ B _ ds _ 12 rfl rfl hy2.bs (Lib.hid rfl) hy2.le HLM ?_; intro v8 w8 hb9 hl9; refine Hid.out ?_)
        refine Lib.hid ?_
        have hy8 := hy2.wrote hb9 hl9
        clear hy2 hb9 hl9
        go_wp2_with (go_at_call 28; refine (next_ro hy8).mono ?_; rintro e w9 ⟨rfl, hy9⟩; refine Hid.out ?_)
        refine Lib.hid ?_
        have H9 := Lib.hid hy9
        clear hy8 hy9
        go_wp2
        go_roundg sp.nextS.nextS.rest.length
        case measure => have h8 := HEQ.out.2.1; have h9 := HG.out.1; omega
        case rel => exact ⟨sp.nextS.nextS, ds ++ [12], Nat.le_refl _, rfl, H9.out, HEQ.out.1, HEQ.out.2.2⟩
      by_cases k110 : ee = 110
      · subst k110
        obtain ⟨a0, b0⟩ := b_no k97
        obtain ⟨a1, b1⟩ := b_no k98
        obtain ⟨a2, b2⟩ := b_no k102
        clear hlo hhi k97 k98 k102
        have HEQ := Lib.hid (FIN.out 10 sp.nextS.nextS (by rw [esc_tab (by rw [← HEE.out]; decide), ← HEE.out]; rfl))
        go_wp2_with (at_builtin; refine wpList_app1 rfl (.tmp 78) (.tmp 79) rfl _ B _ ds _ 10 rfl rfl hy2.bs (Lib.hid rfl) hy2.le HLM ?_; intro v8 w8 hb9 hl9; refine Hid.out ?_)
        refine Lib.hid ?_
        have hy8 := hy2.wrote hb9 hl9
        clear hy2 hb9 hl9
        go_wp2_with (go_at_call 28; refine (next_ro hy8).mono ?_; rintro e w9 ⟨rfl, hy9⟩; refine Hid.out ?_)
        refine Lib.hid ?_
        have H9 := Lib.hid hy9
        clear hy8 hy9
        go_wp2
        go_roundg sp.nextS.nextS.rest.length
        case measure => have h8 := HEQ.out.2.1; have h9 := HG.out.1; omega
        case rel => exact ⟨sp.nextS.nextS, ds ++ [10], Nat.le_refl _, rfl, H9.out, HEQ.out.1, HEQ.out.2.2⟩
      by_cases k114 : ee = 114
      · subst k114
        obtain ⟨a0, b0⟩ := b_no k97
        obtain ⟨a1, b1⟩ := b_no k98
        obtain ⟨a2, b2⟩ := b_no k102
        obtain ⟨a3, b3⟩ := b_no k110
        clear hlo hhi k97 k98 k102 k110
        have HEQ := Lib.hid (FIN.out 13 sp.nextS.nextS (by rw [esc_tab (by rw [← HEE.out]; decide), ← HEE.out]; rfl))
        go_wp2_with (at_builtin; refine wpList_app1 rfl (.tmp 83) (.tmp 84) rfl _ B _ ds _ 13 rfl rfl hy2.bs (Lib.hid rfl) hy2.le HLM ?_; intro v8 w8 hb9 hl9; refine Hid.out ?_)
        refine Lib.hid ?_
        have hy8 := hy2.wrote hb9 hl9
        clear hy2 hb9 hl9
        go_wp2_with (go_at_call 28; refine (next_ro hy8).mono ?_; rintro e w9 ⟨rfl, hy9⟩; refine Hid.out ?_)
        refine Lib.hid ?_
        have H9 := Lib.hid hy9
        clear hy8 hy9
        go_wp2
        go_roundg sp.nextS.nextS.rest.length
        case measure => have h8 := HEQ.out.2.1; have h9 := HG.out.1; omega
        case rel => exact ⟨sp.nextS.nextS, ds ++ [13], Nat.le_refl _, rfl, H9.out, HEQ.out.1, HEQ.out.2.2⟩
      by_cases k116 : ee = 116
      · subst k116
        obtain ⟨a0, b0⟩ := b_no k97
        obtain ⟨a1, b1⟩ := b_no k98
        obtain ⟨a2, b2⟩ := b_no k102
        obtain ⟨a3, b3⟩ := b_no k110
        obtain ⟨a4, b4⟩ := b_no k114
        clear hlo hhi k97 k98 k102 k110 k114
        have HEQ := Lib.hid (FIN.out 9 sp.nextS.nextS (by rw [esc_tab (by rw [← HEE.out]; decide), ← HEE.out]; rfl))
        go_wp2_with (at_builtin; refine wpList_app1 rfl (.tmp 88) (.tmp 89) rfl _ B _ ds _ 9 rfl rfl hy2.bs (Lib.hid rfl) hy2.le HLM ?_; intro v8 w8 hb9 hl9; refine Hid.out ?_)
        refine Lib.hid ?_
        have hy8 := hy2.wrote hb9 hl9
        clear hy2 hb9 hl9
        go_wp2_with (go_at_call 28; refine (next_ro hy8).mono ?_; rintro e w9 ⟨rfl, hy9⟩; refine Hid.out ?_)
        refine Lib.hid ?_
        have H9 := Lib.hid hy9
        clear hy8 hy9
        go_wp2
        go_roundg sp.nextS.nextS.rest.length
        case measure => have h8 := HEQ.out.2.1; have h9 := HG.out.1; omega
        case rel => exact ⟨sp.nextS.nextS, ds ++ [9], Nat.le_refl _, rfl, H9.out, HEQ.out.1, HEQ.out.2.2⟩
      by_cases k118 : ee = 118
      · subst k118
        obtain ⟨a0, b0⟩ := b_no k97
        obtain ⟨a1, b1⟩ := b_no k98
        obtain ⟨a2, b2⟩ := b_no k102
        obtain ⟨a3, b3⟩ := b_no k110
        obtain ⟨a4, b4⟩ := b_no k114
        obtain ⟨a5, b5⟩ := b_no k116
        clear hlo hhi k97 k98 k102 k110 k114 k116
        have HEQ := Lib.hid (FIN.out 11 sp.nextS.nextS (by rw [esc_tab (by rw [← HEE.out]; decide), ← HEE.out]; rfl))
        go_wp2_with (at_builtin; refine wpList_app1 rfl (.tmp 93) (.tmp 94) rfl _ B _ ds _ 11 rfl rfl hy2.bs (Lib.hid rfl) hy2.le HLM ?_; intro v8 w8 hb9 hl9; refine Hid.out ?_)
        refine Lib.hid ?_
        have hy8 := hy2.wrote hb9 hl9
        clear hy2 hb9 hl9
        go_wp2_with (go_at_call 28; refine (next_ro hy8).mono ?_; rintro e w9 ⟨rfl, hy9⟩; refine Hid.out ?_)
        refine Lib.hid ?_
        have H9 := Lib.hid hy9
        clear hy8 hy9
        go_wp2
        go_roundg sp.nextS.nextS.rest.length
        case measure => have h8 := HEQ.out.2.1; have h9 := HG.out.1; omega
        case rel => exact ⟨sp.nextS.nextS, ds ++ [11], Nat.le_refl _, rfl, H9.out, HEQ.out.1, HEQ.out.2.2⟩
      obtain ⟨a0, b0⟩ := b_no k97
      obtain ⟨a1, b1⟩ := b_no k98
      obtain ⟨a2, b2⟩ := b_no k102
      obtain ⟨a3, b3⟩ := b_no k110
      obtain ⟨a4, b4⟩ := b_no k114
      obtain ⟨a5, b5⟩ := b_no k116
      obtain ⟨a6, b6⟩ := b_no k118
      by_cases k92 : ee = 92
      · subst k92
        clear hlo hhi k97 k98 k102 k110 k114 k116 k118
        have HEQ := Lib.hid (FIN.out 92 sp.nextS.nextS (by rw [esc_tab (by rw [← HEE.out]; decide), ← HEE.out]; rfl))
        go_wp2_with (at_builtin; refine wpList_app1 rfl (.tmp 100) (.tmp 103) rfl _ B _ ds _ 92 rfl rfl hy2.bs (Lib.hid rfl) hy2.le HLM ?_; intro v8 w8 hb9 hl9; refine Hid.out ?_)
        refine Lib.hid ?_
        have hy8 := hy2.wrote hb9 hl9
        clear hy2 hb9 hl9
        go_wp2_with (go_at_call 28; refine (next_ro hy8).mono ?_; rintro e w9 ⟨rfl, hy9⟩; refine Hid.out ?_)
        refine Lib.hid ?_
        have H9 := Lib.hid hy9
        clear hy8 hy9
        go_wp2
        go_roundg sp.nextS.nextS.rest.length
        case measure => have h8 := HEQ.out.2.1; have h9 := HG.out.1; omega
        case rel => exact ⟨sp.nextS.nextS, ds ++ [92], Nat.le_refl _, rfl, H9.out, HEQ.out.1, HEQ.out.2.2⟩
      by_cases k34 : ee = 34
      · subst k34
        obtain ⟨c0, d0⟩ := b_no k92
        clear hlo hhi k97 k98 k102 k110 k114 k116 k118 k92
        have HEQ := Lib.hid (FIN.out 34 sp.nextS.nextS (by rw [esc_tab (by rw [← HEE.out]; decide), ← HEE.out]; rfl))
        go_wp2_with (at_builtin; refine wpList_app1 rfl (.tmp 100) (.tmp 103) rfl _ B _ ds _ 34 rfl rfl hy2.bs (Lib.hid rfl) hy2.le HLM ?_; intro v8 w8 hb9 hl9; refine Hid.out ?_)
        refine Lib.hid ?_
        have hy8 := hy2.wrote hb9 hl9
        clear hy2 hb9 hl9
        go_wp2_with (go_at_call 28; refine (next_ro hy8).mono ?_; rintro e w9 ⟨rfl, hy9⟩; refine Hid.out ?_)
        refine Lib.hid ?_
        have H9 := Lib.hid hy9
        clear hy8 hy9
        go_wp2
        go_roundg sp.nextS.nextS.rest.length
        case measure => have h8 := HEQ.out.2.1; have h9 := HG.out.1; omega
        case rel => exact ⟨sp.nextS.nextS, ds ++ [34], Nat.le_refl _, rfl, H9.out, HEQ.out.1, HEQ.out.2.2⟩
      by_cases k39 : ee = 39
      · subst k39
        obtain ⟨c0, d0⟩ := b_no k92
        obtain ⟨c1, d1⟩ := b_no k34
        clear hlo hhi k97 k98 k102 k110 k114 k116 k118 k92 k34
        have HEQ := Lib.hid (FIN.out 39 sp.nextS.nextS (by rw [esc_tab (by rw [← HEE.out]; decide), ← HEE.out]; rfl))
        go_wp2_with (at_builtin; refine wpList_app1 rfl (.tmp 100) (.tmp 103) rfl _ B _ ds _ 39 rfl rfl hy2.bs (Lib.hid rfl) hy2.le HLM ?_; intro v8 w8 hb9 hl9; refine Hid.out ?_)
        refine Lib.hid ?_
        have hy8 := hy2.wrote hb9 hl9
        clear hy2 hb9 hl9
        go_wp2_with (go_at_call 28; refine (next_ro hy8).mono ?_; rintro e w9 ⟨rfl, hy9⟩; refine Hid.out ?_)
        refine Lib.hid ?_
        have H9 := Lib.hid hy9
        clear hy8 hy9
        go_wp2
        go_roundg sp.nextS.nextS.rest.length
        case measure => have h8 := HEQ.out.2.1; have h9 := HG.out.1; omega
        case rel => exact ⟨sp.nextS.nextS, ds ++ [39], Nat.le_refl _, rfl, H9.out, HEQ.out.1, HEQ.out.2.2⟩
      obtain ⟨c0, d0⟩ := b_no k92
      obtain ⟨c1, d1⟩ := b_no k34
      obtain ⟨c2, d2⟩ := b_no k39
      by_cases k10 : ee = 10
      · subst k10
        clear hlo hhi k97 k98 k102 k110 k114 k116 k118 k92 k34 k39
        have HEQ := Lib.hid (FIN.out 10 sp.nextS.nextS (by rw [esc_tab (by rw [← HEE.out]; decide), ← HEE.out]; rfl))
        go_wp2_with (at_builtin; refine wpList_app1 rfl (.tmp 107) (.tmp 108) rfl _ B _ ds _ 10 rfl rfl hy2.bs (Lib.hid rfl) hy2.le HLM ?_; intro v8 w8 hb9 hl9; refine Hid.out ?_)
        refine Lib.hid ?_
        have hy8 := hy2.wrote hb9 hl9
        clear hy2 hb9 hl9
        go_wp2_with (go_at_call 28; refine (next_ro hy8).mono ?_; rintro e w9 ⟨rfl, hy9⟩; refine Hid.out ?_)
        refine Lib.hid ?_
        have H9 := Lib.hid hy9
        clear hy8 hy9
        go_wp2
        go_roundg sp.nextS.nextS.rest.length
        case measure => have h8 := HEQ.out.2.1; have h9 := HG.out.1; omega
        case rel => exact ⟨sp.nextS.nextS, ds ++ [10], Nat.le_refl _, rfl, H9.out, HEQ.out.1, HEQ.out.2.2⟩
      obtain ⟨c5, d5⟩ := b_no k10
      cases hd1 : decI ee
      · have HX := Lib.hid (show ee % 256 = ((by8 ee).toNat : Int) from (by8_toNat ee).symm)
        have HD := Lib.hid hd1
        have HEQ0 := Lib.hid (show esc sp.nextS = (by8 ee, sp.nextS.nextS) by
          rw [esc_tab (by rw [← HEE.out]; exact hd1), ← HEE.out]
          unfold escTab
          rw [if_neg k97, if_neg k98, if_neg k102, if_neg k110, if_neg k114, if_neg k116, if_neg k118])
        clear hlo hhi k97 k98 k102 k110 k114 k116 k118 k92 k34 k39 k10 hd1
        have HEQ := Lib.hid (FIN.out (by8 ee) sp.nextS.nextS (HEQ0.out))
        go_wp2_with (first | (go_at_call 30; refine (rdec_false _ _ HD.out).mono ?_; rintro e w' ⟨rfl, rfl⟩) | (at_builtin; refine wpList_app1 rfl (.tmp 56) (.tmp 59) rfl _ B _ ds _ (by8 ee) rfl rfl hy2.bs HX hy2.le HLM ?_; intro v8 w8 hb9 hl9; refine Hid.out ?_))
        refine Lib.hid ?_
        have hy8 := hy2.wrote hb9 hl9
        clear hy2 hb9 hl9
        go_wp2_with (go_at_call 28; refine (next_ro hy8).mono ?_; rintro e w9 ⟨rfl, hy9⟩; refine Hid.out ?_)
        refine Lib.hid ?_
        have H9 := Lib.hid hy9
        clear hy8 hy9
        go_wp2
        go_roundg sp.nextS.nextS.rest.length
        case measure => have h8 := HEQ.out.2.1; have h9 := HG.out.1; omega
        case rel => exact ⟨sp.nextS.nextS, ds ++ [(by8 ee)], Nat.le_refl _, rfl, H9.out, HEQ.out.1, HEQ.out.2.2⟩
      · have hrg := rdec_rng hd1
        have HD := Lib.hid hd1
        have HEQ0 := Lib.hid (show esc sp.nextS = (by8 (digN 2 (ee - 48) sp.nextS.nextS).1, (digN 2 (ee - 48) sp.nextS.nextS).2) by
          rw [resc_dig (by rw [← HEE.out]; exact hd1), ← HEE.out])
        have HRG := Lib.hid hrg
        obtain ⟨hr0, hr1⟩ := hrg
        clear hlo hhi k97 k98 k102 k110 k114 k116 k118 k92 k34 k39 k10 hd1
        have HY := Lib.hid hy2
        clear hy2
        go_wp2_with (go_at_call 30; refine (rdec_true _ _ HD.out).mono ?_; rintro e w' ⟨rfl, rfl⟩)
        go_loopg [9, 10] 2 (fun n vv kv wr => ∃ (k : Nat) (s2 : St) (x : Int), 2 - k ≤ n ∧ kv = .int .i64 k ∧ k ≤ 2 ∧ vv = .int .i64 x ∧ 0 ≤ x ∧ x ≤ 999 ∧ (k = 0 → x ≤ 9) ∧ (k = 1 → x ≤ 99) ∧ Ro w R M sv all B wr s2 u6 ds ∧ digN (2 - k) x s2 = digN 2 (ee - 48) sp.nextS.nextS)
        case atStart => exact ⟨0, sp.nextS.nextS, ee - 48, by omega, rfl, by omega, by go_num, by have := HRG.out; omega, by have := HRG.out; omega, fun _ => by have := HRG.out; omega, fun e => by omega, HY.out, rfl⟩
        case round =>
          clear HY
          obtain ⟨k, s2, x, hgk, rfl, hk2, rfl, hx0, hx1, hx2, hx3, hyk, hdg⟩ := hrel
          have HGK := Lib.hid hgk
          clear hgk
          have hki : (k : Int) ≤ 2 := by omega
          by_cases hlt : k < 2
          · have hlti : (k : Int) < 2 := by omega
            have e1 : 2 - k = (2 - (k + 1)) + 1 := by omega
            cases hp : decI (hd s2.rest)
            · have HP := Lib.hid hp
              have HDD := Lib.hid (show digN 2 (ee - 48) sp.nextS.nextS = (x, s2) by
                rw [← hdg, e1]
                unfold digN
                rw [if_neg (by rw [hp]; decide)])
              have HX := Lib.hid (show x % 256 = ((by8 x).toNat : Int) from (by8_toNat x).symm)
              clear hx2 hx3 hdg hp e1
              go_wp2_with (go_at_call 27; refine (peek_ro hyk).mono ?_; rintro e w3 ⟨rfl, hyp⟩; refine Hid.out ?_)
              refine Lib.hid ?_
              clear hyk
              have hy2 := hyp
              clear hyp
              have HEQ := Lib.hid (FIN.out (by8 x) s2 (by rw [HEQ0.out, HDD.out]))
              go_wp2_with (first | (go_at_call 30; refine (rdec_false _ _ HP.out).mono ?_; rintro e w' ⟨rfl, rfl⟩) | (at_builtin; refine wpList_app1 rfl (.tmp 51) (.tmp 54) rfl _ B _ ds _ (by8 x) rfl rfl hy2.bs HX hy2.le HLM ?_; intro v8 w8 hb9 hl9; refine Hid.out ?_))
              refine Lib.hid ?_
              have hy8 := hy2.wrote hb9 hl9
              clear hy2 hb9 hl9
              go_wp2_with (go_at_call 28; refine (next_ro hy8).mono ?_; rintro e w9 ⟨rfl, hy9⟩; refine Hid.out ?_)
              refine Lib.hid ?_
              have H9 := Lib.hid hy9
              clear hy8 hy9
              go_wp2
              go_roundg s2.rest.length
              case measure => have h8 := HEQ.out.2.1; have h9 := HG.out.1; omega
              case rel => exact ⟨s2, ds ++ [(by8 x)], Nat.le_refl _, rfl, H9.out, HEQ.out.1, HEQ.out.2.2⟩
            · have HP := Lib.hid hp
              have hn9 : 48 ≤ s2.nextC ∧ s2.nextC ≤ 57 := by
                obtain ⟨y, n1, -, -, -⟩ := cls_step cls_dec hp
                have h8 := rdec_rng hp
                have h9 : s2.nextC = hd s2.rest := by
                  unfold St.nextC
                  rw [if_neg (by omega)]
                rw [h9]; exact h8
              have HDD := Lib.hid (show digN (2 - (k + 1)) (x * 10 + (s2.nextC - 48)) s2.nextS = digN 2 (ee - 48) sp.nextS.nextS by
                rw [← hdg, e1]
                show _ = digN ((2 - (k + 1)) + 1) x s2
                conv => rhs; unfold digN
                rw [if_pos hp])
              have HXB := Lib.hid (show 0 ≤ x * 10 + (s2.nextC - 48) ∧ x * 10 + (s2.nextC - 48) ≤ 999 ∧ (k + 1 = 0 → x * 10 + (s2.nextC - 48) ≤ 9) ∧ (k + 1 = 1 → x * 10 + (s2.nextC - 48) ≤ 99) from by
                refine ⟨by omega, ?_, fun e => by omega, fun e => ?_⟩
                · rcases (by omega : k = 0 ∨ k = 1) with e | e
                  · have := hx2 e; omega
                  · have := hx3 e; omega
                · have := hx2 (by omega); omega)
              have hx99 : x ≤ 99 := by
                rcases (by omega : k = 0 ∨ k = 1) with e | e
                · have := hx2 e; omega
                · exact hx3 e
              obtain ⟨y, hyy⟩ : ∃ y, y = s2.nextC := ⟨_, rfl⟩
              rw [← hyy] at hn9 HXB HDD
              have HYY := Lib.hid hyy
              obtain ⟨hn8, hn9⟩ := hn9
              clear hx2 hx3 hdg hp e1 hyy
              go_wp2_with (go_at_call 27; refine (peek_ro hyk).mono ?_; rintro e w3 ⟨rfl, hyp⟩; refine Hid.out ?_)
              refine Lib.hid ?_
              clear hyk
              go_wp2_with (first | (go_at_call 30; refine (rdec_true _ _ HP.out).mono ?_; rintro e w' ⟨rfl, rfl⟩) | (go_at_call 28; refine (next_ro hyp).mono ?_; rintro e w4 ⟨rfl, hyn⟩; refine Hid.out ?_))
              refine Lib.hid ?_
              rw [← HYY.out]
              have H6 := Lib.hid hyn
              clear hyp hyn
              go_wp2
              go_roundg (2 - (k + 1))
              case measure => have := HGK.out; omega
              case rel => exact ⟨k + 1, s2.nextS, x * 10 + (y - 48), Nat.le_refl _, by go_num, by omega, by go_num, HXB.out.1, HXB.out.2.1, HXB.out.2.2.1, HXB.out.2.2.2, H6.out, HDD.out⟩
          · obtain rfl : k = 2 := by omega
            have HDD := Lib.hid (show digN 2 (ee - 48) sp.nextS.nextS = (x, s2) by rw [← hdg]; rfl)
            have HX := Lib.hid (show x % 256 = ((by8 x).toNat : Int) from (by8_toNat x).symm)
            clear hx2 hx3 hdg hlt
            have hy2 := hyk
            clear hyk
            have HEQ := Lib.hid (FIN.out (by8 x) s2 (by rw [HEQ0.out, HDD.out]))
            go_wp2_with (at_builtin; refine wpList_app1 rfl (.tmp 51) (.tmp 54) rfl _ B _ ds _ (by8 x) rfl rfl hy2.bs HX hy2.le HLM ?_; intro v8 w8 hb9 hl9; refine Hid.out ?_)
            refine Lib.hid ?_
            have hy8 := hy2.wrote hb9 hl9
            clear hy2 hb9 hl9
            go_wp2_with (go_at_call 28; refine (next_ro hy8).mono ?_; rintro e w9 ⟨rfl, hy9⟩; refine Hid.out ?_)
            refine Lib.hid ?_
            have H9 := Lib.hid hy9
            clear hy8 hy9
            go_wp2
            go_roundg s2.rest.length
            case measure => have h8 := HEQ.out.2.1; have h9 := HG.out.1; omega
            case rel => exact ⟨s2, ds ++ [(by8 x)], Nat.le_refl _, rfl, H9.out, HEQ.out.1, HEQ.out.2.2⟩
    obtain ⟨m8, m9⟩ := b_no h92
    have hstr := strL_byte (q := q) (c := cc) (st := sp.nextS) (acc := ds) hq (by omega) h92
    have HN := Lib.hid (hstr.symm.trans hs)
    have HX := Lib.hid (show cc % 256 = ((by8 cc).toNat : Int) from (by8_toNat cc).symm)
    clear hs hcr hlo hq hcc h10 hng hne hstr h92
    go_wp2_with (at_builtin; refine wpList_app1 rfl (.tmp 110) (.tmp 113) rfl _ B _ ds _ (by8 cc) rfl rfl hro.bs HX hro.le HLM ?_; intro v8 w8 hb9 hl9; refine Hid.out ?_)
    refine Lib.hid ?_
    have hy8 := hro.wrote hb9 hl9
    clear hro hb9 hl9
    go_wp2_with (go_at_call 28; refine (next_ro hy8).mono ?_; rintro e w9 ⟨rfl, hy9⟩; refine Hid.out ?_)
    refine Lib.hid ?_
    have H9 := Lib.hid hy9
    clear hy8 hy9
    go_wp2
    go_roundg sp.nextS.rest.length
    case measure => have h8 := HLN.out; have h9 := HG.out.1; omega
    case rel => exact ⟨sp.nextS, ds ++ [by8 cc], Nat.le_refl _, rfl, H9.out, HN.out, by have h8 := HLN.out; have h9 := HG.out.2; rw [List.length_append]; simp only [List.length_cons, List.length_nil]; omega⟩
end Go.Proofs.YtgiklkapedlckaaGreatDoor
