/- isDecimal, isIdent, isDigit: the classes of characters. -/
import Derived.Test.YtgiklkapedlckaaGreatDoorLex
import Derived.Test.YtgiklkapedlckaaGreatDoorRows
import Derived.WalkKit
import Derived.Lib.Hide
namespace Go.Proofs.YtgiklkapedlckaaGreatDoor
open Go.RowKit

theorem dec_iff (c : Int) : decI c = decide (48 ≤ c ∧ c ≤ 57) := by
  unfold decI; rw [Bool.eq_iff_iff]; simp
set_option maxHeartbeats 1600000 in
theorem isDecimal_any (w : World) (c : Int) : Calls Tryz.prog 14 #[.int .i64 c] w fun e w' => e = .returned (.bool (decI c)) ∧ w = w' := by
  by_cases h1 : 48 ≤ c
  · by_cases h2 : c ≤ 57
    · have HD := Lib.hid (show decI c = true by rw [dec_iff, decide_eq_true_eq]; exact ⟨h1, h2⟩)
      rw [HD.out]
      go_enter Tryz.func14, Tryz.ntmps14
      go_wp2
      go_ret
      exact ⟨rfl, rfl⟩
    · have HD := Lib.hid (show decI c = false by rw [dec_iff, decide_eq_false_iff_not]; omega)
      rw [HD.out]
      go_enter Tryz.func14, Tryz.ntmps14
      go_wp2
      go_ret
      exact ⟨rfl, rfl⟩
  · have HD := Lib.hid (show decI c = false by rw [dec_iff, decide_eq_false_iff_not]; omega)
    rw [HD.out]
    go_enter Tryz.func14, Tryz.ntmps14
    go_wp2
    go_ret
    exact ⟨rfl, rfl⟩
theorem isDecimal_yes (w : World) (c : Int) (h : Hid (decI c = true)) : Calls Tryz.prog 14 #[.int .i64 c] w fun e w' => e = .returned (.bool true) ∧ w = w' := by
  have := isDecimal_any w c; rw [h.out] at this; exact this
theorem isDecimal_no (w : World) (c : Int) (h : Hid (decI c = false)) : Calls Tryz.prog 14 #[.int .i64 c] w fun e w' => e = .returned (.bool false) ∧ w = w' := by
  have := isDecimal_any w c; rw [h.out] at this; exact this
end Go.Proofs.YtgiklkapedlckaaGreatDoor
