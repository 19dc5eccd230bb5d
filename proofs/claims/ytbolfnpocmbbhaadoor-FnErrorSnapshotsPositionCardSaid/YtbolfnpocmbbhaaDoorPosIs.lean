/- posIs, ZZreadNext, walked. -/
import Derived.Test.YtbolfnpocmbbhaaDoorUse
namespace Go.Proofs.YtbolfnpocmbbhaaDoor
open Go.RowKit

set_option maxHeartbeats 1600000 in
theorem posIs_yes (w : World) (src : ByteArray) (l c : Int) :
    Calls Tryd.prog 12 #[.agg #[.string src, .int .i64 l, .int .i64 c], .string src, .int .i64 l, .int .i64 c] w
      fun e w' => e = .returned (.bool true) ∧ Fr [] w w' := by
  go_enter Tryd.func12, Tryd.ntmps12
  go_wp2
  go_ret
  exact ⟨rfl, (Fr.refl _ _).alloc _⟩

theorem zreadNext_cons (w : World) (L : Loc) (st : St) (lb : Option UInt8) (c : UInt8) (t : List UInt8) (h : Sc w L st lb) (hl : st.rest = c :: t) :
    Calls Tryd.prog 11 #[.pointer (some ⟨L.S, 0, none⟩)] w
      fun e w' => e = .returned (.int .i64 c.toNat) ∧ Sc w' L ⟨t, st.line, st.col⟩ (some c) ∧ Fr L.own w w' := by
  go_enter Tryd.func11, Tryd.ntmps11
  go_wp2_with (go_at_call 20; refine (readNext_cons w L st lb c t h hl).mono ?_; rintro e w' ⟨rfl, h', fr⟩)
  go_ret
  exact ⟨rfl, h', fr⟩
theorem zreadNext_nil (w : World) (L : Loc) (st : St) (lb : Option UInt8) (h : Sc w L st lb) (hl : st.rest = []) :
    Calls Tryd.prog 11 #[.pointer (some ⟨L.S, 0, none⟩)] w
      fun e w' => e = .returned (.int .i64 (-1)) ∧ Sc w' L st none ∧ Fr L.own w w' := by
  go_enter Tryd.func11, Tryd.ntmps11
  go_wp2_with (go_at_call 20; refine (readNext_nil w L st lb h hl).mono ?_; rintro e w' ⟨rfl, h', fr⟩)
  go_ret
  exact ⟨rfl, h', fr⟩

end Go.Proofs.YtbolfnpocmbbhaaDoor
