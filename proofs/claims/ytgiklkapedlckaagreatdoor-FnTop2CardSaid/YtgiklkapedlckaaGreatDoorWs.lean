/- skipWhiteSpace, walked. -/
import Derived.Test.YtgiklkapedlckaaGreatDoorWsP
import Derived.Test.YtgiklkapedlckaaGreatDoorUse
import Derived.Deep.LoopGhost
namespace Go.Proofs.YtgiklkapedlckaaGreatDoor
open Go.RowKit

set_option maxHeartbeats 3200000 in
theorem skip_any (w : World) (L : Loc) (st : St) (lb : Option UInt8) (m : Int) (h : Sc w L st lb) :
    Calls Tryz.prog 9 #[.pointer (some ⟨L.S, 0, none⟩), .int .i64 m] w
      fun e w' => e = .returned (.int .i64 (st.skip m).1) ∧ Sc w' L (st.skip m).2 none ∧ Fr L.own w w' := by
  go_enter Tryz.func9, Tryz.ntmps9
  go_wp2_with (go_at_call 18; refine (next_any w L st lb h).mono ?_; rintro e w' ⟨rfl, h', fr⟩; refine Hid.out ?_)
  refine Lib.hid ?_
  clear h
  go_wp2
  go_loopg [5] st.rest.length (fun n c wr => ∃ sp : St, sp.rest.length ≤ n ∧ c = .int .i64 sp.nextC ∧ Sc wr L sp.nextS none ∧ sp.skip m = st.skip m ∧ Fr L.own w wr)
  case atStart => exact ⟨st, Nat.le_refl _, rfl, h', rfl, fr⟩
  case round =>
    clear h' fr
    obtain ⟨sp, hn, rfl, hSr, hsk, frr⟩ := hrel
    have HSK := Lib.hid hsk
    have FRR := Lib.hid frr
    clear hsk frr
    cases hm : inM m sp.nextC
    · have HM := Lib.hid hm
      unfold inM at hm
      go_wp2
      go_ret
      rw [← HSK.out, skip_stop HM.out]
      exact ⟨rfl, hSr, FRR.out⟩
    · have HM := Lib.hid hm
      have hl := (St.nextS_len (rest_of_inM hm)).1
      unfold inM at hm
      go_wp2_with (go_at_call 18; refine (next_any wr L sp.nextS none hSr).mono ?_; rintro e w' ⟨rfl, h', fr⟩; refine Hid.out ?_)
      refine Lib.hid ?_
      go_wp2
      go_roundg sp.nextS.rest.length
      case measure => omega
      case rel => exact ⟨sp.nextS, Nat.le_refl _, rfl, h', (skip_more HM.out).symm.trans HSK.out, FRR.out.trans fr⟩

end Go.Proofs.YtgiklkapedlckaaGreatDoor
