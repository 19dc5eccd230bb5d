/- countSep, walked. -/
import Derived.Test.YtgiklkapedlckaaGreatDoorUse
import Derived.Test.YtgiklkapedlckaaGreatDoorLex
import Derived.Deep.LoopGhost
namespace Go.Proofs.YtgiklkapedlckaaGreatDoor
open Go.RowKit

set_option maxHeartbeats 3200000 in
theorem countSep_any (w : World) (L : Loc) (st : St) (c : Int) (h : Sc w L st none) (hl : st.rest.length ≤ 1099511627776) :
    Calls Tryz.prog 43 #[.pointer (some ⟨L.S, 0, none⟩), .int .i64 c] w
      fun e w' => e = .returned (.tuple #[.int .i64 (sepL c st).1, .int .i64 (sepL c st).2.1]) ∧ Sc w' L (sepL c st).2.2 none ∧ Fr L.own w w' := by
  have hmu := mu_le c st
  go_enter Tryz.func43, Tryz.ntmps43
  go_wp2
  go_loopg [1, 6] (mu c st) (fun n ch cnt wr => ∃ (c' : Int) (sp : St) (k : Nat), mu c' sp ≤ n ∧ k + mu c' sp ≤ mu c st ∧ ch = .int .i64 c' ∧ cnt = .int .i64 k ∧ Sc wr L sp none ∧ sepL c st = ((sepL c' sp).1 + k, (sepL c' sp).2) ∧ Fr L.own w wr)
  case atStart => exact ⟨c, st, 0, Nat.le_refl _, by omega, rfl, rfl, h, rfl, Fr.refl _ _⟩
  case round =>
    obtain ⟨c', sp, k, hn, hk, rfl, rfl, hS, hsep, fr⟩ := hrel
    have HSEP := Lib.hid hsep
    have FR := Lib.hid fr
    have hk2 : (k : Int) ≤ 1099511627777 := by omega
    clear hsep fr h
    by_cases hc : c' = 61
    · subst hc
      have hm := mu_next (c := 61) (st := sp) (by decide)
      have HM := Lib.hid (show k + 1 + mu sp.nextC sp.nextS ≤ mu c st by omega)
      clear hmu hk
      go_wp2_with (go_at_call 18; refine (next_any wr L sp none hS).mono ?_; rintro e w' ⟨rfl, h', fr'⟩; refine Hid.out ?_)
      refine Lib.hid ?_
      have H' := Lib.hid h'
      have FR' := Lib.hid (FR.out.trans fr')
      clear h' fr' hS
      go_wp2
      go_roundg (mu sp.nextC sp.nextS)
      case measure => omega
      case rel => exact ⟨sp.nextC, sp.nextS, k + 1, Nat.le_refl _, HM.out, rfl, by go_num, H'.out, by rw [HSEP.out, sepL_yes]; simp only [Nat.add_assoc, Nat.add_comm 1 k], FR'.out⟩
    · have hb : (c' == 61) = false := by rw [beq_eq_false_iff_ne]; exact hc
      have HS := Lib.hid (show sepL c st = (k, c', sp) by rw [HSEP.out, sepL_no hc]; simp)
      clear hc hmu hk
      go_wp2
      go_ret2
      rw [HS.out]
      exact ⟨rfl, hS, FR.out⟩
end Go.Proofs.YtgiklkapedlckaaGreatDoor
