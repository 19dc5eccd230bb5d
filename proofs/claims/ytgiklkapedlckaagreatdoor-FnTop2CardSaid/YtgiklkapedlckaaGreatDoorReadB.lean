/- bufio.Reader: fill, readErr, ReadByte, UnreadByte, walked. -/
import Derived.Test.YtgiklkapedlckaaGreatDoorReadA
import Derived.LoopN
import Derived.Laws.CopyOwn
import Derived.Deep.DeepCutAuto
namespace Go.Proofs.YtgiklkapedlckaaGreatDoor
open Go.RowKit

/-- Which function 'Read' is of a *bytes.Reader held in an interface. -/
theorem read_method (u : Addr) (wx : World) : (method 273 33 (.pointer (some u)) "Read").run Tryz.prog wx = .ok (114, .pointer (some u)) wx := by kernel_rfl

set_option maxRecDepth 100000 in
set_option maxHeartbeats 4000000 in
/-- fill, everything read, nothing left below: io.EOF is noted. -/
theorem fill_eof (w : World) (L : Loc) (r : Nat) (bs : List UInt8) (lastB lastR : Int) (h : RdAt w L r r bs .nilIface lastB lastR []) (hr : r ≤ 4096) :
    Calls Tryz.prog 60 #[.pointer (some ⟨L.R, 0, none⟩)] w
      fun e w' => e = .returned (.tuple #[]) ∧ RdAt w' L 0 0 bs (eofV L.a) lastB lastR [] ∧ Fr [L.R] w w' := by
  have hri : (r : Int) ≤ 4096 := by omega
  obtain ⟨c0, _, c2, c3, _, _, _, f2, f3, _⟩ := h.facts
  go_enter Tryz.func60, Tryz.ntmps60
  go_upto_if 9 with fail
  go_cut [] (fun wc => RdAt wc L 0 0 bs .nilIface lastB lastR [] ∧ Fr [L.R] w wc)
  case first =>
    by_cases h0 : 0 < r
    · go_wp2
      go_still_tail 17, (by kernel_rfl)
      change wpList _ _ _ _ _ w.drew
      have h1 := h.drew
      have fr1 : Fr [L.R] w w.drew := (Fr.refl _ _).drew
      generalize w.drew = w1 at h1 fr1 ⊢
      clear c0 c2 c3 f2 f3
      obtain ⟨c0, _, c2, c3, _, _, _, f2, f3, _⟩ := h1.facts
      go_wp2_with (with_reducible refine wpList_copy_nothing rfl (.tmp 13) (.tmp 26) 22 22 rfl 5 Tryz.underlying22 (by kernel_rfl) _ _ _ _ _ _ rfl rfl (by simp) ?_)
      all_goals
        go_still_tail 11, (by kernel_rfl)
        change wpList _ _ _ _ _ w1.drew
        go_wp2
        go_meet
        exact ⟨((h1.set_wn 0).set_r 0).drew, ((fr1.setCell (by simp) _).setCell (by simp) _).drew⟩
    · obtain rfl : r = 0 := by omega
      go_wp2
      go_meet
      exact ⟨h, Fr.refl _ _⟩
  case rest =>
    clear c0 c2 c3 f2 f3
    obtain ⟨h1, fr1⟩ := hcut
    obtain ⟨c0, c1, c2, c3, _, _, _, f2, f3, _⟩ := h1.facts
    go_wp2
    go_quiet (fail)
    go_wp2
    have h2 := h1.drewN nq
    have fr2 := fr1.drewN nq
    generalize wc.drewN nq = w2 at h2 fr2 ⊢
    clear c0 c1 c2 c3 f2 f3 h1 fr1
    obtain ⟨c0, c1, c2, c3, _, _, _, f2, f3, f4, _⟩ := h2.facts
    refine wp_loop_rounds 1 ?_
    rw [rounds_succ]
    go_upto_region 9 with fail
    go_cut [3, 4] (fun s3 s4 wx => s3 = .int .i64 0 ∧ s4 = eofV L.a ∧ RdAt wx L 0 0 bs .nilIface lastB lastR [] ∧ Fr [L.R] w wx)
    case first =>
      have hm := read_method
      have h3 := h2.drew
      go_region_with (go_at_call 114; refine (sread_eof _ L.U L.D L.a L.M h3.bU h3.eof).mono ?_; rintro e w' ⟨rfl, nq, rfl⟩)
      all_goals (go_wp2_with fail; go_meet; exact ⟨rfl, rfl, h2.drewN _, fr2.drewN _⟩)
    case rest =>
      obtain ⟨rfl, rfl, h3, fr3⟩ := hcut
      clear c0 c1 c2 c3 f2 f3 f4 h2 fr2
      obtain ⟨_, _, _, c3, _, _, _, _, f3, f4, _⟩ := h3.facts
      unfold eofV
      go_wp2
      refine bodyPost_ret (results_none rfl _ _ _) rfl ?_
      exact ⟨rfl, (h3.set_wn 0).set_err _, (fr3.setCell (by simp) _).setCell (by simp) _⟩
set_option maxRecDepth 100000 in
set_option maxHeartbeats 4000000 in
/-- fill, everything read, something left below: as much as the array takes. -/
theorem fill_some (w : World) (L : Loc) (r : Nat) (bs : List UInt8) (lastB lastR : Int) (l2 : List UInt8) (h : RdAt w L r r bs .nilIface lastB lastR l2) (hr : r ≤ 4096) (hl0 : l2 ≠ []) (n : Nat) (hn : Hid (n = min 4096 l2.length)) :
    Calls Tryz.prog 60 #[.pointer (some ⟨L.R, 0, none⟩)] w
      fun e w' => e = .returned (.tuple #[]) ∧ RdAt w' L 0 n (l2.take 4096 ++ bs.drop n) .nilIface lastB lastR (l2.drop 4096) ∧ Fr [L.R, L.D, L.U] w w' := by
  have hri : (r : Int) ≤ 4096 := by omega
  have hn0 : (0 : Int) < (n : Int) := by
    have := hn.out
    have : 0 < l2.length := List.length_pos_iff.2 hl0
    omega
  have hn4 : (n : Int) ≤ 4096 := by have := hn.out; omega
  have hlen : (l2.take 4096 ++ bs.drop n).length = 4096 := by
    have h1 := hn.out
    have h2 := h.lD
    simp; omega
  obtain ⟨c0, _, c2, c3, _, _, _, f2, f3, _⟩ := h.facts
  go_enter Tryz.func60, Tryz.ntmps60
  go_upto_if 9 with fail
  go_cut [] (fun wc => RdAt wc L 0 0 bs .nilIface lastB lastR l2 ∧ Fr [L.R, L.D, L.U] w wc)
  case first =>
    by_cases h0 : 0 < r
    · go_wp2
      go_still_tail 17, (by kernel_rfl)
      change wpList _ _ _ _ _ w.drew
      have h1 := h.drew
      have fr1 : Fr [L.R, L.D, L.U] w w.drew := (Fr.refl _ _).drew
      generalize w.drew = w1 at h1 fr1 ⊢
      clear c0 c2 c3 f2 f3
      obtain ⟨c0, _, c2, c3, _, _, _, f2, f3, _⟩ := h1.facts
      go_wp2_with (with_reducible refine wpList_copy_nothing rfl (.tmp 13) (.tmp 26) 22 22 rfl 5 Tryz.underlying22 (by kernel_rfl) _ _ _ _ _ _ rfl rfl (by simp) ?_)
      all_goals
        go_still_tail 11, (by kernel_rfl)
        change wpList _ _ _ _ _ w1.drew
        go_wp2
        go_meet
        exact ⟨((h1.set_wn 0).set_r 0).drew, ((fr1.setCell (by simp) _).setCell (by simp) _).drew⟩
    · obtain rfl : r = 0 := by omega
      go_wp2
      go_meet
      exact ⟨h, Fr.refl _ _⟩
  case rest =>
    clear c0 c2 c3 f2 f3
    obtain ⟨h1, fr1⟩ := hcut
    obtain ⟨c0, c1, c2, c3, _, _, _, f2, f3, _⟩ := h1.facts
    go_wp2
    go_quiet (fail)
    go_wp2
    have h2 := h1.drewN nq
    have fr2 := fr1.drewN nq
    generalize wc.drewN nq = w2 at h2 fr2 ⊢
    clear c0 c1 c2 c3 f2 f3 h1 fr1
    obtain ⟨c0, c1, c2, c3, _, _, _, f2, f3, f4, _⟩ := h2.facts
    refine wp_loop_rounds 1 ?_
    rw [rounds_succ]
    go_upto_region 9 with fail
    go_cut [3, 4] (fun s3 s4 wx => s3 = .int .i64 n ∧ s4 = .nilIface ∧ RdAt wx L 0 0 (l2.take 4096 ++ bs.drop n) .nilIface lastB lastR (l2.drop 4096) ∧ Fr [L.R, L.D, L.U] w wx)
    case first =>
      have hm := read_method
      have h3 := h2.drew
      go_region_with (go_at_call 114; refine (sread_some _ L.U L.D L.M l2 bs h3.bU hl0 h3.bD h3.lD h3.ok.du.symm h3.ok.dm h3.ok.um n hn).mono ?_; rintro e w' ⟨rfl, hb', hs', fr'⟩)
      all_goals (go_wp2_with fail; go_meet; exact ⟨rfl, rfl, h3.read hb' hlen hs' fr', fr2.drew.trans (fr'.mono (by simp))⟩)
    case rest =>
      obtain ⟨rfl, rfl, h3, fr3⟩ := hcut
      clear c0 c1 c2 c3 f2 f3 f4 h2 fr2 hlen
      obtain ⟨_, _, _, c3, _, _, _, _, f3, f4, _⟩ := h3.facts
      go_wp2
      refine bodyPost_ret (results_none rfl _ _ _) rfl ?_
      exact ⟨rfl, h3.set_wn n, fr3.setCell (by simp) _⟩
end Go.Proofs.YtgiklkapedlckaaGreatDoor
