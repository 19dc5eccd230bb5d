/- The law FnSkipWhiteSpaceFirstOutsideMask, walked. -/
import Derived.Test.YthlnkoelijlfeaaDoorWs39
namespace Go.Proofs.YthlnkoelijlfeaaDoor
open Go.RowKit

set_option maxHeartbeats 1600000 in
theorem b39_no (w : World) (s : ByteArray) (m : Int) (h : ¬ (s.size ≤ 1048576 ∧ s.size ≤ 65536)) :
    Calls Tryd.prog 3 #[.string s, .int .i64 m] w fun e w' => e = .returned (.bool true) ∧ w' = w := by
  by_cases h0 : s.size ≤ 1048576
  case neg =>
    have hf : (1048576 : Int) < (s.size : Int) := by omega
    clear h h0
    go_enter Tryd.func3, Tryd.ntmps3
    go_wp2
    go_ret
    exact ⟨rfl, rfl⟩
  by_cases h1 : s.size ≤ 65536
  case neg =>
    have hf : (65536 : Int) < (s.size : Int) := by omega
    clear h h1
    go_enter Tryd.func3, Tryd.ntmps3
    go_wp2
    go_ret
    exact ⟨rfl, rfl⟩
  exact absurd ⟨h0, h1⟩ h

set_option maxHeartbeats 4000000 in
theorem b39_yes (w : World) (a : Addr) (s : ByteArray) (m : Int) (he : HasEof w a) (h : s.size ≤ 1048576 ∧ s.size ≤ 65536) :
    Calls Tryd.prog 3 #[.string s, .int .i64 m] w fun e w' => e = .returned (.bool true) ∧ Fr [] w w' := by
  obtain ⟨h1, h2⟩ := h
  have b1 : decide ((1048576 : Int) < (s.size : Int)) = false := by rw [decide_eq_false_iff_not]; omega
  have b2 : decide ((65536 : Int) < (s.size : Int)) = false := by rw [decide_eq_false_iff_not]; omega
  go_enter Tryd.func3, Tryd.ntmps3
  go_wp2_with (first | (go_at_call 12; refine (znew _ a s _ he h1).mono ?_; rintro e w1 hN; obtain ⟨L, hLs, hown, hlt, rfl, hSc, fr, he1⟩ := hN; refine Hid.out ?_) | go_in)
  refine Lib.hid ?_
  have HLs := Lib.hid hLs
  have HOWN := Lib.hid hown
  have FR0 := Lib.hid fr
  clear he he1 hLs hown hlt fr
  go_wp2
  obtain ⟨st0, est⟩ : ∃ st0 : St, st0 = ⟨s.data.toList, 1, 0⟩ := ⟨_, rfl⟩
  have hs0 : st0.rest = s.data.toList.drop 0 ∧ st0.line = 1 ∧ st0.col = 0 ∧ st0.rest.length ≤ s.size := by subst est; exact ⟨rfl, rfl, rfl, by simp [Array.length_toList]⟩
  rw [← est] at hSc
  have hbd0 := hSc.bd
  clear est
  go_loop [6, 7, 8, 9] (fun i l c n => ∃ (j k : Nat) (sp : St), i = .int .i64 j ∧ l = .int .i64 sp.line ∧ c = .int .i64 sp.col ∧ n = .int .i64 k ∧ j ≤ s.size ∧ sp.rest = s.data.toList.drop j ∧ sp.Bd ∧ sp.skip m = st0.skip m ∧ sp.rest.length + k ≤ s.size) (fun _ _ _ n => s.size + 1 - (intOf n).toNat)
  case atStart => exact ⟨0, 0, st0, rfl, by rw [hs0.2.1], by rw [hs0.2.2.1], rfl, Nat.zero_le _, hs0.1, hbd0, rfl, hs0.2.2.2⟩
  case round =>
    obtain ⟨j, k, st, rfl, rfl, rfl, rfl, hj, hst, hbd, hsk, hk⟩ := hrel
    have HST := Lib.hid hst
    have HSK := Lib.hid hsk
    have hrest := step_rest hst
    have HJ := Lib.hid hrest
    have HJL := Lib.hid (step_le hst hj)
    have HZ := Lib.hid (zskip _ L st0 none m hSc)
    have hz := HZ.out
    clear hst hs0 hbd0 hsk hrest
    have hk2 : (k : Int) ≤ s.size := by omega
    have hc0 := st.nextC_lo
    have hc1 := st.nextC_hi
    cases hm : inM m st.nextC
    · have hz : Calls Tryd.prog 16 #[.pointer (some ⟨L.S, 0, none⟩), .int .i64 m] w1
          fun e w' => e = .returned (.int .i64 st.nextC) ∧ Sc w' L st.nextS none ∧ Fr L.own w1 w' := by
        have := HZ.out
        rw [← HSK.out, skip_stop hm] at this
        exact this
      have hq := outside_any w1 st.nextC m hc0 hc1
      rw [hm] at hq
      clear hm hk
      go_wp2_with (first | (go_at_call 13; refine (step_st _ s j st HST hj h1).mono ?_; rintro e w' ⟨rfl, rfl⟩) | (go_at_call 14; refine (adv_st _ st hbd).mono ?_; rintro e w' ⟨rfl, rfl⟩) | (go_at_call 15; refine hq.mono ?_; rintro e w' ⟨rfl, rfl⟩) | (go_at_call 16; refine hz.mono ?_; rintro e w5 ⟨rfl, h5, fr5⟩; refine Hid.out ?_))
      refine Lib.hid ?_
      obtain ⟨c0, c1, c2, _⟩ := h5.facts
      have FR := Lib.hid (Fr.new FR0.out fr5 HOWN.out)
      have hj2 := HJL.out
      clear fr5 hz hq
      have FR5 := Lib.hid h5
      go_wp2_with (first | (go_at_call 17; refine (peek_any _ L st.nextS none h5).mono ?_; rintro e w6 ⟨rfl, h6, fr6⟩) | (go_at_call 18; refine (raw_st _ s (j + eat st.rest) st.nextS HJ h1 (by omega)).mono ?_; rintro e w' ⟨rfl, rfl⟩) | go_in)
      go_ret
      exact ⟨by simp, Fr.new FR.out fr6 HOWN.out⟩
    · have hl := (St.nextS_len (rest_of_inM hm)).1
      have HM := Lib.hid hm
      have hq := outside_any w1 st.nextC m hc0 hc1
      rw [hm] at hq
      clear hm
      go_wp2_with (first | (go_at_call 13; refine (step_st _ s j st HST hj h1).mono ?_; rintro e w' ⟨rfl, rfl⟩) | (go_at_call 14; refine (adv_st _ st hbd).mono ?_; rintro e w' ⟨rfl, rfl⟩) | (go_at_call 15; refine hq.mono ?_; rintro e w' ⟨rfl, rfl⟩))
      go_round
      case rel => exact ⟨j + eat st.rest, k + 1, st.nextS, rfl, rfl, rfl, by go_num, HJL.out, HJ.out, hbd.next, (skip_more HM.out).symm.trans HSK.out, by omega⟩
      case measure => simp [intOf]; omega

theorem b39_walk (W : World) (a : Addr) (he : HasEof W a) (s : ByteArray) (m : Int) :
    Calls Tryd.prog 3 #[.string s, .int .i64 m] W fun e w' => e = .returned (.bool true) ∧ Below W.heap.size W w' := by
  by_cases h : s.size ≤ 1048576 ∧ s.size ≤ 65536
  · exact (b39_yes W a s m he h).mono fun _ _ ⟨h1, h2⟩ => ⟨h1, h2.below (Nat.le_refl _) (by simp)⟩
  · exact (b39_no W s m h).mono fun _ _ ⟨h1, h2⟩ => ⟨h1, h2 ▸ Below.refl _ _⟩
end Go.Proofs.YthlnkoelijlfeaaDoor
