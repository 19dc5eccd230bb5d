/- The law FnPeekShowsNextRawByte, walked. -/
import Derived.Test.YthlnkoelijlfeaaDoorN39
namespace Go.Proofs.YthlnkoelijlfeaaDoor
open Go.RowKit

set_option maxHeartbeats 1600000 in
theorem c39_no (w : World) (s : ByteArray) (h : ¬ (s.size ≤ 1048576 ∧ s.size ≤ 65536)) :
    Calls Tryd.prog 7 #[.string s] w fun e w' => e = .returned (.bool true) ∧ w' = w := by
  by_cases h0 : s.size ≤ 1048576
  case neg =>
    have hf : (1048576 : Int) < (s.size : Int) := by omega
    clear h h0
    go_enter Tryd.func7, Tryd.ntmps7
    go_wp2
    go_ret
    exact ⟨rfl, rfl⟩
  by_cases h1 : s.size ≤ 65536
  case neg =>
    have hf : (65536 : Int) < (s.size : Int) := by omega
    clear h h1
    go_enter Tryd.func7, Tryd.ntmps7
    go_wp2
    go_ret
    exact ⟨rfl, rfl⟩
  exact absurd ⟨h0, h1⟩ h

set_option maxHeartbeats 4000000 in
theorem c39_yes (w : World) (a : Addr) (s : ByteArray) (he : HasEof w a) (h : s.size ≤ 1048576 ∧ s.size ≤ 65536) :
    Calls Tryd.prog 7 #[.string s] w fun e w' => e = .returned (.bool true) ∧ Fr [] w w' := by
  obtain ⟨h1, h2⟩ := h
  have b1 : decide ((1048576 : Int) < (s.size : Int)) = false := by rw [decide_eq_false_iff_not]; omega
  have b2 : decide ((65536 : Int) < (s.size : Int)) = false := by rw [decide_eq_false_iff_not]; omega
  go_enter Tryd.func7, Tryd.ntmps7
  go_wp2_with (first | (go_at_call 12; refine (znew _ a s _ he h1).mono ?_; rintro e w1 hN; obtain ⟨L, hLs, hown, hlt, rfl, hSc, fr, he1⟩ := hN; refine Hid.out ?_) | go_in)
  refine Lib.hid ?_
  have HLs := Lib.hid hLs
  have HOWN := Lib.hid hown
  have FR0 := Lib.hid fr
  clear he he1 hLs hown hlt fr
  go_wp2
  go_loopw [4, 5] (fun i n wr => ∃ (j k : Nat) (st : St), i = .int .i64 j ∧ n = .int .i64 k ∧ j ≤ s.size ∧ st.rest = s.data.toList.drop j ∧ Sc wr L st none ∧ st.rest.length + k ≤ s.size ∧ Fr [] w wr) (fun _ n _ => s.size + 1 - (intOf n).toNat)
  case atStart => exact ⟨0, 0, ⟨s.data.toList, 1, 0⟩, rfl, rfl, Nat.zero_le _, rfl, hSc, by simp [Array.length_toList], FR0.out⟩
  case round =>
    obtain ⟨j, k, st, rfl, rfl, hj, hst, hSr, hk, frr⟩ := hrel
    have FRR := Lib.hid frr
    have HST := Lib.hid hst
    have HJ := Lib.hid (step_rest hst)
    have HJL := Lib.hid (step_le hst hj)
    have hbd := hSr.bd
    obtain ⟨d0, d1, d2, _⟩ := hSr.facts
    clear frr hSc hst
    have hk2 : (k : Int) ≤ s.size := by omega
    by_cases hn : st.rest = []
    · have hc := St.nextC_neg.2 hn
      clear hn hk
      go_wp2_with (first | (go_at_call 17; refine (peek_any wr L st none hSr).mono ?_; rintro e w3 ⟨rfl, h3, fr3⟩; refine Hid.out ?_))
      refine Lib.hid ?_
      have FR3 := Lib.hid (Fr.new FRR.out fr3 HOWN.out)
      clear fr3
      go_wp2_with (first | (go_at_call 17; refine (peek_any w3 L st none h3).mono ?_; rintro e w4 ⟨rfl, h4, fr4⟩; refine Hid.out ?_))
      refine Lib.hid ?_
      obtain ⟨c0, c1, c2, _⟩ := h4.facts
      have FR4 := Lib.hid (Fr.new FR3.out fr4 HOWN.out)
      clear fr4 h3 FR3
      go_wp2_with (first | (go_at_call 18; refine (raw_st _ s j st HST h1 (by omega)).mono ?_; rintro e w' ⟨rfl, rfl⟩) | (go_at_call 13; refine (step_st _ s j st HST hj h1).mono ?_; rintro e w' ⟨rfl, rfl⟩) | (go_at_call 20; refine (next_any _ L st none h4).mono ?_; rintro e w5 ⟨rfl, h5, fr5⟩; refine Hid.out ?_))
      refine Lib.hid ?_
      have FR := Lib.hid (Fr.new FR4.out fr5 HOWN.out)
      have H5 := Lib.hid h5
      clear fr5 h4 h5 FR4
      go_wp2
      go_ret
      exact ⟨rfl, FR.out⟩
    · have hl := (St.nextS_len hn).1
      have hc : ¬ st.nextC < 0 := fun h => hn (St.nextC_neg.1 h)
      have hc2 : 0 ≤ st.nextC := by omega
      clear hn
      go_wp2_with (first | (go_at_call 17; refine (peek_any wr L st none hSr).mono ?_; rintro e w3 ⟨rfl, h3, fr3⟩; refine Hid.out ?_))
      refine Lib.hid ?_
      have FR3 := Lib.hid (Fr.new FRR.out fr3 HOWN.out)
      clear fr3
      go_wp2_with (first | (go_at_call 17; refine (peek_any w3 L st none h3).mono ?_; rintro e w4 ⟨rfl, h4, fr4⟩; refine Hid.out ?_))
      refine Lib.hid ?_
      obtain ⟨c0, c1, c2, _⟩ := h4.facts
      have FR4 := Lib.hid (Fr.new FR3.out fr4 HOWN.out)
      clear fr4 h3 FR3
      go_wp2_with (first | (go_at_call 18; refine (raw_st _ s j st HST h1 (by omega)).mono ?_; rintro e w' ⟨rfl, rfl⟩) | (go_at_call 13; refine (step_st _ s j st HST hj h1).mono ?_; rintro e w' ⟨rfl, rfl⟩) | (go_at_call 20; refine (next_any _ L st none h4).mono ?_; rintro e w5 ⟨rfl, h5, fr5⟩; refine Hid.out ?_))
      refine Lib.hid ?_
      have FR := Lib.hid (Fr.new FR4.out fr5 HOWN.out)
      have H5 := Lib.hid h5
      clear fr5 h4 h5 FR4
      go_wp2
      go_roundw
      case rel => exact ⟨j + eat st.rest, k + 1, st.nextS, rfl, by go_num, HJL.out, HJ.out, H5.out, by omega, FR.out⟩
      case measure => simp [intOf]; omega

theorem c39_walk (W : World) (a : Addr) (he : HasEof W a) (s : ByteArray) :
    Calls Tryd.prog 7 #[.string s] W fun e w' => e = .returned (.bool true) ∧ Below W.heap.size W w' := by
  by_cases h : s.size ≤ 1048576 ∧ s.size ≤ 65536
  · exact (c39_yes W a s he h).mono fun _ _ ⟨h1, h2⟩ => ⟨h1, h2.below (Nat.le_refl _) (by simp)⟩
  · exact (c39_no W s h).mono fun _ _ ⟨h1, h2⟩ => ⟨h1, h2 ▸ Below.refl _ _⟩
end Go.Proofs.YthlnkoelijlfeaaDoor
