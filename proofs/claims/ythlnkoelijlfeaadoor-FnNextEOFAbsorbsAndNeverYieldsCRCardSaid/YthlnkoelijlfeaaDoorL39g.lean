/- The law FnNextEOFAbsorbsAndNeverYieldsCR, walked. -/
import Derived.Test.YthlnkoelijlfeaaDoorWs39
namespace Go.Proofs.YthlnkoelijlfeaaDoor
open Go.RowKit

set_option maxHeartbeats 1600000 in
theorem g39_no (w : World) (s : ByteArray) (h : ¬ (s.size ≤ 1048576 ∧ s.size ≤ 65536)) :
    Calls Tryd.prog 9 #[.string s] w fun e w' => e = .returned (.bool true) ∧ w' = w := by
  by_cases h0 : s.size ≤ 1048576
  case neg =>
    have hf : (1048576 : Int) < (s.size : Int) := by omega
    clear h h0
    go_enter Tryd.func9, Tryd.ntmps9
    go_wp2
    go_ret
    exact ⟨rfl, rfl⟩
  by_cases h1 : s.size ≤ 65536
  case neg =>
    have hf : (65536 : Int) < (s.size : Int) := by omega
    clear h h1
    go_enter Tryd.func9, Tryd.ntmps9
    go_wp2
    go_ret
    exact ⟨rfl, rfl⟩
  exact absurd ⟨h0, h1⟩ h

set_option maxHeartbeats 4000000 in
theorem g39_yes (w : World) (a : Addr) (s : ByteArray) (he : HasEof w a) (h : s.size ≤ 1048576 ∧ s.size ≤ 65536) :
    Calls Tryd.prog 9 #[.string s] w fun e w' => e = .returned (.bool true) ∧ Fr [] w w' := by
  obtain ⟨h1, h2⟩ := h
  have b1 : decide ((1048576 : Int) < (s.size : Int)) = false := by rw [decide_eq_false_iff_not]; omega
  have b2 : decide ((65536 : Int) < (s.size : Int)) = false := by rw [decide_eq_false_iff_not]; omega
  go_enter Tryd.func9, Tryd.ntmps9
  go_wp2_with (first | (go_at_call 12; refine (znew _ a s _ he h1).mono ?_; rintro e w1 hN; obtain ⟨L, hLs, hown, hlt, rfl, hSc, fr, he1⟩ := hN; refine Hid.out ?_) | go_in)
  refine Lib.hid ?_
  have HLs := Lib.hid hLs
  have HOWN := Lib.hid hown
  have FR0 := Lib.hid fr
  clear he he1 hLs hown hlt fr
  go_wp2
  go_loopw [4, 5, 6] (fun c r n wr => ∃ (k : Nat) (st : St), c = .int .i64 k ∧ r = .bool false ∧ n = .int .i64 k ∧ Sc wr L st none ∧ st.rest.length + k ≤ s.size ∧ s.size ≤ st.rest.length + 2 * k ∧ Fr [] w wr) (fun _ _ n _ => s.size + 1 - (intOf n).toNat)
  case atStart => exact ⟨0, ⟨s.data.toList, 1, 0⟩, rfl, rfl, rfl, hSc, by simp [Array.length_toList], by simp [Array.length_toList], FR0.out⟩
  case round =>
    obtain ⟨k, st, rfl, rfl, rfl, hSr, hk, hkk, frr⟩ := hrel
    have FRR := Lib.hid frr
    clear frr hSc
    have hk2 : (k : Int) ≤ s.size := by omega
    obtain ⟨wo, rfl⟩ : ∃ wo : World, wo = wr := ⟨_, rfl⟩
    by_cases hn : st.rest = []
    · have hk3 : (s.size : Int) ≤ 2 * (k : Int) := by rw [hn] at hkk; simp at hkk; omega
      have hq := next_eof wo L st none hSr hn
      clear hn hk hkk
      go_wp2_with (go_at_call 20; refine hq.mono ?_; rintro e w5 ⟨rfl, h5, fr5⟩; refine Hid.out ?_)
      refine Lib.hid ?_
      have FR5 := Lib.hid (Fr.new FRR.out fr5 HOWN.out)
      clear hq fr5 hSr FRR
      go_wp2
      go_loopw [8] (fun j wr => ∃ n : Nat, n ≤ 3 ∧ j = .int .i64 n ∧ Sc wr L ⟨[], -1, 0⟩ none ∧ Fr [] w wr) (fun j _ => 3 - (intOf j).toNat)
      case atStart => exact ⟨0, by omega, rfl, h5, FR5.out⟩
      case round =>
        obtain ⟨n, hn, rfl, hSi, fri⟩ := hrel
        have FRI := Lib.hid fri
        clear fri h5 FR5
        by_cases hlt : n < 3
        · go_wp2_with (go_at_call 17; refine (peek_nil _ L _ none hSi rfl).mono ?_; rintro e w6 ⟨rfl, h6, fr6⟩; refine Hid.out ?_)
          refine Lib.hid ?_
          have FR6 := Lib.hid (Fr.new FRI.out fr6 HOWN.out)
          go_wp2_with (go_at_call 20; refine (next_eof w6 L _ none h6 rfl).mono ?_; rintro e w7 ⟨rfl, h7, fr7⟩; refine Hid.out ?_)
          refine Lib.hid ?_
          have FR7 := Lib.hid (Fr.new FR6.out fr7 HOWN.out)
          obtain ⟨c0, c1, c2, _⟩ := h7.facts
          clear h6 fr6 fr7 FR6
          go_wp2
          go_roundw
          case rel => exact ⟨n + 1, by omega, by go_num, h7, FR7.out⟩
          case measure => simp [intOf]; omega
        · go_wp2
          go_ret
          exact ⟨rfl, FRI.out⟩
    · have hl := St.nextS_len hn
      have hc : ¬ st.nextC < 0 := fun h => hn (St.nextC_neg.1 h)
      have hc2 : 0 ≤ st.nextC := by omega
      have hc3 := st.nextC_hi
      obtain ⟨e1, e2⟩ := b_no st.nextC_cr
      clear hn
      go_wp2_with (go_at_call 20; refine (next_any _ L st none hSr).mono ?_; rintro e w5 ⟨rfl, h5, fr5⟩; refine Hid.out ?_)
      refine Lib.hid ?_
      have FR5 := Lib.hid (Fr.new FRR.out fr5 HOWN.out)
      clear fr5 hSr FRR
      go_wp2
      go_roundw
      case rel => exact ⟨k + 1, st.nextS, by go_num, rfl, by go_num, h5, by omega, by omega, FR5.out⟩
      case measure => simp [intOf]; omega

theorem g39_walk (W : World) (a : Addr) (he : HasEof W a) (s : ByteArray) :
    Calls Tryd.prog 9 #[.string s] W fun e w' => e = .returned (.bool true) ∧ Below W.heap.size W w' := by
  by_cases h : s.size ≤ 1048576 ∧ s.size ≤ 65536
  · exact (g39_yes W a s he h).mono fun _ _ ⟨h1, h2⟩ => ⟨h1, h2.below (Nat.le_refl _) (by simp)⟩
  · exact (g39_no W s h).mono fun _ _ ⟨h1, h2⟩ => ⟨h1, h2 ▸ Below.refl _ _⟩
end Go.Proofs.YthlnkoelijlfeaaDoor
