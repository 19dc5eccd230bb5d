/- The law FnPeekDoesNotDisturbStream, walked. -/
import Derived.Test.YthlnkoelijlfeaaDoorTwo39
namespace Go.Proofs.YthlnkoelijlfeaaDoor
open Go.RowKit

set_option maxHeartbeats 1600000 in
theorem d39_no (w : World) (s p : ByteArray) (h : ¬ (s.size ≤ 1048576 ∧ p.size ≤ 1048576 ∧ s.size + p.size ≤ 1048576 ∧ s.size ≤ 65536 ∧ p.size ≤ 65536)) :
    Calls Tryd.prog 5 #[.string s, .string p] w fun e w' => e = .returned (.bool true) ∧ w' = w := by
  by_cases h0 : s.size ≤ 1048576
  case neg =>
    have hf : (1048576 : Int) < (s.size : Int) := by omega
    clear h h0
    go_enter Tryd.func5, Tryd.ntmps5
    go_wp2
    go_ret
    exact ⟨rfl, rfl⟩
  by_cases h1 : p.size ≤ 1048576
  case neg =>
    have hf : (1048576 : Int) < (p.size : Int) := by omega
    clear h h1
    go_enter Tryd.func5, Tryd.ntmps5
    go_wp2
    go_ret
    exact ⟨rfl, rfl⟩
  by_cases h2 : s.size + p.size ≤ 1048576
  case neg =>
    have hf : (1048576 : Int) < (s.size : Int) + (p.size : Int) := by omega
    clear h h2
    go_enter Tryd.func5, Tryd.ntmps5
    go_wp2
    go_ret
    exact ⟨rfl, rfl⟩
  by_cases h3 : s.size ≤ 65536
  case neg =>
    have hf : (65536 : Int) < (s.size : Int) := by omega
    clear h h3
    go_enter Tryd.func5, Tryd.ntmps5
    go_wp2
    go_ret
    exact ⟨rfl, rfl⟩
  by_cases h4 : p.size ≤ 65536
  case neg =>
    have hf : (65536 : Int) < (p.size : Int) := by omega
    clear h h4
    go_enter Tryd.func5, Tryd.ntmps5
    go_wp2
    go_ret
    exact ⟨rfl, rfl⟩
  exact absurd ⟨h0, h1, h2, h3, h4⟩ h

set_option maxHeartbeats 4000000 in
theorem d39_yes (w : World) (a : Addr) (s p : ByteArray) (he : HasEof w a) (h : s.size ≤ 1048576 ∧ p.size ≤ 1048576 ∧ s.size + p.size ≤ 1048576 ∧ s.size ≤ 65536 ∧ p.size ≤ 65536) :
    Calls Tryd.prog 5 #[.string s, .string p] w fun e w' => e = .returned (.bool true) ∧ Fr [] w w' := by
  obtain ⟨h1, h2, h3, h4, h5⟩ := h
  have b0 : decide ((1048576 : Int) < (s.size : Int)) = false := by rw [decide_eq_false_iff_not]; omega
  have b1 : decide ((1048576 : Int) < (p.size : Int)) = false := by rw [decide_eq_false_iff_not]; omega
  have b2 : decide ((1048576 : Int) < (s.size : Int) + (p.size : Int)) = false := by rw [decide_eq_false_iff_not]; omega
  have b3 : decide ((65536 : Int) < (s.size : Int)) = false := by rw [decide_eq_false_iff_not]; omega
  have b4 : decide ((65536 : Int) < (p.size : Int)) = false := by rw [decide_eq_false_iff_not]; omega
  have hg0 := he.2
  go_enter Tryd.func5, Tryd.ntmps5
  go_wp2_with (first | (go_at_call 12; refine (znew _ a s _ he h1).mono ?_; rintro e w1 hN; obtain ⟨L, hLs, hown, hlt, rfl, hSc, fr, he1⟩ := hN; refine Hid.out ?_) | go_in)
  refine Lib.hid ?_
  go_wp2_with (first | (go_at_call 12; refine (znew _ L.a s _ he1 h1).mono ?_; rintro e w2 hN; obtain ⟨M, hMs, mown, mlt, rfl, hMc, frm, he2⟩ := hN; refine Hid.out ?_) | go_in)
  refine Lib.hid ?_
  have hap := Lib.hid (Ap.mk' hg0 hown hlt mown)
  have HOWN := Lib.hid hown
  have MOWN := Lib.hid (fun k hk => Nat.le_trans fr.size (mown k hk))
  have FR0 := Lib.hid (fr.trans frm)
  have hSc := hSc.fr frm
  clear he he1 he2 hLs hMs hown hlt mown mlt fr frm hg0
  go_wp2
  go_loopw [7] (fun n wr => ∃ (k : Nat) (st : St), n = .int .i64 k ∧ Sc wr L st none ∧ Sc wr M st none ∧ st.rest.length + k ≤ s.size ∧ Fr [] w wr) (fun n _ => s.size + 1 - (intOf n).toNat)
  case atStart => exact ⟨0, ⟨s.data.toList, 1, 0⟩, rfl, hSc, hMc, by simp [Array.length_toList], FR0.out⟩
  case round =>
    clear hSc hMc
    obtain ⟨k, st, rfl, hSr, hMr, hk, frr⟩ := hrel
    have FRR := Lib.hid frr
    clear frr FR0
    have hk2 : (k : Int) ≤ s.size := by omega
    obtain ⟨wo, rfl⟩ : ∃ wo : World, wo = wr := ⟨_, rfl⟩
    by_cases hp : p.size = 0
    · have hp1 : (p.size : Int) ≤ 0 := by omega
      have hp2 : decide (0 < p.size) = false := by rw [decide_eq_false_iff_not]; omega
      have hp3 : decide ((0 : Int) < (p.size : Int)) = false := by rw [decide_eq_false_iff_not]; omega
      clear hp
      go_wp2
      go_loopw [9] (fun i wr => ∃ n : Nat, n ≤ 0 ∧ i = .int .i64 n ∧ Sc wr L st none ∧ Sc wr M st none ∧ Fr [] w wr) (fun i _ => 0 - (intOf i).toNat)
      case atStart => exact ⟨0, Nat.zero_le _, rfl, hSr, hMr, FRR.out⟩
      case round =>
        obtain ⟨n, hn, rfl, hSi, hMi, fri⟩ := hrel
        have FRI := Lib.hid fri
        clear fri hSr hMr
        by_cases hlt : n < 0
        · exact absurd hlt (Nat.not_lt_zero _)
        · by_cases hn2 : st.rest = []
          · have hc := St.nextC_neg.2 hn2
            clear hn2 hk
            go_wp2_with (first | (go_at_call 20; refine (next_two _ L M st st none none hSi hMi hap.out).mono ?_; rintro e w5 ⟨rfl, h5, m5, fr5⟩; refine Hid.out ?_) | go_in)
            refine Lib.hid ?_
            have FR5 := Lib.hid (Fr.new FRI.out fr5 HOWN.out)
            clear fr5
            go_wp2_with (first | (go_at_call 20; refine (next_two _ M L st st.nextS none none m5 h5 hap.out.symm).mono ?_; rintro e w6 ⟨rfl, m6, h6, fr6⟩; refine Hid.out ?_) | go_in)
            refine Lib.hid ?_
            have FR6 := Lib.hid (Fr.new FR5.out fr6 MOWN.out)
            obtain ⟨c0, c1, c2, _⟩ := h6.facts
            obtain ⟨d0, d1, d2, _⟩ := m6.facts
            have H6 := Lib.hid h6
            have M6 := Lib.hid m6
            clear fr6 FR5 h5 m5 h6 m6
            go_wp2
            go_quiet (fail)
            go_wp2
            go_ret
            exact ⟨rfl, FR6.out.drewN nq⟩
          · have hl := (St.nextS_len hn2).1
            have hc : ¬ st.nextC < 0 := fun h => hn2 (St.nextC_neg.1 h)
            have hc2 : 0 ≤ st.nextC := by omega
            clear hn2
            go_wp2_with (first | (go_at_call 20; refine (next_two _ L M st st none none hSi hMi hap.out).mono ?_; rintro e w5 ⟨rfl, h5, m5, fr5⟩; refine Hid.out ?_) | go_in)
            refine Lib.hid ?_
            have FR5 := Lib.hid (Fr.new FRI.out fr5 HOWN.out)
            clear fr5
            go_wp2_with (first | (go_at_call 20; refine (next_two _ M L st st.nextS none none m5 h5 hap.out.symm).mono ?_; rintro e w6 ⟨rfl, m6, h6, fr6⟩; refine Hid.out ?_) | go_in)
            refine Lib.hid ?_
            have FR6 := Lib.hid (Fr.new FR5.out fr6 MOWN.out)
            obtain ⟨c0, c1, c2, _⟩ := h6.facts
            obtain ⟨d0, d1, d2, _⟩ := m6.facts
            have H6 := Lib.hid h6
            have M6 := Lib.hid m6
            clear fr6 FR5 h5 m5 h6 m6
            go_wp2
            go_quiet (fail)
            go_wp2
            go_roundw
            case rel => exact ⟨k + 1, st.nextS, by go_num, H6.out.fr ((Fr.refl _ _).drewN nq), M6.out.fr ((Fr.refl _ _).drewN nq), by omega, FR6.out.drewN nq⟩
            case measure => simp [intOf]; omega
    · have hp1 : (0 : Int) < (p.size : Int) := by omega
      have hp2 : decide (0 < p.size) = true := by rw [decide_eq_true_iff]; omega
      have hp3 : decide ((0 : Int) < (p.size : Int)) = true := by rw [decide_eq_true_iff]; omega
      obtain ⟨q, hq⟩ : ∃ q : Nat, q = k % p.size := ⟨_, rfl⟩
      have hqs : q < p.size := by rw [hq]; exact Nat.mod_lt _ (by omega)
      have hrem : Int.tmod (k : Int) (p.size : Int) = (q : Int) := by rw [hq]; rfl
      obtain ⟨t, ht⟩ : ∃ t : Nat, t = p[q].toNat % 4 := ⟨_, rfl⟩
      have ht4 : t < 4 := by omega
      have hrem2 : Int.tmod (p[q].toNat : Int) 4 = (t : Int) := by rw [ht]; rfl
      have hc0 : (0 : Int) ≤ (p[q].toNat : Int) := by omega
      have hc1 : (p[q].toNat : Int) ≤ 255 := by have := p[q].toNat_lt; omega
      clear hq ht
      go_wp2
      go_loopw [9] (fun i wr => ∃ n : Nat, n ≤ t ∧ i = .int .i64 n ∧ Sc wr L st none ∧ Sc wr M st none ∧ Fr [] w wr) (fun i _ => t - (intOf i).toNat)
      case atStart => exact ⟨0, Nat.zero_le _, rfl, hSr, hMr, FRR.out⟩
      case round =>
        obtain ⟨n, hn, rfl, hSi, hMi, fri⟩ := hrel
        have FRI := Lib.hid fri
        clear fri hSr hMr
        by_cases hlt : n < t
        · go_wp2_with (first | (go_at_call 17; refine (peek_two _ L M st st none none hSi hMi hap.out).mono ?_; rintro e w3 ⟨rfl, h3, m3, fr3⟩; refine Hid.out ?_) | go_in)
          refine Lib.hid ?_
          have FR3 := Lib.hid (Fr.new FRI.out fr3 HOWN.out)
          go_wp2
          go_roundw
          case rel => exact ⟨n + 1, by omega, by go_num, h3, m3, FR3.out⟩
          case measure => simp [intOf]; omega
        · by_cases hn2 : st.rest = []
          · have hc := St.nextC_neg.2 hn2
            clear hn2 hk
            go_wp2_with (first | (go_at_call 20; refine (next_two _ L M st st none none hSi hMi hap.out).mono ?_; rintro e w5 ⟨rfl, h5, m5, fr5⟩; refine Hid.out ?_) | go_in)
            refine Lib.hid ?_
            have FR5 := Lib.hid (Fr.new FRI.out fr5 HOWN.out)
            clear fr5
            go_wp2_with (first | (go_at_call 20; refine (next_two _ M L st st.nextS none none m5 h5 hap.out.symm).mono ?_; rintro e w6 ⟨rfl, m6, h6, fr6⟩; refine Hid.out ?_) | go_in)
            refine Lib.hid ?_
            have FR6 := Lib.hid (Fr.new FR5.out fr6 MOWN.out)
            obtain ⟨c0, c1, c2, _⟩ := h6.facts
            obtain ⟨d0, d1, d2, _⟩ := m6.facts
            have H6 := Lib.hid h6
            have M6 := Lib.hid m6
            clear fr6 FR5 h5 m5 h6 m6
            go_wp2
            go_quiet (fail)
            go_wp2
            go_ret
            exact ⟨rfl, FR6.out.drewN nq⟩
          · have hl := (St.nextS_len hn2).1
            have hc : ¬ st.nextC < 0 := fun h => hn2 (St.nextC_neg.1 h)
            have hc2 : 0 ≤ st.nextC := by omega
            clear hn2
            go_wp2_with (first | (go_at_call 20; refine (next_two _ L M st st none none hSi hMi hap.out).mono ?_; rintro e w5 ⟨rfl, h5, m5, fr5⟩; refine Hid.out ?_) | go_in)
            refine Lib.hid ?_
            have FR5 := Lib.hid (Fr.new FRI.out fr5 HOWN.out)
            clear fr5
            go_wp2_with (first | (go_at_call 20; refine (next_two _ M L st st.nextS none none m5 h5 hap.out.symm).mono ?_; rintro e w6 ⟨rfl, m6, h6, fr6⟩; refine Hid.out ?_) | go_in)
            refine Lib.hid ?_
            have FR6 := Lib.hid (Fr.new FR5.out fr6 MOWN.out)
            obtain ⟨c0, c1, c2, _⟩ := h6.facts
            obtain ⟨d0, d1, d2, _⟩ := m6.facts
            have H6 := Lib.hid h6
            have M6 := Lib.hid m6
            clear fr6 FR5 h5 m5 h6 m6
            go_wp2
            go_quiet (fail)
            go_wp2
            go_roundw
            case rel => exact ⟨k + 1, st.nextS, by go_num, H6.out.fr ((Fr.refl _ _).drewN nq), M6.out.fr ((Fr.refl _ _).drewN nq), by omega, FR6.out.drewN nq⟩
            case measure => simp [intOf]; omega

theorem d39_walk (W : World) (a : Addr) (he : HasEof W a) (s p : ByteArray) :
    Calls Tryd.prog 5 #[.string s, .string p] W fun e w' => e = .returned (.bool true) ∧ Below W.heap.size W w' := by
  by_cases h : s.size ≤ 1048576 ∧ p.size ≤ 1048576 ∧ s.size + p.size ≤ 1048576 ∧ s.size ≤ 65536 ∧ p.size ≤ 65536
  · exact (d39_yes W a s p he h).mono fun _ _ ⟨h1, h2⟩ => ⟨h1, h2.below (Nat.le_refl _) (by simp)⟩
  · exact (d39_no W s p h).mono fun _ _ ⟨h1, h2⟩ => ⟨h1, h2 ▸ Below.refl _ _⟩
end Go.Proofs.YthlnkoelijlfeaaDoor
