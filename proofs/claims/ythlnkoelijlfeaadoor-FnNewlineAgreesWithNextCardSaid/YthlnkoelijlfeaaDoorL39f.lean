/- The law FnNewlineAgreesWithNext, walked. -/
import Derived.Test.YthlnkoelijlfeaaDoorTwo39
namespace Go.Proofs.YthlnkoelijlfeaaDoor
open Go.RowKit

theorem idx_lit (c : UInt8) (h : 0 < ({ data := #[c] } : ByteArray).size) : wrap64 (((({ data := #[c] } : ByteArray)[0]'h).toNat : Nat) : Int) = c.toNat := by
  have h1 : (({ data := #[c] } : ByteArray)[0]'h) = c := rfl
  rw [h1]
  have h2 := c.toNat_lt
  unfold wrap64
  omega
theorem pre_size (c : UInt8) (t : ByteArray) : (({ data := #[c] } : ByteArray) ++ t).size = 1 + t.size := by
  rw [ByteArray.size_append]; rfl
theorem pre_list (c : UInt8) (t : ByteArray) : (({ data := #[c] } : ByteArray) ++ t).data.toList = c :: t.data.toList := by
  simp

set_option maxHeartbeats 1600000 in
theorem f39_no (w : World) (b : Bool) (t : ByteArray) (h : ¬ (t.size ≤ 1048576 ∧ t.size ≤ 65536)) :
    Calls Tryd.prog 8 #[.bool b, .string t] w fun e w' => e = .returned (.bool true) ∧ w' = w := by
  by_cases h0 : t.size ≤ 1048576
  case neg =>
    have hf : (1048576 : Int) < (t.size : Int) := by omega
    clear h h0
    go_enter Tryd.func8, Tryd.ntmps8
    go_wp2
    go_ret
    exact ⟨rfl, rfl⟩
  by_cases h1 : t.size ≤ 65536
  case neg =>
    have hf : (65536 : Int) < (t.size : Int) := by omega
    clear h h1
    go_enter Tryd.func8, Tryd.ntmps8
    go_wp2
    go_ret
    exact ⟨rfl, rfl⟩
  exact absurd ⟨h0, h1⟩ h

set_option maxRecDepth 100000 in
set_option maxHeartbeats 4000000 in
theorem f39_yes_true (w : World) (a : Addr) (t : ByteArray) (he : HasEof w a) (h : t.size ≤ 1048576 ∧ t.size ≤ 65536) :
    Calls Tryd.prog 8 #[.bool true, .string t] w fun e w' => e = .returned (.bool true) ∧ Fr [] w w' := by
  obtain ⟨h1, h2⟩ := h
  have b0 : decide ((1048576 : Int) < (t.size : Int)) = false := by rw [decide_eq_false_iff_not]; omega
  have b1 : decide ((65536 : Int) < (t.size : Int)) = false := by rw [decide_eq_false_iff_not]; omega
  have hg0 := he.2
  go_enter Tryd.func8, Tryd.ntmps8
  go_wp2_with (first | (go_at_call 12; refine Calls.mono (znew _ a _ _ he ?_) ?_; (rw [ByteArray.size_append]; show 1 + t.size ≤ 1048576; omega); rintro e w1 hN; obtain ⟨L, hLs, hown, hlt, rfl, hSc, fr, he1⟩ := hN; refine Hid.out ?_) | go_in)
  refine Lib.hid ?_
  rw [ByteArray.data_append, Array.toList_append] at hSc
  change Sc w1 L ⟨(13 : UInt8) :: t.data.toList, 1, 0⟩ none at hSc
  have hnx := next_any w1 L _ none hSc
  rw [St.nextC_brk (by decide), St.nextS_brk (by decide)] at hnx
  have HSC := Lib.hid hSc
  clear hSc
  go_wp2_with (first | (go_at_call 20; refine hnx.mono ?_; rintro e w2 ⟨rfl, h2', fr2⟩; refine Hid.out ?_) | go_in)
  refine Lib.hid ?_
  have he2 : HasEof w2 L.a := h2'.rd.eof
  clear hnx he1 he
  go_wp2_with (first | (go_at_call 12; refine (znew _ L.a t _ he2 h1).mono ?_; rintro e w3 hN; obtain ⟨M, hMs, mown, mlt, rfl, hMc, frm, he3⟩ := hN; refine Hid.out ?_) | go_in)
  refine Lib.hid ?_
  have hap := Lib.hid (Ap.mk' hg0 hown hlt (fun k hk => Nat.le_trans fr2.size (mown k hk)))
  have HOWN := Lib.hid hown
  have MOWN := Lib.hid (fun k hk => Nat.le_trans fr.size (Nat.le_trans fr2.size (mown k hk)))
  have FR3 := Lib.hid ((Fr.new fr fr2 hown).trans frm)
  have h3' := h2'.fr frm
  have hnl := newline_any w3 M ⟨t.data.toList, 1, 0⟩ none hMc (((13 : UInt8).toNat : Nat) : Int) (by decide) (by simp [Array.length_toList]; omega)
  have hlen := (⟨t.data.toList, 1, 0⟩ : St).newline_len (((13 : UInt8).toNat : Nat) : Int)
  have hlen2 : (⟨t.data.toList, 1, 0⟩ : St).rest.length = t.size := by simp [Array.length_toList]
  rw [hlen2] at hlen
  clear hlen2
  obtain ⟨sn, hsn⟩ : ∃ sn : St, sn = (⟨t.data.toList, 1, 0⟩ : St).newline (((13 : UInt8).toNat : Nat) : Int) := ⟨_, rfl⟩
  have h3'' : Sc w3 L sn none := by rw [hsn]; exact h3'
  rw [← hsn] at hnl hlen
  clear he2 he3 hLs hMs hown hlt mown mlt fr frm hg0 h2' fr2 hsn hMc h3'
  go_wp2_with (first | (go_at_call 26; rw [idx_lit]; refine hnl.mono ?_; rintro e w4 ⟨rfl, m4, fr4⟩; refine Hid.out ?_) | go_in)
  refine Lib.hid ?_
  have h4 := h3''.apart fr4 hap.out.lm
  have FR4 := Lib.hid (Fr.new FR3.out fr4 MOWN.out)
  clear h3'' fr4 hnl FR3
  obtain ⟨c0, c1, c2, _⟩ := h4.facts
  obtain ⟨d0, d1, d2, _⟩ := m4.facts
  have H4 := Lib.hid h4
  have M4 := Lib.hid m4
  clear h4 m4
  go_wp2
  go_quiet (fail)
  have hSc := H4.out.fr ((Fr.refl _ _).drewN nq)
  have hMc := M4.out.fr ((Fr.refl _ _).drewN nq)
  have FR0 := Lib.hid (FR4.out.drewN nq)
  generalize w4.drewN nq = w5 at hSc hMc FR0 ⊢
  clear c0 c1 c2 d0 d1 d2 H4 M4 FR4
  go_wp2
  go_loopw [8] (fun n wr => ∃ (k : Nat) (st : St), n = .int .i64 k ∧ Sc wr L st none ∧ Sc wr M st none ∧ st.rest.length + k ≤ t.size ∧ Fr [] w wr) (fun n _ => t.size + 1 - (intOf n).toNat)
  case atStart => exact ⟨0, sn, rfl, hSc, hMc, hlen, FR0.out⟩
  case round =>
    clear hSc hMc
    obtain ⟨k, st, rfl, hSi, hMi, hk, frr⟩ := hrel
    have FRI := Lib.hid frr
    clear frr FR0
    have hk2 : (k : Int) ≤ t.size := by omega
    by_cases hn2 : st.rest = []
    · have hc := St.nextC_neg.2 hn2
      clear hn2 hk
      go_wp2_with (first | (go_at_call 20; refine (next_two _ L M st st none none hSi hMi hap.out).mono ?_; rintro e w5 ⟨rfl, h5, m5, fr5⟩; refine Hid.out ?_) | go_in)
      refine Lib.hid ?_
      have FR5 := Lib.hid (Fr.new FRI.out fr5 HOWN.out)
      clear fr5
      go_wp2_with (first | (go_at_call 20; refine (next_two _ M L st st.nextS none none m5 h5 hap.out.symm).mono ?_; rintro e w6 ⟨rfl, m6, h6, fr6⟩; refine Hid.out ?_) | go_in)
      refine Lib.hid ?_
      have FR6 := Lib.hid (Fr.new FR5.out fr6 MOWN.out)
      obtain ⟨c0, c1, c2, _⟩ := h6.facts
      obtain ⟨d0, d1, d2, _⟩ := m6.facts
      have H6 := Lib.hid h6
      have M6 := Lib.hid m6
      clear fr6 FR5 h5 m5 h6 m6
      go_wp2
      go_quiet (fail)
      go_wp2
      go_ret
      exact ⟨rfl, FR6.out.drewN nq⟩
    · have hl := (St.nextS_len hn2).1
      have hc : ¬ st.nextC < 0 := fun h => hn2 (St.nextC_neg.1 h)
      have hc2 : 0 ≤ st.nextC := by omega
      clear hn2
      go_wp2_with (first | (go_at_call 20; refine (next_two _ L M st st none none hSi hMi hap.out).mono ?_; rintro e w5 ⟨rfl, h5, m5, fr5⟩; refine Hid.out ?_) | go_in)
      refine Lib.hid ?_
      have FR5 := Lib.hid (Fr.new FRI.out fr5 HOWN.out)
      clear fr5
      go_wp2_with (first | (go_at_call 20; refine (next_two _ M L st st.nextS none none m5 h5 hap.out.symm).mono ?_; rintro e w6 ⟨rfl, m6, h6, fr6⟩; refine Hid.out ?_) | go_in)
      refine Lib.hid ?_
      have FR6 := Lib.hid (Fr.new FR5.out fr6 MOWN.out)
      obtain ⟨c0, c1, c2, _⟩ := h6.facts
      obtain ⟨d0, d1, d2, _⟩ := m6.facts
      have H6 := Lib.hid h6
      have M6 := Lib.hid m6
      clear fr6 FR5 h5 m5 h6 m6
      go_wp2
      go_quiet (fail)
      go_wp2
      go_roundw
      case rel => exact ⟨k + 1, st.nextS, by go_num, H6.out.fr ((Fr.refl _ _).drewN nq), M6.out.fr ((Fr.refl _ _).drewN nq), by omega, FR6.out.drewN nq⟩
      case measure => simp [intOf]; omega

set_option maxRecDepth 100000 in
set_option maxHeartbeats 4000000 in
theorem f39_yes_false (w : World) (a : Addr) (t : ByteArray) (he : HasEof w a) (h : t.size ≤ 1048576 ∧ t.size ≤ 65536) :
    Calls Tryd.prog 8 #[.bool false, .string t] w fun e w' => e = .returned (.bool true) ∧ Fr [] w w' := by
  obtain ⟨h1, h2⟩ := h
  have b0 : decide ((1048576 : Int) < (t.size : Int)) = false := by rw [decide_eq_false_iff_not]; omega
  have b1 : decide ((65536 : Int) < (t.size : Int)) = false := by rw [decide_eq_false_iff_not]; omega
  have hg0 := he.2
  go_enter Tryd.func8, Tryd.ntmps8
  go_wp2_with (first | (go_at_call 12; refine Calls.mono (znew _ a _ _ he ?_) ?_; (rw [ByteArray.size_append]; show 1 + t.size ≤ 1048576; omega); rintro e w1 hN; obtain ⟨L, hLs, hown, hlt, rfl, hSc, fr, he1⟩ := hN; refine Hid.out ?_) | go_in)
  refine Lib.hid ?_
  rw [ByteArray.data_append, Array.toList_append] at hSc
  change Sc w1 L ⟨(10 : UInt8) :: t.data.toList, 1, 0⟩ none at hSc
  have hnx := next_any w1 L _ none hSc
  rw [St.nextC_brk (by decide), St.nextS_brk (by decide)] at hnx
  have HSC := Lib.hid hSc
  clear hSc
  go_wp2_with (first | (go_at_call 20; refine hnx.mono ?_; rintro e w2 ⟨rfl, h2', fr2⟩; refine Hid.out ?_) | go_in)
  refine Lib.hid ?_
  have he2 : HasEof w2 L.a := h2'.rd.eof
  clear hnx he1 he
  go_wp2_with (first | (go_at_call 12; refine (znew _ L.a t _ he2 h1).mono ?_; rintro e w3 hN; obtain ⟨M, hMs, mown, mlt, rfl, hMc, frm, he3⟩ := hN; refine Hid.out ?_) | go_in)
  refine Lib.hid ?_
  have hap := Lib.hid (Ap.mk' hg0 hown hlt (fun k hk => Nat.le_trans fr2.size (mown k hk)))
  have HOWN := Lib.hid hown
  have MOWN := Lib.hid (fun k hk => Nat.le_trans fr.size (Nat.le_trans fr2.size (mown k hk)))
  have FR3 := Lib.hid ((Fr.new fr fr2 hown).trans frm)
  have h3' := h2'.fr frm
  have hnl := newline_any w3 M ⟨t.data.toList, 1, 0⟩ none hMc (((10 : UInt8).toNat : Nat) : Int) (by decide) (by simp [Array.length_toList]; omega)
  have hlen := (⟨t.data.toList, 1, 0⟩ : St).newline_len (((10 : UInt8).toNat : Nat) : Int)
  have hlen2 : (⟨t.data.toList, 1, 0⟩ : St).rest.length = t.size := by simp [Array.length_toList]
  rw [hlen2] at hlen
  clear hlen2
  obtain ⟨sn, hsn⟩ : ∃ sn : St, sn = (⟨t.data.toList, 1, 0⟩ : St).newline (((10 : UInt8).toNat : Nat) : Int) := ⟨_, rfl⟩
  have h3'' : Sc w3 L sn none := by rw [hsn]; exact h3'
  rw [← hsn] at hnl hlen
  clear he2 he3 hLs hMs hown hlt mown mlt fr frm hg0 h2' fr2 hsn hMc h3'
  go_wp2_with (first | (go_at_call 26; rw [idx_lit]; refine hnl.mono ?_; rintro e w4 ⟨rfl, m4, fr4⟩; refine Hid.out ?_) | go_in)
  refine Lib.hid ?_
  have h4 := h3''.apart fr4 hap.out.lm
  have FR4 := Lib.hid (Fr.new FR3.out fr4 MOWN.out)
  clear h3'' fr4 hnl FR3
  obtain ⟨c0, c1, c2, _⟩ := h4.facts
  obtain ⟨d0, d1, d2, _⟩ := m4.facts
  have H4 := Lib.hid h4
  have M4 := Lib.hid m4
  clear h4 m4
  go_wp2
  go_quiet (fail)
  have hSc := H4.out.fr ((Fr.refl _ _).drewN nq)
  have hMc := M4.out.fr ((Fr.refl _ _).drewN nq)
  have FR0 := Lib.hid (FR4.out.drewN nq)
  generalize w4.drewN nq = w5 at hSc hMc FR0 ⊢
  clear c0 c1 c2 d0 d1 d2 H4 M4 FR4
  go_wp2
  go_loopw [8] (fun n wr => ∃ (k : Nat) (st : St), n = .int .i64 k ∧ Sc wr L st none ∧ Sc wr M st none ∧ st.rest.length + k ≤ t.size ∧ Fr [] w wr) (fun n _ => t.size + 1 - (intOf n).toNat)
  case atStart => exact ⟨0, sn, rfl, hSc, hMc, hlen, FR0.out⟩
  case round =>
    clear hSc hMc
    obtain ⟨k, st, rfl, hSi, hMi, hk, frr⟩ := hrel
    have FRI := Lib.hid frr
    clear frr FR0
    have hk2 : (k : Int) ≤ t.size := by omega
    by_cases hn2 : st.rest = []
    · have hc := St.nextC_neg.2 hn2
      clear hn2 hk
      go_wp2_with (first | (go_at_call 20; refine (next_two _ L M st st none none hSi hMi hap.out).mono ?_; rintro e w5 ⟨rfl, h5, m5, fr5⟩; refine Hid.out ?_) | go_in)
      refine Lib.hid ?_
      have FR5 := Lib.hid (Fr.new FRI.out fr5 HOWN.out)
      clear fr5
      go_wp2_with (first | (go_at_call 20; refine (next_two _ M L st st.nextS none none m5 h5 hap.out.symm).mono ?_; rintro e w6 ⟨rfl, m6, h6, fr6⟩; refine Hid.out ?_) | go_in)
      refine Lib.hid ?_
      have FR6 := Lib.hid (Fr.new FR5.out fr6 MOWN.out)
      obtain ⟨c0, c1, c2, _⟩ := h6.facts
      obtain ⟨d0, d1, d2, _⟩ := m6.facts
      have H6 := Lib.hid h6
      have M6 := Lib.hid m6
      clear fr6 FR5 h5 m5 h6 m6
      go_wp2
      go_quiet (fail)
      go_wp2
      go_ret
      exact ⟨rfl, FR6.out.drewN nq⟩
    · have hl := (St.nextS_len hn2).1
      have hc : ¬ st.nextC < 0 := fun h => hn2 (St.nextC_neg.1 h)
      have hc2 : 0 ≤ st.nextC := by omega
      clear hn2
      go_wp2_with (first | (go_at_call 20; refine (next_two _ L M st st none none hSi hMi hap.out).mono ?_; rintro e w5 ⟨rfl, h5, m5, fr5⟩; refine Hid.out ?_) | go_in)
      refine Lib.hid ?_
      have FR5 := Lib.hid (Fr.new FRI.out fr5 HOWN.out)
      clear fr5
      go_wp2_with (first | (go_at_call 20; refine (next_two _ M L st st.nextS none none m5 h5 hap.out.symm).mono ?_; rintro e w6 ⟨rfl, m6, h6, fr6⟩; refine Hid.out ?_) | go_in)
      refine Lib.hid ?_
      have FR6 := Lib.hid (Fr.new FR5.out fr6 MOWN.out)
      obtain ⟨c0, c1, c2, _⟩ := h6.facts
      obtain ⟨d0, d1, d2, _⟩ := m6.facts
      have H6 := Lib.hid h6
      have M6 := Lib.hid m6
      clear fr6 FR5 h5 m5 h6 m6
      go_wp2
      go_quiet (fail)
      go_wp2
      go_roundw
      case rel => exact ⟨k + 1, st.nextS, by go_num, H6.out.fr ((Fr.refl _ _).drewN nq), M6.out.fr ((Fr.refl _ _).drewN nq), by omega, FR6.out.drewN nq⟩
      case measure => simp [intOf]; omega

theorem f39_yes (w : World) (a : Addr) (b : Bool) (t : ByteArray) (he : HasEof w a) (h : t.size ≤ 1048576 ∧ t.size ≤ 65536) :
    Calls Tryd.prog 8 #[.bool b, .string t] w fun e w' => e = .returned (.bool true) ∧ Fr [] w w' := by
  cases b
  · exact f39_yes_false w a t he h
  · exact f39_yes_true w a t he h

theorem f39_walk (W : World) (a : Addr) (he : HasEof W a) (b : Bool) (t : ByteArray) :
    Calls Tryd.prog 8 #[.bool b, .string t] W fun e w' => e = .returned (.bool true) ∧ Below W.heap.size W w' := by
  by_cases h : t.size ≤ 1048576 ∧ t.size ≤ 65536
  · exact (f39_yes W a b t he h).mono fun _ _ ⟨h1, h2⟩ => ⟨h1, h2.below (Nat.le_refl _) (by simp)⟩
  · exact (f39_no W b t h).mono fun _ _ ⟨h1, h2⟩ => ⟨h1, h2 ▸ Below.refl _ _⟩
end Go.Proofs.YthlnkoelijlfeaaDoor
