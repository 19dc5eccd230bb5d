/- The law FnNewlineCaseTable, walked. -/
import Derived.Test.YtnaklkhdmmbjjaaDoorN39
namespace Go.Proofs.YtnaklkhdmmbjjaaDoor
open Go.RowKit

set_option maxRecDepth 100000 in
set_option maxHeartbeats 1600000 in
theorem h39_no (w : World) (s : ByteArray) (k ch : Int) (h : ¬ (s.size ≤ 1048576 ∧ s.size ≤ 65536 ∧ (0 : Int) ≤ k ∧ k ≤ (s.size : Int) + 1)) :
    Calls Tryd.prog 3 #[.string s, .int .i64 k, .int .i64 ch] w fun e w' => e = .returned (.bool true) ∧ w' = w := by
  by_cases h0 : s.size ≤ 1048576
  case neg =>
    have hf : (1048576 : Int) < (s.size : Int) := by omega
    clear h h0
    go_enter Tryd.func3, Tryd.ntmps3
    go_wp2
    go_ret
    exact ⟨rfl, rfl⟩
  by_cases h1 : s.size ≤ 65536
  case neg =>
    have hf : (65536 : Int) < (s.size : Int) := by omega
    clear h h1
    go_enter Tryd.func3, Tryd.ntmps3
    go_wp2
    go_ret
    exact ⟨rfl, rfl⟩
  by_cases h2 : (0 : Int) ≤ k
  case neg =>
    have hf : k < (0 : Int) := by omega
    clear h h2
    go_enter Tryd.func3, Tryd.ntmps3
    go_wp2
    go_ret
    exact ⟨rfl, rfl⟩
  by_cases h3 : k ≤ (s.size : Int) + 1
  case neg =>
    have hf : (s.size : Int) + 1 < k := by omega
    clear h h3
    go_enter Tryd.func3, Tryd.ntmps3
    go_wp2
    go_ret
    exact ⟨rfl, rfl⟩
  exact absurd ⟨h0, h1, h2, h3⟩ h

theorem line_next (st : St) (m : Nat) (h : st.line ≤ 1 + (m : Int)) : st.nextS.line ≤ 1 + ((m + 1 : Nat) : Int) := by
  rw [nextS_line]
  split
  · omega
  · split <;> omega
set_option maxRecDepth 100000 in
set_option maxHeartbeats 8000000 in
theorem h39_neg (w : World) (a : Addr) (s : ByteArray) (kn : Nat) (ch : Int) (he : HasEof w a) (h1 : s.size ≤ 1048576) (h2 : s.size ≤ 65536) (h3 : kn ≤ s.size + 1) (hch : ch < 0) :
    Calls Tryd.prog 3 #[.string s, .int .i64 kn, .int .i64 ch] w fun e w' => e = .returned (.bool true) ∧ Fr [] w w' := by
  have b1 : decide ((1048576 : Int) < (s.size : Int)) = false := by rw [decide_eq_false_iff_not]; omega
  have b2 : decide ((65536 : Int) < (s.size : Int)) = false := by rw [decide_eq_false_iff_not]; omega
  have hk0 : (0 : Int) ≤ (kn : Int) := by omega
  have hk1 : (kn : Int) ≤ (s.size : Int) + 1 := by omega
  have b3 : decide ((kn : Int) < 0) = false := by rw [decide_eq_false_iff_not]; omega
  have b4 : decide ((s.size : Int) + 1 < (kn : Int)) = false := by rw [decide_eq_false_iff_not]; omega
  go_enter Tryd.func3, Tryd.ntmps3
  go_wp2_with (first | (go_at_call 5; refine (znew _ a s _ he h1).mono ?_; rintro e w1 hN; obtain ⟨L, hLs, hown, hlt, rfl, hSc, fr, he1⟩ := hN; refine Hid.out ?_) | go_in)
  refine Lib.hid ?_
  have HLs := Lib.hid hLs
  have HOWN := Lib.hid hown
  have FR0 := Lib.hid fr
  clear he he1 hLs hown hlt fr
  go_wp2
  go_loopw [8, 9] (fun i n wr => ∃ (j m : Nat) (st : St), i = .int .i64 j ∧ n = .int .i64 m ∧ m ≤ kn ∧ j ≤ s.size ∧ st.rest = s.data.toList.drop j ∧ st.line ≤ 1 + (m : Int) ∧ Sc wr L st none ∧ Fr [] w wr) (fun _ n _ => kn - (intOf n).toNat)
  case atStart => exact ⟨0, 0, ⟨s.data.toList, 1, 0⟩, rfl, rfl, Nat.zero_le _, Nat.zero_le _, rfl, by simp, hSc, FR0.out⟩
  case round =>
    obtain ⟨j, m, st, rfl, rfl, hm, hj, hst, hli, hSr, frr⟩ := hrel
    have FRR := Lib.hid frr
    have HST := Lib.hid hst
    have HJ := Lib.hid (step_rest hst)
    have HJL := Lib.hid (step_le hst hj)
    have HLI := Lib.hid (line_next st m hli)
    have hbd := hSr.bd
    clear frr hSc hst
    obtain ⟨wo, rfl⟩ : ∃ wo : World, wo = wr := ⟨_, rfl⟩
    by_cases hlt : m < kn
    · have hlt2 : (m : Int) < (kn : Int) := by omega
      go_wp2_with (go_at_call 6; refine (next_any _ L st none hSr).mono ?_; rintro e w5 ⟨rfl, h5, fr5⟩; refine Hid.out ?_)
      refine Lib.hid ?_
      have FR5 := Lib.hid (Fr.new FRR.out fr5 HOWN.out)
      clear fr5
      go_wp2_with (first | (go_at_call 7; refine (step_st _ s j st HST hj h1).mono ?_; rintro e w' ⟨rfl, rfl⟩) | (go_at_call 11; refine (adv_st _ st hbd).mono ?_; rintro e w' ⟨rfl, rfl⟩))
      go_roundw
      case rel => exact ⟨j + eat st.rest, m + 1, st.nextS, by go_num, by go_num, by omega, HJL.out, HJ.out, HLI.out, h5, FR5.out⟩
      case measure => simp [intOf]; omega
    · have hlt2 : ¬ (m : Int) < (kn : Int) := by omega
      obtain ⟨c0, c1, c2, _⟩ := hSr.facts
      have hlen : st.rest.length = s.size - j := by rw [HST.out, List.length_drop, Array.length_toList]; rfl
      have SNJ := Lib.hid hj
      have SNN : Hid (st.rest.length + 0 ≤ s.size) := Lib.hid (by omega)
      have HSN := HST
      have FR5 := FRR
      have h5 := hSr
      go_wp2_with (first | (go_at_call 8; refine (raw_st _ s j st HST h1 (by omega)).mono ?_; rintro e w' ⟨rfl, rfl⟩) | (go_at_call 9; refine (newline_neg _ L ch hch).mono ?_; rintro e w5 ⟨rfl, rfl⟩; refine Hid.out ?_) | go_in)
      refine Lib.hid ?_
      have hjr := raw_st w5 s j st HSN h1 (by omega)
      have HPK := Lib.hid (peek_any w5 L st none h5)
      have FR5b := FR5
      clear hjr
      go_wp2_with (first | (go_at_call 10; refine HPK.out.mono ?_; rintro e w6 ⟨rfl, h6, fr6⟩; refine Hid.out ?_) | go_in)
      refine Lib.hid ?_
      have FR6 := Lib.hid (Fr.new FR5b.out fr6 HOWN.out)
      clear fr6 h5 FR5 FR5b HPK
      go_wp2_with (first | (go_at_call 8; refine (raw_st _ s j st HSN h1 (by omega)).mono ?_; rintro e w' ⟨rfl, rfl⟩) | go_in)
      go_loopw [15, 16, 17, 18] (fun i l c n wr => ∃ (j m : Nat) (st : St), i = .int .i64 j ∧ l = .int .i64 st.line ∧ c = .int .i64 st.col ∧ n = .int .i64 m ∧ j ≤ s.size ∧ st.rest = s.data.toList.drop j ∧ Sc wr L st none ∧ st.rest.length + m ≤ s.size ∧ Fr [] w wr) (fun _ _ _ n _ => s.size + 1 - (intOf n).toNat)
      case atStart => exact ⟨j, 0, st, by go_num, rfl, rfl, rfl, SNJ.out, HSN.out, h6, SNN.out, FR6.out⟩
      case round =>
        obtain ⟨j, m, st, rfl, rfl, rfl, rfl, hj, hst, hSr, hk, frr⟩ := hrel
        have FRR := Lib.hid frr
        have HST := Lib.hid hst
        have HJ := Lib.hid (step_rest hst)
        have HJL := Lib.hid (step_le hst hj)
        have hbd := hSr.bd
        clear frr h6 hst
        have hk2 : (m : Int) ≤ s.size := by omega
        by_cases hn : st.rest = []
        · have hc := St.nextC_neg.2 hn
          clear hn hk
          go_wp2_with (first | (go_at_call 7; refine (step_st _ s j st HST hj h1).mono ?_; rintro e w' ⟨rfl, rfl⟩) | (go_at_call 11; refine (adv_st _ st hbd).mono ?_; rintro e w' ⟨rfl, rfl⟩) | (go_at_call 6; refine (next_any _ L st none hSr).mono ?_; rintro e w7 ⟨rfl, h7, fr7⟩; refine Hid.out ?_))
          refine Lib.hid ?_
          have FR7 := Lib.hid (Fr.new FRR.out fr7 HOWN.out)
          obtain ⟨c0, c1, c2, _⟩ := h7.facts
          have H7 := Lib.hid h7
          clear fr7 h7 hSr
          go_wp2_with (first | (go_at_call 7; refine (step_st _ s j st HST hj h1).mono ?_; rintro e w' ⟨rfl, rfl⟩) | (go_at_call 11; refine (adv_st _ st hbd).mono ?_; rintro e w' ⟨rfl, rfl⟩))
          go_ret
          exact ⟨rfl, FR7.out⟩
        · have hl := (St.nextS_len hn).1
          have hc : ¬ st.nextC < 0 := fun h => hn (St.nextC_neg.1 h)
          have hc2 : 0 ≤ st.nextC := by omega
          clear hn
          go_wp2_with (first | (go_at_call 7; refine (step_st _ s j st HST hj h1).mono ?_; rintro e w' ⟨rfl, rfl⟩) | (go_at_call 11; refine (adv_st _ st hbd).mono ?_; rintro e w' ⟨rfl, rfl⟩) | (go_at_call 6; refine (next_any _ L st none hSr).mono ?_; rintro e w7 ⟨rfl, h7, fr7⟩; refine Hid.out ?_))
          refine Lib.hid ?_
          have FR7 := Lib.hid (Fr.new FRR.out fr7 HOWN.out)
          obtain ⟨c0, c1, c2, _⟩ := h7.facts
          have H7 := Lib.hid h7
          clear fr7 h7 hSr
          go_wp2_with (first | (go_at_call 7; refine (step_st _ s j st HST hj h1).mono ?_; rintro e w' ⟨rfl, rfl⟩) | (go_at_call 11; refine (adv_st _ st hbd).mono ?_; rintro e w' ⟨rfl, rfl⟩))
          go_roundw
          case rel => exact ⟨j + eat st.rest, m + 1, st.nextS, rfl, rfl, rfl, by go_num, HJL.out, HJ.out, H7.out, by omega, FR7.out⟩
          case measure => simp [intOf]; omega

theorem tl_drop (l : List UInt8) (j : Nat) : tl (l.drop j) = l.drop (j + 1) := by
  have h : l.drop (j + 1) = (l.drop j).drop 1 := by rw [List.drop_drop]
  rw [h]
  cases l.drop j <;> rfl
set_option maxRecDepth 100000 in
set_option maxHeartbeats 16000000 in
theorem h39_pos (w : World) (a : Addr) (s : ByteArray) (kn : Nat) (ch : Int) (he : HasEof w a) (h1 : s.size ≤ 1048576) (h2 : s.size ≤ 65536) (h3 : kn ≤ s.size + 1) (hch : 0 ≤ ch) :
    Calls Tryd.prog 3 #[.string s, .int .i64 kn, .int .i64 ch] w fun e w' => e = .returned (.bool true) ∧ Fr [] w w' := by
  have b1 : decide ((1048576 : Int) < (s.size : Int)) = false := by rw [decide_eq_false_iff_not]; omega
  have b2 : decide ((65536 : Int) < (s.size : Int)) = false := by rw [decide_eq_false_iff_not]; omega
  have hk0 : (0 : Int) ≤ (kn : Int) := by omega
  have hk1 : (kn : Int) ≤ (s.size : Int) + 1 := by omega
  have b3 : decide ((kn : Int) < 0) = false := by rw [decide_eq_false_iff_not]; omega
  have b4 : decide ((s.size : Int) + 1 < (kn : Int)) = false := by rw [decide_eq_false_iff_not]; omega
  go_enter Tryd.func3, Tryd.ntmps3
  go_wp2_with (first | (go_at_call 5; refine (znew _ a s _ he h1).mono ?_; rintro e w1 hN; obtain ⟨L, hLs, hown, hlt, rfl, hSc, fr, he1⟩ := hN; refine Hid.out ?_) | go_in)
  refine Lib.hid ?_
  have HLs := Lib.hid hLs
  have HOWN := Lib.hid hown
  have FR0 := Lib.hid fr
  clear he he1 hLs hown hlt fr
  go_wp2
  go_loopw [8, 9] (fun i n wr => ∃ (j m : Nat) (st : St), i = .int .i64 j ∧ n = .int .i64 m ∧ m ≤ kn ∧ j ≤ s.size ∧ st.rest = s.data.toList.drop j ∧ st.line ≤ 1 + (m : Int) ∧ Sc wr L st none ∧ Fr [] w wr) (fun _ n _ => kn - (intOf n).toNat)
  case atStart => exact ⟨0, 0, ⟨s.data.toList, 1, 0⟩, rfl, rfl, Nat.zero_le _, Nat.zero_le _, rfl, by simp, hSc, FR0.out⟩
  case round =>
    obtain ⟨j, m, st, rfl, rfl, hm, hj, hst, hli, hSr, frr⟩ := hrel
    have FRR := Lib.hid frr
    have HST := Lib.hid hst
    have HJ := Lib.hid (step_rest hst)
    have HJL := Lib.hid (step_le hst hj)
    have HLI := Lib.hid (line_next st m hli)
    have hbd := hSr.bd
    clear frr hSc hst
    obtain ⟨wo, rfl⟩ : ∃ wo : World, wo = wr := ⟨_, rfl⟩
    by_cases hlt : m < kn
    · have hlt2 : (m : Int) < (kn : Int) := by omega
      go_wp2_with (go_at_call 6; refine (next_any _ L st none hSr).mono ?_; rintro e w5 ⟨rfl, h5, fr5⟩; refine Hid.out ?_)
      refine Lib.hid ?_
      have FR5 := Lib.hid (Fr.new FRR.out fr5 HOWN.out)
      clear fr5
      go_wp2_with (first | (go_at_call 7; refine (step_st _ s j st HST hj h1).mono ?_; rintro e w' ⟨rfl, rfl⟩) | (go_at_call 11; refine (adv_st _ st hbd).mono ?_; rintro e w' ⟨rfl, rfl⟩))
      go_roundw
      case rel => exact ⟨j + eat st.rest, m + 1, st.nextS, by go_num, by go_num, by omega, HJL.out, HJ.out, HLI.out, h5, FR5.out⟩
      case measure => simp [intOf]; omega
    · have hlt2 : ¬ (m : Int) < (kn : Int) := by omega
      obtain ⟨c0, c1, c2, _⟩ := hSr.facts
      have hlen : st.rest.length = s.size - j := by rw [HST.out, List.length_drop, Array.length_toList]; rfl
      have hbig : st.line + st.rest.length + 1 ≤ 2305843009213693951 := by omega
      cases hpr : pair ch (hd st.rest)
      · have hcd : ¬ ((ch = 10 ∧ hd st.rest = 13) ∨ (ch = 13 ∧ hd st.rest = 10)) := by simpa [pair, Bool.or_eq_true, Bool.and_eq_true, beq_iff_eq] using hpr
        by_cases g1 : ch = 10
        · obtain ⟨e1, e2⟩ := b_yes g1
          obtain ⟨e3, e4⟩ := b_no (show hd st.rest ≠ 13 by omega)
          obtain ⟨e5, e6⟩ := b_no (show ch ≠ 13 by omega)
          clear hcd g1
          have SNJ : Hid (j ≤ s.size) := Lib.hid (hj)
          have SNN : Hid ((⟨st.rest, st.line + 1, 0⟩ : St).rest.length + 0 ≤ s.size) := Lib.hid (by show st.rest.length + 0 ≤ s.size; omega)
          have HSN : Hid ((⟨st.rest, st.line + 1, 0⟩ : St).rest = s.data.toList.drop (j)) := Lib.hid (HST.out)
          have hnl := newline_plain wo L st none hSr ch hch hbig hpr
          clear hSr hlen hpr
          go_wp2_with (first | (go_at_call 8; refine (raw_st _ s j st HST h1 (by omega)).mono ?_; rintro e w' ⟨rfl, rfl⟩) | (go_at_call 9; refine hnl.mono ?_; rintro e w5 ⟨rfl, h5, fr5⟩; refine Hid.out ?_) | go_in)
          refine Lib.hid ?_
          obtain ⟨d0, d1, d2, _⟩ := h5.facts
          have hl0 := hbd.l0
          have hl1 : st.line ≤ 2097152 := by omega
          have FR5 := Lib.hid (Fr.new FRR.out fr5 HOWN.out)
          clear hbd hli hbig hnl c0 c1 c2 fr5
          have hjr := raw_st w5 s j ⟨st.rest, st.line + 1, 0⟩ HSN h1 (by omega)
          have HPK := Lib.hid (peek_any w5 L ⟨st.rest, st.line + 1, 0⟩ none h5)
          have FR5b := FR5
          clear hjr
          go_wp2_with (first | (go_at_call 10; refine HPK.out.mono ?_; rintro e w6 ⟨rfl, h6, fr6⟩; refine Hid.out ?_) | go_in)
          refine Lib.hid ?_
          have FR6 := Lib.hid (Fr.new FR5b.out fr6 HOWN.out)
          clear fr6 h5 FR5 FR5b HPK
          go_wp2_with (first | (go_at_call 8; refine (raw_st _ s j ⟨st.rest, st.line + 1, 0⟩ HSN h1 (by omega)).mono ?_; rintro e w' ⟨rfl, rfl⟩) | go_in)
          go_loopw [15, 16, 17, 18] (fun i l c n wr => ∃ (j m : Nat) (st : St), i = .int .i64 j ∧ l = .int .i64 st.line ∧ c = .int .i64 st.col ∧ n = .int .i64 m ∧ j ≤ s.size ∧ st.rest = s.data.toList.drop j ∧ Sc wr L st none ∧ st.rest.length + m ≤ s.size ∧ Fr [] w wr) (fun _ _ _ n _ => s.size + 1 - (intOf n).toNat)
          case atStart => exact ⟨j, 0, ⟨st.rest, st.line + 1, 0⟩, by go_num, rfl, rfl, rfl, SNJ.out, HSN.out, h6, SNN.out, FR6.out⟩
          case round =>
            obtain ⟨j, m, st, rfl, rfl, rfl, rfl, hj, hst, hSr, hk, frr⟩ := hrel
            have FRR := Lib.hid frr
            have HST := Lib.hid hst
            have HJ := Lib.hid (step_rest hst)
            have HJL := Lib.hid (step_le hst hj)
            have hbd := hSr.bd
            clear frr h6 hst
            have hk2 : (m : Int) ≤ s.size := by omega
            by_cases hn : st.rest = []
            · have hc := St.nextC_neg.2 hn
              clear hn hk
              go_wp2_with (first | (go_at_call 7; refine (step_st _ s j st HST hj h1).mono ?_; rintro e w' ⟨rfl, rfl⟩) | (go_at_call 11; refine (adv_st _ st hbd).mono ?_; rintro e w' ⟨rfl, rfl⟩) | (go_at_call 6; refine (next_any _ L st none hSr).mono ?_; rintro e w7 ⟨rfl, h7, fr7⟩; refine Hid.out ?_))
              refine Lib.hid ?_
              have FR7 := Lib.hid (Fr.new FRR.out fr7 HOWN.out)
              obtain ⟨c0, c1, c2, _⟩ := h7.facts
              have H7 := Lib.hid h7
              clear fr7 h7 hSr
              go_wp2_with (first | (go_at_call 7; refine (step_st _ s j st HST hj h1).mono ?_; rintro e w' ⟨rfl, rfl⟩) | (go_at_call 11; refine (adv_st _ st hbd).mono ?_; rintro e w' ⟨rfl, rfl⟩))
              go_ret
              exact ⟨rfl, FR7.out⟩
            · have hl := (St.nextS_len hn).1
              have hc : ¬ st.nextC < 0 := fun h => hn (St.nextC_neg.1 h)
              have hc2 : 0 ≤ st.nextC := by omega
              clear hn
              go_wp2_with (first | (go_at_call 7; refine (step_st _ s j st HST hj h1).mono ?_; rintro e w' ⟨rfl, rfl⟩) | (go_at_call 11; refine (adv_st _ st hbd).mono ?_; rintro e w' ⟨rfl, rfl⟩) | (go_at_call 6; refine (next_any _ L st none hSr).mono ?_; rintro e w7 ⟨rfl, h7, fr7⟩; refine Hid.out ?_))
              refine Lib.hid ?_
              have FR7 := Lib.hid (Fr.new FRR.out fr7 HOWN.out)
              obtain ⟨c0, c1, c2, _⟩ := h7.facts
              have H7 := Lib.hid h7
              clear fr7 h7 hSr
              go_wp2_with (first | (go_at_call 7; refine (step_st _ s j st HST hj h1).mono ?_; rintro e w' ⟨rfl, rfl⟩) | (go_at_call 11; refine (adv_st _ st hbd).mono ?_; rintro e w' ⟨rfl, rfl⟩))
              go_roundw
              case rel => exact ⟨j + eat st.rest, m + 1, st.nextS, rfl, rfl, rfl, by go_num, HJL.out, HJ.out, H7.out, by omega, FR7.out⟩
              case measure => simp [intOf]; omega
        · by_cases g2 : ch = 13
          · obtain ⟨e1, e2⟩ := b_no g1
            obtain ⟨e3, e4⟩ := b_no (show hd st.rest ≠ 10 by omega)
            obtain ⟨e5, e6⟩ := b_yes g2
            clear hcd g1 g2
            have SNJ : Hid (j ≤ s.size) := Lib.hid (hj)
            have SNN : Hid ((⟨st.rest, st.line + 1, 0⟩ : St).rest.length + 0 ≤ s.size) := Lib.hid (by show st.rest.length + 0 ≤ s.size; omega)
            have HSN : Hid ((⟨st.rest, st.line + 1, 0⟩ : St).rest = s.data.toList.drop (j)) := Lib.hid (HST.out)
            have hnl := newline_plain wo L st none hSr ch hch hbig hpr
            clear hSr hlen hpr
            go_wp2_with (first | (go_at_call 8; refine (raw_st _ s j st HST h1 (by omega)).mono ?_; rintro e w' ⟨rfl, rfl⟩) | (go_at_call 9; refine hnl.mono ?_; rintro e w5 ⟨rfl, h5, fr5⟩; refine Hid.out ?_) | go_in)
            refine Lib.hid ?_
            obtain ⟨d0, d1, d2, _⟩ := h5.facts
            have hl0 := hbd.l0
            have hl1 : st.line ≤ 2097152 := by omega
            have FR5 := Lib.hid (Fr.new FRR.out fr5 HOWN.out)
            clear hbd hli hbig hnl c0 c1 c2 fr5
            have hjr := raw_st w5 s j ⟨st.rest, st.line + 1, 0⟩ HSN h1 (by omega)
            have HPK := Lib.hid (peek_any w5 L ⟨st.rest, st.line + 1, 0⟩ none h5)
            have FR5b := FR5
            clear hjr
            go_wp2_with (first | (go_at_call 10; refine HPK.out.mono ?_; rintro e w6 ⟨rfl, h6, fr6⟩; refine Hid.out ?_) | go_in)
            refine Lib.hid ?_
            have FR6 := Lib.hid (Fr.new FR5b.out fr6 HOWN.out)
            clear fr6 h5 FR5 FR5b HPK
            go_wp2_with (first | (go_at_call 8; refine (raw_st _ s j ⟨st.rest, st.line + 1, 0⟩ HSN h1 (by omega)).mono ?_; rintro e w' ⟨rfl, rfl⟩) | go_in)
            go_loopw [15, 16, 17, 18] (fun i l c n wr => ∃ (j m : Nat) (st : St), i = .int .i64 j ∧ l = .int .i64 st.line ∧ c = .int .i64 st.col ∧ n = .int .i64 m ∧ j ≤ s.size ∧ st.rest = s.data.toList.drop j ∧ Sc wr L st none ∧ st.rest.length + m ≤ s.size ∧ Fr [] w wr) (fun _ _ _ n _ => s.size + 1 - (intOf n).toNat)
            case atStart => exact ⟨j, 0, ⟨st.rest, st.line + 1, 0⟩, by go_num, rfl, rfl, rfl, SNJ.out, HSN.out, h6, SNN.out, FR6.out⟩
            case round =>
              obtain ⟨j, m, st, rfl, rfl, rfl, rfl, hj, hst, hSr, hk, frr⟩ := hrel
              have FRR := Lib.hid frr
              have HST := Lib.hid hst
              have HJ := Lib.hid (step_rest hst)
              have HJL := Lib.hid (step_le hst hj)
              have hbd := hSr.bd
              clear frr h6 hst
              have hk2 : (m : Int) ≤ s.size := by omega
              by_cases hn : st.rest = []
              · have hc := St.nextC_neg.2 hn
                clear hn hk
                go_wp2_with (first | (go_at_call 7; refine (step_st _ s j st HST hj h1).mono ?_; rintro e w' ⟨rfl, rfl⟩) | (go_at_call 11; refine (adv_st _ st hbd).mono ?_; rintro e w' ⟨rfl, rfl⟩) | (go_at_call 6; refine (next_any _ L st none hSr).mono ?_; rintro e w7 ⟨rfl, h7, fr7⟩; refine Hid.out ?_))
                refine Lib.hid ?_
                have FR7 := Lib.hid (Fr.new FRR.out fr7 HOWN.out)
                obtain ⟨c0, c1, c2, _⟩ := h7.facts
                have H7 := Lib.hid h7
                clear fr7 h7 hSr
                go_wp2_with (first | (go_at_call 7; refine (step_st _ s j st HST hj h1).mono ?_; rintro e w' ⟨rfl, rfl⟩) | (go_at_call 11; refine (adv_st _ st hbd).mono ?_; rintro e w' ⟨rfl, rfl⟩))
                go_ret
                exact ⟨rfl, FR7.out⟩
              · have hl := (St.nextS_len hn).1
                have hc : ¬ st.nextC < 0 := fun h => hn (St.nextC_neg.1 h)
                have hc2 : 0 ≤ st.nextC := by omega
                clear hn
                go_wp2_with (first | (go_at_call 7; refine (step_st _ s j st HST hj h1).mono ?_; rintro e w' ⟨rfl, rfl⟩) | (go_at_call 11; refine (adv_st _ st hbd).mono ?_; rintro e w' ⟨rfl, rfl⟩) | (go_at_call 6; refine (next_any _ L st none hSr).mono ?_; rintro e w7 ⟨rfl, h7, fr7⟩; refine Hid.out ?_))
                refine Lib.hid ?_
                have FR7 := Lib.hid (Fr.new FRR.out fr7 HOWN.out)
                obtain ⟨c0, c1, c2, _⟩ := h7.facts
                have H7 := Lib.hid h7
                clear fr7 h7 hSr
                go_wp2_with (first | (go_at_call 7; refine (step_st _ s j st HST hj h1).mono ?_; rintro e w' ⟨rfl, rfl⟩) | (go_at_call 11; refine (adv_st _ st hbd).mono ?_; rintro e w' ⟨rfl, rfl⟩))
                go_roundw
                case rel => exact ⟨j + eat st.rest, m + 1, st.nextS, rfl, rfl, rfl, by go_num, HJL.out, HJ.out, H7.out, by omega, FR7.out⟩
                case measure => simp [intOf]; omega
          · obtain ⟨e1, e2⟩ := b_no g1
            obtain ⟨e5, e6⟩ := b_no g2
            clear hcd g1 g2
            have SNJ : Hid (j ≤ s.size) := Lib.hid (hj)
            have SNN : Hid ((⟨st.rest, st.line + 1, 0⟩ : St).rest.length + 0 ≤ s.size) := Lib.hid (by show st.rest.length + 0 ≤ s.size; omega)
            have HSN : Hid ((⟨st.rest, st.line + 1, 0⟩ : St).rest = s.data.toList.drop (j)) := Lib.hid (HST.out)
            have hnl := newline_plain wo L st none hSr ch hch hbig hpr
            clear hSr hlen hpr
            go_wp2_with (first | (go_at_call 8; refine (raw_st _ s j st HST h1 (by omega)).mono ?_; rintro e w' ⟨rfl, rfl⟩) | (go_at_call 9; refine hnl.mono ?_; rintro e w5 ⟨rfl, h5, fr5⟩; refine Hid.out ?_) | go_in)
            refine Lib.hid ?_
            obtain ⟨d0, d1, d2, _⟩ := h5.facts
            have hl0 := hbd.l0
            have hl1 : st.line ≤ 2097152 := by omega
            have FR5 := Lib.hid (Fr.new FRR.out fr5 HOWN.out)
            clear hbd hli hbig hnl c0 c1 c2 fr5
            have hjr := raw_st w5 s j ⟨st.rest, st.line + 1, 0⟩ HSN h1 (by omega)
            have HPK := Lib.hid (peek_any w5 L ⟨st.rest, st.line + 1, 0⟩ none h5)
            have FR5b := FR5
            clear hjr
            go_wp2_with (first | (go_at_call 10; refine HPK.out.mono ?_; rintro e w6 ⟨rfl, h6, fr6⟩; refine Hid.out ?_) | go_in)
            refine Lib.hid ?_
            have FR6 := Lib.hid (Fr.new FR5b.out fr6 HOWN.out)
            clear fr6 h5 FR5 FR5b HPK
            go_wp2_with (first | (go_at_call 8; refine (raw_st _ s j ⟨st.rest, st.line + 1, 0⟩ HSN h1 (by omega)).mono ?_; rintro e w' ⟨rfl, rfl⟩) | go_in)
            go_loopw [15, 16, 17, 18] (fun i l c n wr => ∃ (j m : Nat) (st : St), i = .int .i64 j ∧ l = .int .i64 st.line ∧ c = .int .i64 st.col ∧ n = .int .i64 m ∧ j ≤ s.size ∧ st.rest = s.data.toList.drop j ∧ Sc wr L st none ∧ st.rest.length + m ≤ s.size ∧ Fr [] w wr) (fun _ _ _ n _ => s.size + 1 - (intOf n).toNat)
            case atStart => exact ⟨j, 0, ⟨st.rest, st.line + 1, 0⟩, by go_num, rfl, rfl, rfl, SNJ.out, HSN.out, h6, SNN.out, FR6.out⟩
            case round =>
              obtain ⟨j, m, st, rfl, rfl, rfl, rfl, hj, hst, hSr, hk, frr⟩ := hrel
              have FRR := Lib.hid frr
              have HST := Lib.hid hst
              have HJ := Lib.hid (step_rest hst)
              have HJL := Lib.hid (step_le hst hj)
              have hbd := hSr.bd
              clear frr h6 hst
              have hk2 : (m : Int) ≤ s.size := by omega
              by_cases hn : st.rest = []
              · have hc := St.nextC_neg.2 hn
                clear hn hk
                go_wp2_with (first | (go_at_call 7; refine (step_st _ s j st HST hj h1).mono ?_; rintro e w' ⟨rfl, rfl⟩) | (go_at_call 11; refine (adv_st _ st hbd).mono ?_; rintro e w' ⟨rfl, rfl⟩) | (go_at_call 6; refine (next_any _ L st none hSr).mono ?_; rintro e w7 ⟨rfl, h7, fr7⟩; refine Hid.out ?_))
                refine Lib.hid ?_
                have FR7 := Lib.hid (Fr.new FRR.out fr7 HOWN.out)
                obtain ⟨c0, c1, c2, _⟩ := h7.facts
                have H7 := Lib.hid h7
                clear fr7 h7 hSr
                go_wp2_with (first | (go_at_call 7; refine (step_st _ s j st HST hj h1).mono ?_; rintro e w' ⟨rfl, rfl⟩) | (go_at_call 11; refine (adv_st _ st hbd).mono ?_; rintro e w' ⟨rfl, rfl⟩))
                go_ret
                exact ⟨rfl, FR7.out⟩
              · have hl := (St.nextS_len hn).1
                have hc : ¬ st.nextC < 0 := fun h => hn (St.nextC_neg.1 h)
                have hc2 : 0 ≤ st.nextC := by omega
                clear hn
                go_wp2_with (first | (go_at_call 7; refine (step_st _ s j st HST hj h1).mono ?_; rintro e w' ⟨rfl, rfl⟩) | (go_at_call 11; refine (adv_st _ st hbd).mono ?_; rintro e w' ⟨rfl, rfl⟩) | (go_at_call 6; refine (next_any _ L st none hSr).mono ?_; rintro e w7 ⟨rfl, h7, fr7⟩; refine Hid.out ?_))
                refine Lib.hid ?_
                have FR7 := Lib.hid (Fr.new FRR.out fr7 HOWN.out)
                obtain ⟨c0, c1, c2, _⟩ := h7.facts
                have H7 := Lib.hid h7
                clear fr7 h7 hSr
                go_wp2_with (first | (go_at_call 7; refine (step_st _ s j st HST hj h1).mono ?_; rintro e w' ⟨rfl, rfl⟩) | (go_at_call 11; refine (adv_st _ st hbd).mono ?_; rintro e w' ⟨rfl, rfl⟩))
                go_roundw
                case rel => exact ⟨j + eat st.rest, m + 1, st.nextS, rfl, rfl, rfl, by go_num, HJL.out, HJ.out, H7.out, by omega, FR7.out⟩
                case measure => simp [intOf]; omega
      · have hcd : (ch = 10 ∧ hd st.rest = 13) ∨ (ch = 13 ∧ hd st.rest = 10) := by simpa [pair, Bool.or_eq_true, Bool.and_eq_true, beq_iff_eq] using hpr
        have hne : st.rest ≠ [] := fun h => by rw [h] at hcd; simp [hd] at hcd
        have hpos := List.length_pos_iff.2 hne
        clear hne
        rcases hcd with ⟨g1, g2⟩ | ⟨g1, g2⟩
        · obtain ⟨e1, e2⟩ := b_yes g1
          obtain ⟨e3, e4⟩ := b_yes g2
          clear g1 g2
          have SNJ : Hid ((j + 1) ≤ s.size) := Lib.hid (by omega)
          have SNN : Hid ((⟨tl st.rest, st.line + 1, 0⟩ : St).rest.length + 0 ≤ s.size) := Lib.hid (by show (tl st.rest).length + 0 ≤ s.size; have := tl_len st.rest; omega)
          have HSN : Hid ((⟨tl st.rest, st.line + 1, 0⟩ : St).rest = s.data.toList.drop ((j + 1))) := Lib.hid (by show tl st.rest = _; rw [HST.out]; exact tl_drop _ _)
          have hnl := newline_pair wo L st none hSr ch hch hbig hpr
          clear hSr hlen hpr
          go_wp2_with (first | (go_at_call 8; refine (raw_st _ s j st HST h1 (by omega)).mono ?_; rintro e w' ⟨rfl, rfl⟩) | (go_at_call 9; refine hnl.mono ?_; rintro e w5 ⟨rfl, h5, fr5⟩; refine Hid.out ?_) | go_in)
          refine Lib.hid ?_
          obtain ⟨d0, d1, d2, _⟩ := h5.facts
          have hl0 := hbd.l0
          have hl1 : st.line ≤ 2097152 := by omega
          have FR5 := Lib.hid (Fr.new FRR.out fr5 HOWN.out)
          clear hbd hli hbig hnl c0 c1 c2 fr5
          have hjr := raw_st w5 s (j + 1) ⟨tl st.rest, st.line + 1, 0⟩ HSN h1 (by omega)
          have HPK := Lib.hid (peek_any w5 L ⟨tl st.rest, st.line + 1, 0⟩ none h5)
          have FR5b := FR5
          clear hjr
          go_wp2_with (first | (go_at_call 10; refine HPK.out.mono ?_; rintro e w6 ⟨rfl, h6, fr6⟩; refine Hid.out ?_) | go_in)
          refine Lib.hid ?_
          have FR6 := Lib.hid (Fr.new FR5b.out fr6 HOWN.out)
          clear fr6 h5 FR5 FR5b HPK
          go_wp2_with (first | (go_at_call 8; refine (raw_st _ s (j + 1) ⟨tl st.rest, st.line + 1, 0⟩ HSN h1 (by omega)).mono ?_; rintro e w' ⟨rfl, rfl⟩) | go_in)
          go_loopw [15, 16, 17, 18] (fun i l c n wr => ∃ (j m : Nat) (st : St), i = .int .i64 j ∧ l = .int .i64 st.line ∧ c = .int .i64 st.col ∧ n = .int .i64 m ∧ j ≤ s.size ∧ st.rest = s.data.toList.drop j ∧ Sc wr L st none ∧ st.rest.length + m ≤ s.size ∧ Fr [] w wr) (fun _ _ _ n _ => s.size + 1 - (intOf n).toNat)
          case atStart => exact ⟨(j + 1), 0, ⟨tl st.rest, st.line + 1, 0⟩, by go_num, rfl, rfl, rfl, SNJ.out, HSN.out, h6, SNN.out, FR6.out⟩
          case round =>
            obtain ⟨j, m, st, rfl, rfl, rfl, rfl, hj, hst, hSr, hk, frr⟩ := hrel
            have FRR := Lib.hid frr
            have HST := Lib.hid hst
            have HJ := Lib.hid (step_rest hst)
            have HJL := Lib.hid (step_le hst hj)
            have hbd := hSr.bd
            clear frr h6 hst
            have hk2 : (m : Int) ≤ s.size := by omega
            by_cases hn : st.rest = []
            · have hc := St.nextC_neg.2 hn
              clear hn hk
              go_wp2_with (first | (go_at_call 7; refine (step_st _ s j st HST hj h1).mono ?_; rintro e w' ⟨rfl, rfl⟩) | (go_at_call 11; refine (adv_st _ st hbd).mono ?_; rintro e w' ⟨rfl, rfl⟩) | (go_at_call 6; refine (next_any _ L st none hSr).mono ?_; rintro e w7 ⟨rfl, h7, fr7⟩; refine Hid.out ?_))
              refine Lib.hid ?_
              have FR7 := Lib.hid (Fr.new FRR.out fr7 HOWN.out)
              obtain ⟨c0, c1, c2, _⟩ := h7.facts
              have H7 := Lib.hid h7
              clear fr7 h7 hSr
              go_wp2_with (first | (go_at_call 7; refine (step_st _ s j st HST hj h1).mono ?_; rintro e w' ⟨rfl, rfl⟩) | (go_at_call 11; refine (adv_st _ st hbd).mono ?_; rintro e w' ⟨rfl, rfl⟩))
              go_ret
              exact ⟨rfl, FR7.out⟩
            · have hl := (St.nextS_len hn).1
              have hc : ¬ st.nextC < 0 := fun h => hn (St.nextC_neg.1 h)
              have hc2 : 0 ≤ st.nextC := by omega
              clear hn
              go_wp2_with (first | (go_at_call 7; refine (step_st _ s j st HST hj h1).mono ?_; rintro e w' ⟨rfl, rfl⟩) | (go_at_call 11; refine (adv_st _ st hbd).mono ?_; rintro e w' ⟨rfl, rfl⟩) | (go_at_call 6; refine (next_any _ L st none hSr).mono ?_; rintro e w7 ⟨rfl, h7, fr7⟩; refine Hid.out ?_))
              refine Lib.hid ?_
              have FR7 := Lib.hid (Fr.new FRR.out fr7 HOWN.out)
              obtain ⟨c0, c1, c2, _⟩ := h7.facts
              have H7 := Lib.hid h7
              clear fr7 h7 hSr
              go_wp2_with (first | (go_at_call 7; refine (step_st _ s j st HST hj h1).mono ?_; rintro e w' ⟨rfl, rfl⟩) | (go_at_call 11; refine (adv_st _ st hbd).mono ?_; rintro e w' ⟨rfl, rfl⟩))
              go_roundw
              case rel => exact ⟨j + eat st.rest, m + 1, st.nextS, rfl, rfl, rfl, by go_num, HJL.out, HJ.out, H7.out, by omega, FR7.out⟩
              case measure => simp [intOf]; omega
        · obtain ⟨e1, e2⟩ := b_yes g1
          obtain ⟨e3, e4⟩ := b_yes g2
          obtain ⟨e5, e6⟩ := b_no (show ch ≠ 10 by omega)
          clear g1 g2
          have SNJ : Hid ((j + 1) ≤ s.size) := Lib.hid (by omega)
          have SNN : Hid ((⟨tl st.rest, st.line + 1, 0⟩ : St).rest.length + 0 ≤ s.size) := Lib.hid (by show (tl st.rest).length + 0 ≤ s.size; have := tl_len st.rest; omega)
          have HSN : Hid ((⟨tl st.rest, st.line + 1, 0⟩ : St).rest = s.data.toList.drop ((j + 1))) := Lib.hid (by show tl st.rest = _; rw [HST.out]; exact tl_drop _ _)
          have hnl := newline_pair wo L st none hSr ch hch hbig hpr
          clear hSr hlen hpr
          go_wp2_with (first | (go_at_call 8; refine (raw_st _ s j st HST h1 (by omega)).mono ?_; rintro e w' ⟨rfl, rfl⟩) | (go_at_call 9; refine hnl.mono ?_; rintro e w5 ⟨rfl, h5, fr5⟩; refine Hid.out ?_) | go_in)
          refine Lib.hid ?_
          obtain ⟨d0, d1, d2, _⟩ := h5.facts
          have hl0 := hbd.l0
          have hl1 : st.line ≤ 2097152 := by omega
          have FR5 := Lib.hid (Fr.new FRR.out fr5 HOWN.out)
          clear hbd hli hbig hnl c0 c1 c2 fr5
          have hjr := raw_st w5 s (j + 1) ⟨tl st.rest, st.line + 1, 0⟩ HSN h1 (by omega)
          have HPK := Lib.hid (peek_any w5 L ⟨tl st.rest, st.line + 1, 0⟩ none h5)
          have FR5b := FR5
          clear hjr
          go_wp2_with (first | (go_at_call 10; refine HPK.out.mono ?_; rintro e w6 ⟨rfl, h6, fr6⟩; refine Hid.out ?_) | go_in)
          refine Lib.hid ?_
          have FR6 := Lib.hid (Fr.new FR5b.out fr6 HOWN.out)
          clear fr6 h5 FR5 FR5b HPK
          go_wp2_with (first | (go_at_call 8; refine (raw_st _ s (j + 1) ⟨tl st.rest, st.line + 1, 0⟩ HSN h1 (by omega)).mono ?_; rintro e w' ⟨rfl, rfl⟩) | go_in)
          go_loopw [15, 16, 17, 18] (fun i l c n wr => ∃ (j m : Nat) (st : St), i = .int .i64 j ∧ l = .int .i64 st.line ∧ c = .int .i64 st.col ∧ n = .int .i64 m ∧ j ≤ s.size ∧ st.rest = s.data.toList.drop j ∧ Sc wr L st none ∧ st.rest.length + m ≤ s.size ∧ Fr [] w wr) (fun _ _ _ n _ => s.size + 1 - (intOf n).toNat)
          case atStart => exact ⟨(j + 1), 0, ⟨tl st.rest, st.line + 1, 0⟩, by go_num, rfl, rfl, rfl, SNJ.out, HSN.out, h6, SNN.out, FR6.out⟩
          case round =>
            obtain ⟨j, m, st, rfl, rfl, rfl, rfl, hj, hst, hSr, hk, frr⟩ := hrel
            have FRR := Lib.hid frr
            have HST := Lib.hid hst
            have HJ := Lib.hid (step_rest hst)
            have HJL := Lib.hid (step_le hst hj)
            have hbd := hSr.bd
            clear frr h6 hst
            have hk2 : (m : Int) ≤ s.size := by omega
            by_cases hn : st.rest = []
            · have hc := St.nextC_neg.2 hn
              clear hn hk
              go_wp2_with (first | (go_at_call 7; refine (step_st _ s j st HST hj h1).mono ?_; rintro e w' ⟨rfl, rfl⟩) | (go_at_call 11; refine (adv_st _ st hbd).mono ?_; rintro e w' ⟨rfl, rfl⟩) | (go_at_call 6; refine (next_any _ L st none hSr).mono ?_; rintro e w7 ⟨rfl, h7, fr7⟩; refine Hid.out ?_))
              refine Lib.hid ?_
              have FR7 := Lib.hid (Fr.new FRR.out fr7 HOWN.out)
              obtain ⟨c0, c1, c2, _⟩ := h7.facts
              have H7 := Lib.hid h7
              clear fr7 h7 hSr
              go_wp2_with (first | (go_at_call 7; refine (step_st _ s j st HST hj h1).mono ?_; rintro e w' ⟨rfl, rfl⟩) | (go_at_call 11; refine (adv_st _ st hbd).mono ?_; rintro e w' ⟨rfl, rfl⟩))
              go_ret
              exact ⟨rfl, FR7.out⟩
            · have hl := (St.nextS_len hn).1
              have hc : ¬ st.nextC < 0 := fun h => hn (St.nextC_neg.1 h)
              have hc2 : 0 ≤ st.nextC := by omega
              clear hn
              go_wp2_with (first | (go_at_call 7; refine (step_st _ s j st HST hj h1).mono ?_; rintro e w' ⟨rfl, rfl⟩) | (go_at_call 11; refine (adv_st _ st hbd).mono ?_; rintro e w' ⟨rfl, rfl⟩) | (go_at_call 6; refine (next_any _ L st none hSr).mono ?_; rintro e w7 ⟨rfl, h7, fr7⟩; refine Hid.out ?_))
              refine Lib.hid ?_
              have FR7 := Lib.hid (Fr.new FRR.out fr7 HOWN.out)
              obtain ⟨c0, c1, c2, _⟩ := h7.facts
              have H7 := Lib.hid h7
              clear fr7 h7 hSr
              go_wp2_with (first | (go_at_call 7; refine (step_st _ s j st HST hj h1).mono ?_; rintro e w' ⟨rfl, rfl⟩) | (go_at_call 11; refine (adv_st _ st hbd).mono ?_; rintro e w' ⟨rfl, rfl⟩))
              go_roundw
              case rel => exact ⟨j + eat st.rest, m + 1, st.nextS, rfl, rfl, rfl, by go_num, HJL.out, HJ.out, H7.out, by omega, FR7.out⟩
              case measure => simp [intOf]; omega

theorem h39_yes (w : World) (a : Addr) (s : ByteArray) (k ch : Int) (he : HasEof w a) (h : s.size ≤ 1048576 ∧ s.size ≤ 65536 ∧ (0 : Int) ≤ k ∧ k ≤ (s.size : Int) + 1) :
    Calls Tryd.prog 3 #[.string s, .int .i64 k, .int .i64 ch] w fun e w' => e = .returned (.bool true) ∧ Fr [] w w' := by
  obtain ⟨h1, h2, h3, h4⟩ := h
  obtain ⟨kn, rfl⟩ : ∃ n : Nat, k = n := ⟨k.toNat, by omega⟩
  by_cases hch : ch < 0
  · exact h39_neg w a s kn ch he h1 h2 (by omega) hch
  · exact h39_pos w a s kn ch he h1 h2 (by omega) (by omega)

theorem h39_walk (W : World) (a : Addr) (he : HasEof W a) (s : ByteArray) (k ch : Int) :
    Calls Tryd.prog 3 #[.string s, .int .i64 k, .int .i64 ch] W fun e w' => e = .returned (.bool true) ∧ Below W.heap.size W w' := by
  by_cases h : s.size ≤ 1048576 ∧ s.size ≤ 65536 ∧ (0 : Int) ≤ k ∧ k ≤ (s.size : Int) + 1
  · exact (h39_yes W a s k ch he h).mono fun _ _ ⟨h1, h2⟩ => ⟨h1, h2.below (Nat.le_refl _) (by simp)⟩
  · exact (h39_no W s k ch h).mono fun _ _ ⟨h1, h2⟩ => ⟨h1, h2 ▸ Below.refl _ _⟩
end Go.Proofs.YtnaklkhdmmbjjaaDoor
