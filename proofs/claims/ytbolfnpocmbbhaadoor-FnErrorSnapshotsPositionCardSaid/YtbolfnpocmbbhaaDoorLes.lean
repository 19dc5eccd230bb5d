/- The law FnErrorSnapshotsPosition, walked. -/
import Derived.Test.YtbolfnpocmbbhaaDoorPosIs
import Derived.Test.YtbolfnpocmbbhaaDoorErr
namespace Go.Proofs.YtbolfnpocmbbhaaDoor
open Go.RowKit

set_option maxHeartbeats 3200000 in
theorem es_no (w : World) (s src tok msg : ByteArray) (h : ¬ (s.size ≤ 1048576 ∧ src.size ≤ 1048576 ∧ tok.size ≤ 1048576 ∧ msg.size ≤ 1048576 ∧ s.size + src.size + tok.size + msg.size ≤ 1048576)) :
    Calls Tryd.prog 6 #[.string s, .string src, .string tok, .string msg] w
      fun e w' => e = .returned (.bool true) ∧ w' = w := by
  by_cases g0 : s.size ≤ 1048576
  · have k0 : (s.size : Int) ≤ 1048576 := by omega
    by_cases g1 : src.size ≤ 1048576
    · have k1 : (src.size : Int) ≤ 1048576 := by omega
      by_cases g2 : s.size + src.size ≤ 1048576
      · have k2 : (s.size : Int) + (src.size : Int) ≤ 1048576 := by omega
        by_cases g3 : tok.size ≤ 1048576
        · have k3 : (tok.size : Int) ≤ 1048576 := by omega
          by_cases g4 : s.size + src.size + tok.size ≤ 1048576
          · have k4 : (s.size : Int) + (src.size : Int) + (tok.size : Int) ≤ 1048576 := by omega
            by_cases g5 : msg.size ≤ 1048576
            · have k5 : (msg.size : Int) ≤ 1048576 := by omega
              by_cases g6 : s.size + src.size + tok.size + msg.size ≤ 1048576
              · have k6 : (s.size : Int) + (src.size : Int) + (tok.size : Int) + (msg.size : Int) ≤ 1048576 := by omega
                exact absurd ⟨by omega, by omega, by omega, by omega, by omega⟩ h
              · have k6 : (1048576 : Int) < (s.size : Int) + (src.size : Int) + (tok.size : Int) + (msg.size : Int) := by omega
                clear h
                go_enter Tryd.func6, Tryd.ntmps6
                go_wp2
                go_ret
                exact ⟨rfl, rfl⟩
            · have k5 : (1048576 : Int) < (msg.size : Int) := by omega
              clear h
              go_enter Tryd.func6, Tryd.ntmps6
              go_wp2
              go_ret
              exact ⟨rfl, rfl⟩
          · have k4 : (1048576 : Int) < (s.size : Int) + (src.size : Int) + (tok.size : Int) := by omega
            clear h
            go_enter Tryd.func6, Tryd.ntmps6
            go_wp2
            go_ret
            exact ⟨rfl, rfl⟩
        · have k3 : (1048576 : Int) < (tok.size : Int) := by omega
          clear h
          go_enter Tryd.func6, Tryd.ntmps6
          go_wp2
          go_ret
          exact ⟨rfl, rfl⟩
      · have k2 : (1048576 : Int) < (s.size : Int) + (src.size : Int) := by omega
        clear h
        go_enter Tryd.func6, Tryd.ntmps6
        go_wp2
        go_ret
        exact ⟨rfl, rfl⟩
    · have k1 : (1048576 : Int) < (src.size : Int) := by omega
      clear h
      go_enter Tryd.func6, Tryd.ntmps6
      go_wp2
      go_ret
      exact ⟨rfl, rfl⟩
  · have k0 : (1048576 : Int) < (s.size : Int) := by omega
    clear h
    go_enter Tryd.func6, Tryd.ntmps6
    go_wp2
    go_ret
    exact ⟨rfl, rfl⟩

set_option maxRecDepth 100000 in
set_option maxHeartbeats 6400000 in
theorem es_yes (w : World) (a : Addr) (s src tok msg : ByteArray) (he : HasEof w a) (h1 : s.size ≤ 1048576) (h2 : src.size ≤ 1048576) (h3 : tok.size ≤ 1048576) (h4 : msg.size ≤ 1048576) (h5 : s.size + src.size + tok.size + msg.size ≤ 1048576) :
    Calls Tryd.prog 6 #[.string s, .string src, .string tok, .string msg] w
      fun e w' => e = .returned (.bool true) ∧ Fr [] w w' := by
  have i1 : (s.size : Int) + (src.size : Int) ≤ 1048576 := by omega
  have i2 : (s.size : Int) + (src.size : Int) + (tok.size : Int) ≤ 1048576 := by omega
  have i3 : (s.size : Int) + (src.size : Int) + (tok.size : Int) + (msg.size : Int) ≤ 1048576 := by omega
  have b1 : decide ((1048576 : Int) < (s.size : Int)) = false := by rw [decide_eq_false_iff_not]; omega
  have b2 : decide ((1048576 : Int) < (src.size : Int)) = false := by rw [decide_eq_false_iff_not]; omega
  have b3 : decide ((1048576 : Int) < (tok.size : Int)) = false := by rw [decide_eq_false_iff_not]; omega
  have b4 : decide ((1048576 : Int) < (msg.size : Int)) = false := by rw [decide_eq_false_iff_not]; omega
  have b5 : decide ((1048576 : Int) < (s.size : Int) + (src.size : Int) + (tok.size : Int) + (msg.size : Int)) = false := by rw [decide_eq_false_iff_not]; omega
  go_enter Tryd.func6, Tryd.ntmps6
  go_wp2_with (first | (go_at_call 9; refine (newReader _ s (by omega)).mono ?_; rintro e w1 ⟨rfl, hU, hz, fr⟩; refine Hid.out ?_) | go_in)
  refine Lib.hid ?_
  have he1 := he.fr fr (by simp)
  have hg0 := he.2
  have hne : w.heap.size ≠ 0 := by omega
  go_wp2_with (go_at_call 8; refine (newScanner w1 _ a src _ hU he1 hne).mono ?_; rintro e w2 hN; obtain ⟨L, hLU, hLa, hLs, hS, hR, hD, rfl, hSc, fr2⟩ := hN; refine Hid.out ?_)
  refine Lib.hid ?_
  clear he he1 hU
  have HOWN := Lib.hid (show ∀ k ∈ L.own, w.heap.size ≤ k from Loc.own_new (by omega) (by omega) (by omega) (by omega))
  have FR0 := Lib.hid (fr.trans fr2)
  have HLs := Lib.hid hLs
  have HLT := Lib.hid (show ∀ k ∈ L.own, k < w2.heap.size from fun k hk => hSc.lt k (by simp [Loc.own] at hk ⊢; omega))
  clear fr fr2 hLU hLa hLs hS hR hD hg0 hne hz
  go_wp2_with (go_at_call 18; refine (error_any w2 L _ none tok msg hSc).mono ?_; rintro e w3 ⟨rfl, hE, hSc3, fr3, hz3⟩; refine Hid.out ?_)
  refine Lib.hid ?_
  obtain ⟨c0, c1, c2, _, _, _⟩ := hSc3.facts
  rw [HLs.out] at c0
  have HE := Lib.hid hE
  have HS3 := Lib.hid hSc3
  have FR3 := Lib.hid fr3
  have HZ3 := Lib.hid hz3
  clear hSc hE hSc3 fr3 hz3
  go_wp2_with (go_at_call 12; refine (posIs_yes w3 src 1 0).mono ?_; rintro e w4 ⟨rfl, fr4⟩; refine Hid.out ?_)
  refine Lib.hid ?_
  clear c0 c1 c2
  have HS4 := Lib.hid (HS3.out.fr fr4)
  have HE4 := Lib.hid (fr4.blk HE.out (by simp))
  have FR4 := Lib.hid (FR0.out.trans (FR3.out.trans fr4))
  have HEN := Lib.hid (show w2.heap.size ∉ L.own from fun hm => by have := HLT.out _ hm; omega)
  clear fr4 HE HS3 FR0 HLT FR3
  go_wp2
  go_loopw [11, 12] (fun r i wr => ∃ (k : Nat) (st : St), k ≤ s.size ∧ r = .bool false ∧ i = .int .i64 k ∧ Sc wr L st none ∧ st.rest.length + k ≤ s.size ∧ Fr L.own w4 wr) (fun _ i _ => s.size + 1 - (intOf i).toNat)
  case atStart => exact ⟨0, ⟨s.data.toList, 1, 0⟩, Nat.zero_le _, rfl, rfl, HS4.out, by simp, Fr.refl _ _⟩
  case round =>
    obtain ⟨k, st, hk, rfl, rfl, hSr, hlen, frr⟩ := hrel
    have FRR := Lib.hid frr
    clear frr HS4
    have hle : (k : Int) ≤ (s.size : Int) := by omega
    by_cases hn : st.rest = []
    · go_wp2_with (go_at_call 16; refine (next_eof wr L _ none hSr hn).mono ?_; rintro e w5 ⟨rfl, h5', fr5⟩; refine Hid.out ?_)
      refine Lib.hid ?_
      have FR5 := Lib.hid (FRR.out.trans fr5)
      have HE5 := Lib.hid ((FRR.out.trans fr5).blk HE4.out HEN.out)
      obtain ⟨c0, c1, c2, _, _, _⟩ := h5'.facts
      rw [HLs.out] at c0
      clear fr5 FRR hSr hlen hn
      go_wp2_with fail
      have fr6 : Fr [] w5 (w5.alloc (.cells #[.string src, .int .i64 (-1), .int .i64 0] 31)) := (Fr.refl _ _).alloc _
      have h6 := h5'.fr fr6
      have hB := Blk.new w5 #[.string src, .int .i64 (-1), .int .i64 0] 31
      generalize w5.alloc (.cells #[.string src, .int .i64 (-1), .int .i64 0] 31) = w6 at fr6 h6 hB ⊢
      have HE6 := fr6.blk HE5.out (by simp)
      have hne : w2.heap.size ≠ w6.heap.size := by have := HE6.lt; omega
      have FR6 := Lib.hid ((FR4.out.new FR5.out HOWN.out).trans fr6)
      clear fr6 h5' FR5 HE5 HEN HE4 FR4 HOWN
      refine (error_any w6 L _ none tok msg h6).mono ?_
      rintro e w7 ⟨rfl, hE2, h7, fr7, -⟩
      have HE7 := fr7.blk HE6 (by simp)
      have HB7 := fr7.blk hB (by simp)
      have heq := two_errors w7 w2.heap.size w6.heap.size _ _ hne HE7 hE2
      have d0 := HE7.cell 0 _ rfl
      have d1 := HE7.cell 1 _ rfl
      have d2 := HE7.cell 2 _ rfl
      rw [HLs.out] at d0 hE2
      have HE2 := Lib.hid hE2
      have HB := Lib.hid HB7
      have H7 := Lib.hid h7
      have FR7 := Lib.hid (FR6.out.trans fr7)
      clear HE6 HE7 HB7 hB h6 fr7 FR6 h7 hE2 c0 c1 c2
      go_wp2_with (go_at_call 12; refine (posIs_yes w7 src 1 0).mono ?_; rintro e w8 ⟨rfl, fr8⟩; refine Hid.out ?_)
      refine Lib.hid ?_
      have g0 := (fr8.blk HE2.out (by simp)).cell 0 _ rfl
      have g1 := (fr8.blk HE2.out (by simp)).cell 1 _ rfl
      have g2 := (fr8.blk HE2.out (by simp)).cell 2 _ rfl
      have FR8 := Lib.hid fr8
      clear fr8 heq d0 d1 d2
      go_wp2_with (go_at_call 12; refine (posIs_yes w8 src (-1) 0).mono ?_; rintro e w9 ⟨rfl, fr9⟩; refine Hid.out ?_)
      refine Lib.hid ?_
      have fr := FR8.out.trans fr9
      have m0 := (fr.blk HB.out (by simp)).cell 0 _ rfl
      have m1 := (fr.blk HB.out (by simp)).cell 1 _ rfl
      have m2 := (fr.blk HB.out (by simp)).cell 2 _ rfl
      obtain ⟨c0, c1, c2, _, _, _⟩ := (H7.out.fr fr).facts
      rw [HLs.out] at c0
      have FR9 := Lib.hid (FR7.out.trans fr)
      have HE9 := Lib.hid (fr.blk HE2.out (by simp))
      clear fr9 g0 g1 g2 FR8 FR7
      go_wp2
      have HB9 := Lib.hid (fr.blk HB.out (by simp))
      have H9 := Lib.hid (H7.out.fr fr)
      clear fr c0 c1 c2 m0 m1 m2
      have c0 : ∀ p : Nb [] w9, p.v.cell? ⟨L.S, 0, none⟩ = some (.string src) := fun p => by have := (H9.out.fr p.fr).facts.1; rwa [HLs.out] at this
      have c1 : ∀ p : Nb [] w9, p.v.cell? ⟨L.S, 1, none⟩ = some (.int .i64 (-1)) := fun p => (H9.out.fr p.fr).facts.2.1
      have c2 : ∀ p : Nb [] w9, p.v.cell? ⟨L.S, 2, none⟩ = some (.int .i64 0) := fun p => (H9.out.fr p.fr).facts.2.2.1
      have m0 : ∀ p : Nb [] w9, p.v.cell? ⟨w5.heap.size, 0, none⟩ = some (.string src) := fun p => (p.fr.blk HB9.out (by simp)).cell 0 _ rfl
      have m1 : ∀ p : Nb [] w9, p.v.cell? ⟨w5.heap.size, 1, none⟩ = some (.int .i64 (-1)) := fun p => (p.fr.blk HB9.out (by simp)).cell 1 _ rfl
      have m2 : ∀ p : Nb [] w9, p.v.cell? ⟨w5.heap.size, 2, none⟩ = some (.int .i64 0) := fun p => (p.fr.blk HB9.out (by simp)).cell 2 _ rfl
      have n0 : ∀ p : Nb [] w9, p.v.cell? ⟨w6.heap.size, 3, none⟩ = some (.string msg) := fun p => (p.fr.blk HE9.out (by simp)).cell 3 _ rfl
      have n1 : ∀ p : Nb [] w9, p.v.cell? ⟨w6.heap.size, 4, none⟩ = some (.string tok) := fun p => (p.fr.blk HE9.out (by simp)).cell 4 _ rfl
      refine wp_region_nb [] (by kernel_rfl) (by kernel_rfl) ?_
      repeat (go_big_quiet_step ((go_at_call 12; exact Calls.nb (posIs_yes _ src (-1) 0))))
      refine wpQuiet_nil ?_
      rintro _ ⟨p, rfl⟩
      go_wp2
      go_ret
      exact ⟨rfl, FR9.out.trans p.fr⟩
    · have hl := St.nextS_len hn
      have hc : (st.nextC == -1) = false := by
        rw [beq_eq_false_iff_ne]
        intro h
        exact hn (St.nextC_neg.1 (by omega))
      go_wp2_with (go_at_call 16; refine (next_any wr L st none hSr).mono ?_; rintro e w5 ⟨rfl, h5', fr5⟩; refine Hid.out ?_)
      refine Lib.hid ?_
      go_wp2
      go_roundw
      case rel => exact ⟨k + 1, st.nextS, by omega, rfl, by go_num, h5', by omega, FRR.out.trans fr5⟩
      case measure => simp [intOf]; omega

theorem es_walk (W : World) (a : Addr) (he : HasEof W a) (s src tok msg : ByteArray) :
    Calls Tryd.prog 6 #[.string s, .string src, .string tok, .string msg] W fun e w' => e = .returned (.bool true) ∧ Below W.heap.size W w' := by
  by_cases h : s.size ≤ 1048576 ∧ src.size ≤ 1048576 ∧ tok.size ≤ 1048576 ∧ msg.size ≤ 1048576 ∧ s.size + src.size + tok.size + msg.size ≤ 1048576
  · exact (es_yes W a s src tok msg he h.1 h.2.1 h.2.2.1 h.2.2.2.1 h.2.2.2.2).mono fun _ _ ⟨h1, h2⟩ => ⟨h1, h2.below (Nat.le_refl _) (by simp)⟩
  · exact (es_no W s src tok msg h).mono fun _ _ ⟨h1, h2⟩ => ⟨h1, h2 ▸ Below.refl _ _⟩
end Go.Proofs.YtbolfnpocmbbhaaDoor
