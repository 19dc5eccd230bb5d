/- The law FnSkipWhiteSpaceWiderMaskSkipsFarther, walked. -/
import Derived.Test.YthlnkoelijlfeaaDoorRest39
namespace Go.Proofs.YthlnkoelijlfeaaDoor
open Go.RowKit

set_option maxHeartbeats 1600000 in
theorem e39_no (w : World) (s : ByteArray) (m1 m2 : Int) (h : ¬ (s.size ≤ 1048576 ∧ s.size ≤ 65536)) :
    Calls Tryd.prog 6 #[.string s, .int .i64 m1, .int .i64 m2] w fun e w' => e = .returned (.bool true) ∧ w' = w := by
  by_cases h0 : s.size ≤ 1048576
  case neg =>
    have hf : (1048576 : Int) < (s.size : Int) := by omega
    clear h h0
    go_enter Tryd.func6, Tryd.ntmps6
    go_wp2
    go_ret
    exact ⟨rfl, rfl⟩
  by_cases h1 : s.size ≤ 65536
  case neg =>
    have hf : (65536 : Int) < (s.size : Int) := by omega
    clear h h1
    go_enter Tryd.func6, Tryd.ntmps6
    go_wp2
    go_ret
    exact ⟨rfl, rfl⟩
  exact absurd ⟨h0, h1⟩ h

set_option maxRecDepth 100000 in
set_option maxHeartbeats 4000000 in
theorem e39_yes (w : World) (a : Addr) (s : ByteArray) (m1 m2 : Int) (he : HasEof w a) (h : s.size ≤ 1048576 ∧ s.size ≤ 65536) :
    Calls Tryd.prog 6 #[.string s, .int .i64 m1, .int .i64 m2] w fun e w' => e = .returned (.bool true) ∧ Fr [] w w' := by
  obtain ⟨h1, h2⟩ := h
  have b1 : decide ((1048576 : Int) < (s.size : Int)) = false := by rw [decide_eq_false_iff_not]; omega
  have b2 : decide ((65536 : Int) < (s.size : Int)) = false := by rw [decide_eq_false_iff_not]; omega
  have hg0 := he.2
  have hsub := Lib.hid (inM_sub m1 m2)
  go_enter Tryd.func6, Tryd.ntmps6
  go_wp2_with (first | (go_at_call 12; refine (znew _ a s _ he h1).mono ?_; rintro e w1 hN; obtain ⟨L, hLs, hown, hlt, rfl, hSc, fr, he1⟩ := hN; refine Hid.out ?_) | go_in)
  refine Lib.hid ?_
  go_wp2_with (first | (go_at_call 12; refine (znew _ L.a s _ he1 h1).mono ?_; rintro e w2 hN; obtain ⟨M, hMs, mown, mlt, rfl, hMc, frm, he2⟩ := hN; refine Hid.out ?_) | go_in)
  refine Lib.hid ?_
  have hap := Lib.hid (Ap.mk' hg0 hown hlt mown)
  have HOWN := Lib.hid hown
  have MOWN := Lib.hid (fun k hk => Nat.le_trans fr.size (mown k hk))
  have FR0 := Lib.hid (fr.trans frm)
  have hSc := hSc.fr frm
  obtain ⟨st0, est⟩ : ∃ st0 : St, st0 = ⟨s.data.toList, 1, 0⟩ := ⟨_, rfl⟩
  have hl0 : Hid (st0.rest.length ≤ s.size) := by subst est; show _ ≤ _; simp [Array.length_toList]
  rw [← est] at hSc hMc
  clear he he1 he2 hLs hMs hown hlt mown mlt fr frm hg0 est
  have hza := zskip_two w2 L M st0 st0 none none (bits BinOp.and IntKind.i64 m1 m2) hSc hMc hap.out
  obtain ⟨q, hq⟩ : ∃ q : Int × St, q = st0.skip (bits BinOp.and IntKind.i64 m1 m2) := ⟨_, rfl⟩
  obtain ⟨ca, sa⟩ := q
  have HQ := Lib.hid hq
  rw [← hq] at hza
  have hch := skip_char (bits BinOp.and IntKind.i64 m1 m2) st0
  rw [← hq] at hch
  obtain ⟨hc0, hc1⟩ := hch
  have hlq := Lib.hid (Nat.le_trans (len_skip (bits BinOp.and IntKind.i64 m1 m2) st0) hl0.out)
  clear hq
  go_wp2_with (first | (go_at_call 16; refine hza.mono ?_; rintro e w3 ⟨rfl, h3, m3, fr3⟩; refine Hid.out ?_) | go_in)
  refine Lib.hid ?_
  have FR3 := Lib.hid (Fr.new FR0.out fr3 HOWN.out)
  clear hza hSc hMc fr3 FR0
  have hzb := zskip_two w3 M L st0 sa none none m1 m3 h3 hap.out.symm
  obtain ⟨q, hq2⟩ : ∃ q : Int × St, q = st0.skip m1 := ⟨_, rfl⟩
  obtain ⟨cb, sb⟩ := q
  have HQ2 := Lib.hid hq2
  rw [← hq2] at hzb
  have hlq2 := Lib.hid (Nat.le_trans (len_skip m1 st0) hl0.out)
  clear hq2
  go_wp2_with (first | (go_at_call 16; refine hzb.mono ?_; rintro e w4 ⟨rfl, m4, h4, fr4⟩; refine Hid.out ?_) | go_in)
  refine Lib.hid ?_
  have FR4 := Lib.hid (Fr.new FR3.out fr4 MOWN.out)
  clear hzb h3 m3 fr4 FR3
  have ho := outside_any w4 ca m1 hc0 hc1
  have hla : sa.rest.length ≤ s.size := by have h := hlq.out; rw [← HQ.out] at h; exact h
  have hlb : sb.rest.length ≤ s.size := by have h := hlq2.out; rw [← HQ2.out] at h; exact h
  cases hm : inM m1 ca
  · have hsm := skip_same (fun c x y z => hsub.out c x y z) st0 (by rw [← HQ.out]; exact hm)
    rw [← HQ.out, ← HQ2.out] at hsm
    obtain ⟨rfl, rfl⟩ : cb = ca ∧ sb = sa := by rw [Prod.mk.injEq] at hsm; exact hsm
    rw [hm] at ho
    clear hm hsm
    obtain ⟨c0, c1, c2, _⟩ := h4.facts
    obtain ⟨d0, d1, d2, _⟩ := m4.facts
    have H4 := Lib.hid h4
    have M4 := Lib.hid m4
    clear h4 m4
    go_wp2_with (first | (go_at_call 15; refine ho.mono ?_; rintro e w' ⟨rfl, rfl⟩) | go_in)
    go_quiet (fail)
    have h5 := H4.out.fr ((Fr.refl _ _).drewN nq)
    have HMB := Lib.hid (M4.out.fr ((Fr.refl _ _).drewN nq))
    have FR6 := Lib.hid (FR4.out.drewN nq)
    generalize w4.drewN nq = w5 at h5 HMB FR6 ⊢
    clear c0 c1 c2 d0 d1 d2 H4 M4 FR4 ho
    have hra := rest_any w5 L _ none s.size (by omega) hla h5
    clear h5
    have hca : (0 : Int) ≤ ((sb.cnt : Nat) : Int) := by omega
    have hcb : (0 : Int) ≤ ((sb.cnt : Nat) : Int) := by omega
    go_wp2_with (first | (go_at_call 23; refine hra.mono ?_; rintro e w7 ⟨rfl, ⟨_, _⟩, fr7⟩; refine Hid.out ?_) | go_in)
    refine Lib.hid ?_
    have hrb := rest_any w7 M _ none s.size (by omega) hlb (HMB.out.apart fr7 hap.out.ml)
    have FR7 := Lib.hid (Fr.new FR6.out fr7 HOWN.out)
    clear fr7 hra
    go_wp2_with (first | (go_at_call 23; refine hrb.mono ?_; rintro e w8 ⟨rfl, ⟨_, _⟩, fr8⟩; refine Hid.out ?_) | go_in)
    refine Lib.hid ?_
    have FR8 := Lib.hid (Fr.new FR7.out fr8 MOWN.out)
    clear fr8 hrb
    go_wp2
    go_ret
    exact ⟨by simp, FR8.out⟩
  · have hfar := skip_far (fun c x y z => hsub.out c x y z) st0
    rw [← HQ.out, ← HQ2.out] at hfar
    have hfar2 : (sb.cnt : Int) ≤ (sa.cnt : Int) := by exact_mod_cast hfar
    rw [hm] at ho
    clear hm hfar
    have HMB := Lib.hid m4
    have FR6 := Lib.hid FR4.out
    have hra := rest_any w4 L _ none s.size (by omega) hla h4
    clear h4 m4 FR4
    go_wp2_with (first | (go_at_call 15; refine ho.mono ?_; rintro e w' ⟨rfl, rfl⟩; refine Hid.out ?_) | go_in)
    refine Lib.hid ?_
    have hca : (0 : Int) ≤ ((sa.cnt : Nat) : Int) := by omega
    have hcb : (0 : Int) ≤ ((sb.cnt : Nat) : Int) := by omega
    go_wp2_with (first | (go_at_call 23; refine hra.mono ?_; rintro e w7 ⟨rfl, ⟨_, _⟩, fr7⟩; refine Hid.out ?_) | go_in)
    refine Lib.hid ?_
    have hrb := rest_any w7 M _ none s.size (by omega) hlb (HMB.out.apart fr7 hap.out.ml)
    have FR7 := Lib.hid (Fr.new FR6.out fr7 HOWN.out)
    clear fr7 hra
    go_wp2_with (first | (go_at_call 23; refine hrb.mono ?_; rintro e w8 ⟨rfl, ⟨_, _⟩, fr8⟩; refine Hid.out ?_) | go_in)
    refine Lib.hid ?_
    have FR8 := Lib.hid (Fr.new FR7.out fr8 MOWN.out)
    clear fr8 hrb
    go_wp2
    go_ret
    exact ⟨rfl, FR8.out⟩

theorem e39_walk (W : World) (a : Addr) (he : HasEof W a) (s : ByteArray) (m1 m2 : Int) :
    Calls Tryd.prog 6 #[.string s, .int .i64 m1, .int .i64 m2] W fun e w' => e = .returned (.bool true) ∧ Below W.heap.size W w' := by
  by_cases h : s.size ≤ 1048576 ∧ s.size ≤ 65536
  · exact (e39_yes W a s m1 m2 he h).mono fun _ _ ⟨h1, h2⟩ => ⟨h1, h2.below (Nat.le_refl _) (by simp)⟩
  · exact (e39_no W s m1 m2 h).mono fun _ _ ⟨h1, h2⟩ => ⟨h1, h2 ▸ Below.refl _ _⟩
end Go.Proofs.YthlnkoelijlfeaaDoor
