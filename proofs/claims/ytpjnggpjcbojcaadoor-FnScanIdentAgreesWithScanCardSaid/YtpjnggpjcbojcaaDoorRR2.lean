/- (*bufio.Reader).Read, walked: straight into the caller's row; at the end. -/
import Derived.Test.YtpjnggpjcbojcaaDoorRR
namespace Go.Proofs.YtpjnggpjcbojcaaDoor
open Go.RowKit

theorem Src.len {w : World} {U : Nat} {l : List UInt8} (h : Src w U l) : l.length ≤ 1099511627776 := by
  obtain ⟨s, i, pr, _, hi, hs, hl⟩ := h
  rw [hl]; simp; omega
theorem RdAt.setU {w : World} {L : Loc} {r wn : Nat} {bs : List UInt8} {err : Value} {lastB lastR : Int} {l2 : List UInt8} (h : RdAt w L r wn bs err lastB lastR l2) {w' : World} {g : Nat} {T : TypeId} {cur : List Value} {l2' : List UInt8}
    (_ : BlkT w' g T cur) (hU : Src w' L.U l2') (f : Fr [g, L.U] w w') (hg : g ∉ L.base) : RdAt w' L r wn bs err lastB lastR l2' := by
  have h1 : L.R ∉ [g, L.U] := by
    simp only [List.mem_cons, List.not_mem_nil, or_false]
    rintro (e | e)
    · exact hg (by rw [← e]; simp [Loc.base])
    · exact h.ok.ru e
  have h2 : L.D ∉ [g, L.U] := by
    simp only [List.mem_cons, List.not_mem_nil, or_false]
    rintro (e | e)
    · exact hg (by rw [← e]; simp [Loc.base])
    · exact h.ok.du e
  have h3 : 0 ∉ [g, L.U] := by
    simp only [List.mem_cons, List.not_mem_nil, or_false]
    rintro (e | e)
    · exact hg (by rw [← e]; simp [Loc.base])
    · exact h.ok.gu e.symm
  exact ⟨f.blk h.bR h1, f.byt h.bD h2, h.lD, hU, h.eof.fr f h3, h.ok⟩

set_option maxRecDepth 100000 in
set_option maxHeartbeats 6400000 in
/-- Nothing lies in the array; there is room for all of it: straight into the caller's row. -/
theorem rread_dir (w : World) (L : Loc) (r0 : Nat) (bs0 : List UInt8) (lastB0 lastR0 : Int) (lst : List UInt8) (h : RdAt w L r0 r0 bs0 .nilIface lastB0 lastR0 lst) (hr0 : r0 ≤ 4096) (hne : lst ≠ [])
    (g off m c : Nat) (T : TypeId) (cur : List Value) (hg : BlkT w g T cur) (hfit : off + m ≤ cur.length) (hm : 4096 ≤ m) (hm2 : m ≤ 9223372036854775807) (hgb : g ∉ L.base) :
    Calls Tryd.prog 118 #[.pointer (some ⟨L.R, 0, none⟩), .slice (some ⟨g, off, none⟩) m c] w (ReadIs w L g off T cur lst m) := by
  have hb0 : ((m : Int) == 0) = false := by rw [beq_eq_false_iff_ne]; omega
  have hmi : (m : Int) ≤ 9223372036854775807 := by omega
  have hmi4 : (4096 : Int) ≤ (m : Int) := by omega
  obtain ⟨n, hn⟩ : ∃ n, n = min m lst.length := ⟨_, rfl⟩
  have hnp := List.length_pos_iff.2 hne
  have hsl := h.bU.len
  obtain ⟨k, hk⟩ : ∃ k, n = k + 1 := ⟨n - 1, by omega⟩
  have hkl : k < lst.length := by omega
  obtain ⟨x, hx⟩ : ∃ x, x = lst[k] := ⟨_, rfl⟩
  obtain ⟨K, hK⟩ : ∃ K : Int, K = (n : Int) := ⟨_, rfl⟩
  have hK1 : K - 1 = (k : Int) := by omega
  have hK2 : K ≤ 1099511627776 := by omega
  have hK3 : 0 < K := by omega
  have hkm : (k : Int) < (m : Int) := by omega
  have HN := Lib.hid hn
  have HK := Lib.hid hk
  have HX := Lib.hid hx
  have HKK := Lib.hid hK
  have HF := Lib.hid hfit
  have hgR : g ≠ L.R := fun e => hgb (by rw [e]; simp [Loc.base])
  have hgU : L.U ≠ g := fun e => hgb (by rw [← e]; simp [Loc.base])
  clear hn hk hx hK hnp hfit hsl
  obtain ⟨c0, c1, c2, c3, c4, _⟩ := h.facts
  go_enter Tryd.func118, Tryd.ntmps118
  go_wp2
  go_quiet (fail)
  have h1 := h.drewN nq
  have g1 := hg.drewN nq
  have fr1 : Fr (g :: L.rown) w (w.drewN nq) := (Fr.refl _ w).drewN nq
  generalize w.drewN nq = w1 at h1 g1 fr1 ⊢
  clear c0 c1 c2 c3 c4 h hg
  obtain ⟨c0, c1, c2, c3, c4, _, _, f2, f3, f4, f5, f6⟩ := h1.facts
  have hm := read_method
  have hbR : ∀ w', Fr [g, L.U] w1 w' → w'.cell? ⟨L.R, 4, none⟩ = some .nilIface ∧ w'.frozen? ⟨L.R, 4, none⟩ = false := fun w' f => by
    have b := f.blk h1.bR (by simp [h1.ok.ru]; exact fun e => hgR e.symm)
    exact ⟨b.cell 4 _ rfl, b.free 4⟩
  go_wp2_with (go_at_call 117; refine (sread_into w1 L.U g off m c T lst cur h1.bU hne g1 HF.out hgU n HN).mono ?_; rintro e w' ⟨rfl, g2, hs', fr'⟩; obtain ⟨c4n, f4n⟩ := hbR w' fr'; rw [← HKK.out]; refine Hid.out ?_)
  refine Lib.hid ?_
  have h2 := h1.setU g2 hs' fr' hgb
  have fr2 : Fr (g :: L.rown) w w' := fr1.trans (fr'.mono (by simp [Loc.rown]))
  clear c0 c1 c2 c3 c4 f2 f3 f4 f5 f6 h1 g1 fr1 hm hbR hs' fr' c4n f4n
  obtain ⟨c0, c1, c2, c3, c4, c5, c6, f2, f3, f4, f5, f6⟩ := h2.facts
  have cG : w'.cell? ⟨g, off + k, none⟩ = some (.int .u8 x.toNat) := by
    have hn := HN.out
    have hk := HK.out
    have hl : k < (lst.take m).length := by rw [List.length_take]; omega
    refine g2.blk.cell _ _ ?_
    rw [laid_get cur off (lst.take m) (by have := HF.out; rw [List.length_take]; omega) k hl, List.getElem_take, ← HX.out]
    rfl
  have hRg : L.R ≠ g := fun e => hgR e.symm
  go_wp2
  go_ret2
  have hn := HN.out
  have hk := HK.out
  have e0 : lst.take m = lst.take n := by
    rcases Nat.le_total m lst.length with h | h
    · rw [show n = m by omega]
    · rw [List.take_of_length_le h, List.take_of_length_le (by omega)]
  have e1 : lst.drop m = lst.drop n := by
    rcases Nat.le_total m lst.length with h | h
    · rw [show n = m by omega]
    · rw [List.drop_eq_nil_of_le h, List.drop_eq_nil_of_le (by omega)]
  have h6 := (((h2.set_err .nilIface).set_lastB (wrap64 (x.toNat : Int))).set_lastR (-1)).set_err .nilIface
  rw [e0] at g2
  rw [e1] at h6
  refine ⟨n, by omega, by omega, by omega, by rw [← HKK.out]; rfl, (((g2.other hgR _).other hgR _).other hgR _).other hgR _, ⟨r0, r0, bs0, _, -1, _, h6, Nat.le_refl _, hr0, ?_, fun c hc => by cases hc⟩, (((fr2.setCell (by simp [Loc.rown]) _).setCell (by simp [Loc.rown]) _).setCell (by simp [Loc.rown]) _).setCell (by simp [Loc.rown]) _⟩
  have e5 : (bs0.take r0).drop r0 = [] := List.drop_eq_nil_of_le (by simp; omega)
  rw [e5, List.nil_append]

set_option maxRecDepth 100000 in
set_option maxHeartbeats 6400000 in
/-- At the end, straight. -/
theorem rread_end1 (w : World) (L : Loc) (r0 : Nat) (bs0 : List UInt8) (lastB0 lastR0 : Int) (h : RdAt w L r0 r0 bs0 .nilIface lastB0 lastR0 []) (hr0 : r0 ≤ 4096)
    (g off m c : Nat) (hm : 4096 ≤ m) (hm2 : m ≤ 9223372036854775807) :
    Calls Tryd.prog 118 #[.pointer (some ⟨L.R, 0, none⟩), .slice (some ⟨g, off, none⟩) m c] w fun e w' => e = .returned (.tuple #[.int .i64 0, eofV L.a]) ∧ Rd w' L [] none ∧ Fr L.rown w w' := by
  have hb0 : ((m : Int) == 0) = false := by rw [beq_eq_false_iff_ne]; omega
  have hmi : (m : Int) ≤ 9223372036854775807 := by omega
  have hmi4 : (4096 : Int) ≤ (m : Int) := by omega
  obtain ⟨c0, c1, c2, c3, c4, _⟩ := h.facts
  go_enter Tryd.func118, Tryd.ntmps118
  go_wp2
  go_quiet (fail)
  have h1 := h.drewN nq
  have fr1 : Fr L.rown w (w.drewN nq) := (Fr.refl _ w).drewN nq
  generalize w.drewN nq = w1 at h1 fr1 ⊢
  clear c0 c1 c2 c3 c4 h
  obtain ⟨c0, c1, c2, c3, c4, _, _, f2, f3, f4, f5, f6⟩ := h1.facts
  have hm := read_method
  go_wp2_with (go_at_call 117; refine (sread_end w1 L.U g off m c L.a h1.bU h1.eof).mono ?_; rintro e w' ⟨rfl, nr, rfl⟩; refine Hid.out ?_)
  refine Lib.hid ?_
  have h2 := h1.drewN nr
  have fr2 : Fr L.rown w (w1.drewN nr) := fr1.drewN nr
  generalize w1.drewN nr = w2 at h2 fr2 ⊢
  clear c0 c1 c2 c3 c4 f2 f3 f4 f5 f6 h1 fr1 hm
  obtain ⟨c0, c1, c2, c3, c4, c5, c6, f2, f3, f4, f5, f6⟩ := h2.facts
  unfold eofV
  go_wp2
  go_ret2
  have h6 := (h2.set_err (.iface 132 (.pointer (some L.a)))).set_err .nilIface
  exact ⟨rfl, ⟨r0, r0, bs0, _, _, _, h6, Nat.le_refl _, hr0, by rw [show (bs0.take r0).drop r0 = [] from List.drop_eq_nil_of_le (by simp; omega)]; rfl, fun c hc => by cases hc⟩, (fr2.setCell (by simp [Loc.rown]) _).setCell (by simp [Loc.rown]) _⟩

set_option maxRecDepth 100000 in
set_option maxHeartbeats 6400000 in
/-- At the end, by the array. -/
theorem rread_end2 (w : World) (L : Loc) (r0 : Nat) (bs0 : List UInt8) (lastB0 lastR0 : Int) (h : RdAt w L r0 r0 bs0 .nilIface lastB0 lastR0 []) (hr0 : r0 ≤ 4096)
    (g off m c : Nat) (hm0 : 0 < m) (hm4 : m < 4096) :
    Calls Tryd.prog 118 #[.pointer (some ⟨L.R, 0, none⟩), .slice (some ⟨g, off, none⟩) m c] w fun e w' => e = .returned (.tuple #[.int .i64 0, eofV L.a]) ∧ Rd w' L [] none ∧ Fr L.rown w w' := by
  have hb0 : ((m : Int) == 0) = false := by rw [beq_eq_false_iff_ne]; omega
  have hmi4 : (m : Int) < 4096 := by omega
  obtain ⟨c0, c1, c2, c3, c4, _⟩ := h.facts
  go_enter Tryd.func118, Tryd.ntmps118
  go_wp2
  go_quiet (fail)
  have h1 := h.drewN nq
  have fr1 : Fr L.rown w (w.drewN nq) := (Fr.refl _ w).drewN nq
  generalize w.drewN nq = w1 at h1 fr1 ⊢
  clear c0 c1 c2 c3 c4 h
  obtain ⟨c0, c1, c2, c3, c4, _, _, f2, f3, f4, f5, f6⟩ := h1.facts
  go_upto_region 19 with fail
  have h2 := (h1.set_r 0).set_wn 0
  have fr2 : Fr L.rown w ((w1.setCell ⟨L.R, 2, none⟩ (.int .i64 0)).setCell ⟨L.R, 3, none⟩ (.int .i64 0)) := (fr1.setCell (by simp [Loc.rown]) _).setCell (by simp [Loc.rown]) _
  generalize (w1.setCell ⟨L.R, 2, none⟩ (.int .i64 0)).setCell ⟨L.R, 3, none⟩ (.int .i64 0) = w2 at h2 fr2 ⊢
  clear c0 c1 c2 c3 c4 f2 f3 f4 f5 f6 h1 fr1
  obtain ⟨c0, c1, c2, c3, c4, _, _, f2, f3, f4, _⟩ := h2.facts
  go_cut [4] (fun s4 wx => s4 = .int .i64 0 ∧ RdAt wx L 0 0 bs0 (eofV L.a) lastB0 lastR0 [] ∧ Fr L.rown w wx)
  case first =>
    have hm := read_method
    have h3 := h2.drew
    have hse := sread_end w2.drew L.U L.D 0 4096 4096 L.a h3.bU h3.eof
    unfold eofV at hse
    go_region_with (go_at_call 117; refine hse.mono ?_; rintro e w' ⟨rfl, nr, rfl⟩)
    all_goals
      go_wp2_with fail
      go_meet
      have h4 := (h2.drewN (1 + nr)).set_err (eofV L.a)
      exact ⟨rfl, h4, (fr2.drewN (1 + nr)).setCell (p := ⟨L.R, 4, none⟩) (by simp [Loc.rown]) _⟩
  case rest =>
    obtain ⟨rfl, h3, fr3⟩ := hcut
    clear c0 c1 c2 c3 c4 f2 f3 f4 h2 fr2
    go_wp2_with (go_at_call 62; refine (readErr_eof wc L 0 0 bs0 lastB0 lastR0 [] h3).mono ?_; rintro e w' ⟨rfl, h4, fr4⟩)
    go_ret2
    exact ⟨rfl, ⟨0, 0, bs0, _, _, _, h4, Nat.le_refl _, by decide, by simp, fun c hc => by cases hc⟩, fr3.trans fr4⟩

/-- Read at the end. -/
theorem rread_nil (w : World) (L : Loc) (lb : Option UInt8) (h : Rd w L [] lb) (g off m c : Nat) (hm0 : 0 < m) (hm2 : m ≤ 9223372036854775807) :
    Calls Tryd.prog 118 #[.pointer (some ⟨L.R, 0, none⟩), .slice (some ⟨g, off, none⟩) m c] w fun e w' => e = .returned (.tuple #[.int .i64 0, eofV L.a]) ∧ Rd w' L [] none ∧ Fr L.rown w w' := by
  obtain ⟨r, wn, bs, lastB, lastR, l2, h, hr, hw, hl, hlb⟩ := h
  have hl' := hl.symm
  rw [List.append_eq_nil_iff] at hl'
  obtain ⟨h1, rfl⟩ := hl'
  have hD := h.lD
  have hrw : r = wn := by
    have := congrArg List.length h1
    simp at this; omega
  subst hrw
  by_cases h4 : 4096 ≤ m
  · exact rread_end1 w L r bs lastB lastR h hw g off m c h4 hm2
  · exact rread_end2 w L r bs lastB lastR h hw g off m c hm0 (by omega)
/-- Read where something is left. -/
theorem rread_some (w : World) (L : Loc) (lst : List UInt8) (lb : Option UInt8) (h : Rd w L lst lb) (hne : lst ≠ []) (g off m c : Nat) (T : TypeId) (cur : List Value) (hg : BlkT w g T cur) (hfit : off + m ≤ cur.length) (hm : 0 < m) (hm2 : m ≤ 9223372036854775807) (hgb : g ∉ L.base) :
    Calls Tryd.prog 118 #[.pointer (some ⟨L.R, 0, none⟩), .slice (some ⟨g, off, none⟩) m c] w (ReadIs w L g off T cur lst m) := by
  obtain ⟨r, wn, bs, lastB, lastR, l2, h, hr, hw, hl, hlb⟩ := h
  by_cases hlt : r < wn ∨ m < 4096
  · exact rread_copy w L r wn bs lastB lastR l2 h hr hw lst hl hne g off m c T cur hg hfit hm hm2 hgb hlt
  · obtain rfl : r = wn := by omega
    rw [List.drop_eq_nil_of_le (by simp; omega), List.nil_append] at hl
    subst hl
    exact rread_dir w L r bs lastB lastR lst h hw hne g off m c T cur hg hfit (by omega) hm2 hgb
end Go.Proofs.YtpjnggpjcbojcaaDoor
