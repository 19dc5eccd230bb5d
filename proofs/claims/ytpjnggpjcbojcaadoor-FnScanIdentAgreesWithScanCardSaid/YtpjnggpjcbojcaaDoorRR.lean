/- (*bufio.Reader).Read, walked. -/
import Derived.Test.YtpjnggpjcbojcaaDoorReadC
import Derived.Test.YtpjnggpjcbojcaaDoorRI
namespace Go.Proofs.YtpjnggpjcbojcaaDoor
open Go.RowKit

/-- The blocks that a bufio.Reader needs. -/
def Loc.base (L : Loc) : List Nat := [0, L.R, L.D, L.U]
/-- What a Read of m bytes to place off of row g leaves, where n bytes were read. -/
def ReadIs (w : World) (L : Loc) (g off : Nat) (T : TypeId) (cur : List Value) (l : List UInt8) (m : Nat) (e : Ending) (w' : World) : Prop :=
  ∃ n, 0 < n ∧ n ≤ m ∧ n ≤ l.length ∧ e = .returned (.tuple #[.int .i64 n, .nilIface]) ∧ BlkT w' g T (laid cur off (l.take n)) ∧ Rd w' L (l.drop n) none ∧ Fr (g :: L.rown) w w'

theorem RdAt.lt' {w : World} {L : Loc} {r wn : Nat} {bs : List UInt8} {err : Value} {lastB lastR : Int} {l2 : List UInt8} (h : RdAt w L r wn bs err lastB lastR l2) : ∀ k ∈ L.base, k < w.heap.size := by
  intro k hk
  simp only [Loc.base, List.mem_cons, List.not_mem_nil, or_false] at hk
  rcases hk with rfl | rfl | rfl | rfl
  · exact h.eof.2
  · exact h.bR.lt
  · exact h.bD.lt
  · exact h.bU.lt
theorem RdAt.setG {w : World} {L : Loc} {r wn : Nat} {bs : List UInt8} {err : Value} {lastB lastR : Int} {l2 : List UInt8} (h : RdAt w L r wn bs err lastB lastR l2) {w' : World} {g : Nat} (f : Fr [g] w w') (hg : g ∉ L.base) : RdAt w' L r wn bs err lastB lastR l2 :=
  h.keep f.size (fun k hk => f.block k (h.lt' k hk) (by
    simp only [List.mem_cons, List.not_mem_nil, or_false]
    intro e; exact hg (e ▸ hk)))

set_option maxRecDepth 100000 in
set_option maxHeartbeats 1600000 in
theorem readErr_nil (w : World) (L : Loc) (r wn : Nat) (bs : List UInt8) (lastB lastR : Int) (l2 : List UInt8) (h : RdAt w L r wn bs .nilIface lastB lastR l2) :
    Calls Tryd.prog 62 #[.pointer (some ⟨L.R, 0, none⟩)] w
      fun e w' => e = .returned .nilIface ∧ RdAt w' L r wn bs .nilIface lastB lastR l2 ∧ Fr L.rown w w' := by
  obtain ⟨_, _, _, _, c4, _, _, _, _, f4, _⟩ := h.facts
  go_enter Tryd.func62, Tryd.ntmps62
  go_wp2
  go_ret
  exact ⟨rfl, h.set_err _, (Fr.refl _ _).setCell (by simp [Loc.rown]) _⟩

/-- What the reader holds ahead of the copy. -/
def Full (w : World) (L : Loc) (g : Nat) (T : TypeId) (cur : List Value) (l : List UInt8) (wc : World) : Prop :=
  ∃ r wn bs lastB lastR l2, RdAt wc L r wn bs .nilIface lastB lastR l2 ∧ r < wn ∧ wn ≤ 4096 ∧ l = (bs.take wn).drop r ++ l2 ∧ BlkT wc g T cur ∧ Fr (g :: L.rown) w wc

set_option maxRecDepth 100000 in
set_option maxHeartbeats 6400000 in
/-- Something lies in the array, or comes into it. -/
theorem rread_copy (w : World) (L : Loc) (r0 wn0 : Nat) (bs0 : List UInt8) (lastB0 lastR0 : Int) (l20 : List UInt8) (h : RdAt w L r0 wn0 bs0 .nilIface lastB0 lastR0 l20) (hr0 : r0 ≤ wn0) (hw0 : wn0 ≤ 4096)
    (lst : List UInt8) (hlst : lst = (bs0.take wn0).drop r0 ++ l20) (hne : lst ≠ [])
    (g off m c : Nat) (T : TypeId) (cur : List Value) (hg : BlkT w g T cur) (hfit : off + m ≤ cur.length) (hm : 0 < m) (hm2 : m ≤ 9223372036854775807) (hgb : g ∉ L.base) (hway : r0 < wn0 ∨ m < 4096) :
    Calls Tryd.prog 118 #[.pointer (some ⟨L.R, 0, none⟩), .slice (some ⟨g, off, none⟩) m c] w (ReadIs w L g off T cur lst m) := by
  have hb0 : ((m : Int) == 0) = false := by rw [beq_eq_false_iff_ne]; omega
  have hmi : (m : Int) ≤ 9223372036854775807 := by omega
  have HLST := Lib.hid hlst
  clear hlst
  obtain ⟨c0, _, c2, c3, c4, _⟩ := h.facts
  go_enter Tryd.func118, Tryd.ntmps118
  go_wp2
  go_quiet (fail)
  have h1 := h.drewN nq
  have g1 := hg.drewN nq
  have fr1 : Fr (g :: L.rown) w (w.drewN nq) := (Fr.refl _ w).drewN nq
  generalize w.drewN nq = w1 at h1 g1 fr1 ⊢
  clear c0 c2 c3 c4 h hg
  obtain ⟨c0, _, c2, c3, c4, _, _, f2, f3, f4, _⟩ := h1.facts
  go_upto_if 23 with fail
  go_cut [] (fun wc => Full w L g T cur lst wc)
  case first =>
    by_cases hlt : r0 < wn0
    · have hb1 : ((r0 : Int) == (wn0 : Int)) = false := by rw [beq_eq_false_iff_ne]; omega
      go_wp2
      go_meet
      exact ⟨r0, wn0, bs0, lastB0, lastR0, l20, h1, hlt, hw0, HLST.out, g1, fr1⟩
    · obtain rfl : r0 = wn0 := by omega
      have hm4 : m < 4096 := by omega
      have hm4i : (m : Int) < 4096 := by omega
      have hl := HLST.out
      rw [List.drop_eq_nil_of_le (by simp; omega), List.nil_append] at hl
      subst hl
      obtain ⟨n, hn⟩ : ∃ n, n = min 4096 lst.length := ⟨_, rfl⟩
      have hn0 : 0 < n := by have := List.length_pos_iff.2 hne; omega
      have hn4 : n ≤ 4096 := by omega
      have hb2 : ((n : Int) == 0) = false := by rw [beq_eq_false_iff_ne]; omega
      have hb3 : ¬ ((n : Int) < 0) := by omega
      have HN := Lib.hid hn
      clear hn HLST hway hr0
      go_upto_region 19 with fail
      have h2 := (h1.set_r 0).set_wn 0
      have fr2 : Fr (g :: L.rown) w ((w1.setCell ⟨L.R, 2, none⟩ (.int .i64 0)).setCell ⟨L.R, 3, none⟩ (.int .i64 0)) := (fr1.setCell (by simp [Loc.rown]) _).setCell (by simp [Loc.rown]) _
      have hgR : g ≠ L.R := fun e => hgb (by rw [e]; simp [Loc.base])
      have g2 : BlkT ((w1.setCell ⟨L.R, 2, none⟩ (.int .i64 0)).setCell ⟨L.R, 3, none⟩ (.int .i64 0)) g T cur := (g1.other hgR _).other hgR _
      generalize (w1.setCell ⟨L.R, 2, none⟩ (.int .i64 0)).setCell ⟨L.R, 3, none⟩ (.int .i64 0) = w2 at h2 fr2 g2 ⊢
      clear c0 c2 c3 c4 f2 f3 f4 h1 g1 fr1
      obtain ⟨c0, c1, c2, c3, c4, _, _, f2, f3, f4, _⟩ := h2.facts
      have hlen : (lst.take 4096 ++ bs0.drop n).length = 4096 := by
        have h5 := HN.out
        have h6 := h2.lD
        simp; omega
      go_cut [4] (fun s4 wx => s4 = .int .i64 n ∧ RdAt wx L 0 0 (lst.take 4096 ++ bs0.drop n) .nilIface lastB0 lastR0 (lst.drop 4096) ∧ BlkT wx g T cur ∧ Fr (g :: L.rown) w wx)
      case first =>
        have hm := read_method
        have h3 := h2.drew
        have hbR : ∀ w', Fr [L.D, L.U] w2.drew w' → w'.cell? ⟨L.R, 4, none⟩ = some .nilIface ∧ w'.frozen? ⟨L.R, 4, none⟩ = false := fun w' f => by
          have b := f.blk h3.bR (by simp [h3.ok.rd, h3.ok.ru])
          exact ⟨b.cell 4 _ rfl, b.free 4⟩
        go_region_with (go_at_call 117; refine (sread_some _ L.U L.D lst bs0 h3.bU hne h3.bD h3.lD h3.ok.du.symm n HN).mono ?_; rintro e w' ⟨rfl, hb', hs', fr'⟩; obtain ⟨c4n, f4n⟩ := hbR w' fr')
        all_goals
          go_wp2_with fail
          go_meet
          have h4 := (h3.read hb' hlen hs' fr').set_err .nilIface
          refine ⟨rfl, h4, ?_, (fr2.drew.trans (fr'.mono (by simp [Loc.rown]))).setCell (by simp [Loc.rown]) _⟩
          have g3 : BlkT w2.drew g T cur := g2
          exact ((fr'.blkT g3 (by
            intro hm
            simp only [List.mem_cons, List.not_mem_nil, or_false] at hm
            rcases hm with e | e <;> exact hgb (by rw [e]; simp [Loc.base])))).other hgR _
      case rest =>
        obtain ⟨rfl, h3, g3, fr3⟩ := hcut
        clear c0 c1 c2 c3 c4 f2 f3 f4 h2 fr2 g2
        obtain ⟨_, _, _, c3, _, _, _, _, f3, f4, _⟩ := h3.facts
        go_wp2
        go_meet
        have h4 := h3.set_wn n
        refine ⟨0, n, _, lastB0, lastR0, _, h4, hn0, hn4, ?_, g3.other hgR _, fr3.setCell (by simp [Loc.rown]) _⟩
        have hn := HN.out
        rw [List.drop_zero, List.take_append_of_le_length (by simp; omega), List.take_take]
        rcases Nat.le_total 4096 lst.length with h | h
        · rw [hn, Nat.min_eq_left h, Nat.min_self, List.take_append_drop]
        · rw [hn, Nat.min_eq_right h, Nat.min_eq_left h, List.take_of_length_le (Nat.le_refl _), List.drop_eq_nil_of_le h, List.append_nil]
  case rest =>
    clear h1 g1 fr1 c0 c2 c3 c4 f2 f3 f4 hr0 hw0 hway HLST
    obtain ⟨r, wn, bs, lastB, lastR, l2, h1, hr, hw, hl0, g1, fr1⟩ := hcut
    have hD4 := h1.lD
    obtain ⟨n, hn⟩ : ∃ n, n = min m (wn - r) := ⟨_, rfl⟩
    obtain ⟨l, hl⟩ : ∃ l, l = (bs.take wn).drop r := ⟨_, rfl⟩
    have hll : l.length = wn - r := by rw [hl]; simp; omega
    have hrw : (r : Int) ≤ (wn : Int) := by omega
    have hwi : (wn : Int) ≤ 4096 := by omega
    have hni : (n : Int) ≤ 4096 := by omega
    have hn0 : 0 < n := by omega
    have hnn : Hid (n = min m l.length) := by show _ = _; rw [hll]; exact hn
    have HLL := Lib.hid hll
    have HF := Lib.hid hfit
    have HL := Lib.hid hl
    have HL0 := Lib.hid hl0
    have HN := Lib.hid hn
    clear hll hfit hl hn hl0
    obtain ⟨c0, _, c2, c3, _, _, _, _⟩ := h1.facts
    go_wp2
    go_still_tail 14, (by kernel_rfl)
    change wpList _ _ _ _ _ wc.drew
    have h2 := h1.drew
    have g2 : BlkT wc.drew g T cur := g1
    have fr2 := fr1.drew
    generalize wc.drew = w2 at h2 g2 fr2 ⊢
    clear c0 c2 c3 h1 g1 fr1
    obtain ⟨c0, _, c2, c3, _, _, _, _⟩ := h2.facts
    have hsrc : Hid (∀ j (h : j < l.length), w2.cell? ((⟨L.D, r, none⟩ : Addr).add j) = some (.int .u8 l[j].toNat)) := by
      show ∀ j (h : j < l.length), _
      intro j hj
      have e1 := HLL.out
      have e2 : bs[r + j]? = some l[j] := by
        have h3 : l[j]? = ((bs.take wn).drop r)[j]? := by rw [← HL.out]
        rw [List.getElem?_drop, List.getElem?_take, if_pos (by omega), List.getElem?_eq_getElem hj] at h3
        exact h3.symm
      rw [Lib.addr_add]
      exact h2.bD.cell (r + j) _ e2
    have hr4 : (4096 = r) = False := by simp; omega
    go_wp2_with (with_reducible refine wpList_copy_slV rfl (.tmp 109) (.tmp 122) 46 46 rfl 5 Tryd.underlying46 (by kernel_rfl) g off m c ⟨L.D, r, none⟩ (wn - r) (4096 - r) rfl _ rfl ?_ T cur l n HLL hnn g2 HF hsrc ?_)
    intro w3 g3 fr3
    have h3 := h2.setG fr3 hgb
    have fr4 : Fr (g :: L.rown) w w3 := fr2.trans (fr3.mono (by simp))
    clear c0 c2 c3 h2 g2 fr2 fr3 hsrc
    obtain ⟨c0, _, c2, c3, _, c5, c6, f2, _, _, f5, f6⟩ := h3.facts
    go_wp2
    obtain ⟨k, hk⟩ : ∃ k, r + n = k + 1 := ⟨r + n - 1, by omega⟩
    have hkl : k < bs.length := by have := HN.out; omega
    obtain ⟨x, hx⟩ : ∃ x, x = bs[k] := ⟨_, rfl⟩
    have hbc : bs[k]? = some x := by rw [hx]; exact List.getElem?_eq_getElem hkl
    have hki : (r : Int) + (n : Int) = (k : Int) + 1 := by omega
    rw [hki]
    have h4 := h3.set_r (k + 1)
    have fr5 : Fr (g :: L.rown) w (w3.setCell ⟨L.R, 2, none⟩ (.int .i64 ((k : Int) + 1))) := fr4.setCell (by simp [Loc.rown]) _
    have g4 : BlkT (w3.setCell ⟨L.R, 2, none⟩ (.int .i64 ((k : Int) + 1))) g T (laid cur off (l.take m)) := g3.other (by
      intro e; exact hgb (by rw [e]; simp [Loc.base])) _
    rw [show ((k + 1 : Nat) : Int) = (k : Int) + 1 by omega] at h4
    generalize w3.setCell ⟨L.R, 2, none⟩ (.int .i64 ((k : Int) + 1)) = w4 at h4 fr5 g4 ⊢
    clear c0 c2 c3 c5 c6 f2 f5 f6 h3 g3 fr4 hx
    have hk4 : (k : Int) < 4096 := by have := HN.out; omega
    obtain ⟨K, hK⟩ : ∃ K : Int, K = ((k + 1 : Nat) : Int) := ⟨_, rfl⟩
    have hK1 : K - 1 = (k : Int) := by omega
    have hK2 : K ≤ 4096 := by omega
    have hkw : IntKind.i64.wrap (k : Int) = (k : Int) := by rw [IntKind.wrap_i64]; omega
    obtain ⟨c0, _, c2, c3, _, c5, c6, f2, _, _, f5, f6⟩ := h4.facts
    rw [← hK] at c2
    have cD := h4.bD.cell k x hbc
    clear hK
    go_still_tail 15, (by kernel_rfl)
    change wpList _ _ _ _ _ w4.drew
    have h5 := h4.drew
    have g5 : BlkT w4.drew g T (laid cur off (l.take m)) := g4
    have fr6 := fr5.drew
    have c2' : w4.drew.cell? ⟨L.R, 2, none⟩ = some (.int .i64 K) := c2
    generalize w4.drew = w5 at h5 g5 fr6 c2' ⊢
    clear c0 c2 c3 c5 c6 f2 f5 f6 cD h4 g4 fr5
    obtain ⟨c0, _, _, c3, _, c5, c6, f2, _, _, f5, f6⟩ := h5.facts
    have cD := h5.bD.cell k x hbc
    go_wp2
    go_ret2
    have hn := HN.out
    have hll := HLL.out
    have e0 : l.take m = lst.take n := by
      rw [HL0.out, ← HL.out, List.take_append_of_le_length (by omega)]
      rcases Nat.le_total m l.length with h | h
      · rw [show n = m by omega]
      · rw [List.take_of_length_le h, List.take_of_length_le (by omega)]
    have e1 : lst.drop n = (bs.take wn).drop (k + 1) ++ l2 := by
      rw [HL0.out, ← hk, ← List.drop_drop, List.drop_append_of_le_length (by simp; omega)]
    have hgR : g ≠ L.R := fun e => hgb (by rw [e]; simp [Loc.base])
    have h6 := (h5.set_lastB (wrap64 (x.toNat : Int))).set_lastR (-1)
    refine ⟨n, hn0, by omega, by rw [HL0.out, ← HL.out, List.length_append]; omega, rfl, ?_, ?_, (fr6.setCell (by simp [Loc.rown]) _).setCell (by simp [Loc.rown]) _⟩
    · rw [← e0]; exact (g5.other hgR _).other hgR _
    · exact ⟨k + 1, wn, bs, _, -1, l2, h6, by omega, hw, e1, fun c hc => by cases hc⟩

end Go.Proofs.YtpjnggpjcbojcaaDoor
