/- A byte slice of the call's own as a walk reads it; zzCloneBytes of n005_77, walked. -/
import Derived.Test.YtnmpeipccpgkpaaDoorOpen
import Derived.Test.YtnmpeipccpgkpaaDoorBs2
import Derived.Deep.LoopGhost
import Derived.IntWalk
import Derived.Lib.SliceRun
import Derived.Deep.DeepCutAuto
namespace Go.Proofs.YtnmpeipccpgkpaaDoor
open Go.RowKit

theorem byte_set (l : List UInt8) (k : Nat) (c : UInt8) : (Lib.byteCells l).set k (.int .u8 c.toNat) = Lib.byteCells (l.set k c) := by simp [Lib.byteCells, List.map_set]

theorem Bs.mono {w : World} {B B' : Nat} {v : Value} {l : List UInt8} (h : Bs w B v l) (hB : B' ≤ B) : Bs w B' v l := by
  refine ⟨h.1, ?_⟩
  rcases h.2 with h0 | ⟨g, cap, cur, h1, h2, h3⟩
  · exact Or.inl h0
  · exact Or.inr ⟨g, cap, cur, h1, Nat.le_trans hB h2, h3⟩
/-- As a walk reads it: nil, or a row with its cells. -/
theorem Bs.shape {w : World} {B : Nat} {v : Value} {l : List UInt8} (h : Bs w B v l) : (v = .slice none 0 0 ∧ l = []) ∨ ∃ g cap, v = .slice (Option.some ⟨g, 0, none⟩) l.length cap ∧ l.length ≤ cap ∧ ∀ i (hi : i < l.length), w.cell? ⟨g, i, none⟩ = Option.some (.int .u8 l[i].toNat) := by
  rcases h.2 with ⟨h0, hn⟩ | ⟨g, cap, cur, h1, h2, h3, h4, h5, h6, h7⟩
  · exact Or.inl ⟨h0, List.eq_nil_of_length_eq_zero hn⟩
  · refine Or.inr ⟨g, cap, h1, h4, fun i hi => ?_⟩
    have := Lib.cells_of_row h3 (l.length * 1) i (.int .u8 l[i].toNat) (by rw [h7]; simp [Lib.byteCells, hi])
    rw [Lib.addr_add, Nat.zero_add] at this
    exact this
/-- A store into the row. -/
theorem Bs.set {w : World} {B g n cap k : Nat} {l : List UInt8} (h : Bs w B (.slice (Option.some ⟨g, 0, none⟩) n cap) l) (c : UInt8) :
    Bs (w.setCell ⟨g, k, none⟩ (.int .u8 c.toNat)) B (.slice (Option.some ⟨g, 0, none⟩) n cap) (l.set k c) := by
  refine ⟨by rw [List.length_set, Lib.byteCells_length, List.length_set, Nat.mul_one], ?_⟩
  rcases h.2 with ⟨h0, _⟩ | ⟨g', cap', cur, h1, h2, h3, h4, h5, h6, h7⟩
  · cases h0
  · cases h1
    refine Or.inr ⟨g, cap, cur.setIfInBounds k (.int .u8 c.toNat), by rw [List.length_set], h2, Lib.heap_setCell_same (i := k) h3 _, by rw [List.length_set]; exact h4, h5, by simpa using h6, ?_⟩
    rw [Array.toList_setIfInBounds, List.length_set, Nat.mul_one, List.take_set, ← byte_set]
    rw [Nat.mul_one] at h7
    rw [h7]
theorem Bs.frozen {w : World} {B g n cap : Nat} {l : List UInt8} (h : Bs w B (.slice (Option.some ⟨g, 0, none⟩) n cap) l) (k : Nat) : w.frozen? ⟨g, k, none⟩ = false ∧ B ≤ g ∧ g < w.heap.size := by
  rcases h.2 with ⟨h0, _⟩ | ⟨g', cap', cur, h1, h2, h3, h4, h5, h6, h7⟩
  · cases h0
  · cases h1
    exact ⟨Lib.frozen_of_heap h3 k, h2, Lib.lt_of_heap h3⟩

theorem Sl.of_bs {w : World} {B : Nat} {v : Value} {l : List UInt8} (h : Bs w B v l) : Sl w v l := by
  rcases h.shape with ⟨rfl, rfl⟩ | ⟨g, cap, rfl, hc, hcell⟩
  · exact ⟨none, 0, rfl, Nat.le_refl _, ⟨fun _ => rfl, fun h => absurd h (by simp)⟩⟩
  · exact ⟨some ⟨g, 0, none⟩, cap, rfl, hc, ⟨(fun h => by cases h), fun _ => ⟨⟨g, 0, none⟩, rfl, (h.frozen 0).2.2, fun i hi => by rw [add_flat]; exact hcell i hi⟩⟩⟩

set_option maxRecDepth 100000 in
set_option maxHeartbeats 3200000 in
/-- zzCloneBytes. -/
theorem clone_any (w : World) (v : Value) (l : List UInt8) (h : Sl w v l) (hl : l.length ≤ 1099511627776) :
    Calls Tryd.prog 5 #[v] w fun e w' => ∃ v', e = .returned v' ∧ Bs w' w.heap.size v' l ∧ Below w.heap.size w w' := by
  obtain ⟨a, c, rfl, hlc, hn, hcell⟩ := h
  have q22 : ∀ (w : World) (a : Option Addr) (n c n' c' : Nat), (binOp .eql 22 (.slice a n c) (.slice none n' c')).run Tryd.prog w = .ok (.bool a.isNone) w := fun w a n c n' c' => Lib.run_eql_slice_nil w _ _ a n c n' c' Tryd.underlying22
  cases a with
  | none =>
    have hc0 := hn rfl
    have hl0 : l = [] := List.eq_nil_of_length_eq_zero (by omega)
    subst hl0
    go_enter Tryd.func5, Tryd.ntmps5
    go_wp2
    go_ret
    exact ⟨_, rfl, World.ownsRow_nil _ _ _ _, Below.refl _ _⟩
  | some ad =>
    obtain ⟨i0, hi, hz0, hz1, hz2⟩ := info_parts info_u8
    have HCELL := Lib.hid hcell
    have hli : (l.length : Int) ≤ 1099511627776 := by omega
    obtain ⟨n, hnl⟩ : ∃ n, n = l.length := ⟨_, rfl⟩
    rw [← hnl]
    rw [← hnl] at hli hlc
    have HNL := Lib.hid hnl
    clear hcell hn hnl
    go_enter Tryd.func5, Tryd.ntmps5
    go_wp2_with (with_reducible refine wpList_make_full _ rfl (.tmp 8) (.tmp 8) 22 rfl w.heap.size 5 i0 (.int .u8 0) 1 Tryd.underlying22 hi hz0 hz1 .i64 .i64 _ _ n rfl rfl rfl rfl (by rw [hz2]; omega) (by unfold maxLen; omega) (Nat.le_refl _) ?_)
    intro w1 hown hgr
    have hb0 : Bs w1 w.heap.size (.slice (some ⟨w.heap.size, 0, none⟩) n n) (List.replicate n 0) := by
      unfold Bs
      rw [List.length_replicate]
      have e : (madeCells #[Value.int IntKind.u8 0] n).toList = Lib.byteCells (List.replicate n 0) := by
        apply List.ext_getElem
        · simp [size_madeCells, Lib.byteCells]
        · intro i h1 h2
          simp [madeCells, Lib.byteCells, Nat.mod_one]
      rw [← e]; exact hown
    have hl1 : Below w.heap.size w w1 := ⟨hgr.os, hgr.tape, hgr.output, hgr.size, fun k hk => hgr.block k hk (by simp)⟩
    have H1 := Lib.hid (And.intro hb0 hl1)
    clear hown hgr hb0 hl1 hi hz0 hz1 hz2
    go_wp2
    go_loopg [4] n (fun g iv wr => ∃ j : Nat, n - j ≤ g ∧ iv = .int .i64 j ∧ j ≤ n ∧ Bs wr w.heap.size (.slice (some ⟨w.heap.size, 0, none⟩) n n) (l.take j ++ List.replicate (n - j) 0) ∧ Below w.heap.size w wr)
    case atStart => exact ⟨0, by omega, rfl, by omega, by simpa using H1.out.1, H1.out.2⟩
    case round =>
      clear H1
      obtain ⟨j, hg, rfl, hj, hb, hbl⟩ := hrel
      have HG := Lib.hid hg
      have hji : (j : Int) ≤ (n : Int) := by omega
      clear hg
      by_cases hlt : j < n
      · have hjn : j < l.length := by rw [← HNL.out]; exact hlt
        have hlti : (j : Int) < (n : Int) := by omega
        obtain ⟨ad', hab, hbs, hcl⟩ := HCELL.out (by omega)
        obtain rfl : ad = ad' := Option.some.inj hab
        obtain ⟨x, hx⟩ : ∃ x, x = l[j] := ⟨_, rfl⟩
        have hc1 : wr.cell? (ad.add j) = some (.int .u8 x.toNat) := by rw [hx]; exact (hbl.cell (p := ad.add j) (by rw [block_add']; exact hbs)).trans (hcl j hjn)
        have hf1 := (hb.frozen j).1
        have hset := hb.set (k := j) x
        have hget : ∃ u, wr.cell? ⟨w.heap.size, j, none⟩ = some u := by
          rcases hb.shape with ⟨h0, _⟩ | ⟨g, cap, h1, _, h3⟩
          · cases h0
          · have hg : w.heap.size = g := by
              simp only [Value.slice.injEq, Option.some.injEq, Addr.mk.injEq] at h1
              exact h1.1.1
            subst hg
            have hlen : (l.take j ++ List.replicate (n - j) (0 : UInt8)).length = n := by simp; omega
            exact ⟨_, h3 j (by rw [hlen]; exact hlt)⟩
        have hstep : (l.take j ++ List.replicate (n - j) (0 : UInt8)).set j x = l.take (j + 1) ++ List.replicate (n - (j + 1)) 0 := by
          obtain ⟨m, hm⟩ : ∃ m, n - j = m + 1 := ⟨n - j - 1, by omega⟩
          have hlt2 : (l.take j).length = j := by simp; omega
          rw [hm, show n - (j + 1) = m by omega, List.replicate_succ, List.set_append_right _ _ (by omega), hlt2, Nat.sub_self, List.set_cons_zero, hx, List.take_succ_eq_append_getElem hjn, List.append_assoc]
          rfl
        rw [hstep] at hset
        have HSET := Lib.hid hset
        have hbl2 := hbl.setCell (p := ⟨w.heap.size, j, none⟩) (Nat.le_refl _) (.int .u8 x.toNat)
        have HBL := Lib.hid hbl2
        obtain ⟨u, hu⟩ := hget
        clear hset hstep hx hb hcl hab hbs hbl2
        go_wp2
        go_roundg (n - (j + 1))
        case measure => have := HG.out; omega
        case rel => exact ⟨j + 1, Nat.le_refl _, by go_num, by omega, HSET.out, HBL.out⟩
      · obtain rfl : n = j := by omega
        have HF := Lib.hid (show Bs wr w.heap.size (.slice (some ⟨w.heap.size, 0, none⟩) n n) l by
          have h5 := hb
          rw [Nat.sub_self, List.replicate_zero, List.append_nil, List.take_of_length_le (by rw [HNL.out]; exact Nat.le_refl _)] at h5; exact h5)
        clear hb
        go_wp2
        go_ret
        exact ⟨_, rfl, HF.out, hbl⟩

/-- The same slice, as a reader over it sees it. -/
theorem Sm.of_bs {w : World} {B G : Nat} {v : Value} {l : List UInt8} (h : Bs w B v l) (hG : G < w.heap.size) : ∃ M, Sm w M v l ∧ (M = G ∨ B ≤ M) := by
  rcases h.shape with ⟨rfl, rfl⟩ | ⟨g, cap, rfl, hc, hcell⟩
  · exact ⟨G, ⟨hG, none, 0, rfl, Nat.le_refl _, fun h => absurd h (by simp)⟩, Or.inl rfl⟩
  · have hf := h.frozen 0
    exact ⟨g, ⟨hf.2.2, some ⟨g, 0, none⟩, cap, rfl, hc, fun _ => ⟨⟨g, 0, none⟩, rfl, rfl, fun i hi => by rw [add_flat]; exact hcell i hi⟩⟩, Or.inr hf.2.1⟩
end Go.Proofs.YtnmpeipccpgkpaaDoor
