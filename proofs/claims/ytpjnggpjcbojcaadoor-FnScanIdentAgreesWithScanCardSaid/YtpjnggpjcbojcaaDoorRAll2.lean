/- io.ReadAll over a bufio.Reader, walked: the loop. -/
import Derived.Test.YtpjnggpjcbojcaaDoorRAll
namespace Go.Proofs.YtpjnggpjcbojcaaDoor
open Go.RowKit

theorem Parts.move {w w' : World} {B g g' : Nat} {xs : List Value} {F : List UInt8} (h : Parts w B g xs F) (hg : w.heap.size ≤ g') (hk : ∀ k cur, BlkT w k 5 cur → B ≤ k → k ≠ g → w'.heap[k]? = w.heap[k]?) : Parts w' B g' xs F := by
  induction xs generalizing F with
  | nil => exact h
  | cons x xs ih =>
    obtain ⟨p, q, g1, c1, hF, rfl, h1, h2, h3⟩ := h
    obtain ⟨cur, b1, _, _, _, _, b5, _⟩ := h1.row
    have := b1.lt
    exact ⟨p, q, g1, c1, hF, rfl, h1.keep (hk g1 cur b1 b5 h2), by omega, ih h3⟩
theorem row_cell {w : World} {B gr n cr : Nat} {xs : List Value} (h : w.ownsRow B 46 1 (.slice (some ⟨gr, 0, none⟩) n cr) xs.length xs) (j : Nat) (v : Value) (hj : xs[j]? = some v) : w.cell? ⟨gr, j, none⟩ = some v := by
  rcases h.2 with ⟨h0, _⟩ | ⟨g', cap', cur, h1, h2, h3, h4, h5, h6, h7⟩
  · cases h0
  · cases h1
    rw [← h7] at hj
    have := Lib.cells_of_row h3 _ j v hj
    rw [Lib.addr_add, Nat.zero_add] at this
    exact this
/-- io.ReadAll at its end: the pieces left go over into the row gf. -/
structure Fi (W0 w : World) (L : Loc) (B g cap : Nat) (d : List UInt8) (vch : Value) (xs xs' : List Value) (p q : List UInt8) (vf : Value) (gf : Nat) : Prop where
  rd : Rd w L [] none
  b : Bs w B (.slice (some ⟨g, 0, none⟩) d.length cap) d
  row : w.ownsRow B 46 1 vch xs.length xs
  parts : Parts w B gf xs' q
  fb : Fb L.rown B W0 w
  low : ∀ k ∈ L.base, k < B
  bs : Bs w B vf p
  own : vf.ownBlock = some gf
  gne : g ≠ gf
theorem Fi.le {W0 w : World} {L : Loc} {B g cap gf : Nat} {d p q : List UInt8} {vch vf : Value} {xs xs' : List Value} (h : Fi W0 w L B g cap d vch xs xs' p q vf gf) : B ≤ w.heap.size := by
  obtain ⟨cur, b1, _, _, _, _, b5, _⟩ := h.b.row
  have := b1.lt
  omega
/-- What an append to the row gf leaves. -/
theorem Fi.app {W0 w w' : World} {L : Loc} {B g cap gf : Nat} {d p q p' q' : List UInt8} {vch vf v' : Value} {xs xs' xs'' : List Value} (h : Fi W0 w L B g cap d vch xs xs' p q vf gf)
    (hp : Parts w B gf xs'' q') (hb : Bs w' B v' p') (hgr : w.grownBy w' vf.ownBlock) (hat : v'.ownBlock = vf.ownBlock ∨ v'.ownBlock = some w.heap.size) : ∃ gf', Fi W0 w' L B g cap d vch xs xs'' p' q' v' gf' := by
  rw [h.own] at hgr hat
  have hout : ∀ k, k < w.heap.size → k ≠ gf → w'.heap[k]? = w.heap[k]? := fun k hk hne => hgr.block k hk (by simpa using hne)
  have hgfB : B ≤ gf := h.bs.own gf h.own
  obtain ⟨cur, c1, _⟩ := h.b.row
  have hrow : w'.ownsRow B 46 1 vch xs.length xs := row_keep h.row (fun k hk => hout k (row_block h.row hk).2 (fun e => by
    subst e
    rcases h.bs.2 with ⟨h0, _⟩ | ⟨g', cap', cu, e1, _, e3, _⟩
    · have := h.own; rw [h0] at this; simp [Value.ownBlock] at this
    · have h5 := h.own
      rw [e1] at h5
      have : g' = k := by simpa [Value.ownBlock] using h5
      subst this
      exact row_other (cur := cu.toList) h.row e3 hk))
  have hfb : Fb L.rown B W0 w' := h.fb.trans ⟨hgr.os, hgr.tape, hgr.output, hgr.size, fun k hk _ => hout k (Nat.lt_of_lt_of_le hk h.le) (by omega)⟩
  have hrd : Rd w' L [] none := h.rd.keep hgr.size (fun k hk => hout k (Nat.lt_of_lt_of_le (h.low k hk) h.le) (by have := h.low k hk; omega))
  have hbb := h.b.keep (hout g c1.lt h.gne)
  have hpp := hp.keep (w' := w') (fun k cu hk _ hne => hout k hk.lt hne)
  rcases hat with e | e
  · exact ⟨gf, hrd, hbb, hrow, hpp, hfb, h.low, hb, e, h.gne⟩
  · refine ⟨w.heap.size, hrd, hbb, hrow, ?_, hfb, h.low, hb, e, ?_⟩
    · exact hp.move (Nat.le_refl _) (fun k cu hk _ hne => hout k hk.lt hne)
    · have := c1.lt; omega

theorem bread_method (u : Addr) (wx : World) : (method 271 53 (.pointer (some u)) "Read").run Tryd.prog wx = .ok (118, .pointer (some u)) wx := by kernel_rfl
theorem bread_ahead (u : Addr) (wx : World) : (nilAhead 271 53 (.pointer (some u)) "Read").run Tryd.prog wx = .ok (some false) wx := by kernel_rfl
theorem info_bs : (Tryd.prog.info? 46).map (fun i => (i.zero, i.size, i.bytes)) = some (some (.slice none 0 0), 1, 24) := by kernel_rfl

theorem Ra.drew {W0 w : World} {L : Loc} {B g cap : Nat} {d F r : List UInt8} {vch : Value} {xs : List Value} (h : Ra W0 w L B g cap d F r vch xs) : Ra W0 w.drew L B g cap d F r vch xs := h.drewN 1
/-- Behind a read that has read nothing. -/
theorem Ra.none {W0 w w' : World} {L : Loc} {B g cap : Nat} {d F r r' : List UInt8} {vch : Value} {xs : List Value} (h : Ra W0 w L B g cap d F r vch xs) (hr : Rd w' L r' Option.none) (f : Fr L.rown w w') : Ra W0 w' L B g cap d F r' vch xs := by
  obtain ⟨cur, hc1, _, _, _, _, hB, _⟩ := h.b.row
  have hout : ∀ k, k < w.heap.size → B ≤ k → w'.heap[k]? = w.heap[k]? := fun k hk hB => f.block k hk (fun hm => by have := h.low k (Loc.rown_base k hm); omega)
  exact ⟨hr, h.b.keep (hout g hc1.lt hB), row_keep h.row (fun k hk => hout k (row_block h.row hk).2 (row_block h.row hk).1), h.parts.keep (fun k cu hk hB _ => hout k hk.lt hB), h.fb.trans (f.fb h.le), h.low⟩
/-- Behind the laying of the next row: the old one has become a piece. -/
theorem Ra.push {W0 w w1 w2 w3 : World} {L : Loc} {B g cap g' cap' : Nat} {d F r : List UInt8} {vch vch' : Value} {xs : List Value} (h : Ra W0 w L B g cap d F r vch xs) (f1 : Fr [] w w1) (gr : w1.grownBy w2 vch.ownBlock)
    (row' : w2.ownsRow B 46 1 vch' (xs ++ [Value.slice (some ⟨g, 0, Option.none⟩) d.length cap]).length (xs ++ [Value.slice (some ⟨g, 0, Option.none⟩) d.length cap])) (f3 : Fr [] w2 w3)
    (b' : Bs w3 B (.slice (some ⟨g', 0, Option.none⟩) ([] : List UInt8).length cap') []) (hg' : w2.heap.size ≤ g') :
    Ra W0 w3 L B g' cap' [] (F ++ d) r vch' (xs ++ [Value.slice (some ⟨g, 0, Option.none⟩) d.length cap]) := by
  obtain ⟨cur, c1, _⟩ := h.b.row
  have hsz : w.heap.size ≤ w3.heap.size := Nat.le_trans f1.size (Nat.le_trans gr.size f3.size)
  have hout : ∀ k, k < w.heap.size → vch.ownBlock ≠ some k → w3.heap[k]? = w.heap[k]? := fun k hk hne =>
    (f3.block k (Nat.lt_of_lt_of_le hk (Nat.le_trans f1.size gr.size)) (by simp)).trans ((gr.block k (Nat.lt_of_lt_of_le hk f1.size) (fun e => hne e.symm)).trans (f1.block k hk (by simp)))
  have hlow : ∀ k, k < B → w3.heap[k]? = w.heap[k]? := fun k hk => hout k (Nat.lt_of_lt_of_le hk h.le) (fun e => by have := (row_block h.row e).1; omega)
  have hgs : w.heap.size ≤ g' := Nat.le_trans f1.size (Nat.le_trans gr.size hg')
  refine ⟨h.rd.keep hsz (fun k hk => hlow k (h.low k hk)), b', row_keep row' (fun k hk => f3.block k (row_block row' hk).2 (by simp)), ?_, h.fb.trans ⟨f3.os.trans (gr.os.trans f1.os), f3.tape.trans (gr.tape.trans f1.tape), f3.output.trans (gr.output.trans f1.output), hsz, fun k hk _ => hlow k hk⟩, h.low⟩
  have hp := h.parts.move (w' := w3) hgs (fun k cu hk _ _ => hout k hk.lt (fun e => row_other h.row hk e))
  exact hp.snoc (h.b.keep (hout g c1.lt (fun e => row_other h.row c1 e))) (by have := c1.lt; omega)
/-- 'chunks = append(chunks, b)'. -/
theorem wpList_push {w : World} {ops : Array Oper} {rest : List Oper} {o : Oper} {a : Act} {Q : Exit → Act → World → Prop} (hgd : o.guard = none) (s x : Operand)
    (ho : o.op = .call { callee := .builtin .append, args := #[s, x], argTypes := #[79, 79] }) (T : TypeId) (B : Nat) (v : Value) (xs : List Value) (g n cap : Nat)
    (hs : a.eval s = v) (hx : a.eval x = .slice (some ⟨w.heap.size, 0, none⟩) 1 1) (hB : w.ownsRow B 46 1 v xs.length xs) (hle : B ≤ w.heap.size) (hlim : Hid (xs.length + 1 ≤ 1099511627777))
    (h : ∀ (av : Option Addr) (cv : Nat) w', w'.ownsRow B 46 1 (.slice av (xs.length + 1) cv) (xs ++ [Value.slice (some ⟨g, 0, none⟩) n cap]).length (xs ++ [Value.slice (some ⟨g, 0, none⟩) n cap]) → (w.alloc (.cells #[.slice (some ⟨g, 0, none⟩) n cap] T)).grownBy w' v.ownBlock → wpList Tryd.prog ops Q rest (a.put o.dst (.slice av (xs.length + 1) cv)) w') :
    wpList Tryd.prog ops Q (o :: rest) a (w.alloc (.cells #[.slice (some ⟨g, 0, none⟩) n cap] T)) := by
  obtain ⟨i0, hi, hz0, hz1, hz2⟩ := info_parts info_bs
  have hlim := hlim.out
  refine wpList_append_own _ hgd s x 79 ho B 46 i0 (.slice none 0 0) 1 24 Tryd.underlying79 hi hz0 hz1 hz2 rfl (by decide) v xs.length xs hs (World.ownsRow.alloc hB _) ⟨w.heap.size, 0, none⟩ 1 1 [.slice (some ⟨g, 0, none⟩) n cap] hx rfl ?_ ?_ ?_ ?_ ?_ ?_
  · intro j u hj
    cases j with
    | zero =>
      have hu : u = .slice (some ⟨g, 0, none⟩) n cap := by simpa using hj.symm
      rw [hu, Lib.addr_add]
      exact (Lib.cell_of_heap (heap_alloc_new w (.cells #[.slice (some ⟨g, 0, none⟩) n cap] T)) 0).trans rfl
    | succ j => simp at hj
  · intro u hu
    have : u = .slice (some ⟨g, 0, none⟩) n cap := by simpa using hu
    subst this; rfl
  · unfold maxLen; omega
  · omega
  · simp; omega
  · intro v' w' hown hgr _
    have hl : (xs ++ [Value.slice (some ⟨g, 0, none⟩) n cap]).length = xs.length + 1 := by simp
    rcases hown.2 with ⟨_, h1⟩ | ⟨g', c', cu, h1, _⟩
    · omega
    · subst h1
      exact h _ _ w' (by rw [hl]; exact hown) hgr
theorem eof_cell {W0 w : World} {L : Loc} {B g cap : Nat} {d F r : List UInt8} {vch : Value} {xs : List Value} (h : Ra W0 w L B g cap d F r vch xs) : w.cell? ⟨0, 0, Option.none⟩ = some (.iface 132 (.pointer (some L.a))) := h.rd.eof.1

set_option maxRecDepth 100000 in
set_option maxHeartbeats 16000000 in
theorem readAll (w : World) (L : Loc) (l : List UInt8) (lb : Option UInt8) (h : Rd w L l lb) (hl : l.length ≤ 1099511627776) (hlt : ∀ k ∈ L.base, k < w.heap.size) :
    Calls Tryd.prog 25 #[.iface 53 (.pointer (some ⟨L.R, 0, none⟩))] w fun e w' => ∃ v, e = .returned (.tuple #[v, .nilIface]) ∧ Bs w' w.heap.size v l ∧ Rd w' L [] none ∧ Fr L.rown w w' := by
  obtain ⟨i0, hi, hz0, hz1, hz2⟩ := info_parts info_u8
  obtain ⟨j0, ki, kz0, kz1, kz2⟩ := info_parts info_bs
  go_enter Tryd.func25, Tryd.ntmps25
  go_wp2_with (with_reducible refine wpList_make_own w rfl (.const (.int .i64 0)) (.const (.int .i64 512)) 46 rfl w.heap.size 5 i0 (.int .u8 0) 1 Tryd.underlying46 hi hz0 hz1 .i64 .i64 512 512 rfl rfl rfl (by rw [hz2]; omega) (by unfold maxLen; omega) (Nat.le_refl _) ?_)
  intro w1 hown1 hgr1
  go_wp2_with (with_reducible refine wpList_make_own w1 rfl (.const (.int .i64 0)) (.const (.int .i64 4)) 79 rfl w.heap.size 46 j0 (.slice none 0 0) 1 Tryd.underlying79 ki kz0 kz1 .i64 .i64 4 4 rfl rfl rfl (by rw [kz2]; omega) (by unfold maxLen; omega) hgr1.size ?_)
  intro w2 hown2 hgr2
  have f1 : Fr [] w w1 := ⟨hgr1.os, hgr1.tape, hgr1.output, hgr1.size, fun k hk _ => hgr1.block k hk (by simp)⟩
  have f2 : Fr [] w1 w2 := ⟨hgr2.os, hgr2.tape, hgr2.output, hgr2.size, fun k hk _ => hgr2.block k hk (by simp)⟩
  have hb1 : Bs w1 w.heap.size (.slice (some ⟨w.heap.size, 0, none⟩) ([] : List UInt8).length 512) [] := hown1
  obtain ⟨cu, hcu, _⟩ := hb1.row
  have hra : Ra w w2 L w.heap.size w.heap.size 512 [] [] l (.slice (some ⟨w1.heap.size, 0, none⟩) ([] : List Value).length 4) [] :=
    ⟨(h.weak).keep (Nat.le_trans f1.size f2.size) (fun k hk => ((f1.trans f2).block k (hlt k hk) (by simp))), hb1.keep (f2.block _ hcu.lt (by simp)), hown2, rfl, ((f1.trans f2).mono (by simp)).fb (Nat.le_refl _), hlt⟩
  have HRA := Lib.hid hra
  have HL := Lib.hid hl
  clear hown1 hgr1 hown2 hgr2 f1 f2 hb1 hcu hra hl h hi hz0 hz1 hz2 ki kz0 kz1 kz2
  go_wp2
  go_loopg [4, 5, 6, 7] l.length (fun n s4 s5 s6 s7 wr => ∃ (g cap : Nat) (d F r : List UInt8) (av : Option Addr) (cv : Nat) (xs : List Value) (nx : Nat), r.length ≤ n ∧ s4 = .slice (some ⟨g, 0, none⟩) d.length cap ∧ s5 = .int .i64 nx ∧ s6 = .slice av xs.length cv ∧ s7 = .int .i64 F.length ∧
    Ra w wr L w.heap.size g cap d F r (.slice av xs.length cv) xs ∧ F ++ (d ++ r) = l ∧ d.length < cap ∧ cap / 16 ≤ cap - d.length ∧ 256 ≤ nx ∧ nx ≤ 2 * cap ∧ nx ≤ 8 * l.length + 512 ∧ 256 ≤ cap ∧ xs.length ≤ F.length)
  case atStart => exact ⟨w.heap.size, 512, [], [], l, _, 4, [], 256, Nat.le_refl _, rfl, rfl, rfl, rfl, HRA.out, by simp, by simp, by simp, Nat.le_refl _, by omega, by omega, by omega, by simp⟩
  case round =>
    clear HRA
    obtain ⟨g, cap, d, F, r, av, cv, xs, nx, hn, rfl, rfl, rfl, rfl, hA, hsum, hdc, hc16, hnx0, hnx1, hnx2, hcap, hxF⟩ := hrel
    have hlen := congrArg List.length hsum
    simp only [List.length_append] at hlen
    obtain ⟨cur, hc1, hc2, _, _, hcm, _, hc3⟩ := hA.b.row
    have hcm2 : (cap : Int) ≤ 9223372036854775807 := by unfold maxLen at hcm; omega
    have hdci : (d.length : Int) < (cap : Int) := by omega
    have hne0 : (cap = d.length) = False := by simp; omega
    have hdl : (d.length : Int) ≤ 1099511627776 := by have := HL.out; omega
    have hcm3 : cap ≤ 9223372036854775807 := by omega
    have hm := bread_method
    have hma := bread_ahead
    obtain ⟨dl, hdl0⟩ : ∃ dl, dl = d.length := ⟨_, rfl⟩
    by_cases hr : r = []
    · subst hr
      go_upto_region 5 with fail
      go_cut [8, 9] (fun s8 s9 wx => s8 = .int .i64 0 ∧ s9 = eofV L.a ∧ Ra w wx L w.heap.size g cap d F [] (.slice av xs.length cv) xs)
      case first =>
        have hA2 := hA.drew
        have hrd := rread_nil wr.drew L none hA2.rd g d.length (cap - d.length) (cap - d.length) (by omega) (by omega)
        unfold eofV at hrd
        go_region_with (go_at_call 118; refine hrd.mono ?_; rintro e w' ⟨rfl, hr', fr'⟩)
        all_goals
          go_wp2_with fail
          go_meet
          exact ⟨rfl, rfl, hA2.none hr' fr'⟩
      case rest =>
        obtain ⟨rfl, rfl, hB⟩ := hcut
        have ce := eof_cell hB
        have HB := Lib.hid hB
        have hnil := nil_eof
        have heq := eof_eq
        clear hA hc1 hc2 hc3 hm hma
        cases xs with
        | nil =>
          obtain rfl : F = [] := hB.parts
          have HD := Lib.hid (show d = l by simpa using hsum)
          unfold eofV
          go_wp2
          go_ret2
          exact ⟨_, rfl, HD.out ▸ HB.out.b, HB.out.rd, HB.out.fb.fr⟩
        | cons x0 xs0 =>
          obtain ⟨xs, hxs⟩ : ∃ xs, xs = x0 :: xs0 := ⟨_, rfl⟩
          rw [← hxs] at hB hxF HB ⊢
          have hx1 : 1 ≤ xs.length := by rw [hxs]; simp
          have hF0 : 0 < F.length := by omega
          obtain ⟨gr, rfl⟩ : ∃ gr, av = some ⟨gr, 0, none⟩ := by
            rcases hB.row.2 with ⟨h0, h1⟩ | ⟨g', cap', cur, h1, _⟩
            · omega
            · cases h1; exact ⟨_, rfl⟩
          have hx0 : ((xs.length : Int) == 0) = false := by rw [beq_eq_false_iff_ne]; omega
          have hFl : (F.length : Int) ≤ 1099511627776 := by have := HL.out; omega
          have hFl2 : F.length ≤ 1099511627776 := by have := HL.out; omega
          have hdl2 : d.length ≤ 1099511627776 := by have := HL.out; omega
          have HSUM := Lib.hid hsum
          clear hxF hlen hsum hxs
          unfold eofV
          go_wp2_with (at_builtin; refine wpList_zeros rfl (.tmp 49) rfl w.heap.size (F.length + d.length) _ rfl (Lib.hid (by omega)) (by omega) (by omega) HB.out.le ?_; intro capf wz hbz hcz frz; refine Hid.out ?_)
          refine Lib.hid ?_
          have hfi : Fi w wz L w.heap.size g cap d (.slice (some ⟨gr, 0, none⟩) xs.length cv) xs xs [] F (.slice (some ⟨wc.heap.size, 0, none⟩) ([] : List UInt8).length capf) wc.heap.size := by
            obtain ⟨cu, c1, _⟩ := HB.out.b.row
            obtain ⟨cz, z1, z2, _, _, z5, z6, _⟩ := hbz.row
            have hout : ∀ k, k < wc.heap.size → wz.heap[k]? = wc.heap[k]? := fun k hk => frz.block k hk (by simp)
            refine ⟨HB.out.rd.keep frz.size (fun k hk => hout k (Nat.lt_of_lt_of_le (HB.out.low k hk) HB.out.le)), HB.out.b.keep (hout g c1.lt), row_keep HB.out.row (fun k hk => hout k (row_block HB.out.row hk).2), HB.out.parts.move (Nat.le_refl _) (fun k cu hk _ _ => hout k hk.lt), HB.out.fb.trans ((frz.mono (by simp)).fb HB.out.le), HB.out.low, Bs.of_row z1 z2 (Nat.zero_le _) z5 z6 rfl, rfl, ?_⟩
            have := c1.lt; omega
          have HFI := Lib.hid hfi
          clear hbz frz hfi hB ce HB
          go_wp2
          go_loopg [10, 54] xs.length (fun n s10 s54 wr2 => ∃ (j : Nat) (p q : List UInt8) (vf : Value) (gf : Nat), xs.length - j ≤ n ∧ j ≤ xs.length ∧ s10 = vf ∧ s54 = .int .i64 j ∧ F = p ++ q ∧ Fi w wr2 L w.heap.size g cap d (.slice (some ⟨gr, 0, none⟩) xs.length cv) xs (xs.drop j) p q vf gf)
          case atStart => exact ⟨0, [], F, _, _, by omega, Nat.zero_le _, rfl, rfl, rfl, HFI.out⟩
          case round =>
            clear HFI
            obtain ⟨j, p, q, vf, gf, hnj, hj, rfl, rfl, hpq, hfi⟩ := hrel
            have HPQ := Lib.hid hpq
            have hpl := congrArg List.length hpq
            rw [List.length_append] at hpl
            have hji : (j : Int) ≤ (xs.length : Int) := by omega
            have hxi : (xs.length : Int) ≤ 9223372036854775807 := by
              have := hfi.row.2
              rcases this with ⟨h0, _⟩ | ⟨g', cap', cu, h1, _, _, h4, h5, _⟩
              · cases h0
              · unfold maxLen at h5; omega
            by_cases hjl : j < xs.length
            · have hjli : (j : Int) < (xs.length : Int) := by omega
              have hdr : xs.drop j = xs[j] :: xs.drop (j + 1) := List.drop_eq_getElem_cons hjl
              have hpt := hfi.parts
              rw [hdr] at hpt
              obtain ⟨p', q', gx, cx, hqq, hx, hbx, hgx, hpt'⟩ := hpt
              have hql := congrArg List.length hqq
              rw [List.length_append] at hql
              have cx0 : wr.cell? ⟨gr, j, none⟩ = some (.slice (some ⟨gx, 0, none⟩) p'.length cx) := row_cell hfi.row j _ (by rw [List.getElem?_eq_getElem hjl, hx])
              have HC := Lib.hid (show ∀ i u, (Lib.byteCells p')[i]? = some u → wr.cell? ((⟨gx, 0, none⟩ : Addr).add i) = some u from (show Bs wr w.heap.size (.slice (some ⟨gx, 0, none⟩) p'.length cx) p' by rw [← hx]; exact hbx).cells)
              have HFI := Lib.hid hfi
              have HPT := Lib.hid hpt'
              have HQ := Lib.hid (show F = (p ++ p') ++ q' by rw [hpq, hqq, List.append_assoc])
              have hlim : Hid (p.length + p'.length ≤ 140737488355328) := by show _ ≤ _; omega
              clear hpq hpl hfi hdr hqq hx hbx hgx hpt' hql hj
              go_wp2_with (at_builtin; refine wpList_appAt rfl (.tmp 58) (.tmp 59) rfl w.heap.size _ p p' ⟨gx, 0, none⟩ p'.length cx rfl rfl rfl HC.out HFI.out.bs HFI.out.le hlim.out ?_; intro v' w' hb' hgr' hat'; refine Hid.out ?_)
              refine Lib.hid ?_
              obtain ⟨gf', hfi'⟩ := HFI.out.app HPT.out hb' hgr' hat'
              have HFI' := Lib.hid hfi'
              clear hb' hgr' hat' hfi' cx0
              go_wp2
              go_roundg (xs.length - (j + 1))
              case measure => omega
              case rel => exact ⟨j + 1, p ++ p', q', v', gf', Nat.le_refl _, by omega, rfl, by go_num, HQ.out, HFI'.out⟩
            · obtain rfl : j = xs.length := by omega
              have hpt := hfi.parts
              rw [List.drop_eq_nil_of_le (Nat.le_refl _)] at hpt
              obtain rfl : q = [] := hpt
              have HC := Lib.hid (show ∀ i u, (Lib.byteCells d)[i]? = some u → wr.cell? ((⟨g, 0, none⟩ : Addr).add i) = some u from hfi.b.cells)
              have HFI := Lib.hid hfi
              have HQ := Lib.hid (show p ++ d = l by
                have h5 := HSUM.out
                rw [hpq, List.append_nil, List.append_nil] at h5
                exact h5)
              have hlim : Hid (p.length + d.length ≤ 140737488355328) := by show _ ≤ _; omega
              clear hpq hpl hfi hj hjl
              go_wp2_with (at_builtin; refine wpList_appAt rfl (.tmp 62) (.tmp 63) rfl w.heap.size _ p d ⟨g, 0, none⟩ d.length cap rfl rfl rfl HC.out HFI.out.bs HFI.out.le hlim.out ?_; intro v' w' hb' hgr' hat'; refine Hid.out ?_)
              refine Lib.hid ?_
              obtain ⟨gf', hfi'⟩ := HFI.out.app HFI.out.parts hb' hgr' hat'
              rw [HQ.out] at hb'
              go_wp2
              go_ret2
              exact ⟨_, rfl, hb', hfi'.rd, hfi'.fb.fr⟩
    · have hr0 := List.length_pos_iff.2 hr
      go_upto_region 5 with fail
      go_cut [8, 9] (fun s8 s9 wx => ∃ n : Nat, s8 = .int .i64 n ∧ s9 = .nilIface ∧ 0 < n ∧ n ≤ r.length ∧ d.length + n ≤ cap ∧ Ra w wx L w.heap.size g cap (d ++ r.take n) F (r.drop n) (.slice av xs.length cv) xs)
      case first =>
        have hA2 := hA.drew
        have hc1' : BlkT wr.drew g 5 cur := hc1
        have hrd := rread_some wr.drew L r none hA2.rd hr g d.length (cap - d.length) (cap - d.length) 5 cur hc1' (by omega) (by omega) (by omega) hA2.ng
        unfold ReadIs at hrd
        go_region_with (go_at_call 118; refine hrd.mono ?_; rintro e w' ⟨n, hn0, hn1, hn2, rfl, hg', hr', fr'⟩)
        all_goals
          go_wp2_with fail
          go_meet
          exact ⟨n, rfl, rfl, hn0, hn2, by omega, hA2.read ⟨hc1', hc2, hc3⟩ hn2 (by omega) hg' hr' fr'⟩
      case rest =>
        obtain ⟨n, rfl, rfl, hn0, hn2, hfit, hB⟩ := hcut
        have hdl' : (d ++ r.take n).length = d.length + n := by rw [List.length_append, List.length_take]; omega
        have hsum' : F ++ ((d ++ r.take n) ++ r.drop n) = l := by rw [List.append_assoc d, List.take_append_drop]; exact hsum
        have hrl : (r.drop n).length = r.length - n := List.length_drop
        generalize d ++ r.take n = d' at hB hdl' hsum'
        generalize r.drop n = r' at hB hsum' hrl
        have hfiti : (d.length : Int) + (n : Int) ≤ (cap : Int) := by omega
        have HB := Lib.hid hB
        have HS := Lib.hid (And.intro hdl' (And.intro hsum' hrl))
        have hni : (n : Int) ≤ 1099511627776 := by have := HL.out; omega
        clear hA hc1 hc2 hc3 hm hma hB hdl' hsum' hrl hne0
        have htd : (cap : Int).tdiv 16 = ((cap / 16 : Nat) : Int) := by rw [Int.tdiv_eq_ediv_of_nonneg (by omega)]; rfl
        have htn : (nx : Int).tdiv 2 = ((nx / 2 : Nat) : Int) := by rw [Int.tdiv_eq_ediv_of_nonneg (by omega)]; rfl
        by_cases hroom : cap - (d.length + n) < cap / 16
        · have hri : (cap : Int) - ((d.length : Int) + (n : Int)) < ((cap / 16 : Nat) : Int) := by omega
          have hFl : F.length ≤ 1099511627776 := by have := HL.out; omega
          have hFli : (F.length : Int) ≤ 1099511627776 := by omega
          have hxl : Hid (xs.length + 1 ≤ 1099511627777) := by
            show _ ≤ _
            omega
          go_wp2_with (at_builtin; refine wpList_push rfl (.tmp 76) (.tmp 78) rfl _ w.heap.size _ xs g (d.length + n) cap rfl rfl HB.out.row HB.out.le hxl ?_; intro av' cv' w5 hrow hgr; refine Hid.out ?_)
          refine Lib.hid ?_
          have H5 := Lib.hid (And.intro hrow hgr)
          clear hrow hgr
          go_wp2_with (at_builtin; refine wpList_zeros rfl (.tmp 84) rfl w.heap.size nx _ rfl (Lib.hid rfl) (by omega) (by have := HL.out; omega) ?_ ?_)
          · have h7 := HB.out.le
            have h8 := H5.out.2.size
            simp only [size_alloc] at h8
            omega
          intro capf w6 hb6 hc6 f6
          go_wp2
          obtain ⟨hdl', hsum', hrl⟩ := HS.out
          have h7 := HB.out
          have hrow := H5.out.1
          rw [← hdl'] at hrow
          have hb7 : Bs w6 w.heap.size (.slice (some ⟨w5.heap.size, 0, none⟩) ([] : List UInt8).length capf) [] := by
            obtain ⟨cz, z1, z2, _, _, z5, z6, _⟩ := hb6.row
            exact Bs.of_row z1 z2 (Nat.zero_le _) z5 z6 rfl
          have h8 := h7.push ((Fr.refl [] wc).alloc _) H5.out.2 hrow f6 hb7 (Nat.le_refl _)
          have hfl : (F ++ d').length = F.length + (d.length + n) := by rw [List.length_append, hdl']
          have hl0 := HL.out
          go_roundg r'.length
          case measure => omega
          case rel =>
            refine ⟨w5.heap.size, capf, [], F ++ d', r', av', cv', xs ++ [Value.slice (some ⟨g, 0, none⟩) d'.length cap], nx + nx / 2, Nat.le_refl _, rfl, congrArg (Value.int .i64) (by omega), by rw [List.length_append]; rfl, congrArg (Value.int .i64) (by omega), ?_, by simpa using hsum', by simp; omega, by simp; omega, by omega, by omega, by omega, by omega, by rw [hfl, List.length_append]; simp; omega⟩
            have e : (xs ++ [Value.slice (some ⟨g, 0, none⟩) d'.length cap]).length = xs.length + 1 := by simp
            rw [e]; exact h8
        · have hri : decide ((cap : Int) - ((d.length : Int) + (n : Int)) < ((cap / 16 : Nat) : Int)) = false := by rw [decide_eq_false_iff_not]; omega
          go_wp2
          obtain ⟨hdl', hsum', hrl⟩ := HS.out
          go_roundg r'.length
          case measure => omega
          case rel => exact ⟨g, cap, d', F, r', av, cv, xs, nx, Nat.le_refl _, by rw [hdl'], rfl, rfl, rfl, HB.out, hsum', by omega, by omega, hnx0, hnx1, hnx2, hcap, hxF⟩
end Go.Proofs.YtpjnggpjcbojcaaDoor
