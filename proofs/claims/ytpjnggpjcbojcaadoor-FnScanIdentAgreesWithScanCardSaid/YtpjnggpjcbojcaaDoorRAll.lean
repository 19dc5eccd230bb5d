/- io.ReadAll over a bufio.Reader, walked. -/
import Derived.Test.YtpjnggpjcbojcaaDoorRR2
import Derived.Test.YtpjnggpjcbojcaaDoorBs2
import Derived.Lib.AppendZeros
import Derived.Maps.AppendAt
import Derived.Deep.LoopGhost
namespace Go.Proofs.YtpjnggpjcbojcaaDoor
open Go.RowKit

theorem zero_cells (n : Nat) : (Builtin.zeroCells #[Value.int .u8 0] n).toList = Lib.byteCells (List.replicate n 0) := by
  apply List.ext_getElem
  · simp [Builtin.zeroCells, Lib.byteCells]
  · intro i h1 h2
    simp [Builtin.zeroCells, Lib.byteCells, Nat.mod_one]
theorem info_sl : (Tryd.prog.info? 79).isSome = true ∧ (Tryd.prog.info? 46).map (fun i => (i.zero, i.size, i.bytes)) = some (some (.slice none 0 0), 1, 24) := by constructor <;> kernel_rfl

/-- 'append([]byte(nil), make([]byte, n)...)', at least one: a row of its own. -/
theorem wpList_zeros {w : World} {ops : Array Oper} {rest : List Oper} {o : Oper} {a : Act} {Q : Exit → Act → World → Prop} (hgd : o.guard = none) (x : Operand)
    (ho : o.op = .call { callee := .builtin .append, args := #[.const (.slice none 0 0), x], argTypes := #[46, 3] }) (B n : Nat) (X : Int) (hx : a.eval x = .int .i64 X) (hX : Hid (X = n)) (h0 : 0 < n) (hn : n ≤ 140737488355328) (hB : B ≤ w.heap.size)
    (h : ∀ cap w', Bs w' B (.slice (some ⟨w.heap.size, 0, none⟩) n cap) (List.replicate n 0) → n ≤ cap → Fr [] w w' → wpList Tryd.prog ops Q rest (a.put o.dst (.slice (some ⟨w.heap.size, 0, none⟩) n cap)) w') :
    wpList Tryd.prog ops Q (o :: rest) a w := by
  obtain ⟨i0, hi, hz0, hz1, hz2⟩ := info_parts info_u8
  have hX := hX.out
  subst hX
  have hr := Lib.run_append_nil_zeros (P := Tryd.prog) w 46 3 o.type 5 i0 (.int .u8 0) .i64 .i64 Tryd.underlying46 Tryd.underlying3 hi hz0 n h0 (by rw [hz1]; decide) (by omega) (by rw [hz2]; omega)
  refine Lib.wpList_append_run _ hgd _ _ _ _ ho _ _ rfl hx _ _ hr ?_
  refine h _ _ ?_ (grownCap_ge _ _ _ _) (((Fr.refl _ w).drew).alloc _)
  have hg := grownCap_ge w n 0 5
  have hm := grownCap_le_maxLen w n 0 5 (by unfold maxLen; omega)
  refine ⟨by simp [Lib.byteCells], Or.inr ⟨w.heap.size, _, _, by simp, hB, by simpa using heap_alloc_new w.drew _, by simpa using hg, hm, ?_, ?_⟩⟩
  · simp [Builtin.zeroCells, Value.cells]; omega
  · have hz : (Value.int .u8 0).cells = #[Value.int .u8 0] := rfl
    rw [hz, Array.toList_append, zero_cells, List.length_replicate, Nat.mul_one, List.take_append_of_le_length (by simp [Lib.byteCells]), List.take_of_length_le (by simp [Lib.byteCells])]

/-- 'v = append(v, ds...)': what stands beside. -/
theorem wpList_appAt {w : World} {ops : Array Oper} {rest : List Oper} {o : Oper} {a : Act} {Q : Exit → Act → World → Prop} (hgd : o.guard = none) (s x : Operand)
    (ho : o.op = .call { callee := .builtin .append, args := #[s, x], argTypes := #[46, 46] }) (B : Nat) (v : Value) (l ds : List UInt8) (ad : Addr) (m c : Nat)
    (hs : a.eval s = v) (hx : a.eval x = .slice (some ad) m c) (hm : ds.length = m) (hc : ∀ j u, (Lib.byteCells ds)[j]? = some u → w.cell? (ad.add j) = some u) (hB : Bs w B v l) (hle : B ≤ w.heap.size) (hlim : l.length + m ≤ 140737488355328)
    (h : ∀ v' w', Bs w' B v' (l ++ ds) → w.grownBy w' v.ownBlock → (v'.ownBlock = v.ownBlock ∨ v'.ownBlock = some w.heap.size) → wpList Tryd.prog ops Q rest (a.put o.dst v') w') : wpList Tryd.prog ops Q (o :: rest) a w := by
  obtain ⟨i0, hi, hz0, hz1, hz2⟩ := info_parts info_u8
  refine wpList_append_own_at _ hgd s x 46 ho B 5 i0 (.int .u8 0) 1 1 Tryd.underlying46 hi hz0 hz1 hz2 rfl (by decide) v l.length (Lib.byteCells l) hs hB ad m c (Lib.byteCells ds) hx (by rw [Lib.byteCells_length, hm, Nat.mul_one]) hc (Lib.byteCells_one ds) (by unfold maxLen; omega) (by omega) hle ?_
  intro v' w' hown hgr _ hat
  refine h v' w' ?_ hgr hat
  unfold Bs
  rw [List.length_append, hm, Lib.byteCells_append]
  exact hown

/-- The pieces read so far, none of them in row g: they are rows of the call's own that hold F together. -/
def Parts (w : World) (B g : Nat) : List Value → List UInt8 → Prop
  | [], F => F = []
  | x :: xs, F => ∃ p q gx cx, F = p ++ q ∧ x = .slice (some ⟨gx, 0, none⟩) p.length cx ∧ Bs w B x p ∧ gx ≠ g ∧ Parts w B g xs q
theorem Bs.row {w : World} {B g n cap : Nat} {l : List UInt8} (h : Bs w B (.slice (Option.some ⟨g, 0, none⟩) n cap) l) : ∃ cur : List Value, BlkT w g 5 cur ∧ cur.length = cap ∧ n = l.length ∧ l.length ≤ cap ∧ cap ≤ maxLen ∧ B ≤ g ∧ cur.take l.length = l.map u8v := by
  rcases h.2 with ⟨h0, _⟩ | ⟨g', cap', cur, h1, h2, h3, h4, h5, h6, h7⟩
  · cases h0
  · cases h1
    exact ⟨cur.toList, h3, by simpa using h6, rfl, h4, h5, h2, by rw [Nat.mul_one] at h7; exact h7⟩
theorem Bs.of_row {w : World} {B g cap : Nat} {l : List UInt8} {cur : List Value} (h : BlkT w g 5 cur) (hc : cur.length = cap) (hl : l.length ≤ cap) (hm : cap ≤ maxLen) (hB : B ≤ g) (ht : cur.take l.length = l.map u8v) : Bs w B (.slice (Option.some ⟨g, 0, none⟩) l.length cap) l :=
  ⟨by rw [Lib.byteCells_length, Nat.mul_one], Or.inr ⟨g, cap, cur.toArray, rfl, hB, h, hl, hm, by simpa using hc, by rw [Nat.mul_one]; exact ht⟩⟩
theorem Bs.keep {w w' : World} {B g n cap : Nat} {l : List UInt8} (h : Bs w B (.slice (Option.some ⟨g, 0, none⟩) n cap) l) (e : w'.heap[g]? = w.heap[g]?) : Bs w' B (.slice (Option.some ⟨g, 0, none⟩) n cap) l := by
  obtain ⟨cur, h1, h2, rfl, h3, h4, h5, h6⟩ := h.row
  exact Bs.of_row (h1.of_block e) h2 h3 h4 h5 h6
theorem Parts.snoc {w : World} {B g gx cx : Nat} {d : List UInt8} {xs : List Value} {F : List UInt8} (h : Parts w B g xs F) (hb : Bs w B (.slice (some ⟨gx, 0, none⟩) d.length cx) d) (hne : gx ≠ g) :
    Parts w B g (xs ++ [.slice (some ⟨gx, 0, none⟩) d.length cx]) (F ++ d) := by
  induction xs generalizing F with
  | nil =>
    obtain rfl : F = [] := h
    exact ⟨d, [], gx, cx, by simp, rfl, hb, hne, rfl⟩
  | cons x xs ih =>
    obtain ⟨p, q, g1, c1, rfl, hx, h1, h2, h3⟩ := h
    exact ⟨p, q ++ d, g1, c1, by simp, hx, h1, h2, ih h3⟩
/-- Where every row of bytes but g's stands, the pieces stand. -/
theorem Parts.keep {w w' : World} {B g : Nat} {xs : List Value} {F : List UInt8} (h : Parts w B g xs F) (hk : ∀ k cur, BlkT w k 5 cur → B ≤ k → k ≠ g → w'.heap[k]? = w.heap[k]?) : Parts w' B g xs F := by
  induction xs generalizing F with
  | nil => exact h
  | cons x xs ih =>
    obtain ⟨p, q, g1, c1, hF, rfl, h1, h2, h3⟩ := h
    obtain ⟨cur, b1, _, _, _, _, b5, _⟩ := h1.row
    exact ⟨p, q, g1, c1, hF, rfl, h1.keep (hk g1 cur b1 b5 h2), h2, ih h3⟩
/-- A new row is none of the pieces'. -/
theorem Parts.new {w : World} {B g g' : Nat} {xs : List Value} {F : List UInt8} (h : Parts w B g xs F) (hg : w.heap.size ≤ g') : Parts w B g' xs F := by
  induction xs generalizing F with
  | nil => exact h
  | cons x xs ih =>
    obtain ⟨p, q, g1, c1, hF, rfl, h1, h2, h3⟩ := h
    obtain ⟨cur, b1, _⟩ := h1.row
    have := b1.lt
    exact ⟨p, q, g1, c1, hF, rfl, h1, by omega, ih h3⟩

/-- io.ReadAll between two reads. -/
structure Ra (W0 w : World) (L : Loc) (B g cap : Nat) (d F r : List UInt8) (vch : Value) (xs : List Value) : Prop where
  rd : Rd w L r none
  b : Bs w B (.slice (some ⟨g, 0, none⟩) d.length cap) d
  row : w.ownsRow B 46 1 vch xs.length xs
  parts : Parts w B g xs F
  fb : Fb L.rown B W0 w
  low : ∀ k ∈ L.base, k < B
theorem Ra.le {W0 w : World} {L : Loc} {B g cap : Nat} {d F r : List UInt8} {vch : Value} {xs : List Value} (h : Ra W0 w L B g cap d F r vch xs) : B ≤ w.heap.size := by
  obtain ⟨cur, b1, _, _, _, _, b5, _⟩ := h.b.row
  have := b1.lt
  omega
theorem Ra.ng {W0 w : World} {L : Loc} {B g cap : Nat} {d F r : List UInt8} {vch : Value} {xs : List Value} (h : Ra W0 w L B g cap d F r vch xs) : g ∉ L.base := fun hm => by
  obtain ⟨cur, b1, _, _, _, _, b5, _⟩ := h.b.row
  have := h.low g hm
  omega
theorem Loc.rown_base {L : Loc} : ∀ k ∈ L.rown, k ∈ L.base := by
  intro k hk
  simp only [Loc.rown, Loc.base, List.mem_cons, List.not_mem_nil, or_false] at hk ⊢
  exact Or.inr hk
/-- The row of the list of pieces lies in no row of bytes. -/
theorem row_other {w : World} {B k : Nat} {vch : Value} {xs : List Value} (h : w.ownsRow B 46 1 vch xs.length xs) {cur : List Value} (hb : BlkT w k 5 cur) : vch.ownBlock ≠ some k := by
  rcases h.2 with ⟨h0, _⟩ | ⟨gr, cap, cr, h1, h2, h3, _⟩
  · rw [h0]; simp [Value.ownBlock]
  · rw [h1]
    simp only [Value.ownBlock, ne_eq, Option.some.injEq]
    rintro rfl
    have h4 : w.heap[gr]? = some (.cells cur.toArray 5 (0, 0)) := hb
    rw [h3] at h4
    simp at h4
theorem row_keep {w w' : World} {B : Nat} {vch : Value} {xs : List Value} (h : w.ownsRow B 46 1 vch xs.length xs) (e : ∀ k, vch.ownBlock = some k → w'.heap[k]? = w.heap[k]?) : w'.ownsRow B 46 1 vch xs.length xs := by
  refine ⟨h.1, ?_⟩
  rcases h.2 with h0 | ⟨gr, cap, cr, h1, h2, h3, h4⟩
  · exact Or.inl h0
  · exact Or.inr ⟨gr, cap, cr, h1, h2, (e gr (by rw [h1]; rfl)).trans h3, h4⟩
theorem row_block {w : World} {B k : Nat} {vch : Value} {xs : List Value} (h : w.ownsRow B 46 1 vch xs.length xs) (hk : vch.ownBlock = some k) : B ≤ k ∧ k < w.heap.size := by
  rcases h.2 with ⟨h0, _⟩ | ⟨gr, cap, cr, h1, h2, h3, _⟩
  · rw [h0] at hk; simp [Value.ownBlock] at hk
  · rw [h1] at hk
    have : gr = k := by simpa [Value.ownBlock] using hk
    subst this
    exact ⟨h2, Lib.lt_of_heap h3⟩

/-- Behind a read. -/
theorem Ra.read {W0 w w' : World} {L : Loc} {B g cap : Nat} {d F r : List UInt8} {vch : Value} {xs : List Value} (h : Ra W0 w L B g cap d F r vch xs) {cur : List Value} {n : Nat} (hcur : BlkT w g 5 cur ∧ cur.length = cap ∧ cur.take d.length = d.map u8v)
    (hn : n ≤ r.length) (hfit : d.length + n ≤ cap) (hg : BlkT w' g 5 (laid cur d.length (r.take n))) (hr : Rd w' L (r.drop n) none) (f : Fr (g :: L.rown) w w') :
    Ra W0 w' L B g cap (d ++ r.take n) F (r.drop n) vch xs := by
  obtain ⟨hc1, hc2, hc3⟩ := hcur
  obtain ⟨_, _, _, _, _, hm, hB, _⟩ := h.b.row
  have htl : (r.take n).length = n := by rw [List.length_take]; omega
  have hdl : (d ++ r.take n).length = d.length + n := by rw [List.length_append, htl]
  have hout : ∀ k, k < w.heap.size → B ≤ k → k ≠ g → w'.heap[k]? = w.heap[k]? := fun k hk hB hne => f.block k hk (by
    simp only [List.mem_cons, not_or]
    exact ⟨hne, fun hm => by have := h.low k (Loc.rown_base k hm); omega⟩)
  refine ⟨hr, Bs.of_row hg (by rw [laid_len _ _ _ (by rw [htl]; omega)]; exact hc2) (by omega) hm hB ?_, row_keep h.row (fun k hk => hout k (row_block h.row hk).2 (row_block h.row hk).1 (fun e => row_other h.row hc1 (by rw [hk, e]))), h.parts.keep (fun k cu hk hB hne => hout k hk.lt hB hne), h.fb.trans ⟨f.os, f.tape, f.output, f.size, fun k hk ho => f.block k (Nat.lt_of_lt_of_le hk h.le) (by
    simp only [List.mem_cons, not_or]
    exact ⟨by omega, ho⟩)⟩, h.low⟩
  have e := laid_take cur d.length (r.take n) (by rw [htl]; omega)
  rw [htl] at e
  rw [hdl, e, hc3, List.map_append]
theorem Ra.drewN {W0 w : World} {L : Loc} {B g cap : Nat} {d F r : List UInt8} {vch : Value} {xs : List Value} (h : Ra W0 w L B g cap d F r vch xs) (n : Nat) : Ra W0 (w.drewN n) L B g cap d F r vch xs :=
  ⟨h.rd.keep (Nat.le_refl _) (fun _ _ => rfl), h.b.keep rfl, row_keep h.row (fun _ _ => rfl), h.parts.keep (fun _ _ _ _ _ => rfl), h.fb.drewN n, h.low⟩
end Go.Proofs.YtpjnggpjcbojcaaDoor
