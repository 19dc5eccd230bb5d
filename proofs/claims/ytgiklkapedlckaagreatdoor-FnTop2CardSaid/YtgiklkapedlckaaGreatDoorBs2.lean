/- A byte slice of the call's own: several bytes more by append: a literal of four, of two, a string, another slice. -/
import Derived.Test.YtgiklkapedlckaaGreatDoorBs
import Derived.Lib.AppendStr
namespace Go.Proofs.YtgiklkapedlckaaGreatDoor
open Go.RowKit

theorem Bs.alloc {w : World} {B : Nat} {v : Value} {l : List UInt8} (h : Bs w B v l) (o : Obj) : Bs (w.alloc o) B v l := World.ownsRow.alloc h o
theorem Bs.some {w : World} {B : Nat} {v : Value} {l : List UInt8} (h : Bs w B v l) (hl : l ≠ []) : ∃ g cap, v = .slice (Option.some ⟨g, 0, none⟩) l.length cap := by
  rcases h.2 with ⟨_, hn⟩ | ⟨g, cap, cur, h1, _⟩
  · exact absurd (List.eq_nil_of_length_eq_zero hn) hl
  · exact ⟨g, cap, h1⟩
theorem Bs.below {w w' : World} {B : Nat} {v : Value} {l : List UInt8} (h : Bs w B v l) (f : Below w.heap.size w w') : Bs w' B v l := h.fr (own := []) (Fr.of_below f) (by simp)
theorem Bs.cells {w : World} {B : Nat} {g n cap : Nat} {l : List UInt8} (h : Bs w B (.slice (Option.some ⟨g, 0, none⟩) n cap) l) : ∀ j u, (Lib.byteCells l)[j]? = Option.some u → w.cell? ((⟨g, 0, none⟩ : Addr).add j) = Option.some u := by
  rcases h.2 with ⟨h0, _⟩ | ⟨g', cap', cur, h1, h2, h3, h4, h5, h6, h7⟩
  · cases h0
  · cases h1
    intro j u hj
    rw [← h7] at hj
    exact Lib.cells_of_row h3 _ j u hj
/-- 'v = append(v, ds...)', ds lying from ad on. -/
theorem wpList_appv {w : World} {ops : Array Oper} {rest : List Oper} {o : Oper} {a : Act} {Q : Exit → Act → World → Prop} (hgd : o.guard = none) (s x : Operand)
    (ho : o.op = .call { callee := .builtin .append, args := #[s, x], argTypes := #[22, 22] }) (B : Nat) (v : Value) (l ds : List UInt8) (ad : Addr) (m c : Nat)
    (hs : a.eval s = v) (hx : a.eval x = .slice (some ad) m c) (hm : ds.length = m) (hc : ∀ j u, (Lib.byteCells ds)[j]? = some u → w.cell? (ad.add j) = some u) (hB : Bs w B v l) (hle : B ≤ w.heap.size) (hlim : l.length + m ≤ 140737488355328)
    (h : ∀ v' w', Bs w' B v' (l ++ ds) → Below B w w' → wpList Tryz.prog ops Q rest (a.put o.dst v') w') : wpList Tryz.prog ops Q (o :: rest) a w := by
  obtain ⟨i0, hi, hz0, hz1, hz2⟩ := info_parts info_u8
  refine wpList_append_own _ hgd s x 22 ho B 5 i0 (.int .u8 0) 1 1 Tryz.underlying22 hi hz0 hz1 hz2 rfl (by decide) v l.length (Lib.byteCells l) hs hB ad m c (Lib.byteCells ds) hx (by rw [Lib.byteCells_length, hm, Nat.mul_one]) hc (Lib.byteCells_one ds) (by unfold maxLen; omega) (by omega) hle ?_
  intro v' w' hown hgr _
  refine h v' w' ?_ ((Below.refl _ _).grown hgr hle (fun k hk => hB.own k hk))
  unfold Bs
  rw [List.length_append, hm, Lib.byteCells_append]
  exact hown
theorem cells_new (w : World) (cs : List Value) (T : TypeId) (ds : List UInt8) (h : cs = Lib.byteCells ds) : ∀ j u, (Lib.byteCells ds)[j]? = some u → (w.alloc (.cells cs.toArray T)).cell? ((⟨w.heap.size, 0, none⟩ : Addr).add j) = some u := by
  intro j u hj
  rw [Lib.addr_add, Nat.zero_add, Lib.cell_of_heap (heap_alloc_new w (.cells cs.toArray T)), h]
  simpa using hj
/-- 'v = append(v, c1, c2)'. -/
theorem wpList_app2 {w : World} {ops : Array Oper} {rest : List Oper} {o : Oper} {a : Act} {Q : Exit → Act → World → Prop} (hgd : o.guard = none) (s x : Operand)
    (ho : o.op = .call { callee := .builtin .append, args := #[s, x], argTypes := #[22, 22] }) (T : TypeId) (B : Nat) (v : Value) (l : List UInt8) (X1 X2 : Int) (c1 c2 : UInt8)
    (hs : a.eval s = v) (hx : a.eval x = .slice (some ⟨w.heap.size, 0, none⟩) 2 2) (hB : Bs w B v l) (h1 : Hid (X1 = c1.toNat)) (h2 : Hid (X2 = c2.toNat)) (hle : B ≤ w.heap.size) (hlim : Hid (l.length + 2 ≤ 140737488355328))
    (h : ∀ v' w', Bs w' B v' (l ++ [c1, c2]) → Below B w w' → wpList Tryz.prog ops Q rest (a.put o.dst v') w') : wpList Tryz.prog ops Q (o :: rest) a (w.alloc (.cells #[.int .u8 X1, .int .u8 X2] T)) := by
  have hcs : [Value.int .u8 X1, .int .u8 X2] = Lib.byteCells [c1, c2] := by rw [h1.out, h2.out]; rfl
  refine wpList_appv hgd s x ho B v l [c1, c2] ⟨w.heap.size, 0, none⟩ 2 2 hs hx rfl (cells_new w _ T _ hcs) (hB.alloc _) (by simp; omega) hlim.out ?_
  exact fun v' w' hb hl => h v' w' hb (((Below.refl _ _).alloc hle _).trans hl)
/-- 'v = append(v, c1, c2, c3, c4)'. -/
theorem wpList_app4 {w : World} {ops : Array Oper} {rest : List Oper} {o : Oper} {a : Act} {Q : Exit → Act → World → Prop} (hgd : o.guard = none) (s x : Operand)
    (ho : o.op = .call { callee := .builtin .append, args := #[s, x], argTypes := #[22, 22] }) (T : TypeId) (B : Nat) (v : Value) (l : List UInt8) (X1 X2 X3 X4 : Int) (c1 c2 c3 c4 : UInt8)
    (hs : a.eval s = v) (hx : a.eval x = .slice (some ⟨w.heap.size, 0, none⟩) 4 4) (hB : Bs w B v l) (h1 : Hid (X1 = c1.toNat ∧ X2 = c2.toNat ∧ X3 = c3.toNat ∧ X4 = c4.toNat)) (hle : B ≤ w.heap.size) (hlim : Hid (l.length + 4 ≤ 140737488355328))
    (h : ∀ v' w', Bs w' B v' (l ++ [c1, c2, c3, c4]) → Below B w w' → wpList Tryz.prog ops Q rest (a.put o.dst v') w') : wpList Tryz.prog ops Q (o :: rest) a (w.alloc (.cells #[.int .u8 X1, .int .u8 X2, .int .u8 X3, .int .u8 X4] T)) := by
  have hcs : [Value.int .u8 X1, .int .u8 X2, .int .u8 X3, .int .u8 X4] = Lib.byteCells [c1, c2, c3, c4] := by
    obtain ⟨e1, e2, e3, e4⟩ := h1.out
    rw [e1, e2, e3, e4]; rfl
  refine wpList_appv hgd s x ho B v l [c1, c2, c3, c4] ⟨w.heap.size, 0, none⟩ 4 4 hs hx rfl (cells_new w _ T _ hcs) (hB.alloc _) (by simp; omega) hlim.out ?_
  exact fun v' w' hb hl => h v' w' hb (((Below.refl _ _).alloc hle _).trans hl)
/-- 'v = append(v, t...)', t a string. -/
theorem wpList_apps {w : World} {ops : Array Oper} {rest : List Oper} {o : Oper} {a : Act} {Q : Exit → Act → World → Prop} (hgd : o.guard = none) (s x : Operand)
    (ho : o.op = .call { callee := .builtin .append, args := #[s, x], argTypes := #[22, 9] }) (B : Nat) (v : Value) (l : List UInt8) (t : ByteArray)
    (hs : a.eval s = v) (hx : a.eval x = .string t) (hB : Bs w B v l) (hle : B ≤ w.heap.size) (hlim : Hid (l.length + t.size ≤ 140737488355328))
    (h : ∀ v' w', Bs w' B v' (l ++ t.data.toList) → Below B w w' → wpList Tryz.prog ops Q rest (a.put o.dst v') w') : wpList Tryz.prog ops Q (o :: rest) a w := by
  obtain ⟨i0, hi, hz0, hz1, hz2⟩ := info_parts info_u8
  have hlim := hlim.out
  refine Lib.wpList_append_own_string _ hgd s x 22 9 ho B 5 i0 Tryz.underlying22 Tryz.underlying9 hi hz0 hz1 hz2 v l.length (Lib.byteCells l) hs hB t hx (by unfold maxLen; omega) (by omega) hle ?_
  intro v' w' hown hgr _
  refine h v' w' ?_ ((Below.refl _ _).grown hgr hle (fun k hk => hB.own k hk))
  have e : Lib.strCells t = Lib.byteCells t.data.toList := rfl
  have e2 : t.size = t.data.toList.length := by rw [Array.length_toList]; rfl
  unfold Bs
  rw [List.length_append, Lib.byteCells_append, ← e2, ← e]
  exact hown
end Go.Proofs.YtgiklkapedlckaaGreatDoor
