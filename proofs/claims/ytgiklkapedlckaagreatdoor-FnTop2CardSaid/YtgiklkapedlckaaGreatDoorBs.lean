/- A byte slice of the call's own, beside the scanner: one byte more by append; its text. -/
import Derived.Test.YtgiklkapedlckaaGreatDoorBuf
import Derived.Lib.BufferRead
import Derived.Laws.IdiomStrings
namespace Go.Proofs.YtgiklkapedlckaaGreatDoor
open Go.RowKit

/-- The slice v of the call's own (its row from B on) holds the bytes l. -/
def Bs (w : World) (B : Nat) (v : Value) (l : List UInt8) : Prop := w.ownsRow B 5 1 v l.length (Lib.byteCells l)
theorem Bs.nil (w : World) (B : Nat) : Bs w B (.slice none 0 0) [] := World.ownsRow_nil _ _ _ _
theorem Bs.fr {w w' : World} {B : Nat} {v : Value} {l : List UInt8} (h : Bs w B v l) {own : List Nat} (f : Fr own w w') (ho : ∀ k ∈ own, k < B) : Bs w' B v l := by
  refine ⟨h.1, ?_⟩
  rcases h.2 with h0 | ⟨g, cap, cur, h1, h2, h3, h4⟩
  · exact Or.inl h0
  · have hg : g < w.heap.size := by
      rcases Nat.lt_or_ge g w.heap.size with h' | h'
      · exact h'
      · simp [Array.getElem?_eq_none h'] at h3
    exact Or.inr ⟨g, cap, cur, h1, h2, (f.block g hg (fun hm => by have := ho g hm; omega)).trans h3, h4⟩
theorem Bs.own {w : World} {B : Nat} {v : Value} {l : List UInt8} (h : Bs w B v l) (k : Nat) (hk : v.ownBlock = some k) : B ≤ k := by
  rcases h.2 with ⟨h0, _⟩ | ⟨g, cap, cur, h1, h2, _⟩
  · rw [h0] at hk; simp [Value.ownBlock] at hk
  · rw [h1] at hk
    have : g = k := by simpa [Value.ownBlock] using hk
    omega
/-- Its text. -/
theorem Bs.text {w : World} {B : Nat} {v : Value} {l : List UInt8} (h : Bs w B v l) : (convert 22 9 v).run Tryz.prog w = .ok (.string ⟨l.toArray⟩) w := by
  rcases h.2 with ⟨h0, hn⟩ | ⟨g, cap, cur, h1, h2, h3, h4, h5, h6, h7⟩
  · obtain rfl : l = [] := List.eq_nil_of_length_eq_zero hn
    rw [h0]
    exact Lib.run_convert_nil_bytes w _ _ _ 0 Tryz.underlying22 Tryz.underlying5 Tryz.underlying9
  · rw [h1]
    rw [Nat.mul_one] at h7
    exact run_convert_bytes_back w _ _ _ ⟨g, 0, none⟩ cap l Tryz.underlying22 Tryz.underlying5 Tryz.underlying9 (Lib.bytes_of_row h3 h7)
theorem cells_one (X : Int) (c : UInt8) (h : X = (c.toNat : Int)) : [Value.int .u8 X] = Lib.byteCells [c] := by rw [h]; rfl
/-- A row of one byte, just laid. -/
theorem Bs.one (w : World) (X : Int) (c : UInt8) (h : X = (c.toNat : Int)) : Bs (w.alloc (.cells #[.int .u8 X] 5)) w.heap.size (.slice (some ⟨w.heap.size, 0, none⟩) 1 1) [c] := by
  refine ⟨rfl, Or.inr ⟨w.heap.size, 1, #[.int .u8 X], rfl, Nat.le_refl _, heap_alloc_new w _, Nat.le_refl _, by unfold maxLen; omega, rfl, ?_⟩⟩
  rw [← cells_one X c h]; rfl

theorem info_u8 : (Tryz.prog.info? 5).map (fun i => (i.zero, i.size, i.bytes)) = some (some (.int .u8 0), 1, 1) := by kernel_rfl
/-- 'v = append(v, c)': the byte lies in a new block of its own. -/
theorem wpList_app1 {w : World} {ops : Array Oper} {rest : List Oper} {o : Oper} {a : Act} {Q : Exit → Act → World → Prop} (hgd : o.guard = none) (s x : Operand)
    (ho : o.op = .call { callee := .builtin .append, args := #[s, x], argTypes := #[22, 22] }) (T : TypeId) (B : Nat) (v : Value) (l : List UInt8) (X : Int) (c : UInt8)
    (hs : a.eval s = v) (hx : a.eval x = .slice (some ⟨w.heap.size, 0, none⟩) 1 1) (hB : Bs w B v l) (hX : Hid (X = c.toNat)) (hle : B ≤ w.heap.size) (hlim : Hid (l.length + 1 ≤ 140737488355328))
    (h : ∀ v' w', Bs w' B v' (l ++ [c]) → Below B w w' → wpList Tryz.prog ops Q rest (a.put o.dst v') w') : wpList Tryz.prog ops Q (o :: rest) a (w.alloc (.cells #[.int .u8 X] T)) := by
  obtain ⟨i0, hi, hz0, hz1, hz2⟩ := info_parts info_u8
  have hlim := hlim.out
  have hX := hX.out
  have hBelow : Below B w (w.alloc (.cells #[.int .u8 X] T)) := (Below.refl _ _).alloc hle _
  refine wpList_append_own _ hgd s x 22 ho B 5 i0 (.int .u8 0) 1 1 Tryz.underlying22 hi hz0 hz1 hz2 rfl (by decide) v l.length (Lib.byteCells l) hs (World.ownsRow.alloc hB _) ⟨w.heap.size, 0, none⟩ 1 1 [.int .u8 X] hx rfl ?_ ?_ ?_ ?_ ?_ ?_
  · intro j u hj
    cases j with
    | zero =>
      have hu : u = .int .u8 X := by simpa using hj.symm
      rw [hu, Lib.addr_add]
      exact (Lib.cell_of_heap (heap_alloc_new w (.cells #[.int .u8 X] T)) 0).trans rfl
    | succ j => simp at hj
  · intro u hu
    have : u = .int .u8 X := by simpa using hu
    subst this; rfl
  · unfold maxLen; omega
  · omega
  · simp; omega
  · intro v' w' hown hgr _
    refine h v' w' ?_ (hBelow.grown hgr (by simp; omega) (fun k hk => hB.own k hk))
    have e : Lib.byteCells l ++ [Value.int .u8 X] = Lib.byteCells (l ++ [c]) := by rw [hX]; simp [Lib.byteCells]
    rw [e] at hown
    unfold Bs
    rw [List.length_append]
    exact hown
/-- 'make([]byte, 0, n)'. -/
theorem wpList_mk0 {w : World} {ops : Array Oper} {rest : List Oper} {o : Oper} {a : Act} {Q : Exit → Act → World → Prop} (hgd : o.guard = none) (s x : Operand)
    (ho : o.op = Op.makeSlice 22 s x) (B : Nat) (n : Nat) (C : Int) (hs : a.eval s = .int .i64 0) (hx : a.eval x = .int .i64 C) (hC : Hid (C = n)) (hn : n ≤ 281474976710656) (hle : B ≤ w.heap.size)
    (h : ∀ v w', Bs w' B v [] → Below w.heap.size w w' → wpList Tryz.prog ops Q rest (a.put o.dst v) w') : wpList Tryz.prog ops Q (o :: rest) a w := by
  obtain ⟨i0, hi, hz0, hz1, hz2⟩ := info_parts info_u8
  refine wpList_make_own w hgd s x 22 ho B 5 i0 (.int .u8 0) 1 Tryz.underlying22 hi hz0 hz1 .i64 .i64 C n hs hx hC.out (by rw [hz2]; omega) (by unfold maxLen; omega) hle ?_
  intro w' hown hgr
  exact h _ w' hown ⟨hgr.os, hgr.tape, hgr.output, hgr.size, fun k hk => hgr.block k hk (by simp)⟩

/-- The scanner beside a byte slice of the call's own. -/
structure Ao (W0 : World) (L : Loc) (B : Nat) (w : World) (st : St) (v : Value) (l : List UInt8) : Prop where
  sc : Sc w L st none
  bs : Bs w B v l
  fb : Fb L.own B W0 w
  low : ∀ k ∈ L.all, k < B
  le : B ≤ w.heap.size
theorem Ao.scan {W0 w w' : World} {L : Loc} {B : Nat} {st st' : St} {v : Value} {l : List UInt8} (h : Ao W0 L B w st v l) (h' : Sc w' L st' none) (f : Fr L.own w w') : Ao W0 L B w' st' v l :=
  ⟨h', h.bs.fr f (fun k hk => h.low k (Loc.own_all k hk)), h.fb.trans (f.fb h.le), h.low, Nat.le_trans h.le f.size⟩
theorem Ao.wrote {W0 w w' : World} {L : Loc} {B : Nat} {st : St} {v v' : Value} {l l' : List UInt8} (h : Ao W0 L B w st v l) (h' : Bs w' B v' l') (f : Below B w w') : Ao W0 L B w' st v' l' :=
  ⟨h.sc.keep f.size (fun k hk => f.block k (h.low k hk)), h', h.fb.trans (fb_below f), h.low, Nat.le_trans h.le f.size⟩
theorem Ao.start {w w' : World} {L : Loc} {st : St} {lb : Option UInt8} {v : Value} {l : List UInt8} (h : Sc w L st lb) (h' : Bs w' w.heap.size v l) (f : Below w.heap.size w w') : Ao w L w.heap.size w' st v l :=
  ⟨h.weak.fr (Fr.of_below f), h', fb_below f, fun k hk => h.lt k hk, f.size⟩
theorem Ao.done {w w' : World} {L : Loc} {st : St} {v : Value} {l : List UInt8} (h : Ao w L w.heap.size w' st v l) : Fr L.own w w' := h.fb.fr
section
variable {W0 w : World} {L : Loc} {B : Nat} {st : St} {v : Value} {l : List UInt8}
theorem peek_ao (h : Ao W0 L B w st v l) : Calls Tryz.prog 16 #[.pointer (some ⟨L.S, 0, none⟩)] w
      fun e w' => e = .returned (.int .i64 (hd st.rest)) ∧ Ao W0 L B w' st v l :=
  (peek_any w L st none h.sc).mono fun _ _ ⟨he, hs, f⟩ => ⟨he, h.scan hs f⟩
theorem next_ao (h : Ao W0 L B w st v l) : Calls Tryz.prog 18 #[.pointer (some ⟨L.S, 0, none⟩)] w
      fun e w' => e = .returned (.int .i64 st.nextC) ∧ Ao W0 L B w' st.nextS v l :=
  (next_any w L st none h.sc).mono fun _ _ ⟨he, hs, f⟩ => ⟨he, h.scan hs f⟩
end
end Go.Proofs.YtgiklkapedlckaaGreatDoor
