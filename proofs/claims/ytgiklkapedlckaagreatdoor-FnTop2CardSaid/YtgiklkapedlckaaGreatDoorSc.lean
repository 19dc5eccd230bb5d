/- The scanner's state as plain data, the blocks of memory that hold it, and the frame of a call that writes those blocks alone. No program in sight. -/
import Derived.WalkKit
import Derived.Lib.BufferWrite
import Derived.Deep.Draws
namespace Go.Proofs.YtgiklkapedlckaaGreatDoor
open Go.RowKit

/-- Block b holds the cells cs, none of them frozen. -/
def Blk (w : World) (b : Nat) (cs : List Value) : Prop := ∃ T, w.heap[b]? = some (.cells cs.toArray T (0, 0))

theorem Blk.lt {w : World} {b : Nat} {cs : List Value} (h : Blk w b cs) : b < w.heap.size := by
  obtain ⟨T, h⟩ := h
  rcases Nat.lt_or_ge b w.heap.size with h' | h'
  · exact h'
  · simp [Array.getElem?_eq_none h'] at h
theorem Blk.cell {w : World} {b : Nat} {cs : List Value} (h : Blk w b cs) (j : Nat) (v : Value) (hj : cs[j]? = some v) : w.cell? ⟨b, j, none⟩ = some v := by
  obtain ⟨T, h⟩ := h
  rw [Lib.cell_of_heap h]; simpa using hj
theorem Blk.free {w : World} {b : Nat} {cs : List Value} (h : Blk w b cs) (j : Nat) : w.frozen? ⟨b, j, none⟩ = false := by
  obtain ⟨T, h⟩ := h
  exact Lib.frozen_of_heap h j
theorem Blk.of_block {w w' : World} {b : Nat} {cs : List Value} (h : Blk w b cs) (e : w'.heap[b]? = w.heap[b]?) : Blk w' b cs := by
  obtain ⟨T, h⟩ := h; exact ⟨T, e.trans h⟩
theorem Blk.set {w : World} {b : Nat} {cs : List Value} (h : Blk w b cs) (j : Nat) (v : Value) : Blk (w.setCell ⟨b, j, none⟩ v) b (cs.set j v) := by
  obtain ⟨T, h⟩ := h
  refine ⟨T, ?_⟩
  have hlt := lt_of_block h
  have h' : w.heap[b] = .cells cs.toArray T (0, 0) := by simpa [Array.getElem?_eq_getElem hlt] using h
  show (w.heap.modify b _)[b]? = _
  rw [Array.getElem?_eq_getElem (by simpa using hlt), Array.getElem_modify_self, h']
  simp
theorem Blk.other {w : World} {b : Nat} {cs : List Value} (h : Blk w b cs) {a : Addr} (hne : b ≠ a.block) (v : Value) : Blk (w.setCell a v) b cs :=
  h.of_block (Below.heap_setCell _ _ _ _ hne)
theorem Blk.drew {w : World} {b : Nat} {cs : List Value} (h : Blk w b cs) : Blk w.drew b cs := h
theorem Blk.drewN {w : World} {b : Nat} {cs : List Value} (h : Blk w b cs) (n : Nat) : Blk (w.drewN n) b cs := by
  obtain ⟨T, h⟩ := h; exact ⟨T, by simpa using h⟩
theorem Blk.alloc {w : World} {b : Nat} {cs : List Value} (h : Blk w b cs) (o : Obj) : Blk (w.alloc o) b cs :=
  h.of_block (Below.heap_alloc _ _ _ h.lt)
theorem Blk.setRow {w : World} {b : Nat} {cs : List Value} (h : Blk w b cs) (cs' : List Value) : Blk (w.setRow b cs'.toArray) b cs' := by
  obtain ⟨T, h⟩ := h; exact ⟨T, setRow_heap w b _ _ T _ h⟩
theorem Blk.setRow_other {w : World} {b g : Nat} {cs : List Value} (h : Blk w b cs) (cs' : Array Value) (hne : b ≠ g) : Blk (w.setRow g cs') b cs :=
  h.of_block (_root_.Go.setRow_other w g b cs' hne)
theorem Blk.new (w : World) (cs : Array Value) (T : TypeId) : Blk (w.alloc (.cells cs T)) w.heap.size cs.toList := ⟨T, by simpa using heap_alloc_new w (.cells cs T)⟩

/-- The call has written no block but those of 'own' and new ones; the streams are as they were. -/
structure Fr (own : List Nat) (w w' : World) : Prop where
  os : w'.os = w.os
  tape : w'.tape = w.tape
  output : w'.output = w.output
  size : w.heap.size ≤ w'.heap.size
  block : ∀ k, k < w.heap.size → k ∉ own → w'.heap[k]? = w.heap[k]?

theorem Fr.refl (own : List Nat) (w : World) : Fr own w w := ⟨rfl, rfl, rfl, Nat.le_refl _, fun _ _ _ => rfl⟩
theorem Fr.trans {own : List Nat} {a b c : World} (h : Fr own a b) (k : Fr own b c) : Fr own a c :=
  ⟨k.os.trans h.os, k.tape.trans h.tape, k.output.trans h.output, Nat.le_trans h.size k.size, fun i hi ho => (k.block i (Nat.lt_of_lt_of_le hi h.size) ho).trans (h.block i hi ho)⟩
theorem Fr.mono {own own' : List Nat} {w w' : World} (h : Fr own w w') (hs : ∀ k ∈ own, k ∈ own') : Fr own' w w' :=
  ⟨h.os, h.tape, h.output, h.size, fun k hk ho => h.block k hk (fun hm => ho (hs k hm))⟩
theorem Fr.drew {own : List Nat} {a w : World} (h : Fr own a w) : Fr own a w.drew := ⟨h.os, h.tape, h.output, h.size, h.block⟩
theorem Fr.drewN {own : List Nat} {a w : World} (h : Fr own a w) (n : Nat) : Fr own a (w.drewN n) :=
  h.trans ⟨rfl, rfl, rfl, Nat.le_refl _, fun _ _ _ => rfl⟩
theorem Fr.setCell {own : List Nat} {a w : World} (h : Fr own a w) {p : Addr} (hp : p.block ∈ own) (u : Value) : Fr own a (w.setCell p u) :=
  h.trans ⟨rfl, rfl, rfl, by simp [World.setCell], fun k _ ho => Below.heap_setCell _ _ _ _ (fun e => ho (e ▸ hp))⟩
theorem Fr.setRow {own : List Nat} {a w : World} (h : Fr own a w) {g : Nat} (hp : g ∈ own) (cs : Array Value) : Fr own a (w.setRow g cs) :=
  h.trans ⟨rfl, rfl, rfl, by simp [World.setRow], fun k _ ho => setRow_other w g k cs (fun e => ho (e ▸ hp))⟩
theorem Fr.alloc {own : List Nat} {a w : World} (h : Fr own a w) (o : Obj) : Fr own a (w.alloc o) :=
  h.trans ⟨rfl, rfl, rfl, by simp, fun k hk _ => Below.heap_alloc _ _ _ hk⟩
theorem Fr.blk {own : List Nat} {w w' : World} (h : Fr own w w') {b : Nat} {cs : List Value} (hb : Blk w b cs) (ho : b ∉ own) : Blk w' b cs :=
  hb.of_block (h.block b hb.lt ho)
/-- Where the written blocks lie from B on, all below B stands. -/
theorem Fr.below {own : List Nat} {w w' : World} (h : Fr own w w') {B : Nat} (hB : B ≤ w.heap.size) (ho : ∀ k ∈ own, B ≤ k) : Below B w w' :=
  ⟨h.os, h.tape, h.output, h.size, fun k hk => h.block k (Nat.lt_of_lt_of_le hk hB) (fun hm => by have := ho k hm; omega)⟩
theorem Fr.of_below {own : List Nat} {w w' : World} (h : Below w.heap.size w w') : Fr own w w' := ⟨h.os, h.tape, h.output, h.size, fun k hk _ => h.block k hk⟩

def u8v (c : UInt8) : Value := .int .u8 c.toNat
/-- Block b holds these bytes. -/
def Byt (w : World) (b : Nat) (l : List UInt8) : Prop := Blk w b (l.map u8v)
theorem Byt.other {w : World} {b : Nat} {l : List UInt8} (h : Byt w b l) {a : Addr} (hne : b ≠ a.block) (v : Value) : Byt (w.setCell a v) b l := Blk.other h hne v
theorem Byt.drewN {w : World} {b : Nat} {l : List UInt8} (h : Byt w b l) (n : Nat) : Byt (w.drewN n) b l := Blk.drewN h n
theorem Byt.drew {w : World} {b : Nat} {l : List UInt8} (h : Byt w b l) : Byt w.drew b l := Blk.drew h
theorem Byt.lt {w : World} {b : Nat} {l : List UInt8} (h : Byt w b l) : b < w.heap.size := Blk.lt h
theorem Byt.of_block {w w' : World} {b : Nat} {l : List UInt8} (h : Byt w b l) (e : w'.heap[b]? = w.heap[b]?) : Byt w' b l := Blk.of_block h e
theorem Byt.cell {w : World} {b : Nat} {l : List UInt8} (h : Byt w b l) (j : Nat) (c : UInt8) (hj : l[j]? = some c) : w.cell? ⟨b, j, none⟩ = some (.int .u8 c.toNat) :=
  Blk.cell h j _ (by simp [hj, u8v])
theorem Byt.free {w : World} {b : Nat} {l : List UInt8} (h : Byt w b l) (j : Nat) : w.frozen? ⟨b, j, none⟩ = false := Blk.free h j
theorem Byt.set {w : World} {b : Nat} {l : List UInt8} (h : Byt w b l) (j : Nat) (c : UInt8) : Byt (w.setCell ⟨b, j, none⟩ (.int .u8 c.toNat)) b (l.set j c) := by
  have := Blk.set h j (u8v c)
  unfold Byt
  rw [List.map_set]; exact this
theorem Fr.byt {own : List Nat} {w w' : World} (h : Fr own w w') {b : Nat} {l : List UInt8} (hb : Byt w b l) (ho : b ∉ own) : Byt w' b l := h.blk hb ho
theorem u8v_one (l : List UInt8) : ∀ v ∈ l.map u8v, v.oneCell' = true := by
  intro v hv
  obtain ⟨b, _, rfl⟩ := List.mem_map.1 hv
  rfl

theorem extract_end (s : ByteArray) (i : Nat) : (s.extract i s.size).data.toList = s.data.toList.drop i := by
  have hsz : s.size = s.data.toList.length := by rw [Array.length_toList]; rfl
  simp
  rw [hsz, List.take_of_length_le (by simp)]

/-- 'copy(dst, s)', s a string: as much of it as dst takes goes over to the head of dst. -/
theorem run_copy_str {P : Program} (w : World) (dT sT ty elem : TypeId) (g dLen dCap : Nat) (s : ByteArray) (bs : List UInt8) (l : List UInt8) (hl : l = s.data.toList)
    (hu : P.underlying dT = some (.slice elem)) (hs : (P.info? elem).map (·.size) = some 1) (hg : Blk w g (bs.map u8v)) (hd : bs.length = dLen) :
    (Builtin.copy_ #[dT, sT] ty #[.slice (some ⟨g, 0, none⟩) dLen dCap, .string s]).run P w =
      .ok (.int .i64 (min dLen l.length : Nat)) (w.setRow g ((l.take dLen ++ bs.drop (min dLen l.length)).map u8v).toArray) := by
  subst hl
  obtain ⟨t, hg⟩ := hg
  have hsz : s.size = s.data.toList.length := by rw [Array.length_toList]; rfl
  have hlen : ((s.data.toList.take dLen).map u8v).length = min dLen s.data.toList.length := by simp
  have hst := run_storeCells_at P g 0 t ((s.data.toList.take dLen).map u8v) 0 (bs.map u8v).toArray w hg (by rw [hlen]; simp; omega) (u8v_one _)
  have hmin : Nat.min s.size dLen = min dLen s.data.toList.length := by rw [hsz]; exact Nat.min_comm _ _
  have htk : List.take (min dLen s.data.toList.length) (List.map (fun b : UInt8 => Value.int IntKind.u8 (b.toNat : Int)) s.data.toList) = (s.data.toList.take dLen).map u8v := by
    rw [← List.map_take]
    have : List.take (min dLen s.data.toList.length) s.data.toList = s.data.toList.take dLen := by
      rcases Nat.le_total dLen s.data.toList.length with h | h
      · rw [Nat.min_eq_left h]
      · rw [Nat.min_eq_right h, List.take_of_length_le (Nat.le_refl _), List.take_of_length_le h]
    rw [this]; rfl
  rw [hlen] at hst
  simp only [Nat.add_zero, Nat.zero_add, List.take_zero, List.nil_append] at hst
  cases hq : P.info? elem with
  | none => simp [hq] at hs
  | some i =>
    simp [Builtin.copy_, run_underlying hu, Builtin.lenOf, Builtin.firstCells, sizeOf, typeInfo, hq, hmin]
    rw [← hsz] at htk hst
    rw [htk, hst]
    simp [Result.andThen, goInt, List.map_take]

/-- The same as a law of the walk; the world behind it by its blocks alone. -/
theorem wpList_copy_str {P : Program} {w : World} {ops : Array Oper} {rest : List Oper} {o : Oper} {a : Act} {Q : Exit → Act → World → Prop} (hgd : o.guard = none) (d s : Operand) (dT sT : TypeId)
    (ho : o.op = .call { callee := .builtin .copy, args := #[d, s], argTypes := #[dT, sT] }) (elem : TypeId) (hu : P.underlying dT = some (.slice elem)) (hsz : (P.info? elem).map (·.size) = some 1)
    (g dLen dCap : Nat) (t : ByteArray) (hd : a.eval d = .slice (some ⟨g, 0, none⟩) dLen dCap) (hs : a.eval s = .string t) (bs l : List UInt8) (n : Nat) (hl : Hid (l = t.data.toList)) (hn : Hid (n = min dLen l.length))
    (hg : Byt w g bs) (hlen : bs.length = dLen)
    (h : ∀ w', Byt w' g (l.take dLen ++ bs.drop n) → Fr [g] w w' → wpList P ops Q rest (a.put o.dst (.int .i64 n)) w') :
    wpList P ops Q (o :: rest) a w := by
  refine wpList_plain hgd fun K hK => ?_
  have hl := hl.out
  have hn := hn.out
  subst hn
  have hrun := run_copy_str (P := P) w dT sT o.type elem g dLen dCap t bs l hl hu hsz hg hlen
  have hb := hg.setRow ((l.take dLen ++ bs.drop (min dLen l.length)).map u8v)
  have hf : Fr [g] w (w.setRow g ((l.take dLen ++ bs.drop (min dLen l.length)).map u8v).toArray) := (Fr.refl _ _).setRow (by simp) _
  generalize w.setRow g ((l.take dLen ++ bs.drop (min dLen l.length)).map u8v).toArray = w1 at hrun hb hf
  unfold Oper.wp
  simp only [execOp, ho, resolve, invoke, builtin]
  simp [hd, hs, hrun, Result.andThen]
  exact hK _ _ (h _ hb hf)
end Go.Proofs.YtgiklkapedlckaaGreatDoor
