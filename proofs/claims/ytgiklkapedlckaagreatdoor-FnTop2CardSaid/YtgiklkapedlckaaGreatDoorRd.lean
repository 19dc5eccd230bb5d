/- A bufio.Reader over a bytes.Reader, held in memory, as what is left to read; the scanner above it. -/
import Derived.Test.YtgiklkapedlckaaGreatDoorSc
import Derived.Test.YtgiklkapedlckaaGreatDoorRows
import Derived.Test.YtgiklkapedlckaaGreatDoorOpen
namespace Go.Proofs.YtgiklkapedlckaaGreatDoor
open Go.RowKit

/-- Where the scanner lies: its own block S, its bufio.Reader R, that one's array D, the bytes.Reader U, the text's memory M; a: where io.EOF points; src: the source's name. -/
structure Loc where
  S : Nat
  R : Nat
  D : Nat
  U : Nat
  M : Nat
  a : Addr
  src : ByteArray

/-- The blocks that reading may write. -/
def Loc.own (L : Loc) : List Nat := [L.S, L.R, L.D, L.U]

structure Loc.Ok (L : Loc) : Prop where
  sr : L.S ≠ L.R
  sd : L.S ≠ L.D
  su : L.S ≠ L.U
  rd : L.R ≠ L.D
  ru : L.R ≠ L.U
  du : L.D ≠ L.U
  gs : L.S ≠ 1
  gr : L.R ≠ 1
  gd : L.D ≠ 1
  gu : L.U ≠ 1
  sm : L.S ≠ L.M
  rm : L.R ≠ L.M
  dm : L.D ≠ L.M
  um : L.U ≠ L.M

/-- The variable io.EOF. -/
def eofV (a : Addr) : Value := .iface 135 (.pointer (some a))
def HasEof (w : World) (a : Addr) : Prop := w.cell? ⟨1, 0, none⟩ = some (eofV a) ∧ 1 < w.heap.size
theorem HasEof.fr {w w' : World} {a : Addr} {own : List Nat} (h : HasEof w a) (f : Fr own w w') (ho : 1 ∉ own) : HasEof w' a :=
  ⟨(World.cell?_of_block (w := w) (f.block _ h.2 ho)).trans h.1, Nat.lt_of_lt_of_le h.2 f.size⟩

/-- The slice v reads as the bytes l, which lie in block M. -/
def Sm (w : World) (M : Nat) (v : Value) (l : List UInt8) : Prop := M < w.heap.size ∧ ∃ a c, v = .slice a l.length c ∧ l.length ≤ c ∧
  (0 < l.length → ∃ ad, a = some ad ∧ ad.block = M ∧ ∀ i (h : i < l.length), w.cell? (ad.add i) = some (.int .u8 l[i].toNat))
theorem Sm.of_block {w w' : World} {M : Nat} {v : Value} {l : List UInt8} (h : Sm w M v l) (e : w'.heap[M]? = w.heap[M]?) (hs : w.heap.size ≤ w'.heap.size) : Sm w' M v l := by
  obtain ⟨h0, a, c, h1, h2, h3⟩ := h
  refine ⟨Nat.lt_of_lt_of_le h0 hs, a, c, h1, h2, fun hp => ?_⟩
  obtain ⟨ad, h4, h5, h6⟩ := h3 hp
  exact ⟨ad, h4, h5, fun i hi => (World.cell?_of_block (w := w) (a := ad.add i) (by rw [block_add', h5]; exact e)).trans (h6 i hi)⟩
/-- The bytes.Reader in block U: what is left of its text. -/
def Src (w : World) (U M : Nat) (l : List UInt8) : Prop :=
  ∃ (v : Value) (all : List UInt8) (i : Nat) (pr : Int), Blk w U [v, .int .i64 i, .int .i64 pr] ∧ Sm w M v all ∧ i ≤ all.length ∧ all.length ≤ 1099511627776 ∧ l = all.drop i

/-- The bufio.Reader: its cells, err being what the last read left. -/
def rdCells (L : Loc) (r wn : Nat) (err : Value) (lastB lastR : Int) : List Value :=
  [.slice (some ⟨L.D, 0, none⟩) 4096 4096, .iface 33 (.pointer (some ⟨L.U, 0, none⟩)), .int .i64 r, .int .i64 wn, err, .int .i64 lastB, .int .i64 lastR]

structure RdAt (w : World) (L : Loc) (r wn : Nat) (bs : List UInt8) (err : Value) (lastB lastR : Int) (l2 : List UInt8) : Prop where
  bR : Blk w L.R (rdCells L r wn err lastB lastR)
  bD : Byt w L.D bs
  lD : bs.length = 4096
  bU : Src w L.U L.M l2
  eof : HasEof w L.a
  ok : L.Ok

/-- l: what is left to read; lb: the byte that may be put back. -/
def Rd (w : World) (L : Loc) (l : List UInt8) (lb : Option UInt8) : Prop :=
  ∃ r wn bs lastB lastR l2, RdAt w L r wn bs .nilIface lastB lastR l2 ∧ r ≤ wn ∧ wn ≤ 4096 ∧ l = (bs.take wn).drop r ++ l2 ∧ ∀ c, lb = some c → lastB = (c.toNat : Int) ∧ 0 < r ∧ bs[r - 1]? = some c

/-- What keeps the blocks keeps the reader. -/
theorem Src.of_block {w w' : World} {U M : Nat} {l : List UInt8} (h : Src w U M l) (e : w'.heap[U]? = w.heap[U]?) (e2 : w'.heap[M]? = w.heap[M]?) (hs : w.heap.size ≤ w'.heap.size) : Src w' U M l := by
  obtain ⟨v, all, i, pr, h1, h2, h3⟩ := h
  exact ⟨v, all, i, pr, h1.of_block e, h2.of_block e2 hs, h3⟩
theorem Src.lt {w : World} {U M : Nat} {l : List UInt8} (h : Src w U M l) : U < w.heap.size := by
  obtain ⟨v, all, i, pr, h1, h2⟩ := h
  exact h1.lt
theorem Src.ltM {w : World} {U M : Nat} {l : List UInt8} (h : Src w U M l) : M < w.heap.size := by
  obtain ⟨v, all, i, pr, h1, h2, _⟩ := h
  exact h2.1
theorem RdAt.keep {w w' : World} {L : Loc} {r wn : Nat} {bs : List UInt8} {err : Value} {lastB lastR : Int} {l2 : List UInt8} (h : RdAt w L r wn bs err lastB lastR l2)
    (hs : w.heap.size ≤ w'.heap.size) (hb : ∀ k ∈ [1, L.M, L.R, L.D, L.U], w'.heap[k]? = w.heap[k]?) : RdAt w' L r wn bs err lastB lastR l2 :=
  ⟨h.bR.of_block (hb _ (by simp)), h.bD.of_block (hb _ (by simp)), h.lD, h.bU.of_block (hb _ (by simp)) (hb _ (by simp)) hs,
    ⟨(World.cell?_of_block (w := w) (hb _ (by simp))).trans h.eof.1, Nat.lt_of_lt_of_le h.eof.2 hs⟩, h.ok⟩
theorem Rd.keep {w w' : World} {L : Loc} {l : List UInt8} {lb : Option UInt8} (h : Rd w L l lb)
    (hs : w.heap.size ≤ w'.heap.size) (hb : ∀ k ∈ [1, L.M, L.R, L.D, L.U], w'.heap[k]? = w.heap[k]?) : Rd w' L l lb := by
  obtain ⟨r, wn, bs, x, y, l2, h1, h2⟩ := h
  exact ⟨r, wn, bs, x, y, l2, h1.keep hs hb, h2⟩
theorem Rd.weak {w : World} {L : Loc} {l : List UInt8} {lb : Option UInt8} (h : Rd w L l lb) : Rd w L l none := by
  obtain ⟨r, wn, bs, x, y, l2, h1, h2, h3, h4, _⟩ := h
  exact ⟨r, wn, bs, x, y, l2, h1, h2, h3, h4, fun c hc => by cases hc⟩
theorem Rd.ok {w : World} {L : Loc} {l : List UInt8} {lb : Option UInt8} (h : Rd w L l lb) : L.Ok := by
  obtain ⟨r, wn, bs, x, y, l2, h1, h2, _⟩ := h
  exact h1.ok

section
variable {w : World} {L : Loc} {r wn : Nat} {bs : List UInt8} {err : Value} {lastB lastR : Int} {l2 : List UInt8}
/-- What a walk reads and may write. -/
theorem RdAt.facts (h : RdAt w L r wn bs err lastB lastR l2) :
    w.cell? ⟨L.R, 0, none⟩ = some (.slice (some ⟨L.D, 0, none⟩) 4096 4096) ∧ w.cell? ⟨L.R, 1, none⟩ = some (.iface 33 (.pointer (some ⟨L.U, 0, none⟩))) ∧
    w.cell? ⟨L.R, 2, none⟩ = some (.int .i64 r) ∧ w.cell? ⟨L.R, 3, none⟩ = some (.int .i64 wn) ∧ w.cell? ⟨L.R, 4, none⟩ = some err ∧ w.cell? ⟨L.R, 5, none⟩ = some (.int .i64 lastB) ∧ w.cell? ⟨L.R, 6, none⟩ = some (.int .i64 lastR) ∧
    w.frozen? ⟨L.R, 2, none⟩ = false ∧ w.frozen? ⟨L.R, 3, none⟩ = false ∧ w.frozen? ⟨L.R, 4, none⟩ = false ∧ w.frozen? ⟨L.R, 5, none⟩ = false ∧ w.frozen? ⟨L.R, 6, none⟩ = false := by
  have b := h.bR
  unfold rdCells at b
  exact ⟨b.cell 0 _ rfl, b.cell 1 _ rfl, b.cell 2 _ rfl, b.cell 3 _ rfl, b.cell 4 _ rfl, b.cell 5 _ rfl, b.cell 6 _ rfl, b.free 2, b.free 3, b.free 4, b.free 5, b.free 6⟩
theorem RdAt.drewN (h : RdAt w L r wn bs err lastB lastR l2) (n : Nat) : RdAt (w.drewN n) L r wn bs err lastB lastR l2 := h.keep (Nat.le_refl _) (fun _ _ => rfl)
theorem RdAt.drew (h : RdAt w L r wn bs err lastB lastR l2) : RdAt w.drew L r wn bs err lastB lastR l2 := h.keep (Nat.le_refl _) (fun _ _ => rfl)
theorem HasEof.setCell {a : Addr} (h : HasEof w a) {p : Addr} (hp : p.block ≠ 1) (v : Value) : HasEof (w.setCell p v) a :=
  h.fr (own := [p.block]) ((Fr.refl _ _).setCell (by simp) v) (by simpa using Ne.symm hp)
/-- A store into the reader's own block, by its place. -/
theorem RdAt.setR (h : RdAt w L r wn bs err lastB lastR l2) (j : Nat) (v : Value) {r' wn' : Nat} {err' : Value} {lastB' lastR' : Int} (e : (rdCells L r wn err lastB lastR).set j v = rdCells L r' wn' err' lastB' lastR') :
    RdAt (w.setCell ⟨L.R, j, none⟩ v) L r' wn' bs err' lastB' lastR' l2 :=
  ⟨e ▸ h.bR.set j v, h.bD.other (by exact h.ok.rd.symm) v, h.lD, h.bU.of_block (Below.heap_setCell _ _ _ _ (by exact h.ok.ru.symm)) (Below.heap_setCell _ _ _ _ (by exact h.ok.rm.symm)) (by simp [World.setCell]), h.eof.setCell (by exact h.ok.gr) v, h.ok⟩
theorem RdAt.set_r (h : RdAt w L r wn bs err lastB lastR l2) (r' : Nat) : RdAt (w.setCell ⟨L.R, 2, none⟩ (.int .i64 r')) L r' wn bs err lastB lastR l2 := h.setR 2 _ rfl
theorem RdAt.set_wn (h : RdAt w L r wn bs err lastB lastR l2) (wn' : Nat) : RdAt (w.setCell ⟨L.R, 3, none⟩ (.int .i64 wn')) L r wn' bs err lastB lastR l2 := h.setR 3 _ rfl
theorem RdAt.set_err (h : RdAt w L r wn bs err lastB lastR l2) (err' : Value) : RdAt (w.setCell ⟨L.R, 4, none⟩ err') L r wn bs err' lastB lastR l2 := h.setR 4 _ rfl
theorem RdAt.set_lastB (h : RdAt w L r wn bs err lastB lastR l2) (x : Int) : RdAt (w.setCell ⟨L.R, 5, none⟩ (.int .i64 x)) L r wn bs err x lastR l2 := h.setR 5 _ rfl
theorem RdAt.set_lastR (h : RdAt w L r wn bs err lastB lastR l2) (x : Int) : RdAt (w.setCell ⟨L.R, 6, none⟩ (.int .i64 x)) L r wn bs err lastB x l2 := h.setR 6 _ rfl
/-- A store into the array. -/
theorem RdAt.setD (h : RdAt w L r wn bs err lastB lastR l2) (j : Nat) (c : UInt8) : RdAt (w.setCell ⟨L.D, j, none⟩ (.int .u8 c.toNat)) L r wn (bs.set j c) err lastB lastR l2 :=
  ⟨h.bR.other (by exact h.ok.rd) _, h.bD.set j c, by simpa using h.lD, h.bU.of_block (Below.heap_setCell _ _ _ _ (by exact h.ok.du.symm)) (Below.heap_setCell _ _ _ _ (by exact h.ok.dm.symm)) (by simp [World.setCell]), h.eof.setCell (by exact h.ok.gd) _, h.ok⟩
/-- What a Read below leaves. -/
theorem RdAt.read (h : RdAt w L r wn bs err lastB lastR l2) {w' : World} {bs' l2' : List UInt8} (hD : Byt w' L.D bs') (hl : bs'.length = 4096) (hU : Src w' L.U L.M l2') (f : Fr [L.D, L.U] w w') : RdAt w' L r wn bs' err lastB lastR l2' :=
  ⟨f.blk h.bR (by simp [h.ok.rd, h.ok.ru]), hD, hl, hU, h.eof.fr f (by simp [h.ok.gd.symm, h.ok.gu.symm]), h.ok⟩
end
end Go.Proofs.YtgiklkapedlckaaGreatDoor
