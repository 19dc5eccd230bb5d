/- A bytes.Buffer of the call's own beside the scanner: what stands of each behind the other's calls. -/
import Derived.Test.YtgiklkapedlckaaGreatDoorUse
import Derived.Test.YtgiklkapedlckaaGreatDoorLex
import Derived.Lib.Buffer
import Derived.Lib.BufferKept
namespace Go.Proofs.YtgiklkapedlckaaGreatDoor
open Go.RowKit

/-- Blocks below B that are not of 'own' stand. -/
structure Fb (own : List Nat) (B : Nat) (w w' : World) : Prop where
  os : w'.os = w.os
  tape : w'.tape = w.tape
  output : w'.output = w.output
  size : w.heap.size ≤ w'.heap.size
  block : ∀ k, k < B → k ∉ own → w'.heap[k]? = w.heap[k]?
theorem Fb.refl (own : List Nat) (B : Nat) (w : World) : Fb own B w w := ⟨rfl, rfl, rfl, Nat.le_refl _, fun _ _ _ => rfl⟩
theorem Fb.trans {own : List Nat} {B : Nat} {a b c : World} (h : Fb own B a b) (k : Fb own B b c) : Fb own B a c :=
  ⟨k.os.trans h.os, k.tape.trans h.tape, k.output.trans h.output, Nat.le_trans h.size k.size, fun i hi ho => (k.block i hi ho).trans (h.block i hi ho)⟩
theorem Fr.fb {own : List Nat} {w w' : World} (h : Fr own w w') {B : Nat} (hB : B ≤ w.heap.size) : Fb own B w w' :=
  ⟨h.os, h.tape, h.output, h.size, fun k hk ho => h.block k (Nat.lt_of_lt_of_le hk hB) ho⟩
theorem fb_below {own : List Nat} {B : Nat} {w w' : World} (h : Below B w w') : Fb own B w w' := ⟨h.os, h.tape, h.output, h.size, fun k hk _ => h.block k hk⟩
theorem Fb.fr {own : List Nat} {w w' : World} (h : Fb own w.heap.size w w') : Fr own w w' := ⟨h.os, h.tape, h.output, h.size, h.block⟩
theorem Fb.drewN {own : List Nat} {B : Nat} {a w : World} (h : Fb own B a w) (n : Nat) : Fb own B a (w.drewN n) :=
  h.trans ⟨rfl, rfl, rfl, Nat.le_refl _, fun _ _ _ => rfl⟩

/-- Block b is a bytes.Buffer of the call's own (from B on) that holds l. -/
def Buf (w : World) (B b : Nat) (l : List UInt8) : Prop := Lib.IsBuffer 61 5 B b (Lib.byteCells l) w
theorem Buf.lt {w : World} {B b : Nat} {l : List UInt8} (h : Buf w B b l) : b < w.heap.size := Lib.IsBuffer.lt h
theorem Buf.le {w : World} {B b : Nat} {l : List UInt8} (h : Buf w B b l) : B ≤ w.heap.size := Nat.le_of_lt (Nat.lt_of_le_of_lt h.1 h.lt)
theorem Buf.fr {w w' : World} {B b : Nat} {l : List UInt8} (h : Buf w B b l) {own : List Nat} (f : Fr own w w') (ho : ∀ k ∈ own, k < B) : Buf w' B b l := by
  have hlt := h.lt
  obtain ⟨hB, v, lr, hb, hown, hne⟩ := h
  refine ⟨hB, v, lr, (f.block b hlt (fun hm => by have := ho b hm; omega)).trans hb, ⟨hown.1, ?_⟩, hne⟩
  rcases hown.2 with h0 | ⟨g, cap, cur, h1, h2, h3, h4⟩
  · exact Or.inl h0
  · have hg : g < w.heap.size := by
      rcases Nat.lt_or_ge g w.heap.size with h' | h'
      · exact h'
      · simp [Array.getElem?_eq_none h'] at h3
    exact Or.inr ⟨g, cap, cur, h1, h2, (f.block g hg (fun hm => by have := ho g hm; omega)).trans h3, h4⟩
theorem Buf.fresh (w : World) : Buf (w.alloc (.cells #[.slice none 0 0, .int .i64 0, .int .i8 0] 61)) w.heap.size w.heap.size [] := Lib.fresh_isBuffer _ _ w

/-- The blocks that the scanner needs. -/
def Loc.all (L : Loc) : List Nat := [1, L.M, L.S, L.R, L.D, L.U]
theorem Loc.own_all {L : Loc} : ∀ k ∈ L.own, k ∈ L.all := by
  intro k hk
  simp only [Loc.own, Loc.all, List.mem_cons, List.not_mem_nil, or_false] at hk ⊢
  exact Or.inr (Or.inr hk)

/-- The scanner beside a buffer; W0: a world gone by, from which all below B but the scanner's own blocks stands. -/
structure At (W0 : World) (L : Loc) (B b : Nat) (w : World) (st : St) (l : List UInt8) : Prop where
  sc : Sc w L st none
  buf : Buf w B b l
  fb : Fb L.own B W0 w
  low : ∀ k ∈ L.all, k < B

theorem At.le {W0 w : World} {L : Loc} {B b : Nat} {st : St} {l : List UInt8} (h : At W0 L B b w st l) : B ≤ w.heap.size := h.buf.le
/-- Behind a call of the scanner's. -/
theorem At.scan {W0 w w' : World} {L : Loc} {B b : Nat} {st st' : St} {l : List UInt8} (h : At W0 L B b w st l) (h' : Sc w' L st' none) (f : Fr L.own w w') : At W0 L B b w' st' l :=
  ⟨h', h.buf.fr f (fun k hk => h.low k (Loc.own_all k hk)), h.fb.trans (f.fb h.le), h.low⟩
/-- Behind a call of the buffer's. -/
theorem At.wrote {W0 w w' : World} {L : Loc} {B b : Nat} {st : St} {l l' : List UInt8} (h : At W0 L B b w st l) (h' : Buf w' B b l') (f : Below B w w') : At W0 L B b w' st l' :=
  ⟨h.sc.keep f.size (fun k hk => f.block k (h.low k hk)), h', h.fb.trans (fb_below f), h.low⟩
/-- Behind a call that writes nothing old. -/
theorem At.fr {W0 w w' : World} {L : Loc} {B b : Nat} {st : St} {l : List UInt8} (h : At W0 L B b w st l) (f : Fr [] w w') : At W0 L B b w' st l :=
  ⟨h.sc.fr f, h.buf.fr f (by simp), h.fb.trans ((f.mono (by simp)).fb h.le), h.low⟩
theorem At.drewN {W0 w : World} {L : Loc} {B b : Nat} {st : St} {l : List UInt8} (h : At W0 L B b w st l) (n : Nat) : At W0 L B b (w.drewN n) st l := h.fr ((Fr.refl _ _).drewN n)
/-- A buffer laid beside the scanner. -/
theorem At.start {w : World} {L : Loc} {st : St} {lb : Option UInt8} (h : Sc w L st lb) : At w L w.heap.size w.heap.size (w.alloc (.cells #[.slice none 0 0, .int .i64 0, .int .i8 0] 61)) st [] :=
  ⟨h.weak.fr ((Fr.refl _ _).alloc _), Buf.fresh w, ((Fr.refl _ w).alloc _).fb (Nat.le_refl _), fun k hk => h.lt k hk⟩
/-- At the end of the call that laid the buffer. -/
theorem At.done {w w' : World} {L : Loc} {b : Nat} {st : St} {l : List UInt8} (h : At w L w.heap.size b w' st l) : Fr L.own w w' := h.fb.fr

section
variable {W0 w : World} {L : Loc} {B b : Nat} {st : St} {l : List UInt8}
theorem peek_at (h : At W0 L B b w st l) : Calls Tryz.prog 16 #[.pointer (some ⟨L.S, 0, none⟩)] w
      fun e w' => e = .returned (.int .i64 (hd st.rest)) ∧ At W0 L B b w' st l :=
  (peek_any w L st none h.sc).mono fun _ _ ⟨he, hs, f⟩ => ⟨he, h.scan hs f⟩
theorem next_at (h : At W0 L B b w st l) : Calls Tryz.prog 18 #[.pointer (some ⟨L.S, 0, none⟩)] w
      fun e w' => e = .returned (.int .i64 st.nextC) ∧ At W0 L B b w' st.nextS l :=
  (next_any w L st none h.sc).mono fun _ _ ⟨he, hs, f⟩ => ⟨he, h.scan hs f⟩
end
end Go.Proofs.YtgiklkapedlckaaGreatDoor
