/- Small lemmas for the laws' walks. -/
import Derived.Test.YtgiklkapedlckaaGreatDoorNew
import Derived.Deep.QuietTactic
namespace Go.Proofs.YtgiklkapedlckaaGreatDoor
open Go.RowKit

/-- What is written in blocks that are new since a, is new since a. -/
theorem Fr.new {own : List Nat} {a b c : World} (h : Fr [] a b) (k : Fr own b c) (ho : ∀ j ∈ own, a.heap.size ≤ j) : Fr [] a c :=
  ⟨k.os.trans h.os, k.tape.trans h.tape, k.output.trans h.output, Nat.le_trans h.size k.size, fun i hi _ => (k.block i (Nat.lt_of_lt_of_le hi h.size) (fun hm => by have := ho i hm; omega)).trans (h.block i hi (by simp))⟩
theorem Loc.own_new {L : Loc} {n : Nat} (hS : n ≤ L.S) (hR : n ≤ L.R) (hD : n ≤ L.D) (hU : n ≤ L.U) : ∀ k ∈ L.own, n ≤ k := by
  intro k hk
  simp only [Loc.own, List.mem_cons, List.not_mem_nil, or_false] at hk
  omega
/-- A world that a call has left which writes the blocks of 'own' alone. -/
structure Nb (own : List Nat) (w : World) where
  v : World
  fr : Fr own w v
instance {own : List Nat} {w : World} : Inhabited (Nb own w) := ⟨⟨w, Fr.refl _ _⟩⟩
/-- A region that draws its order, whose callees may lay blocks: one walk in the order of the text. -/
theorem wp_region_nb {P : Program} {id : Nat} {Q : Exit → Act → World → Prop} {a : Act} {w : World} {l : List Oper} (own : List Nat) (hm : P.follows .mixedOrders = true) (hB : Region.lexB .any l.toArray = true)
    (h : wpQuiet P l.toArray (fun w' => ∃ p : Nb own w, w' = p.v) (fun a' => ∀ w', (∃ p : Nb own w, w' = p.v) → Q .normal a' w') l a) : (Code.region id l.toArray true).wp P Q a w :=
  wp_region_quiet (C := fun w' => ∃ p : Nb own w, w' = p.v) hm hB ⟨⟨w.drew, (Fr.refl _ _).drew⟩, rfl⟩ (by simpa using h)
/-- A callee's contract there. -/
theorem Calls.nb {P : Program} {f : FuncId} {args : Array Value} {own : List Nat} {w : World} {p : Nb own w} {v : Value}
    (h : Calls P f args p.v fun e w' => e = .returned v ∧ Fr own p.v w') : Calls P f args p.v fun e w' => e = .returned v ∧ ∃ q : Nb own w, w' = q.v :=
  h.mono fun _ w' ⟨he, hf⟩ => ⟨he, ⟨w', p.fr.trans hf⟩, rfl⟩
theorem Rd.lt {w : World} {L : Loc} {l : List UInt8} {lb : Option UInt8} (h : Rd w L l lb) : ∀ k ∈ [1, L.M, L.R, L.D, L.U], k < w.heap.size := by
  obtain ⟨r, wn, bs, x, y, l2, h1, h2⟩ := h
  intro k hk
  simp only [List.mem_cons, List.not_mem_nil, or_false] at hk
  rcases hk with rfl | rfl | rfl | rfl | rfl
  · exact h1.eof.2
  · exact h1.bU.ltM
  · exact h1.bR.lt
  · exact h1.bD.lt
  · exact h1.bU.lt
theorem Sc.lt {w : World} {L : Loc} {st : St} {lb : Option UInt8} (h : Sc w L st lb) : ∀ k ∈ [1, L.M, L.S, L.R, L.D, L.U], k < w.heap.size := by
  intro k hk
  by_cases e : k = L.S
  · subst e; exact h.bS.lt
  · exact h.rd.lt k (by simp at hk ⊢; omega)
/-- Behind a call that writes nothing old. -/
theorem Sc.fr {w w' : World} {L : Loc} {st : St} {lb : Option UInt8} (h : Sc w L st lb) (f : Fr [] w w') : Sc w' L st lb :=
  h.keep f.size (fun j hj => f.block j (h.lt j hj) (by simp))
theorem peek_cons (w : World) (L : Loc) (st : St) (lb : Option UInt8) (c : UInt8) (t : List UInt8) (h : Sc w L st lb) (hl : st.rest = c :: t) :
    Calls Tryz.prog 16 #[.pointer (some ⟨L.S, 0, none⟩)] w
      fun e w' => e = .returned (.int .i64 c.toNat) ∧ Sc w' L st none ∧ Fr L.own w w' := by
  obtain ⟨rest, line, col⟩ := st
  obtain rfl : rest = c :: t := hl
  exact peek_any w L _ lb h
theorem peek_nil (w : World) (L : Loc) (st : St) (lb : Option UInt8) (h : Sc w L st lb) (hl : st.rest = []) :
    Calls Tryz.prog 16 #[.pointer (some ⟨L.S, 0, none⟩)] w
      fun e w' => e = .returned (.int .i64 (-1)) ∧ Sc w' L st none ∧ Fr L.own w w' := by
  obtain ⟨rest, line, col⟩ := st
  obtain rfl : rest = [] := hl
  exact peek_any w L _ lb h
theorem next_eof (w : World) (L : Loc) (st : St) (lb : Option UInt8) (h : Sc w L st lb) (hl : st.rest = []) : Calls Tryz.prog 18 #[.pointer (some ⟨L.S, 0, none⟩)] w fun e w' => e = .returned (.int .i64 (-1)) ∧ Sc w' L ⟨[], -1, 0⟩ none ∧ Fr L.own w w' := by
  have h1 := next_any w L st lb h
  rw [St.nextC_eof hl, St.nextS_eof hl] at h1
  exact h1
/-- Next on a byte that is no break. -/
theorem next_else (w : World) (L : Loc) (st : St) (lb : Option UInt8) (c : UInt8) (t : List UInt8) (h : Sc w L st lb) (hl : st.rest = c :: t) (hc : ¬ ((c.toNat : Int) = 10 ∨ (c.toNat : Int) = 13)) :
    Calls Tryz.prog 18 #[.pointer (some ⟨L.S, 0, none⟩)] w
      fun e w' => e = .returned (.int .i64 c.toNat) ∧ Sc w' L ⟨t, st.line, st.col + 1⟩ none ∧ Fr L.own w w' := by
  obtain ⟨rest, line, col⟩ := st
  obtain rfl : rest = c :: t := hl
  have h1 := next_any w L _ lb h
  rw [St.nextC_else hc, St.nextS_else hc] at h1
  exact h1
/-- A string's k-th byte, and what is left from there. -/
theorem str_drop (s : ByteArray) (k : Nat) (h : k < s.size) : s.data.toList.drop k = s[k] :: s.data.toList.drop (k + 1) := by
  have hlen : s.data.toList.length = s.size := by rw [Array.length_toList]; rfl
  rw [List.drop_eq_getElem_cons (by omega)]
  rfl
theorem str_drop_end (s : ByteArray) (k : Nat) (h : ¬ k < s.size) : s.data.toList.drop k = [] := by
  have hlen : s.data.toList.length = s.size := by rw [Array.length_toList]; rfl
  exact List.drop_eq_nil_of_le (by omega)
end Go.Proofs.YtgiklkapedlckaaGreatDoor
