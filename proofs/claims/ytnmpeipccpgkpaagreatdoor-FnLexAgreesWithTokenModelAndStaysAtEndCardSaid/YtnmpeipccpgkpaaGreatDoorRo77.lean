/- The reference's reader beside a byte slice of the call's own. -/
import Derived.Test.YtnmpeipccpgkpaaGreatDoorRf77
import Derived.Test.YtnmpeipccpgkpaaGreatDoorBs2
namespace Go.Proofs.YtnmpeipccpgkpaaGreatDoor
open Go.RowKit

structure Ro (W0 : World) (R M : Nat) (sv : Value) (all : List UInt8) (B : Nat) (w : World) (st : St) (v : Value) (l : List UInt8) : Prop where
  rf : Rf w R M sv all st
  bs : Bs w B v l
  fb : Fb [R] B W0 w
  lr : R < B
  lm : M < B
  le : B ≤ w.heap.size
section
variable {W0 w : World} {R M : Nat} {sv : Value} {all : List UInt8} {B : Nat} {st : St} {v : Value} {l : List UInt8}
theorem Ro.scan {w' : World} {st' : St} (h : Ro W0 R M sv all B w st v l) (h' : Rf w' R M sv all st') (f : Fr [R] w w') : Ro W0 R M sv all B w' st' v l :=
  ⟨h', h.bs.fr f (fun k hk => by rw [List.mem_singleton.1 hk]; exact h.lr), h.fb.trans (f.fb h.le), h.lr, h.lm, Nat.le_trans h.le f.size⟩
theorem Rf.bl {w' : World} (h : Rf w R M sv all st) (f : Below B w w') (hR : R < B) (hM : M < B) : Rf w' R M sv all st := by
  obtain ⟨i, h1, h2, h3⟩ := h
  exact ⟨i, h1.of_block (f.block _ hR), h2.of_block (f.block _ hM) f.size, h3⟩
theorem Ro.wrote {w' : World} {v' : Value} {l' : List UInt8} (h : Ro W0 R M sv all B w st v l) (h' : Bs w' B v' l') (f : Below B w w') : Ro W0 R M sv all B w' st v' l' :=
  ⟨h.rf.bl f h.lr h.lm, h', h.fb.trans (fb_below f), h.lr, h.lm, Nat.le_trans h.le f.size⟩
theorem Ro.start {w' : World} (h : Rf w R M sv all st) (h' : Bs w' w.heap.size v l) (f : Below w.heap.size w w') : Ro w R M sv all w.heap.size w' st v l :=
  ⟨h.bl f h.lt.1 h.lt.2, h', fb_below f, h.lt.1, h.lt.2, f.size⟩
theorem Ro.done {w' : World} (h : Ro w R M sv all w.heap.size w' st v l) : Fr [R] w w' := h.fb.fr
theorem Ro.lim (h : Ro W0 R M sv all B w st v l) : st.rest.length ≤ 1099511627776 := Nat.le_trans h.rf.bd.2.1 h.rf.bd.2.2
theorem peek_ro (h : Ro W0 R M sv all B w st v l) : Calls Tryz.prog 16 #[.pointer (some ⟨R, 0, none⟩)] w fun e w' => e = .returned (.int .i64 (hd st.rest)) ∧ Ro W0 R M sv all B w' st v l :=
  (peek_rf w R M sv all st h.rf).mono fun _ _ ⟨he, f⟩ => ⟨he, h.scan (h.rf.fr f (by simp) (by simp)) (f.mono (by simp))⟩
theorem next_ro (h : Ro W0 R M sv all B w st v l) : Calls Tryz.prog 15 #[.pointer (some ⟨R, 0, none⟩)] w fun e w' => e = .returned (.int .i64 st.nextC) ∧ Ro W0 R M sv all B w' st.nextS v l :=
  (next_rf w R M sv all st h.rf).mono fun _ _ ⟨he, hs, f⟩ => ⟨he, h.scan hs f⟩
end
end Go.Proofs.YtnmpeipccpgkpaaGreatDoor
