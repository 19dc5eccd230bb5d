/- Two scanners side by side: a call on one leaves the other. -/
import Derived.Test.YthlnkoelijlfeaaDoorWs39
namespace Go.Proofs.YthlnkoelijlfeaaDoor
open Go.RowKit

/-- What is written in M's blocks leaves L's alone, and the other way round. -/
structure Ap (L M : Loc) : Prop where
  lm : ∀ k ∈ M.own, ∀ j ∈ [0, L.S, L.R, L.D, L.U], k ≠ j
  ml : ∀ k ∈ L.own, ∀ j ∈ [0, M.S, M.R, M.D, M.U], k ≠ j
theorem Ap.symm {L M : Loc} (h : Ap L M) : Ap M L := ⟨h.ml, h.lm⟩
theorem Ap.mk' {L M : Loc} {lo mid : Nat} (h0 : 0 < lo) (h1 : ∀ k ∈ L.own, lo ≤ k) (h2 : ∀ k ∈ L.own, k < mid) (h3 : ∀ k ∈ M.own, mid ≤ k) : Ap L M := by
  simp only [Loc.own, List.mem_cons, List.not_mem_nil, or_false, forall_eq_or_imp, forall_eq] at h1 h2 h3
  constructor
  · intro k hk j hj
    simp only [Loc.own, List.mem_cons, List.not_mem_nil, or_false] at hk hj
    omega
  · intro k hk j hj
    simp only [Loc.own, List.mem_cons, List.not_mem_nil, or_false] at hk hj
    omega
theorem Sc.apart {w w' : World} {L M : Loc} {st : St} {lb : Option UInt8} (h : Sc w L st lb) (f : Fr M.own w w') (hM : ∀ k ∈ M.own, ∀ j ∈ [0, L.S, L.R, L.D, L.U], k ≠ j) : Sc w' L st lb :=
  h.keep f.size (fun j hj => f.block j (h.lt j hj) (fun hm => hM j hm j hj rfl))
theorem next_two (w : World) (L M : Loc) (st sm : St) (lb lm : Option UInt8) (h : Sc w L st lb) (k : Sc w M sm lm) (ap : Ap L M) :
    Calls Tryd.prog 20 #[.pointer (some ⟨L.S, 0, none⟩)] w
      fun e w' => e = .returned (.int .i64 st.nextC) ∧ Sc w' L st.nextS none ∧ Sc w' M sm lm ∧ Fr L.own w w' :=
  (next_any w L st lb h).mono fun _ _ ⟨h1, h2, h3⟩ => ⟨h1, h2, k.apart h3 ap.ml, h3⟩
theorem peek_two (w : World) (L M : Loc) (st sm : St) (lb lm : Option UInt8) (h : Sc w L st lb) (k : Sc w M sm lm) (ap : Ap L M) :
    Calls Tryd.prog 17 #[.pointer (some ⟨L.S, 0, none⟩)] w
      fun e w' => e = .returned (.int .i64 (hd st.rest)) ∧ Sc w' L st none ∧ Sc w' M sm lm ∧ Fr L.own w w' :=
  (peek_any w L st lb h).mono fun _ _ ⟨h1, h2, h3⟩ => ⟨h1, h2, k.apart h3 ap.ml, h3⟩
theorem zskip_two (w : World) (L M : Loc) (st sm : St) (lb lm : Option UInt8) (m : Int) (h : Sc w L st lb) (k : Sc w M sm lm) (ap : Ap L M) :
    Calls Tryd.prog 16 #[.pointer (some ⟨L.S, 0, none⟩), .int .i64 m] w
      fun e w' => e = .returned (.int .i64 (st.skip m).1) ∧ Sc w' L (st.skip m).2 none ∧ Sc w' M sm lm ∧ Fr L.own w w' :=
  (zskip w L st lb m h).mono fun _ _ ⟨h1, h2, h3⟩ => ⟨h1, h2, k.apart h3 ap.ml, h3⟩
end Go.Proofs.YthlnkoelijlfeaaDoor
