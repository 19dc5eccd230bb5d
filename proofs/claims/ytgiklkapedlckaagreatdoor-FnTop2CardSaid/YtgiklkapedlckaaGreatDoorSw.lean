/- Scan's code in parts; what stands at its labels. -/
import Derived.Test.YtgiklkapedlckaaGreatDoorTk
import Derived.Test.YtgiklkapedlckaaGreatDoorScM
import Derived.Test.YtgiklkapedlckaaGreatDoorJumps
namespace Go.Proofs.YtgiklkapedlckaaGreatDoor
open Go.RowKit

def cInner : Code → Code
  | .seq _ (.scope c) => c
  | c => c
def cSnd : Code → Code
  | .seq _ c => c
  | c => c
def cFst : Code → Code
  | .seq c _ => c
  | c => c
/-- Inside the scope; behind the first label; the switch; behind the second label. -/
noncomputable def scanX : Code := cInner (Tryz.f6.body.getD .skip)
noncomputable def scanTop : Code := cSnd scanX
noncomputable def scanAt : Code := cSnd (cSnd (cSnd (cSnd (cSnd (cSnd (cSnd (cSnd (cSnd scanTop))))))))
noncomputable def scanSw : Code := cFst scanAt
noncomputable def scanFin : Code := cSnd scanAt
noncomputable def scanEnd : Code := cSnd scanFin

theorem kwIn_bound (s : List UInt8) : ∀ (tab : List (List UInt8 × Int)), (∀ p ∈ tab, -1 ≤ p.2 ∧ p.2 < 57402) → -1 ≤ kwIn tab s ∧ kwIn tab s < 57402
  | [], _ => by unfold kwIn; decide
  | (k, v) :: r, h => by
    unfold kwIn
    split
    · exact h (k, v) (by simp)
    · exact kwIn_bound s r (fun p hp => h p (by simp [hp]))
theorem kw_bound (s : List UInt8) : -1 ≤ kw s ∧ kw s < 57402 := kwIn_bound s kwTab (by decide)

/-- What stands at the second label: the error, the token; r: what the scan has found. -/
def Fin (W0 : World) (L : Loc) (lx B b tb rb : Nat) (ls : List Value) (line col : Int) (r : Bool × Int × List UInt8 × St) (a : Act) (w : World) : Prop :=
  ∃ (u2 u3 er : Value) (tl : List Value) (l : List UInt8) (typ : Int) (str : ByteArray), a = ⟨(Value.pointer (some ⟨L.S, 0, none⟩) :: Value.pointer (some ⟨lx, 0, none⟩) :: u2 :: u3 :: Value.pointer (some ⟨rb, 0, none⟩) :: Value.nilIface :: er :: Value.pointer (some ⟨tb, 0, none⟩) :: tl).toArray, []⟩ ∧ tl.length = 275 ∧
    ErrIs r.1 er ∧ Tk W0 L lx B b tb rb ls w r.2.2.2 l typ ⟨#[]⟩ str line col ∧ (r.1 = true → typ = r.2.1 ∧ str = ⟨r.2.2.1.toArray⟩) ∧ -1 ≤ typ ∧ typ < 57402

/-- What stands at the first label, behind a comment. -/
def Redo (W0 : World) (L : Loc) (lx rb : Nat) (ls : List Value) (st : St) (rl : Nat) (a : Act) (w : World) : Prop :=
  ∃ (u2 u3 : Value) (tl : List Value), a = ⟨(Value.pointer (some ⟨L.S, 0, none⟩) :: Value.pointer (some ⟨lx, 0, none⟩) :: u2 :: u3 :: Value.pointer (some ⟨rb, 0, none⟩) :: Value.nilIface :: tl).toArray, []⟩ ∧ tl.length = 277 ∧
    Sc w L st none ∧ Blk w rb (tkCells 0 ⟨#[]⟩ ⟨#[]⟩ ⟨#[]⟩ 0 0) ∧ Blk w lx ls ∧ Fb (lx :: L.own) W0.heap.size W0 w ∧ W0.heap.size ≤ rb ∧ lx ∉ L.all ∧ (∀ k ∈ L.all, k < W0.heap.size) ∧ lx < W0.heap.size ∧ st.rest.length < rl

/-- Behind the switch: at the second label by whatever way, or back at the first. -/
def SwQ (F : Act → World → Prop) (R : Act → World → Prop) : Exit → Act → World → Prop
  | .normal, a, w => F a w
  | .goto l, a, w => (l = 1 ∧ F a w) ∨ (l = 0 ∧ R a w)
  | _, _, _ => False
end Go.Proofs.YtgiklkapedlckaaGreatDoor
