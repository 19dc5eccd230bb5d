/- The exports of package parse for n005_131, walked. -/
import Derived.Test.YtoibhhbhohpljaaDoorStr
import Derived.Test.YtoibhhbhohpljaaDoorR131
namespace Go.Proofs.YtoibhhbhohpljaaDoor
open Go.RowKit

/-- A fresh scanner over the text l. -/
def NewZ (w : World) (src : ByteArray) (l : List UInt8) (e : Ending) (w' : World) : Prop :=
  ∃ L : Loc, L.src = src ∧ (∀ k ∈ L.own, w.heap.size ≤ k) ∧ e = .returned (.pointer (some ⟨L.S, 0, none⟩)) ∧ Sc w' L ⟨l, 1, 0⟩ none ∧ Fr [] w w'
set_option maxRecDepth 100000 in
set_option maxHeartbeats 1600000 in
theorem znew (w : World) (a : Addr) (s : ByteArray) (he : HasEof w a) (hs : s.size ≤ 1099511627776) :
    Calls Tryd.prog 9 #[.string s] w (NewZ w ⟨#[]⟩ s.data.toList) := by
  have hg0 := he.2
  have hne : w.heap.size ≠ 0 := by omega
  go_enter Tryd.func9, Tryd.ntmps9
  go_wp2_with (go_at_call 24; refine (newReader _ s hs).mono ?_; rintro e w1 ⟨rfl, hU, hz, fr⟩; refine Hid.out ?_)
  refine Lib.hid ?_
  have he1 := he.fr fr (by simp)
  go_wp2_with (go_at_call 23; refine (newScanner w1 _ a _ _ hU he1 hne).mono ?_; rintro e w2 hN; obtain ⟨L, hLU, hLa, hLs, hS, hR, hD, rfl, hSc, fr2⟩ := hN)
  go_ret
  exact ⟨L, hLs, Loc.own_new (by omega) (by omega) (by omega) (by omega), rfl, hSc, fr.trans fr2⟩

theorem zsep (w : World) (L : Loc) (st : St) (c : Int) (h : Sc w L st none) (hl : st.rest.length ≤ 1099511627776) :
    Calls Tryd.prog 10 #[.pointer (some ⟨L.S, 0, none⟩), .int .i64 c] w
      fun e w' => e = .returned (.tuple #[.int .i64 (sepL c st).1, .int .i64 (sepL c st).2.1]) ∧ Sc w' L (sepL c st).2.2 none ∧ Fr L.own w w' := by
  go_enter Tryd.func10, Tryd.ntmps10
  go_wp2_with (go_at_call 25; refine (countSep_any w L st c h hl).mono ?_; rintro e w1 ⟨rfl, h1, fr⟩)
  go_ret2
  exact ⟨rfl, h1, fr⟩

/-- What the exports that hand a buffer's text out leave. -/
def ZIs (w : World) (L : Loc) (r : Bool × List UInt8 × St) (e : Ending) (w' : World) : Prop :=
  ∃ er, e = .returned (.tuple #[.string ⟨r.2.1.toArray⟩, er]) ∧ ErrIs r.1 er ∧ Sc w' L r.2.2 none ∧ Fr L.own w w'
set_option maxRecDepth 100000 in
set_option maxHeartbeats 1600000 in
theorem zesc (w : World) (L : Loc) (st : St) (h : Sc w L st none) :
    Calls Tryd.prog 12 #[.pointer (some ⟨L.S, 0, none⟩)] w
      fun e w' => e = .returned (.tuple #[.string ⟨#[(esc st).1]⟩, .nilIface]) ∧ Sc w' L (esc st).2 none ∧ Fr L.own w w' := by
  go_enter Tryd.func12, Tryd.ntmps12
  go_wp2_with (first | (go_at_call 26; refine (esc_at (At.start h) 92 (by simp)).mono ?_; rintro e w1 ⟨rfl, h1⟩) | (go_at_call 27; refine (bufString_at h1).mono ?_; rintro e w2 ⟨rfl, nq, rfl⟩))
  go_ret2
  exact ⟨rfl, (h1.drewN nq).sc, (h1.drewN nq).done⟩
set_option maxRecDepth 100000 in
set_option maxHeartbeats 1600000 in
theorem zstr (w : World) (L : Loc) (st : St) (q : Int) (h : Sc w L st none) (hl : st.rest.length ≤ 1099511627776) :
    Calls Tryd.prog 15 #[.pointer (some ⟨L.S, 0, none⟩), .int .i64 q] w (ZIs w L (strL q st.nextC st.nextS [])) := by
  have hs := str_at (At.start h) q (by simpa using hl)
  generalize strL q st.nextC st.nextS [] = R at hs ⊢
  go_enter Tryd.func15, Tryd.ntmps15
  go_wp2_with (first | (go_at_call 28; refine hs.mono ?_; rintro e w1 ⟨er, rfl, he, h1⟩) | (go_at_call 27; refine (bufString_at h1).mono ?_; rintro e w2 ⟨rfl, nq, rfl⟩))
  go_ret2
  exact ⟨er, rfl, he, (h1.drewN nq).sc, (h1.drewN nq).done⟩
set_option maxRecDepth 100000 in
set_option maxHeartbeats 1600000 in
theorem zmulti (w : World) (L : Loc) (st : St) (c : Int) (h : Sc w L st none) (hl : st.rest.length ≤ 1099511627776) :
    Calls Tryd.prog 20 #[.pointer (some ⟨L.S, 0, none⟩), .int .i64 c] w (ZIs w L (long c st)) := by
  have hs := multi_at (At.start h) c hl
  generalize long c st = R at hs ⊢
  go_enter Tryd.func20, Tryd.ntmps20
  go_wp2_with (first | (go_at_call 31; refine hs.mono ?_; rintro e w1 ⟨er, rfl, he, h1⟩) | (go_at_call 27; refine (bufString_at h1).mono ?_; rintro e w2 ⟨rfl, nq, rfl⟩))
  go_ret2
  exact ⟨er, rfl, he, (h1.drewN nq).sc, (h1.drewN nq).done⟩
end Go.Proofs.YtoibhhbhohpljaaDoor
