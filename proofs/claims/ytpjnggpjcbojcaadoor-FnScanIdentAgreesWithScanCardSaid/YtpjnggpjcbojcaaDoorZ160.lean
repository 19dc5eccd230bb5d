/- The exports of package parse for n005_160, walked; small functions of the law package. -/
import Derived.Test.YtpjnggpjcbojcaaDoorNum
namespace Go.Proofs.YtpjnggpjcbojcaaDoor
open Go.RowKit

/-- A fresh scanner over the text l. -/
def NewZ (w : World) (src : ByteArray) (l : List UInt8) (e : Ending) (w' : World) : Prop :=
  ∃ L : Loc, L.src = src ∧ (∀ k ∈ L.own, w.heap.size ≤ k) ∧ e = .returned (.pointer (some ⟨L.S, 0, none⟩)) ∧ Sc w' L ⟨l, 1, 0⟩ none ∧ Fr [] w w' ∧ HasEof w' L.a
set_option maxRecDepth 100000 in
set_option maxHeartbeats 1600000 in
theorem znew (w : World) (a : Addr) (s : ByteArray) (he : HasEof w a) (hs : s.size ≤ 1099511627776) :
    Calls Tryd.prog 10 #[.string s] w (NewZ w ⟨#[]⟩ s.data.toList) := by
  have hg0 := he.2
  have hne : w.heap.size ≠ 0 := by omega
  go_enter Tryd.func10, Tryd.ntmps10
  go_wp2_with (go_at_call 23; refine (newReader _ s hs).mono ?_; rintro e w1 ⟨rfl, hU, hz, fr⟩; refine Hid.out ?_)
  refine Lib.hid ?_
  have he1 := he.fr fr (by simp)
  go_wp2_with (go_at_call 22; refine (newScanner w1 _ a _ _ hU he1 hne).mono ?_; rintro e w2 hN; obtain ⟨L, hLU, hLa, hLs, hS, hR, hD, rfl, hSc, fr2⟩ := hN)
  go_ret
  exact ⟨L, hLs, Loc.own_new (by omega) (by omega) (by omega) (by omega), rfl, hSc, fr.trans fr2, hSc.rd.eof⟩

set_option maxRecDepth 100000 in
set_option maxHeartbeats 1600000 in
theorem zident (w : World) (L : Loc) (st : St) (c : Int) (h : Sc w L st none) (hl : st.rest.length ≤ 8796093022208) :
    Calls Tryd.prog 18 #[.pointer (some ⟨L.S, 0, none⟩), .int .i64 c] w
      fun e w' => e = .returned (.tuple #[.string ⟨(by8 c :: st.run identI).toArray⟩, .nilIface]) ∧ Sc w' L (st.adv identI) none ∧ Fr L.own w w' := by
  have hs := ident_at (At.start h) c (by simpa using hl)
  rw [List.nil_append] at hs
  go_enter Tryd.func18, Tryd.ntmps18
  go_wp2_with (first | (go_at_call 30; refine hs.mono ?_; rintro e w1 ⟨rfl, h1⟩) | (go_at_call 27; refine (bufString_at h1).mono ?_; rintro e w2 ⟨rfl, nq, rfl⟩))
  go_ret2
  exact ⟨rfl, (h1.drewN nq).sc, (h1.drewN nq).done⟩
set_option maxRecDepth 100000 in
set_option maxHeartbeats 1600000 in
theorem zdec (w : World) (L : Loc) (st : St) (c : Int) (h : Sc w L st none) (hl : st.rest.length ≤ 8796093022208) :
    Calls Tryd.prog 21 #[.pointer (some ⟨L.S, 0, none⟩), .int .i64 c] w
      fun e w' => e = .returned (.tuple #[.string ⟨(by8 c :: st.run decI).toArray⟩, .nilIface]) ∧ Sc w' L (st.adv decI) none ∧ Fr L.own w w' := by
  have hs := dec_at (At.start h) c (by simpa using hl)
  rw [List.nil_append] at hs
  go_enter Tryd.func21, Tryd.ntmps21
  go_wp2_with (first | (go_at_call 40; refine hs.mono ?_; rintro e w1 ⟨rfl, h1⟩) | (go_at_call 27; refine (bufString_at h1).mono ?_; rintro e w2 ⟨rfl, nq, rfl⟩))
  go_ret2
  exact ⟨rfl, (h1.drewN nq).sc, (h1.drewN nq).done⟩
set_option maxRecDepth 100000 in
set_option maxHeartbeats 1600000 in
theorem znum (w : World) (L : Loc) (st : St) (c : Int) (h : Sc w L st none) (hl : st.rest.length ≤ 4398046511104) (hx : c ≠ 48) :
    Calls Tryd.prog 14 #[.pointer (some ⟨L.S, 0, none⟩), .int .i64 c] w
      fun e w' => e = .returned (.tuple #[.string ⟨(numT c st).1.toArray⟩, .nilIface]) ∧ Sc w' L (numT c st).2 none ∧ Fr L.own w w' := by
  have hnum : num c st = (true, numT c st) := if_neg hx
  have hs := num_dec (At.start h) c (by simpa using hl) (fun e => hx e.1)
  rw [hnum] at hs
  have hs2 : Calls Tryd.prog 26 #[.pointer (some ⟨L.S, 0, none⟩), .int .i64 c, .pointer (some ⟨w.heap.size, 0, none⟩)] (w.alloc (.cells #[.slice none 0 0, .int .i64 0, .int .i8 0] 59)) fun e w' => e = .returned .nilIface ∧ At w L w.heap.size w.heap.size w' (numT c st).2 (numT c st).1 := by
    refine hs.mono fun e w' ⟨er, he, hr, ha⟩ => ?_
    rcases hr with ⟨_, rfl⟩ | ⟨hr, _⟩
    · exact ⟨he, ha⟩
    · cases hr
  clear hs hnum
  generalize numT c st = R at hs2 ⊢
  go_enter Tryd.func14, Tryd.ntmps14
  go_wp2_with (first | (go_at_call 26; refine hs2.mono ?_; rintro e w1 ⟨rfl, h1⟩) | (go_at_call 27; refine (bufString_at h1).mono ?_; rintro e w2 ⟨rfl, nq, rfl⟩))
  go_ret2
  exact ⟨rfl, (h1.drewN nq).sc, (h1.drewN nq).done⟩
end Go.Proofs.YtpjnggpjcbojcaaDoor
