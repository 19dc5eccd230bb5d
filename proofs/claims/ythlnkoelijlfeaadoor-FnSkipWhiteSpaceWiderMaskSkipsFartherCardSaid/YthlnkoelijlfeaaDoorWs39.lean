/- skipWhiteSpace and zzb3Outside, walked. -/
import Derived.Test.YthlnkoelijlfeaaDoorBit39
import Derived.Test.YthlnkoelijlfeaaDoorN39
import Derived.Deep.LoopGhost
namespace Go.Proofs.YthlnkoelijlfeaaDoor
open Go.RowKit

/-- skipWhiteSpace as a plain function. -/
def skipF (m : Int) : Nat → St → Int × St
  | 0, st => (st.nextC, st.nextS)
  | n + 1, st => if inM m st.nextC then skipF m n st.nextS else (st.nextC, st.nextS)
def St.skip (m : Int) (st : St) : Int × St := skipF m st.rest.length st

theorem inM_eof {m : Int} {st : St} (h : st.rest = []) : inM m st.nextC = false := by
  rw [St.nextC_eof h]; exact inM_out m _ (Or.inl rfl)
theorem rest_of_inM {m : Int} {st : St} (h : inM m st.nextC = true) : st.rest ≠ [] := fun e => by rw [inM_eof e] at h; cases h
theorem skipF_fuel (m : Int) : ∀ (n k : Nat) (st : St), st.rest.length ≤ n → st.rest.length ≤ k → skipF m n st = skipF m k st := by
  intro n
  induction n with
  | zero =>
    intro k st hn _
    have hr : st.rest = [] := List.eq_nil_of_length_eq_zero (by omega)
    cases k with
    | zero => rfl
    | succ k => simp [skipF, inM_eof hr]
  | succ n ih =>
    intro k st hn hk
    cases k with
    | zero =>
      have hr : st.rest = [] := List.eq_nil_of_length_eq_zero (by omega)
      simp [skipF, inM_eof hr]
    | succ k =>
      simp only [skipF]
      split
      · rename_i h
        have := (St.nextS_len (rest_of_inM h)).1
        exact ih k st.nextS (by omega) (by omega)
      · rfl
theorem skip_more {m : Int} {st : St} (h : inM m st.nextC = true) : st.skip m = st.nextS.skip m := by
  have hr := rest_of_inM h
  have hl := (St.nextS_len hr).1
  unfold St.skip
  obtain ⟨k, hk⟩ : ∃ k, st.rest.length = k + 1 := ⟨st.rest.length - 1, by omega⟩
  rw [hk]
  simp only [skipF, h, if_true]
  exact skipF_fuel m k _ st.nextS (by omega) (Nat.le_refl _)
theorem skip_stop {m : Int} {st : St} (h : inM m st.nextC = false) : st.skip m = (st.nextC, st.nextS) := by
  unfold St.skip
  cases st.rest.length with
  | zero => rfl
  | succ k => simp [skipF, h]

set_option maxHeartbeats 3200000 in
theorem skip_any (w : World) (L : Loc) (st : St) (lb : Option UInt8) (m : Int) (h : Sc w L st lb) :
    Calls Tryd.prog 31 #[.pointer (some ⟨L.S, 0, none⟩), .int .i64 m] w
      fun e w' => e = .returned (.int .i64 (st.skip m).1) ∧ Sc w' L (st.skip m).2 none ∧ Fr L.own w w' := by
  go_enter Tryd.func31, Tryd.ntmps31
  go_wp2_with (go_at_call 20; refine (next_any w L st lb h).mono ?_; rintro e w' ⟨rfl, h', fr⟩; refine Hid.out ?_)
  refine Lib.hid ?_
  clear h
  go_wp2
  go_loopg [5] st.rest.length (fun n c wr => ∃ sp : St, sp.rest.length ≤ n ∧ c = .int .i64 sp.nextC ∧ Sc wr L sp.nextS none ∧ sp.skip m = st.skip m ∧ Fr L.own w wr)
  case atStart => exact ⟨st, Nat.le_refl _, rfl, h', rfl, fr⟩
  case round =>
    clear h' fr
    obtain ⟨sp, hn, rfl, hSr, hsk, frr⟩ := hrel
    have HSK := Lib.hid hsk
    have FRR := Lib.hid frr
    clear hsk frr
    cases hm : inM m sp.nextC
    · have HM := Lib.hid hm
      unfold inM at hm
      go_wp2
      go_ret
      rw [← HSK.out, skip_stop HM.out]
      exact ⟨rfl, hSr, FRR.out⟩
    · have HM := Lib.hid hm
      have hl := (St.nextS_len (rest_of_inM hm)).1
      unfold inM at hm
      go_wp2_with (go_at_call 20; refine (next_any wr L sp.nextS none hSr).mono ?_; rintro e w' ⟨rfl, h', fr⟩; refine Hid.out ?_)
      refine Lib.hid ?_
      go_wp2
      go_roundg sp.nextS.rest.length
      case measure => omega
      case rel => exact ⟨sp.nextS, Nat.le_refl _, rfl, h', (skip_more HM.out).symm.trans HSK.out, FRR.out.trans fr⟩

theorem zskip (w : World) (L : Loc) (st : St) (lb : Option UInt8) (m : Int) (h : Sc w L st lb) :
    Calls Tryd.prog 16 #[.pointer (some ⟨L.S, 0, none⟩), .int .i64 m] w
      fun e w' => e = .returned (.int .i64 (st.skip m).1) ∧ Sc w' L (st.skip m).2 none ∧ Fr L.own w w' := by
  go_enter Tryd.func16, Tryd.ntmps16
  go_wp2_with (go_at_call 31; refine (skip_any w L st lb m h).mono ?_; rintro e w' ⟨rfl, h', fr⟩)
  go_ret
  exact ⟨rfl, h', fr⟩

set_option maxHeartbeats 1600000 in
theorem outside_any (w : World) (c m : Int) (h0 : -1 ≤ c) (h1 : c ≤ 255) :
    Calls Tryd.prog 15 #[.int .i64 c, .int .i64 m] w
      fun e w' => e = .returned (.bool (!inM m c)) ∧ w = w' := by
  by_cases h2 : c < 0
  · rw [inM_out m c (Or.inl (by omega))]
    go_enter Tryd.func15, Tryd.ntmps15
    go_wp2
    go_ret
    exact ⟨rfl, rfl⟩
  · by_cases h3 : 64 ≤ c
    · rw [inM_out m c (Or.inr ⟨h3, h1⟩)]
      go_enter Tryd.func15, Tryd.ntmps15
      go_wp2
      go_ret
      exact ⟨rfl, rfl⟩
    · rw [inM_bit m c (by omega) (by omega)]
      have HB := Lib.hid (u64_bit m c.toNat)
      have h4 : 0 ≤ c := by omega
      have h5 : c < 64 := by omega
      go_enter Tryd.func15, Tryd.ntmps15
      go_wp2
      go_ret
      rw [← HB.out]
      exact ⟨rfl, rfl⟩
end Go.Proofs.YthlnkoelijlfeaaDoor
