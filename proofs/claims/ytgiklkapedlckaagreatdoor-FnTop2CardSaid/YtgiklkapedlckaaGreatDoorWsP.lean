/- skipWhiteSpace as a plain function. No program in sight. -/
import Derived.Test.YtgiklkapedlckaaGreatDoorBit
import Derived.Test.YtgiklkapedlckaaGreatDoorStream
namespace Go.Proofs.YtgiklkapedlckaaGreatDoor

/-- skipWhiteSpace as a plain function. -/
def skipF (m : Int) : Nat → St → Int × St
  | 0, st => (st.nextC, st.nextS)
  | n + 1, st => if inM m st.nextC then skipF m n st.nextS else (st.nextC, st.nextS)
def St.skip (m : Int) (st : St) : Int × St := skipF m st.rest.length st

theorem inM_eof {m : Int} {st : St} (h : st.rest = []) : inM m st.nextC = false := by
  rw [St.nextC_eof h]; exact inM_out m _ (Or.inl rfl)
theorem rest_of_inM {m : Int} {st : St} (h : inM m st.nextC = true) : st.rest ≠ [] := fun e => by rw [inM_eof e] at h; cases h
theorem skipF_fuel (m : Int) : ∀ (n k : Nat) (st : St), st.rest.length ≤ n → st.rest.length ≤ k → skipF m n st = skipF m k st := by
  intro n
  induction n with
  | zero =>
    intro k st hn _
    have hr : st.rest = [] := List.eq_nil_of_length_eq_zero (by omega)
    cases k with
    | zero => rfl
    | succ k => simp [skipF, inM_eof hr]
  | succ n ih =>
    intro k st hn hk
    cases k with
    | zero =>
      have hr : st.rest = [] := List.eq_nil_of_length_eq_zero (by omega)
      simp [skipF, inM_eof hr]
    | succ k =>
      simp only [skipF]
      split
      · rename_i h
        have := (St.nextS_len (rest_of_inM h)).1
        exact ih k st.nextS (by omega) (by omega)
      · rfl
theorem skip_more {m : Int} {st : St} (h : inM m st.nextC = true) : st.skip m = st.nextS.skip m := by
  have hr := rest_of_inM h
  have hl := (St.nextS_len hr).1
  unfold St.skip
  obtain ⟨k, hk⟩ : ∃ k, st.rest.length = k + 1 := ⟨st.rest.length - 1, by omega⟩
  rw [hk]
  simp only [skipF, h, if_true]
  exact skipF_fuel m k _ st.nextS (by omega) (Nat.le_refl _)
theorem skip_stop {m : Int} {st : St} (h : inM m st.nextC = false) : st.skip m = (st.nextC, st.nextS) := by
  unfold St.skip
  cases st.rest.length with
  | zero => rfl
  | succ k => simp [skipF, h]

end Go.Proofs.YtgiklkapedlckaaGreatDoor
