/- The law FnSkipCommentsLongEnclosed in plain Lean. -/
import Derived.Test.YtpjnggpjcbojcaaDoorFc
namespace Go.Proofs.YtpjnggpjcbojcaaDoor

/-- A long comment's text behind its dashes. -/
def longTextP (k : Nat) (b t : List UInt8) : List UInt8 := 91 :: (List.replicate k 61 ++ 91 :: (b ++ 93 :: (List.replicate k 61 ++ 93 :: t)))
theorem longL_acc (k : Nat) (c : Int) (st : St) (acc acc' : List UInt8) : (longL k c st acc).1 = (longL k c st acc').1 ∧ (longL k c st acc).2.2 = (longL k c st acc').2.2 := by
  generalize hn : mu c st = n
  induction n using Nat.strongRecOn generalizing c st acc acc' with
  | _ n ih =>
    by_cases h : c < 0
    · rw [longL_end h, longL_end h]; exact ⟨rfl, rfl⟩
    · have h1 := mu_next (c := c) (st := st) (by omega)
      have h4 := sepL_mu st.nextC st.nextS
      by_cases hc : c = 93
      · subst hc
        by_cases hk : (sepL st.nextC st.nextS).1 = k ∧ (sepL st.nextC st.nextS).2.1 = 93
        · rw [longL_close hk.1 hk.2, longL_close hk.1 hk.2]; exact ⟨rfl, rfl⟩
        · rw [longL_sep hk, longL_sep hk]
          exact ih _ (by omega) _ _ _ _ rfl
      · rw [longL_byte (by omega) hc, longL_byte (by omega) hc]
        exact ih _ (by omega) _ _ _ _ rfl
theorem enclosed (k : Nat) (b t : List UInt8) (h : findI k (longTextP k b t) (k + 2) = ((k + 2 + b.length : Nat) : Int)) :
    (comment 45 ⟨longTextP k b t, 1, 0⟩).1 = true ∧ (comment 45 ⟨longTextP k b t, 1, 0⟩).2.rest = t := by
  obtain ⟨Bd, hBd⟩ : ∃ Bd, Bd = b ++ 93 :: (List.replicate k 61 ++ 93 :: t) := ⟨_, rfl⟩
  have hX : longTextP k b t = 91 :: (List.replicate k 61 ++ 91 :: Bd) := by rw [hBd]; rfl
  have hdrop : (longTextP k b t).drop (k + 2) = Bd := by
    rw [hX, show k + 2 = (k + 1) + 1 by omega, List.drop_succ_cons, List.drop_append, List.drop_eq_nil_of_le (by simp)]
    simp
  have hf : findC k Bd = some b.length := by
    unfold findI at h
    rw [hdrop] at h
    cases hq : findC k Bd with
    | none => rw [hq] at h; simp only at h; omega
    | some j => rw [hq] at h; simp only at h; congr 1; omega
  rw [hX]
  have n0 := next_plain (c := 91) (t := List.replicate k 61 ++ 91 :: Bd) (line := 1) (col := 0) (by decide)
  obtain ⟨s1, hs1⟩ : ∃ s1 : St, s1 = ⟨List.replicate k 61 ++ 91 :: Bd, 1, 0 + 1⟩ := ⟨_, rfl⟩
  have hn0 : (⟨91 :: (List.replicate k 61 ++ 91 :: Bd), 1, 0⟩ : St).nextS = s1 := by rw [hs1]; exact n0.2
  have hr1 : s1.rest = List.replicate k 61 ++ 91 :: Bd := by rw [hs1]
  have hh : hd s1.rest = 91 ∨ hd s1.rest = 61 := by
    rw [hr1]
    cases k with
    | zero => left; rfl
    | succ k => right; rfl
  have hcom : comment 45 ⟨91 :: (List.replicate k 61 ++ 91 :: Bd), 1, 0⟩ = ((long s1.nextC s1.nextS).1, (long s1.nextC s1.nextS).2.2) := by
    unfold comment
    rw [hn0]
    have : hd (⟨91 :: (List.replicate k 61 ++ 91 :: Bd), 1, 0⟩ : St).rest = 91 := rfl
    rw [if_pos this, if_pos hh]
  rw [hcom]
  have htw : ∀ n : Nat, (List.replicate n (61 : UInt8) ++ 91 :: Bd).takeWhile (onB eqI) = List.replicate n 61 ∧ (List.replicate n (61 : UInt8) ++ 91 :: Bd).dropWhile (onB eqI) = 91 :: Bd := by
    intro n
    induction n with
    | zero =>
      have : onB eqI 91 = false := by decide
      simp [List.takeWhile_cons, List.dropWhile_cons, this]
    | succ n ih =>
      have : onB eqI 61 = true := by decide
      rw [List.replicate_succ, List.cons_append, List.takeWhile_cons, List.dropWhile_cons, if_pos this, if_pos this, ih.1, ih.2]
      exact ⟨rfl, rfl⟩
  have hsp := sepL_pre s1
  have hrun : (s1.run eqI).length = k := by unfold St.run; rw [hr1, (htw k).1]; simp
  have hadv : (s1.adv eqI).rest = 91 :: Bd := by unfold St.adv; simp only; rw [hr1, (htw k).2]
  rw [hrun] at hsp
  generalize s1.adv eqI = sq at hsp hadv
  obtain ⟨r, li, co⟩ := sq
  obtain rfl : r = 91 :: Bd := hadv
  obtain ⟨n1, n2⟩ := next_plain (c := 91) (t := Bd) (line := li) (col := co) (by decide)
  rw [n1, n2] at hsp
  obtain ⟨s2, hs2⟩ : ∃ s2 : St, s2 = ⟨Bd, li, co + 1⟩ := ⟨_, rfl⟩
  rw [← hs2] at hsp
  have hr2 : s2.rest = Bd := by rw [hs2]
  have hraw := longL_raw k s2 [] b.length (by rw [hr2]; exact hf)
  have hrest : s2.rest.drop (b.length + k + 2) = t := by
    rw [hr2, hBd, List.drop_append, List.drop_eq_nil_of_le (by omega)]
    rw [show b.length + k + 2 - b.length = (k + 1) + 1 by omega, List.nil_append, List.drop_succ_cons, List.drop_append, List.drop_eq_nil_of_le (by simp)]
    simp
  rw [hrest] at hraw
  unfold long
  rw [hsp]
  simp only
  rw [if_pos (show (((91 : UInt8).toNat : Nat) : Int) = 91 from rfl)]
  unfold longB
  by_cases hnl : s2.nextC = 10 ∨ s2.nextC = 13
  · rw [if_pos hnl]
    simp only
    have h10 : s2.nextC = 10 := by
      rcases hnl with e | e
      · exact e
      · exact absurd e s2.nextC_cr
    rw [h10, longL_byte (by decide) (by decide)] at hraw
    have ha := longL_acc k s2.nextS.nextC s2.nextS.nextS [] ([] ++ [by8 10])
    rw [ha.1, ha.2]
    exact hraw
  · rw [if_neg hnl]
    exact hraw
end Go.Proofs.YtpjnggpjcbojcaaDoor
