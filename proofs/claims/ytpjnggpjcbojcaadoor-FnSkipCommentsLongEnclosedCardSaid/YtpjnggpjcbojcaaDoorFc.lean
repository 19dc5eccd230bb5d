/- The leftmost close from a place on. No program in sight. -/
import Derived.Test.YtpjnggpjcbojcaaDoorStream
namespace Go.Proofs.YtpjnggpjcbojcaaDoor

/-- The leftmost close from a place on; -1: none. -/
def findI (k : Nat) (l : List UInt8) (i : Nat) : Int := match findC k (l.drop i) with
  | some j => (i + j : Nat)
  | none => -1
theorem findI_next {k : Nat} {l : List UInt8} {i : Nat} (h : i < l.length) (hn : ¬ (l[i] = 93 ∧ closeAt k (l.drop (i + 1)) = true)) : findI k l i = findI k l (i + 1) := by
  unfold findI
  rw [List.drop_eq_getElem_cons h, findC_no hn]
  cases findC k (l.drop (i + 1)) with
  | none => rfl
  | some j => simp only [Option.map_some]; omega
theorem findI_here {k : Nat} {l : List UInt8} {i : Nat} (h : i < l.length) (h1 : l[i] = 93) (h2 : closeAt k (l.drop (i + 1)) = true) : findI k l i = i := by
  unfold findI
  rw [List.drop_eq_getElem_cons h, findC, if_pos ⟨h1, h2⟩]
  rfl
theorem findI_end {k : Nat} {l : List UInt8} {i : Nat} (h : l.length ≤ i) : findI k l i = -1 := by
  unfold findI
  rw [List.drop_eq_nil_of_le h]
  rfl
/-- The run of equals signs. -/
def eqRun (l : List UInt8) : Nat := (l.takeWhile (onB eqI)).length
theorem close_run (k : Nat) (t : List UInt8) : closeAt k t = true ↔ k ≤ eqRun t ∧ t[k]? = some 93 := by
  have hr : t = List.replicate (eqRun t) 61 ++ t.dropWhile (onB eqI) := rest_eq ⟨t, 0, 0⟩
  have hq : hd (t.dropWhile (onB eqI)) ≠ 61 := fun e => by
    have := adv_hd eqI ⟨t, 0, 0⟩ rfl
    rw [show ((⟨t, 0, 0⟩ : St).adv eqI).rest = t.dropWhile (onB eqI) from rfl, e] at this; cases this
  generalize eqRun t = r at hr ⊢
  generalize t.dropWhile (onB eqI) = q at hr hq
  subst hr
  rw [closeAt_iff k r q (fun x e => hq (by rw [e]; rfl))]
  constructor
  · rintro ⟨rfl, x, rfl⟩
    exact ⟨Nat.le_refl _, by rw [List.getElem?_append_right (by simp)]; simp⟩
  · rintro ⟨h1, h2⟩
    have hk : r = k := by
      rcases Nat.lt_or_ge k r with h | h
      · rw [List.getElem?_append_left (by simpa using h)] at h2
        simp [h] at h2
      · omega
    refine ⟨hk, ?_⟩
    subst hk
    rw [List.getElem?_append_right (by simp)] at h2
    cases q with
    | nil => simp at h2
    | cons c t => simp at h2; exact ⟨t, by rw [h2]⟩
theorem eqRun_step (l : List UInt8) (j : Nat) (hj : j ≤ eqRun l) : j < eqRun l ↔ ∃ h : j < l.length, l[j] = 61 := by
  induction l generalizing j with
  | nil => simp [eqRun] at hj ⊢
  | cons c t ih =>
    unfold eqRun at hj ⊢
    cases hc : onB eqI c with
    | false =>
      have : j = 0 := by simpa [List.takeWhile_cons, hc] using hj
      subst this
      simp only [List.takeWhile_cons, hc]
      simp only [onB, eqI, beq_eq_false_iff_ne] at hc
      constructor
      · intro h; simp at h
      · rintro ⟨_, h⟩; exact absurd (by simp only [List.getElem_cons_zero] at h; rw [h]; rfl) hc
    | true =>
      simp only [List.takeWhile_cons, hc, if_true, List.length_cons] at hj ⊢
      have h61 : c = 61 := by simp only [onB, eqI, beq_iff_eq] at hc; exact UInt8.toNat_inj.1 (by show c.toNat = 61; omega)
      cases j with
      | zero => simp [h61]
      | succ j =>
        have := ih j (by unfold eqRun; omega)
        unfold eqRun at this
        simp only [Nat.succ_lt_succ_iff, List.getElem_cons_succ]
        exact this
theorem by_at (u : ByteArray) (i : Nat) (h : i < u.size) : u.data.toList[i]? = some u[i] := by
  have : i < u.data.toList.length := by rw [Array.length_toList]; exact h
  rw [List.getElem?_eq_getElem this]; simp; rfl

/-- What stands at a bracket: the run of equals signs behind it; is it a close. -/
theorem skip_eqs {k : Nat} {l : List UInt8} {i : Nat} (h : i < l.length) (h93 : l[i] = 93) :
    i + 1 + eqRun (l.drop (i + 1)) ≤ l.length ∧ (∀ j, j < eqRun (l.drop (i + 1)) → l[i + 1 + j]? = some 61) ∧ (∀ x, l[i + 1 + eqRun (l.drop (i + 1))]? = some x → x ≠ 61) ∧
    ((eqRun (l.drop (i + 1)) = k ∧ l[i + 1 + eqRun (l.drop (i + 1))]? = some 93) → findI k l i = i) ∧
    (¬ (eqRun (l.drop (i + 1)) = k ∧ l[i + 1 + eqRun (l.drop (i + 1))]? = some 93) → findI k l i = findI k l (i + 1 + eqRun (l.drop (i + 1)))) := by
  have hr : l.drop (i + 1) = List.replicate (eqRun (l.drop (i + 1))) 61 ++ (l.drop (i + 1)).dropWhile (onB eqI) := rest_eq ⟨l.drop (i + 1), 0, 0⟩
  have hq : hd ((l.drop (i + 1)).dropWhile (onB eqI)) ≠ 61 := fun e => by
    have := adv_hd eqI ⟨l.drop (i + 1), 0, 0⟩ rfl
    rw [show ((⟨l.drop (i + 1), 0, 0⟩ : St).adv eqI).rest = (l.drop (i + 1)).dropWhile (onB eqI) from rfl, e] at this; cases this
  have hle : (l.drop (i + 1)).length = l.length - (i + 1) := by simp
  have hget : ∀ j, l[i + 1 + j]? = (l.drop (i + 1))[j]? := fun j => by rw [List.getElem?_drop]
  have hdd : ∀ n, l.drop (i + 1 + n) = (l.drop (i + 1)).drop n := fun n => by rw [List.drop_drop]
  generalize hD : l.drop (i + 1) = D at hr hq hle hget hdd ⊢
  generalize hR : eqRun D = r at hr hdd ⊢
  generalize D.dropWhile (onB eqI) = q at hr hq
  have hrl : r + q.length = D.length := by rw [hr]; simp
  have hq0 : ∀ t, q ≠ 61 :: t := fun t e => hq (by rw [e]; rfl)
  have hDq : D.drop r = q := by
    have h2 := congrArg (List.drop r) hr
    rw [List.drop_append_of_le_length (by simp)] at h2
    have h3 : List.drop r (List.replicate r (61 : UInt8)) = [] := List.drop_eq_nil_of_le (by simp)
    rw [h3, List.nil_append] at h2
    exact h2
  have hq1 : l[i + 1 + r]? = q[0]? := by rw [hget, ← hDq, List.getElem?_drop]; rfl
  have hci := closeAt_iff k r q hq0
  rw [← hr] at hci
  have h930 : (l[i + 1 + r]? = some 93) ↔ ∃ t, q = 93 :: t := by
    rw [hq1]
    cases q with
    | nil => simp
    | cons c t => simp
  refine ⟨by omega, fun j hj => ?_, fun x hx => ?_, fun hy => ?_, fun hn => ?_⟩
  · rw [hget, hr, List.getElem?_append_left (by simpa using hj)]; simp [hj]
  · rw [hq1] at hx
    cases q with
    | nil => simp at hx
    | cons c t =>
      have : c = x := by simpa using hx
      intro e; exact hq0 t (by rw [this, e])
  · exact findI_here h h93 (by rw [hD]; exact hci.2 ⟨hy.1, h930.1 hy.2⟩)
  · have hno : ¬ closeAt k D = true := fun e => hn ⟨(hci.1 e).1, h930.2 (hci.1 e).2⟩
    rw [findI_next h (by rw [hD]; exact fun e => hno e.2)]
    unfold findI
    rw [hdd r, hDq, hD, hr, findC_eqs]
    cases findC k q with
    | none => rfl
    | some j => simp only [Option.map_some]; omega
end Go.Proofs.YtpjnggpjcbojcaaDoor
