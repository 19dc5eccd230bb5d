/- The law FnScanMultilineMatchesLeftmostClose in plain Lean: scanMultilineString against the leftmost close of the stream. -/
import Derived.Test.YtoibhhbhohpljaaDoorF131
namespace Go.Proofs.YtoibhhbhohpljaaDoor

theorem closeAt_len {k : Nat} {t : List UInt8} (h : closeAt k t = true) : k + 1 ≤ t.length := by
  obtain ⟨_, h2⟩ := (close_run k t).1 h
  obtain ⟨h3, _⟩ := List.getElem?_eq_some_iff.1 h2
  omega
theorem findC_len {k : Nat} {l : List UInt8} {j : Nat} (h : findC k l = some j) : j + k + 2 ≤ l.length := by
  induction l generalizing j with
  | nil => simp [findC] at h
  | cons c t ih =>
    by_cases hc : c = 93 ∧ closeAt k t = true
    · rw [findC, if_pos hc] at h
      have := closeAt_len hc.2
      obtain rfl : 0 = j := Option.some.inj h
      simp only [List.length_cons]; omega
    · rw [findC_no hc, Option.map_eq_some_iff] at h
      obtain ⟨i, hi, rfl⟩ := h
      have := ih hi
      simp only [List.length_cons]; omega
theorem eqRun_rep (n : Nat) (q : List UInt8) (hq : ∀ t, q ≠ 61 :: t) : eqRun (List.replicate n 61 ++ q) = n := by
  unfold eqRun
  induction n with
  | zero =>
    cases q with
    | nil => rfl
    | cons c t =>
      have : onB eqI c = false := by
        simp only [onB, eqI, beq_eq_false_iff_ne]
        intro e
        exact hq t (by rw [show c = 61 from UInt8.toNat_inj.1 (by show c.toNat = 61; omega)])
      simp [List.takeWhile_cons, this]
  | succ n ih =>
    rw [List.replicate_succ, List.cons_append, List.takeWhile_cons, if_pos (by decide), List.length_cons, ih]
def dropNL (l : List UInt8) : Nat := match l with
  | 10 :: _ => 1
  | _ => 0
theorem dropNL_10 (l : List UInt8) : dropNL (10 :: l) = 1 := rfl
theorem dropNL_no {l : List UInt8} (h : ∀ t, l ≠ 10 :: t) : dropNL l = 0 := by
  unfold dropNL
  split
  · rename_i t; exact absurd rfl (h t)
  · rfl
theorem long_law (s : List UInt8) : ((∀ q, (stream s).drop (eqRun (stream s)) ≠ 91 :: q) → (long (⟨s, 1, 0⟩ : St).nextC (⟨s, 1, 0⟩ : St).nextS).1 = false ∧ (long (⟨s, 1, 0⟩ : St).nextC (⟨s, 1, 0⟩ : St).nextS).2.1 = []) ∧
    ∀ q, (stream s).drop (eqRun (stream s)) = 91 :: q → LongIs (eqRun (stream s)) (q.drop (dropNL q)) [] (long (⟨s, 1, 0⟩ : St).nextC (⟨s, 1, 0⟩ : St).nextS) := by
  have hsp := sepL_pre ⟨s, 1, 0⟩
  have hr := rest_eq ⟨s, 1, 0⟩
  have hq := stream_hd61 (l := ((⟨s, 1, 0⟩ : St).adv eqI).rest) (fun e => by have := adv_hd eqI ⟨s, 1, 0⟩ rfl; rw [e] at this; cases this)
  generalize ((⟨s, 1, 0⟩ : St).run eqI).length = n at hsp hr
  generalize (⟨s, 1, 0⟩ : St).adv eqI = sq at hsp hr hq
  have hu : stream s = List.replicate n 61 ++ stream sq.rest := by rw [show s = _ from hr, stream_eqs]
  have hn : eqRun (stream s) = n := by rw [hu, eqRun_rep n _ hq]
  have hd : (stream s).drop (eqRun (stream s)) = stream sq.rest := by rw [hn, hu, List.drop_append]; simp
  rw [hd, hn]
  have h91 : ∀ q, stream sq.rest = 91 :: q → sq.nextC = 91 ∧ q = stream sq.nextS.rest := by
    intro q e
    by_cases hz : sq.rest = []
    · rw [hz, stream_nil] at e; cases e
    · rw [stream_next hz] at e
      obtain ⟨e1, e2⟩ := List.cons.inj e
      have h2 := by8_toNat sq.nextC
      rw [e1] at h2
      have := sq.nextC_lo
      have := sq.nextC_hi
      have : (91 : UInt8).toNat = 91 := rfl
      exact ⟨by omega, e2.symm⟩
  constructor
  · intro hno
    have hne : sq.nextC ≠ 91 := by
      intro e
      have hz : sq.rest ≠ [] := fun e2 => by rw [St.nextC_eof e2] at e; cases e
      refine hno (stream sq.nextS.rest) ?_
      rw [stream_next hz, e]; rfl
    unfold long
    rw [hsp, if_neg hne]
    exact ⟨rfl, rfl⟩
  · intro q e
    obtain ⟨e1, rfl⟩ := h91 q e
    unfold long
    rw [hsp, if_pos e1]
    simp only
    generalize sq.nextS = s1
    unfold longB
    by_cases hz : s1.rest = []
    · have hc : ¬ (s1.nextC = 10 ∨ s1.nextC = 13) := by rw [St.nextC_eof hz]; decide
      rw [if_neg hc, dropNL_no (by rw [hz, stream_nil]; simp), List.drop_zero]
      exact longL_is n s1 []
    · by_cases hc : s1.nextC = 10
      · rw [if_pos (Or.inl hc)]
        have h10 : stream s1.rest = 10 :: stream s1.nextS.rest := by rw [stream_next hz, hc]; rfl
        rw [h10, dropNL_10]
        exact longL_is n s1.nextS []
      · rw [if_neg (by intro h; rcases h with h | h; exact hc h; exact s1.nextC_cr h)]
        have h10 : ∀ t, stream s1.rest ≠ 10 :: t := by
          intro t e2
          rw [stream_next hz] at e2
          have h2 := by8_toNat s1.nextC
          rw [(List.cons.inj e2).1] at h2
          have := s1.nextC_lo
          have := s1.nextC_hi
          have : (10 : UInt8).toNat = 10 := rfl
          omega
        rw [dropNL_no h10, List.drop_zero]
        exact longL_is n s1 []
/-- The ways of the law. -/
theorem long_ways (s : List UInt8) (U : ByteArray) (hU : U.data.toList = stream s) (n : Nat) (hn : n = eqRun (stream s)) (R : Bool × List UInt8 × St) (hR : R = long (⟨s, 1, 0⟩ : St).nextC (⟨s, 1, 0⟩ : St).nextS) :
    (U.size ≤ n ∧ R.1 = false ∧ R.2.1 = []) ∨ ∃ h : n < U.size, ((U[n].toNat : Int) ≠ 91 ∧ R.1 = false ∧ R.2.1 = []) ∨ ((U[n].toNat : Int) = 91 ∧ ∃ start,
      ((∃ h1 : n + 1 < U.size, (U[n + 1].toNat : Int) = 10 ∧ start = n + 2) ∨ (∃ h1 : n + 1 < U.size, (U[n + 1].toNat : Int) ≠ 10 ∧ start = n + 1) ∨ (U.size ≤ n + 1 ∧ start = n + 1)) ∧ start ≤ U.size ∧
      ((findI n U.data.toList start = -1 ∧ R.1 = false ∧ R.2.1 = U.data.toList.drop start) ∨ ∃ j, findI n U.data.toList start = (start + j : Nat) ∧ start + j + n + 2 ≤ U.size ∧ R.1 = true ∧ R.2.1 = (U.data.toList.drop start).take j ∧ stream R.2.2.rest = U.data.toList.drop (start + j + n + 2))) := by
  have hlen : U.data.toList.length = U.size := by rw [Array.length_toList]; rfl
  obtain ⟨hA, hB⟩ := long_law s
  rw [← hn, ← hU, ← hR] at hA hB
  by_cases h : n < U.size
  · right
    refine ⟨h, ?_⟩
    have hget : ∀ i (h : i < U.size), U.data.toList.drop i = U[i] :: U.data.toList.drop (i + 1) := fun i h => by
      rw [List.drop_eq_getElem_cons (by omega)]; congr 1
    by_cases h91 : (U[n].toNat : Int) = 91
    · right
      refine ⟨h91, ?_⟩
      have h91' : U[n] = 91 := UInt8.toNat_inj.1 (by show U[n].toNat = 91; omega)
      have hl := hB (U.data.toList.drop (n + 1)) (by rw [hget n h, h91'])
      have key : ∀ start, (U.data.toList.drop (n + 1)).drop (dropNL (U.data.toList.drop (n + 1))) = U.data.toList.drop start → start ≤ U.size → ((findI n U.data.toList start = -1 ∧ R.1 = false ∧ R.2.1 = U.data.toList.drop start) ∨ ∃ j, findI n U.data.toList start = (start + j : Nat) ∧ start + j + n + 2 ≤ U.size ∧ R.1 = true ∧ R.2.1 = (U.data.toList.drop start).take j ∧ stream R.2.2.rest = U.data.toList.drop (start + j + n + 2)) := by
        intro start e hs
        rw [e] at hl
        unfold LongIs at hl
        unfold findI
        cases hf : findC n (U.data.toList.drop start) with
        | none => rw [hf] at hl; exact Or.inl ⟨rfl, hl.1, by simpa using hl.2⟩
        | some j =>
          rw [hf] at hl
          have hfl := findC_len hf
          rw [List.length_drop, hlen] at hfl
          refine Or.inr ⟨j, rfl, by omega, hl.1, by simpa using hl.2.1, ?_⟩
          rw [hl.2.2, List.drop_drop]
          congr 1; omega
      by_cases h1 : n + 1 < U.size
      · by_cases h10 : (U[n + 1].toNat : Int) = 10
        · refine ⟨n + 2, Or.inl ⟨h1, h10, rfl⟩, by omega, key _ ?_ (by omega)⟩
          have h10' : U[n + 1] = 10 := UInt8.toNat_inj.1 (by show U[n + 1].toNat = 10; omega)
          rw [hget (n + 1) h1, h10', dropNL_10]; rfl
        · refine ⟨n + 1, Or.inr (Or.inl ⟨h1, h10, rfl⟩), by omega, key _ ?_ (by omega)⟩
          rw [dropNL_no, List.drop_zero]
          intro t e
          rw [hget (n + 1) h1] at e
          exact h10 (by rw [(List.cons.inj e).1]; rfl)
      · refine ⟨n + 1, Or.inr (Or.inr ⟨by omega, rfl⟩), by omega, key _ ?_ (by omega)⟩
        rw [List.drop_eq_nil_of_le (by omega : U.data.toList.length ≤ n + 1)]; rfl
    · left
      refine ⟨h91, hA fun q e => ?_⟩
      rw [hget n h] at e
      exact h91 (by rw [(List.cons.inj e).1]; rfl)
  · left
    refine ⟨by omega, hA fun q e => ?_⟩
    rw [List.drop_eq_nil_of_le (by omega)] at e; cases e
end Go.Proofs.YtoibhhbhohpljaaDoor
