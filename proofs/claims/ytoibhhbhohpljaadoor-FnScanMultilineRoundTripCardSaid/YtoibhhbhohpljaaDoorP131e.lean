/- The law FnScanMultilineRoundTrip in plain Lean. -/
import Derived.Test.YtoibhhbhohpljaaDoorP131d
namespace Go.Proofs.YtoibhhbhohpljaaDoor

/-- A close of so many equals signs. -/
def closeL (k : Nat) : List UInt8 := 93 :: (List.replicate k 61 ++ [93])
theorem closeAt_app {k : Nat} {t : List UInt8} (x : List UInt8) (h : closeAt k t = true) : closeAt k (t ++ x) = true := by
  unfold closeAt at h ⊢
  rw [List.isPrefixOf_iff_prefix] at h ⊢
  exact h.trans (List.prefix_append t x)
theorem findC_app {k : Nat} {a : List UInt8} (x : List UInt8) {j : Nat} (h : findC k a = some j) : findC k (a ++ x) = some j := by
  induction a generalizing j with
  | nil => simp [findC] at h
  | cons c t ih =>
    by_cases hc : c = 93 ∧ closeAt k t = true
    · rw [findC, if_pos hc] at h
      rw [List.cons_append, findC, if_pos ⟨hc.1, closeAt_app x hc.2⟩]; exact h
    · rw [findC_no hc, Option.map_eq_some_iff] at h
      obtain ⟨i, hi, rfl⟩ := h
      have hno : ¬ (c = 93 ∧ closeAt k (t ++ x) = true) := by
        rintro ⟨h1, h2⟩
        apply hc
        refine ⟨h1, ?_⟩
        have hl := findC_len hi
        obtain ⟨g1, g2⟩ := (close_run k (t ++ x)).1 h2
        rw [close_run]
        have hkt : k < t.length := by omega
        constructor
        · have hrun : ∀ m, m ≤ k → m ≤ eqRun t := by
            intro m
            induction m with
            | zero => intro _; exact Nat.zero_le _
            | succ m im =>
              intro hm
              have h5 := im (by omega)
              rw [Nat.succ_le_iff, eqRun_step t m h5]
              obtain ⟨h6, h7⟩ := (eqRun_step (t ++ x) m (by omega)).1 (by omega)
              refine ⟨by omega, ?_⟩
              rw [List.getElem_append_left (by omega)] at h7
              exact h7
          exact hrun k (Nat.le_refl _)
        · rw [List.getElem?_append_left hkt] at g2; exact g2
      rw [List.cons_append, findC_no hno, ih hi]; rfl
theorem stream_noCR (a x : List UInt8) (ha : ∀ b ∈ a, b ≠ 13) : stream (a ++ 93 :: x) = a ++ stream (93 :: x) := by
  induction a with
  | nil => rfl
  | cons c t ih =>
    have ih := ih (fun b hb => ha b (by simp [hb]))
    by_cases h10 : c = 10
    · subst h10
      have hne : (10 : UInt8) :: (t ++ 93 :: x) ≠ [] := by simp
      have hh : hd (t ++ 93 :: x) ≠ 13 := by
        cases t with
        | nil => show ((93 : UInt8).toNat : Int) ≠ 13; decide
        | cons d t' =>
          intro e
          exact ha d (by simp) (UInt8.toNat_inj.1 (by show d.toNat = 13; simp only [List.cons_append, hd] at e; omega))
      rw [List.cons_append, stream_cons hne]
      have e1 : nc ((10 : UInt8) :: (t ++ 93 :: x)) = 10 := rfl
      have e2 : eat ((10 : UInt8) :: (t ++ 93 :: x)) = 1 := by
        have : pair 10 (hd (t ++ 93 :: x)) = false := by
          unfold pair
          rw [show (hd (t ++ 93 :: x) == 13) = false from beq_eq_false_iff_ne.2 hh]; rfl
        show (if (10 : Int) = 10 ∨ (10 : Int) = 13 then (if pair 10 (hd (t ++ 93 :: x)) then 2 else 1) else 1) = 1
        rw [this]; rfl
      rw [e1, e2, List.drop_succ_cons, List.drop_zero, ih]; rfl
    · have hc : ¬ ((c.toNat : Int) = 10 ∨ (c.toNat : Int) = 13) := by
        rintro (e | e)
        · exact h10 (UInt8.toNat_inj.1 (by show c.toNat = 10; omega))
        · exact ha c (by simp) (UInt8.toNat_inj.1 (by show c.toNat = 13; omega))
      rw [List.cons_append, stream_plain hc, ih]; rfl
theorem stream_close (k : Nat) (x : List UInt8) : stream (closeL k ++ x) = closeL k ++ stream x := by
  unfold closeL
  rw [List.cons_append, stream_plain (by decide), List.append_assoc, stream_eqs]
  rw [show [93] ++ x = 93 :: x from rfl, stream_plain (by decide)]
  simp
theorem round_trip (k : Nat) (c t : List UInt8) (hc : ∀ b ∈ c, b ≠ 13) (hf : findC k (c ++ closeL k) = some c.length) (X : List UInt8) (hX : X = List.replicate k 61 ++ [91, 10] ++ c ++ closeL k ++ t) :
    ∃ s', long (⟨X, 1, 0⟩ : St).nextC (⟨X, 1, 0⟩ : St).nextS = (true, c, s') ∧ stream s'.rest = stream t := by
  have hX2 : X = List.replicate k 61 ++ (91 :: 10 :: (c ++ (closeL k ++ t))) := by rw [hX]; simp
  clear hX
  have hsp := sepL_pre ⟨X, 1, 0⟩
  have hrun : ((⟨X, 1, 0⟩ : St).run eqI).length = k := by
    show eqRun X = k
    rw [hX2, eqRun_rep]
    intro t e; cases e
  have hadv : ((⟨X, 1, 0⟩ : St).adv eqI).rest = 91 :: 10 :: (c ++ (closeL k ++ t)) := by
    have h1 : X = _ := rest_eq ⟨X, 1, 0⟩
    rw [hrun] at h1
    have h2 := hX2.symm.trans h1
    exact (List.append_cancel_left h2).symm
  rw [hrun] at hsp
  generalize (⟨X, 1, 0⟩ : St).adv eqI = sq at hsp hadv
  obtain ⟨r, li, co⟩ := sq
  obtain rfl : r = _ := hadv
  obtain ⟨n1, n2⟩ := next_plain (c := 91) (t := 10 :: (c ++ (closeL k ++ t))) (line := li) (col := co) (by decide)
  rw [n1, n2, show (((91 : UInt8).toNat : Nat) : Int) = 91 from rfl] at hsp
  have hhd : hd (c ++ (closeL k ++ t)) ≠ 13 := by
    cases c with
    | nil => show ((93 : UInt8).toNat : Int) ≠ 13; decide
    | cons d t' => intro e; exact hc d (by simp) (UInt8.toNat_inj.1 (by show d.toNat = 13; simp only [List.cons_append, hd] at e; omega))
  have hS : (⟨10 :: (c ++ (closeL k ++ t)), li, co + 1⟩ : St).nextS.rest = c ++ (closeL k ++ t) := by
    rw [St.nextS_brk (Or.inl rfl), St.newline_pos (by decide)]
    have : pair ((10 : UInt8).toNat : Int) (hd (c ++ (closeL k ++ t))) = false := by
      unfold pair
      rw [show (hd (c ++ (closeL k ++ t)) == 13) = false from beq_eq_false_iff_ne.2 hhd]; rfl
    show (if pair ((10 : UInt8).toNat : Int) (hd (c ++ (closeL k ++ t))) = true then _ else _) = _
    rw [this]; rfl
  have hC : (⟨10 :: (c ++ (closeL k ++ t)), li, co + 1⟩ : St).nextC = 10 := St.nextC_brk (Or.inl rfl)
  unfold long
  rw [hsp]
  simp only
  rw [if_pos trivial]
  unfold longB
  rw [if_pos (Or.inl hC)]
  simp only
  generalize (⟨10 :: (c ++ (closeL k ++ t)), li, co + 1⟩ : St).nextS = s2 at hS ⊢
  have hl := longL_is k s2 []
  have hst : stream s2.rest = c ++ (closeL k ++ stream t) := by
    rw [hS, ← stream_close]
    exact stream_noCR c _ hc
  rw [hst] at hl
  unfold LongIs at hl
  have hf2 := findC_app (stream t) hf
  rw [List.append_assoc] at hf2
  rw [hf2] at hl
  obtain ⟨g1, g2, g3⟩ := hl
  generalize longL k s2.nextC s2.nextS [] = R at g1 g2 g3
  obtain ⟨ok, tx, s'⟩ := R
  simp only at g1 g2 g3
  refine ⟨s', ?_, ?_⟩
  · rw [g1, g2]; simp
  · rw [g3]
    have hcl : (closeL k).length = k + 2 := by simp [closeL]
    rw [← List.append_assoc, List.drop_append, List.drop_eq_nil_of_le (by simp [hcl]; omega)]
    simp [hcl, Nat.add_assoc]
end Go.Proofs.YtoibhhbhohpljaaDoor
