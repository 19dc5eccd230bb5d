/- A numeral scanned again from its own text gives the same numeral. No program in sight. -/
import Derived.Test.YtpjnggpjcbojcaaDoorStream
namespace Go.Proofs.YtpjnggpjcbojcaaDoor

theorem tw_app {p : Int → Bool} (d q : List UInt8) (hd' : ∀ b ∈ d, onB p b = true) (hq : p (hd q) = false) (h0 : p (-1) = false) : (d ++ q).takeWhile (onB p) = d ∧ (d ++ q).dropWhile (onB p) = q := by
  induction d with
  | nil =>
    cases q with
    | nil => exact ⟨rfl, rfl⟩
    | cons x t =>
      have hx : onB p x = false := hq
      simp [List.takeWhile_cons, List.dropWhile_cons, hx]
  | cons b d ih =>
    have hb : onB p b = true := hd' b (by simp)
    have := ih (fun x hx => hd' x (by simp [hx]))
    simp [List.takeWhile_cons, List.dropWhile_cons, hb, this.1, this.2]
theorem dec_app (c line col : Int) (d q : List UInt8) (hd' : ∀ b ∈ d, onB decI b = true) (hq : decI (hd q) = false) : ∃ k, dec c ⟨d ++ q, line, col⟩ = (by8 c :: d, ⟨q, line, k⟩) := by
  have h := tw_app d q hd' hq rfl
  refine ⟨col + d.length, ?_⟩
  unfold dec St.run St.adv
  simp only
  rw [h.1, h.2]
theorem run_all (p : Int → Bool) (st : St) : ∀ b ∈ st.run p, onB p b = true := fun b hb => all_run p st.rest b hb
theorem by8_small {x : Int} (h0 : 0 ≤ x) (h1 : x ≤ 255) : ((by8 x).toNat : Int) = x := by rw [by8_toNat]; omega
theorem by8_is {x : Int} {k : Int} (h0 : -1 ≤ x) (h1 : x ≤ 255) (hk : k < 255) (hk0 : 0 ≤ k) (h : ((by8 x).toNat : Int) = k) : x = k := by
  rw [by8_toNat] at h; omega
/-- Next of a byte that is no CR, where no CR follows. -/
theorem next_no13 (y : UInt8) (q : List UInt8) (line col : Int) (hy : (y.toNat : Int) ≠ 13) (hq : hd q ≠ 13) : ∃ l' c', (⟨y :: q, line, col⟩ : St).nextC = y.toNat ∧ (⟨y :: q, line, col⟩ : St).nextS = ⟨q, l', c'⟩ := by
  by_cases h10 : (y.toNat : Int) = 10
  · have hb : (y.toNat : Int) = 10 ∨ (y.toNat : Int) = 13 := Or.inl h10
    refine ⟨line + 1, 0, ?_, ?_⟩
    · rw [St.nextC_brk hb, h10]
    · rw [St.nextS_brk hb, St.newline_pos (by omega)]
      have hp : pair y.toNat (hd q) = false := by
        unfold pair
        rw [h10]
        have : (hd q == 13) = false := by rw [beq_eq_false_iff_ne]; exact hq
        simp [this]
      simp only [hp]
      rfl
  · have hb : ¬ ((y.toNat : Int) = 10 ∨ (y.toNat : Int) = 13) := by omega
    exact ⟨line, col + 1, St.nextC_else hb, St.nextS_else hb⟩
theorem digit_no13 (d : List UInt8) (h : ∀ b ∈ d, onB decI b = true) : hd (d ++ [59]) ≠ 13 ∧ (∀ b t, d ++ [59] = b :: t → (b.toNat : Int) ≠ 13) := by
  cases d with
  | nil => exact ⟨by decide, fun b t e => by cases e; decide⟩
  | cons b d =>
    have hb : decI b.toNat = true := h b (by simp)
    have h13 : (b.toNat : Int) ≠ 13 := by
      intro e; rw [e] at hb; exact absurd hb (by decide)
    exact ⟨h13, fun b' t e => by cases e; exact h13⟩
/-- What an exponent's text may begin with. -/
theorem expo_hd (st : St) : hd ((expo st).1 ++ [59]) = 59 ∨ hd ((expo st).1 ++ [59]) = 101 ∨ hd ((expo st).1 ++ [59]) = 69 := by
  unfold expo
  split
  · rename_i h
    have hc : st.nextC = hd st.rest := by unfold St.nextC; rw [if_neg (by omega)]
    show ((by8 st.nextC).toNat : Int) = 59 ∨ ((by8 st.nextC).toNat : Int) = 101 ∨ ((by8 st.nextC).toNat : Int) = 69
    rw [hc, by8_small (by omega) (hd_hi _)]
    omega
  · exact Or.inl rfl
theorem dec_again (st : St) (line col : Int) : ∃ l' c', ∃ x : Int × St, x = ((⟨(dec st.nextC st.nextS).1 ++ [59], line, col⟩ : St).nextC, (⟨(dec st.nextC st.nextS).1 ++ [59], line, col⟩ : St).nextS) ∧ dec x.1 x.2 = ((dec st.nextC st.nextS).1, ⟨[59], l', c'⟩) := by
  have hall := run_all decI st.nextS
  have h13 := digit_no13 _ hall
  have hy : ((by8 st.nextC).toNat : Int) ≠ 13 := by
    intro e
    exact st.nextC_cr (by8_is st.nextC_lo st.nextC_hi (by decide) (by decide) e)
  obtain ⟨l', c', e1, e2⟩ := next_no13 (by8 st.nextC) (st.nextS.run decI ++ [59]) line col hy h13.1
  obtain ⟨k, e3⟩ := dec_app ((by8 st.nextC).toNat) l' c' (st.nextS.run decI) [59] hall (by decide)
  refine ⟨l', k, _, rfl, ?_⟩
  show dec (⟨by8 st.nextC :: (st.nextS.run decI ++ [59]), line, col⟩ : St).nextC (⟨by8 st.nextC :: (st.nextS.run decI ++ [59]), line, col⟩ : St).nextS = _
  rw [e1, e2, e3, by8_u8]
  rfl
theorem expo_again (st : St) (line col : Int) : ∃ l' c', expo ⟨(expo st).1 ++ [59], line, col⟩ = ((expo st).1, ⟨[59], l', c'⟩) := by
  by_cases h : hd st.rest = 101 ∨ hd st.rest = 69
  · have hc : st.nextC = hd st.rest := by unfold St.nextC; rw [if_neg (by omega)]
    have hE : (expo st).1 = by8 st.nextC :: ((sign st.nextS).1 ++ (dec (sign st.nextS).2.nextC (sign st.nextS).2.nextS).1) := by unfold expo; rw [if_pos h]
    rw [hE]
    have hb := by8_small (x := st.nextC) (by omega) st.nextC_hi
    generalize st.nextS = s1
    have hnb : ¬ (((by8 st.nextC).toNat : Int) = 10 ∨ ((by8 st.nextC).toNat : Int) = 13) := by omega
    have h2 : hd (by8 st.nextC :: ((sign s1).1 ++ (dec (sign s1).2.nextC (sign s1).2.nextS).1) ++ [59]) = 101 ∨ hd (by8 st.nextC :: ((sign s1).1 ++ (dec (sign s1).2.nextC (sign s1).2.nextS).1) ++ [59]) = 69 := by
      show ((by8 st.nextC).toNat : Int) = 101 ∨ ((by8 st.nextC).toNat : Int) = 69
      omega
    have hN : (⟨by8 st.nextC :: ((sign s1).1 ++ (dec (sign s1).2.nextC (sign s1).2.nextS).1) ++ [59], line, col⟩ : St).nextC = (by8 st.nextC).toNat := St.nextC_else hnb
    have hS : (⟨by8 st.nextC :: ((sign s1).1 ++ (dec (sign s1).2.nextC (sign s1).2.nextS).1) ++ [59], line, col⟩ : St).nextS = ⟨(sign s1).1 ++ (dec (sign s1).2.nextC (sign s1).2.nextS).1 ++ [59], line, col + 1⟩ := St.nextS_else hnb
    unfold expo
    simp only [if_pos h2, hN, hS, by8_u8]
    by_cases hs : hd s1.rest = 45 ∨ hd s1.rest = 43
    · have hc1 : s1.nextC = hd s1.rest := by unfold St.nextC; rw [if_neg (by omega)]
      have hb1 := by8_small (x := s1.nextC) (by omega) s1.nextC_hi
      have hsg : sign s1 = ([by8 s1.nextC], s1.nextS) := by unfold sign; rw [if_pos hs]
      rw [hsg]
      simp only [List.cons_append, List.nil_append]
      generalize s1.nextS = s2
      have hnb1 : ¬ (((by8 s1.nextC).toNat : Int) = 10 ∨ ((by8 s1.nextC).toNat : Int) = 13) := by omega
      have h21 : hd (by8 s1.nextC :: ((dec s2.nextC s2.nextS).1 ++ [59])) = 45 ∨ hd (by8 s1.nextC :: ((dec s2.nextC s2.nextS).1 ++ [59])) = 43 := by
        show ((by8 s1.nextC).toNat : Int) = 45 ∨ ((by8 s1.nextC).toNat : Int) = 43
        omega
      have hsg2 : sign ⟨by8 s1.nextC :: ((dec s2.nextC s2.nextS).1 ++ [59]), line, col + 1⟩ = ([by8 s1.nextC], ⟨(dec s2.nextC s2.nextS).1 ++ [59], line, col + 1 + 1⟩) := by
        unfold sign
        simp only [if_pos h21, St.nextC_else hnb1, St.nextS_else hnb1, by8_u8]
      rw [hsg2]
      obtain ⟨l', c', x, rfl, hx⟩ := dec_again s2 line (col + 1 + 1)
      simp only at hx ⊢
      rw [hx]
      exact ⟨l', c', rfl⟩
    · have hsg : sign s1 = ([], s1) := by unfold sign; rw [if_neg hs]
      rw [hsg]
      simp only [List.nil_append]
      have hy : ¬ (hd ((dec s1.nextC s1.nextS).1 ++ [59]) = 45 ∨ hd ((dec s1.nextC s1.nextS).1 ++ [59]) = 43) := by
        show ¬ (((by8 s1.nextC).toNat : Int) = 45 ∨ ((by8 s1.nextC).toNat : Int) = 43)
        rintro (e | e)
        · have := by8_is s1.nextC_lo s1.nextC_hi (by decide) (by decide) e
          rcases nc_or s1.rest with h7 | h7 <;> rw [nextC_nc] at this <;> omega
        · have := by8_is s1.nextC_lo s1.nextC_hi (by decide) (by decide) e
          rcases nc_or s1.rest with h7 | h7 <;> rw [nextC_nc] at this <;> omega
      have hsg2 : sign ⟨(dec s1.nextC s1.nextS).1 ++ [59], line, col + 1⟩ = ([], ⟨(dec s1.nextC s1.nextS).1 ++ [59], line, col + 1⟩) := by
        unfold sign; rw [if_neg hy]
      rw [hsg2]
      obtain ⟨l', c', x, rfl, hx⟩ := dec_again s1 line (col + 1)
      simp only at hx ⊢
      rw [hx]
      exact ⟨l', c', rfl⟩
  · have hE : (expo st).1 = [] := by unfold expo; rw [if_neg h]
    rw [hE]
    exact ⟨line, col, rfl⟩
theorem frac_again (st : St) (q : List UInt8) (hq : decI (hd q) = false) (hq2 : hd q ≠ 46) (line col : Int) : ∃ l' c', frac ⟨(frac st).1 ++ q, line, col⟩ = ((frac st).1, ⟨q, l', c'⟩) := by
  by_cases h : hd st.rest = 46
  · have hc : st.nextC = 46 := by unfold St.nextC; rw [if_neg (by omega)]; exact h
    have hF : (frac st).1 = by8 st.nextC :: st.nextS.run decI := by unfold frac; rw [if_pos h]; rfl
    rw [hF, hc]
    have hnb : ¬ (((by8 46).toNat : Int) = 10 ∨ ((by8 46).toNat : Int) = 13) := by decide
    have h2 : hd (by8 46 :: st.nextS.run decI ++ q) = 46 := by show ((by8 46).toNat : Int) = 46; decide
    obtain ⟨k, hk⟩ := dec_app ((by8 46).toNat) line (col + 1) (st.nextS.run decI) q (run_all decI st.nextS) hq
    have hN : (⟨by8 46 :: st.nextS.run decI ++ q, line, col⟩ : St).nextC = (by8 46).toNat := St.nextC_else hnb
    have hS : (⟨by8 46 :: st.nextS.run decI ++ q, line, col⟩ : St).nextS = ⟨st.nextS.run decI ++ q, line, col + 1⟩ := St.nextS_else hnb
    unfold frac
    simp only [if_pos h2, hN, hS]
    rw [hk, by8_u8]
    exact ⟨_, _, rfl⟩
  · have hF : (frac st).1 = [] := by unfold frac; rw [if_neg h]
    rw [hF]
    refine ⟨line, col, ?_⟩
    unfold frac
    rw [if_neg (by exact hq2)]
    rfl
theorem frac_hd (st : St) (q : List UInt8) (hq : decI (hd q) = false) : decI (hd ((frac st).1 ++ q)) = false := by
  by_cases h : hd st.rest = 46
  · have hc : st.nextC = 46 := by unfold St.nextC; rw [if_neg (by omega)]; exact h
    have hF : (frac st).1 = by8 st.nextC :: st.nextS.run decI := by unfold frac; rw [if_pos h]; rfl
    rw [hF, hc]
    show decI ((by8 46).toNat) = false
    decide
  · have hF : (frac st).1 = [] := by unfold frac; rw [if_neg h]
    rw [hF]; exact hq
/-- The numeral again. -/
theorem numT_again (c : Int) (st : St) (line col : Int) : ∃ t l' c', (numT c st).1 = by8 c :: t ∧ numT c ⟨t ++ [59], line, col⟩ = ((numT c st).1, ⟨[59], l', c'⟩) := by
  have he := expo_hd (frac (dec c st).2).2
  have hq1 : decI (hd ((expo (frac (dec c st).2).2).1 ++ [59])) = false := by
    rcases he with e | e | e <;> rw [e] <;> decide
  have hq2 : hd ((expo (frac (dec c st).2).2).1 ++ [59]) ≠ 46 := by
    rcases he with e | e | e <;> rw [e] <;> decide
  have hall := run_all decI st
  obtain ⟨k, h1⟩ := dec_app c line col (st.run decI) ((frac (dec c st).2).1 ++ ((expo (frac (dec c st).2).2).1 ++ [59])) hall (frac_hd _ _ hq1)
  obtain ⟨l2, c2, h2⟩ := frac_again (dec c st).2 _ hq1 hq2 line k
  obtain ⟨l3, c3, h3⟩ := expo_again (frac (dec c st).2).2 l2 c2
  refine ⟨st.run decI ++ ((frac (dec c st).2).1 ++ (expo (frac (dec c st).2).2).1), l3, c3, rfl, ?_⟩
  have e : st.run decI ++ ((frac (dec c st).2).1 ++ (expo (frac (dec c st).2).2).1) ++ [59] = st.run decI ++ ((frac (dec c st).2).1 ++ ((expo (frac (dec c st).2).2).1 ++ [59])) := by simp
  rw [e]
  unfold numT
  rw [h1, h2, h3]
  simp [dec]
end Go.Proofs.YtpjnggpjcbojcaaDoor
