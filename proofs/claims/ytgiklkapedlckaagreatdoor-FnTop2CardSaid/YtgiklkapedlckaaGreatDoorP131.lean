/- The laws of package n005_131 in plain Lean: counts and columns, escapes, strings, long brackets. No program in sight. -/
import Derived.Test.YtgiklkapedlckaaGreatDoorStream
namespace Go.Proofs.YtgiklkapedlckaaGreatDoor

/-- Where countSep stands. -/
theorem sep_pos (l : List UInt8) : 1 ≤ (sepL 61 ⟨l, 1, 0⟩).1 ∧
    ((sepL 61 ⟨l, 1, 0⟩).2.1 = -1 → (sepL 61 ⟨l, 1, 0⟩).2.2.line = -1 ∧ (sepL 61 ⟨l, 1, 0⟩).2.2.col = 0) ∧
    ((sepL 61 ⟨l, 1, 0⟩).2.1 = 10 → (sepL 61 ⟨l, 1, 0⟩).2.2.line = 2 ∧ (sepL 61 ⟨l, 1, 0⟩).2.2.col = 0) ∧
    ((sepL 61 ⟨l, 1, 0⟩).2.1 ≠ -1 → (sepL 61 ⟨l, 1, 0⟩).2.1 ≠ 10 → (sepL 61 ⟨l, 1, 0⟩).2.2.line = 1 ∧ (sepL 61 ⟨l, 1, 0⟩).2.2.col = ((sepL 61 ⟨l, 1, 0⟩).1 : Nat)) := by
  rw [sepL_yes, sepL_pre]
  have hl : ((⟨l, 1, 0⟩ : St).adv eqI).line = 1 := rfl
  have hc : ((⟨l, 1, 0⟩ : St).adv eqI).col = (((⟨l, 1, 0⟩ : St).run eqI).length : Nat) := by show (0 : Int) + _ = _; rw [Int.zero_add]; rfl
  generalize ((⟨l, 1, 0⟩ : St).run eqI).length = n at hc ⊢
  generalize (⟨l, 1, 0⟩ : St).adv eqI = a at hl hc ⊢
  obtain ⟨rest, line, col⟩ := a
  obtain rfl : line = 1 := hl
  obtain rfl : col = (n : Int) := hc
  refine ⟨by simp, ?_⟩
  cases rest with
  | nil => rw [St.nextC_eof rfl, St.nextS_eof rfl]; simp
  | cons c t =>
    by_cases h : (c.toNat : Int) = 10 ∨ (c.toNat : Int) = 13
    · rw [St.nextC_brk h, St.nextS_brk h, St.newline_pos (by omega)]; simp
    · rw [St.nextC_else h, St.nextS_else h]
      refine ⟨fun e => by simp only at e; omega, fun e => absurd (Or.inl e) h, fun _ _ => ⟨rfl, by simp⟩⟩

/-- Where scanEscape stands: how many digits it ate. -/
def digs (l : List UInt8) : Nat := min 3 (l.takeWhile (onB decI)).length
theorem digs_cons {c : UInt8} {t : List UInt8} (h : onB decI c = true) : digs (c :: t) = 1 + min 2 (t.takeWhile (onB decI)).length := by
  unfold digs; rw [List.takeWhile_cons, if_pos h, List.length_cons]; omega
theorem dec_nobrk {c : UInt8} (h : onB decI c = true) : ¬ ((c.toNat : Int) = 10 ∨ (c.toNat : Int) = 13) := by
  simp only [onB, decI, Bool.and_eq_true, decide_eq_true_eq] at h
  omega
theorem esc_pos (l : List UInt8) : (l = [] → (esc ⟨l, 1, 0⟩).2.line = -1 ∧ (esc ⟨l, 1, 0⟩).2.col = 0) ∧
    ∀ c t, l = c :: t → (((c.toNat : Int) = 10 ∨ (c.toNat : Int) = 13) → (esc ⟨l, 1, 0⟩).2.line = 2 ∧ (esc ⟨l, 1, 0⟩).2.col = 0) ∧
      (onB decI c = true → (esc ⟨l, 1, 0⟩).2.line = 1 ∧ (esc ⟨l, 1, 0⟩).2.col = (digs l : Nat)) ∧
      (onB decI c = false → ¬ ((c.toNat : Int) = 10 ∨ (c.toNat : Int) = 13) → (esc ⟨l, 1, 0⟩).2.line = 1 ∧ (esc ⟨l, 1, 0⟩).2.col = 1) := by
  constructor
  · rintro rfl
    unfold esc
    rw [St.nextC_eof rfl, St.nextS_eof rfl]
    exact ⟨rfl, rfl⟩
  · rintro c t rfl
    refine ⟨fun h => ?_, fun h => ?_, fun h hb => ?_⟩
    · unfold esc
      rw [St.nextC_brk h, St.nextS_brk h, St.newline_pos (by omega)]
      exact ⟨rfl, rfl⟩
    · rw [digs_cons h]
      unfold esc
      rw [St.nextC_else (dec_nobrk h), St.nextS_else (dec_nobrk h), if_pos (by exact h)]
      cases t with
      | nil => exact ⟨rfl, rfl⟩
      | cons d t =>
        cases hd1 : onB decI d with
        | false =>
          rw [if_neg (by show ¬ (onB decI d = true); rw [hd1]; decide)]
          exact ⟨rfl, by simp [hd1]⟩
        | true =>
          rw [if_pos (by exact hd1)]
          have e1 : dig1 ((c.toNat : Int) - 48) ⟨d :: t, 1, 0 + 1⟩ = ((((c.toNat : Int) - 48) * 10 + ((d.toNat : Int) - 48)), ⟨t, 1, 0 + 1 + 1⟩) := by
            unfold dig1
            rw [if_pos (by exact hd1), St.nextC_else (dec_nobrk hd1), St.nextS_else (dec_nobrk hd1)]
          rw [e1]
          rw [List.takeWhile_cons, if_pos hd1]
          cases t with
          | nil => exact ⟨rfl, rfl⟩
          | cons f t =>
            cases hf : onB decI f with
            | false =>
              have e2 : dig1 ((((c.toNat : Int) - 48) * 10 + ((d.toNat : Int) - 48))) ⟨f :: t, 1, 0 + 1 + 1⟩ = ((((c.toNat : Int) - 48) * 10 + ((d.toNat : Int) - 48)), ⟨f :: t, 1, 0 + 1 + 1⟩) := by
                unfold dig1; rw [if_neg (by show ¬ (onB decI f = true); rw [hf]; decide)]
              rw [e2]
              exact ⟨rfl, by simp [hf]⟩
            | true =>
              have e2 : (dig1 ((((c.toNat : Int) - 48) * 10 + ((d.toNat : Int) - 48))) ⟨f :: t, 1, 0 + 1 + 1⟩).2 = ⟨t, 1, 0 + 1 + 1 + 1⟩ := by
                unfold dig1; rw [if_pos (by exact hf), St.nextS_else (dec_nobrk hf)]
              rw [e2]
              refine ⟨rfl, ?_⟩
              rw [List.takeWhile_cons, if_pos hf, List.length_cons, List.length_cons]
              have : min 2 ((List.takeWhile (onB decI) t).length + 1 + 1) = 2 := by omega
              rw [this]; rfl
    · unfold esc
      rw [St.nextC_else hb, St.nextS_else hb, if_neg (by show ¬ (onB decI c = true); rw [h]; decide)]
      exact ⟨rfl, rfl⟩

/-- A byte as it is written in a literal between quotes q. -/
def encB (q : Int) (b : UInt8) : List UInt8 :=
  if (b.toNat : Int) = q ∨ b = 92 ∨ b = 10 ∨ b = 13 then [92, 48 + b / 100, 48 + b / 10 % 10, 48 + b % 10] else [b]
def encL (q : Int) : List UInt8 → List UInt8
  | [] => []
  | b :: t => encB q b ++ encL q t
theorem encL_snoc (q : Int) (l : List UInt8) (b : UInt8) : encL q (l ++ [b]) = encL q l ++ encB q b := by
  induction l with
  | nil => simp [encL]
  | cons c t ih => simp [encL, ih]
theorem encB_len (q : Int) (b : UInt8) : (encB q b).length ≤ 4 ∧ 1 ≤ (encB q b).length := by
  unfold encB; split <;> simp
theorem encL_len (q : Int) (l : List UInt8) : (encL q l).length ≤ 4 * l.length := by
  induction l with
  | nil => simp [encL]
  | cons c t ih =>
    have := (encB_len q c).1
    simp only [encL, List.length_append, List.length_cons]; omega
theorem dig_dec (k : Nat) (h : k ≤ 9) (b : UInt8) (hb : b.toNat = 48 + k) : onB decI b = true := by
  simp only [onB, decI, Bool.and_eq_true, decide_eq_true_eq]; omega
theorem enc_digits (b : UInt8) : (48 + b / 100).toNat = 48 + b.toNat / 100 ∧ (48 + b / 10 % 10).toNat = 48 + b.toNat / 10 % 10 ∧ (48 + b % 10).toNat = 48 + b.toNat % 10 := by
  have := b.toNat_lt
  refine ⟨?_, ?_, ?_⟩ <;> simp only [UInt8.toNat_add, UInt8.toNat_div, UInt8.toNat_mod, UInt8.reduceToNat] <;> omega
/-- An escape of three digits is the byte. -/
theorem esc_enc (b : UInt8) (t : List UInt8) (line col : Int) : ∃ st, esc ⟨(48 + b / 100) :: (48 + b / 10 % 10) :: (48 + b % 10) :: t, line, col⟩ = (b, st) ∧ st.rest = t := by
  obtain ⟨h1, h2, h3⟩ := enc_digits b
  have hb := b.toNat_lt
  generalize 48 + b / 100 = d1 at h1 ⊢
  generalize 48 + b / 10 % 10 = d2 at h2 ⊢
  generalize 48 + b % 10 = d3 at h3 ⊢
  have g1 := dig_dec (b.toNat / 100) (by omega) d1 h1
  have g2 := dig_dec (b.toNat / 10 % 10) (by omega) d2 h2
  have g3 := dig_dec (b.toNat % 10) (by omega) d3 h3
  refine ⟨⟨t, line, col + 1 + 1 + 1⟩, ?_, rfl⟩
  unfold esc
  rw [St.nextC_else (dec_nobrk g1), St.nextS_else (dec_nobrk g1), if_pos (by exact g1), if_pos (by exact g2)]
  have e1 : dig1 ((d1.toNat : Int) - 48) ⟨d2 :: d3 :: t, line, col + 1⟩ = ((((d1.toNat : Int) - 48) * 10 + ((d2.toNat : Int) - 48)), ⟨d3 :: t, line, col + 1 + 1⟩) := by
    unfold dig1
    rw [if_pos (by exact g2), St.nextC_else (dec_nobrk g2), St.nextS_else (dec_nobrk g2)]
  have e2 : dig1 ((((d1.toNat : Int) - 48) * 10 + ((d2.toNat : Int) - 48))) ⟨d3 :: t, line, col + 1 + 1⟩ = (((((d1.toNat : Int) - 48) * 10 + ((d2.toNat : Int) - 48)) * 10 + ((d3.toNat : Int) - 48)), ⟨t, line, col + 1 + 1 + 1⟩) := by
    unfold dig1
    rw [if_pos (by exact g3), St.nextC_else (dec_nobrk g3), St.nextS_else (dec_nobrk g3)]
  rw [e1, e2]
  have : ((((d1.toNat : Int) - 48) * 10 + ((d2.toNat : Int) - 48)) * 10 + ((d3.toNat : Int) - 48)) = (b.toNat : Int) := by omega
  simp only [this, by8_u8]
/-- scanString reads back what was written. -/
theorem str_enc (q : Int) (hq : 0 ≤ q ∧ q ≤ 255 ∧ q ≠ 10 ∧ q ≠ 13 ∧ q ≠ 92) (data tail : List UInt8) (st : St) (acc : List UInt8) (h : st.rest = encL q data ++ by8 q :: tail) :
    ∃ s', strL q st.nextC st.nextS acc = (true, acc ++ data, s') ∧ s'.rest = tail := by
  obtain ⟨rest, line, col⟩ := st
  obtain rfl : rest = encL q data ++ by8 q :: tail := h
  induction data generalizing line col acc with
  | nil =>
    have hb : ((by8 q).toNat : Int) = q := by rw [by8_toNat]; omega
    have hn : ¬ (((by8 q).toNat : Int) = 10 ∨ ((by8 q).toNat : Int) = 13) := by rw [hb]; omega
    show ∃ s', strL q (⟨by8 q :: tail, line, col⟩ : St).nextC (⟨by8 q :: tail, line, col⟩ : St).nextS acc = _ ∧ _
    rw [St.nextC_else hn, St.nextS_else hn, hb, strL_close]
    exact ⟨_, by rw [List.append_nil], rfl⟩
  | cons b t ih =>
    show ∃ s', strL q (⟨encB q b ++ encL q t ++ by8 q :: tail, line, col⟩ : St).nextC (⟨encB q b ++ encL q t ++ by8 q :: tail, line, col⟩ : St).nextS acc = _ ∧ _
    by_cases hs : (b.toNat : Int) = q ∨ b = 92 ∨ b = 10 ∨ b = 13
    · have he : encB q b = [92, 48 + b / 100, 48 + b / 10 % 10, 48 + b % 10] := if_pos hs
      rw [he]
      obtain ⟨s1, e1, e2⟩ := esc_enc b (encL q t ++ by8 q :: tail) line (col + 1)
      show ∃ s', strL q (⟨92 :: ((48 + b / 100) :: (48 + b / 10 % 10) :: (48 + b % 10) :: (encL q t ++ by8 q :: tail)), line, col⟩ : St).nextC (⟨92 :: ((48 + b / 100) :: (48 + b / 10 % 10) :: (48 + b % 10) :: (encL q t ++ by8 q :: tail)), line, col⟩ : St).nextS acc = _ ∧ _
      rw [St.nextC_else (by decide), St.nextS_else (by decide)]
      show ∃ s', strL q 92 _ acc = _ ∧ _
      rw [strL_esc (by omega), e1]
      obtain ⟨r1, l1, c1⟩ := s1
      obtain rfl : r1 = encL q t ++ by8 q :: tail := e2
      obtain ⟨s', h1, h2⟩ := ih (acc ++ [b]) l1 c1
      exact ⟨s', by rw [h1]; simp, h2⟩
    · have he : encB q b = [b] := if_neg hs
      rw [he]
      have hn : ¬ ((b.toNat : Int) = 10 ∨ (b.toNat : Int) = 13) := by
        rintro (e | e)
        · exact hs (Or.inr (Or.inr (Or.inl (UInt8.toNat_inj.1 (by show b.toNat = 10; omega)))))
        · exact hs (Or.inr (Or.inr (Or.inr (UInt8.toNat_inj.1 (by show b.toNat = 13; omega)))))
      have h92 : (b.toNat : Int) ≠ 92 := fun e => hs (Or.inr (Or.inl (UInt8.toNat_inj.1 (by show b.toNat = 92; omega))))
      have hbq : (b.toNat : Int) ≠ q := fun e => hs (Or.inl e)
      show ∃ s', strL q (⟨b :: (encL q t ++ by8 q :: tail), line, col⟩ : St).nextC (⟨b :: (encL q t ++ by8 q :: tail), line, col⟩ : St).nextS acc = _ ∧ _
      rw [St.nextC_else hn, St.nextS_else hn, strL_byte hbq (by omega) h92, by8_u8]
      obtain ⟨s', h1, h2⟩ := ih (acc ++ [b]) line (col + 1)
      exact ⟨s', by rw [h1]; simp, h2⟩
end Go.Proofs.YtgiklkapedlckaaGreatDoor
