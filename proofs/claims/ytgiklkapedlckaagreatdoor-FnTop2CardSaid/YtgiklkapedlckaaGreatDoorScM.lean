/- Scan as a plain function on the scanner's state. No program in sight. -/
import Derived.Test.YtgiklkapedlckaaGreatDoorStream
import Derived.Test.YtgiklkapedlckaaGreatDoorWsP
namespace Go.Proofs.YtgiklkapedlckaaGreatDoor

/-- The reserved words and their token types. -/
def kwTab : List (List UInt8 × Int) := [([97, 110, 100], 57346), ([98, 114, 101, 97, 107], 57347), ([100, 111], 57348), ([101, 108, 115, 101], 57349), ([101, 108, 115, 101, 105, 102], 57350), ([101, 110, 100], 57351), ([102, 97, 108, 115, 101], 57352), ([102, 111, 114], 57353), ([102, 117, 110, 99, 116, 105, 111, 110], 57354), ([105, 102], 57355), ([105, 110], 57356), ([108, 111, 99, 97, 108], 57357), ([110, 105, 108], 57358), ([110, 111, 116], 57359), ([111, 114], 57360), ([114, 101, 116, 117, 114, 110], 57361), ([114, 101, 112, 101, 97, 116], 57362), ([116, 104, 101, 110], 57363), ([116, 114, 117, 101], 57364), ([117, 110, 116, 105, 108], 57365), ([119, 104, 105, 108, 101], 57366), ([103, 111, 116, 111], 57367)]
def kwIn : List (List UInt8 × Int) → List UInt8 → Int
  | [], _ => 57375
  | (k, v) :: r, s => if k = s then v else kwIn r s
def kw (s : List UInt8) : Int := kwIn kwTab s

/-- The masks of white space without and with line breaks. -/
def mk1 : Int := 4294967808
def mk2 : Int := 4294977024
theorem mk_bits : ∀ k, k < 64 → bitM mk1 k = (k == 9 || k == 32) ∧ bitM mk2 k = (k == 9 || k == 10 || k == 13 || k == 32) := by decide
theorem in_mk1 {c : Int} (h0 : -1 ≤ c) (h1 : c ≤ 255) : inM mk1 c = decide (c = 9 ∨ c = 32) := by
  by_cases h : 0 ≤ c ∧ c < 64
  · rw [inM_bit mk1 c h.1 h.2, (mk_bits c.toNat (by omega)).1]
    rw [Bool.eq_iff_iff, decide_eq_true_eq, Bool.or_eq_true, beq_iff_eq, beq_iff_eq]; omega
  · rw [inM_out mk1 c (by omega)]
    symm; rw [decide_eq_false_iff_not]; omega
theorem in_mk2 {c : Int} (h0 : -1 ≤ c) (h1 : c ≤ 255) : inM mk2 c = decide (c = 9 ∨ c = 10 ∨ c = 13 ∨ c = 32) := by
  by_cases h : 0 ≤ c ∧ c < 64
  · rw [inM_bit mk2 c h.1 h.2, (mk_bits c.toNat (by omega)).2]
    rw [Bool.eq_iff_iff, decide_eq_true_eq]
    simp only [Bool.or_eq_true, beq_iff_eq]; omega
  · rw [inM_out mk2 c (by omega)]
    symm; rw [decide_eq_false_iff_not]; omega

theorem skip_rest (m : Int) (st : St) : (st.skip m).2.rest.length ≤ st.rest.length ∧ (0 ≤ (st.skip m).1 → (st.skip m).2.rest.length < st.rest.length) ∧ -1 ≤ (st.skip m).1 ∧ (st.skip m).1 ≤ 255 ∧ (st.skip m).1 ≠ 13 := by
  generalize hn : st.rest.length = n
  induction n using Nat.strongRecOn generalizing st with
  | _ n ih =>
    cases h : inM m st.nextC
    · rw [skip_stop h]
      refine ⟨hn ▸ rest_next_le st, fun h0 => ?_, st.nextC_lo, st.nextC_hi, st.nextC_cr⟩
      have hr : st.rest ≠ [] := fun e => by
        have h5 := St.nextC_eof e
        simp only at h0
        omega
      exact hn ▸ (St.nextS_len hr).1
    · have hl := (St.nextS_len (rest_of_inM h)).1
      rw [skip_more h]
      have := ih _ (by omega) st.nextS rfl
      refine ⟨by omega, fun h0 => ?_, this.2.2⟩
      have := this.2.1 h0; omega

/-- Behind the white space: the character in hand, was there a line break, the state. -/
def lead (st : St) : Int × Bool × St := if (st.skip mk1).1 = 10 then (((st.skip mk1).2.skip mk2).1, true, ((st.skip mk1).2.skip mk2).2) else ((st.skip mk1).1, false, (st.skip mk1).2)
theorem lead_rest (st : St) : (lead st).2.2.rest.length ≤ st.rest.length ∧ (0 ≤ (lead st).1 → (lead st).2.2.rest.length < st.rest.length) ∧ -1 ≤ (lead st).1 ∧ (lead st).1 ≤ 255 ∧ (lead st).1 ≠ 13 := by
  have h1 := skip_rest mk1 st
  have h2 := skip_rest mk2 (st.skip mk1).2
  unfold lead
  split
  · refine ⟨Nat.le_trans h2.1 h1.1, fun h0 => Nat.lt_of_lt_of_le (h2.2.1 h0) h1.1, h2.2.2⟩
  · exact h1

theorem lineL_rest (c : Int) (st : St) : (lineL c st).rest.length ≤ st.rest.length := by
  generalize hn : mu c st = n
  induction n using Nat.strongRecOn generalizing c st with
  | _ n ih =>
    by_cases h : c = 10 ∨ c = 13 ∨ c < 0
    · rw [lineL_stop h]; exact Nat.le_refl _
    · rw [lineL_more h]
      have h1 := mu_next (c := c) (st := st) (by omega)
      have := ih _ (by omega) st.nextC st.nextS rfl
      have := rest_next_le st
      omega
theorem longB_rest (st : St) : (longB st).2.rest.length ≤ st.rest.length := by
  have h1 := rest_next_le st
  have h2 := rest_next_le st.nextS
  unfold longB; split <;> simp only <;> omega
theorem long_rest (c : Int) (st : St) : (long c st).2.2.rest.length ≤ st.rest.length := by
  have h1 := sepL_rest c st
  unfold long
  split
  · have h2 := (longL_rest (sepL c st).1 (longB (sepL c st).2.2).1 (longB (sepL c st).2.2).2 []).1
    have h3 := longB_rest (sepL c st).2.2
    omega
  · exact h1
theorem comment_rest (c : Int) (st : St) : (comment c st).2.rest.length ≤ st.rest.length := by
  have h1 := rest_next_le st
  unfold comment
  split
  · split
    · have h2 := long_rest st.nextS.nextC st.nextS.nextS
      have h3 := rest_next_le st.nextS
      simp only; omega
    · have := lineL_rest 91 st.nextS
      simp only; omega
  · exact lineL_rest c st

/-- What is a token by its first character alone. -/
def lone (c : Int) : Bool := c == 45 || c == 43 || c == 42 || c == 47 || c == 37 || c == 94 || c == 35 || c == 40 || c == 41 || c == 123 || c == 125 || c == 93 || c == 59 || c == 44
def one (c : Int) (st : St) : Bool × Int × List UInt8 × St := (true, c, [by8 c], st)
def two (c : Int) (st : St) (k t : Int) (s : List UInt8) : Bool × Int × List UInt8 × St := if hd st.rest = k then (true, t, s, st.nextS) else one c st
def numK (c : Int) (st : St) : Bool × Int × List UInt8 × St := ((num c st).1, 57376, (num c st).2.1, (num c st).2.2)
def strK (c : Int) (st : St) : Bool × Int × List UInt8 × St := ((strL c st.nextC st.nextS []).1, 57377, (strL c st.nextC st.nextS []).2.1, (strL c st.nextC st.nextS []).2.2)
def longK (st : St) : Bool × Int × List UInt8 × St := ((long st.nextC st.nextS).1, 57377, (long st.nextC st.nextS).2.1, (long st.nextC st.nextS).2.2)
def identK (c : Int) (st : St) : Bool × Int × List UInt8 × St := (true, kw (by8 c :: st.run identI), by8 c :: st.run identI, st.adv identI)
def dotK (st : St) : Bool × Int × List UInt8 × St :=
  if decI (hd st.rest) = true then numK 46 st
  else if hd st.rest = 46 then (if hd st.nextS.rest = 46 then (true, 57373, [46, 46, 46], st.nextS.nextS) else (true, 57372, [46, 46], st.nextS))
  else (true, 46, [], st)
/-- The token whose first character is c (no comment): is it one, its type, its text, the state behind it. -/
def tokL (c : Int) (st : St) : Bool × Int × List UInt8 × St :=
  if identS c = true then identK c st
  else if decI c = true then numK c st
  else if c = -1 then (true, -1, [], st)
  else if c = 34 ∨ c = 39 then strK c st
  else if c = 91 then (if hd st.rest = 91 ∨ hd st.rest = 61 then longK st else one c st)
  else if c = 61 then two c st 61 57368 [61, 61]
  else if c = 126 then (if hd st.rest = 61 then (true, 57369, [126, 61], st.nextS) else (false, 0, [], st))
  else if c = 60 then two c st 61 57370 [60, 61]
  else if c = 62 then two c st 61 57371 [62, 61]
  else if c = 46 then dotK st
  else if c = 58 then two c st 58 57374 [58, 58]
  else if lone c = true then one c st
  else (false, 0, [], st)

/-- A scan's result. -/
structure Res where
  ok : Bool
  typ : Int
  str : List UInt8
  line : Int
  col : Int
  pnl : Bool
  nl : Bool
  st : St
def resOf (prev : Int) (l : Int × Bool × St) (r : Bool × Int × List UInt8 × St) : Res :=
  ⟨r.1, r.2.1, r.2.2.1, l.2.2.line, l.2.2.col, decide (l.1 = 40 ∧ prev = 41) && l.2.1, l.2.1, r.2.2.2⟩
/-- Scan. -/
def scanL (prev : Int) (st : St) : Res :=
  if h : (lead st).1 = 45 ∧ hd (lead st).2.2.rest = 45 then
    if (comment (lead st).2.2.nextC (lead st).2.2.nextS).1 = true then scanL prev (comment (lead st).2.2.nextC (lead st).2.2.nextS).2
    else resOf prev (lead st) (false, 45, [], (comment (lead st).2.2.nextC (lead st).2.2.nextS).2)
  else resOf prev (lead st) (tokL (lead st).1 (lead st).2.2)
termination_by st.rest.length
decreasing_by
  have h1 := (lead_rest st).2.1 (by omega)
  have h2 := comment_rest (lead st).2.2.nextC (lead st).2.2.nextS
  have h3 := rest_next_le (lead st).2.2
  omega
theorem scanL_again {prev : Int} {st : St} (h : (lead st).1 = 45 ∧ hd (lead st).2.2.rest = 45) (hc : (comment (lead st).2.2.nextC (lead st).2.2.nextS).1 = true) :
    scanL prev st = scanL prev (comment (lead st).2.2.nextC (lead st).2.2.nextS).2 := by
  rw [scanL, dif_pos h, if_pos hc]
theorem scanL_bad {prev : Int} {st : St} (h : (lead st).1 = 45 ∧ hd (lead st).2.2.rest = 45) (hc : (comment (lead st).2.2.nextC (lead st).2.2.nextS).1 = false) :
    scanL prev st = resOf prev (lead st) (false, 45, [], (comment (lead st).2.2.nextC (lead st).2.2.nextS).2) := by
  rw [scanL, dif_pos h, if_neg (by rw [hc]; decide)]
theorem scanL_tok {prev : Int} {st : St} (h : ¬ ((lead st).1 = 45 ∧ hd (lead st).2.2.rest = 45)) : scanL prev st = resOf prev (lead st) (tokL (lead st).1 (lead st).2.2) := by
  rw [scanL, dif_neg h]
end Go.Proofs.YtgiklkapedlckaaGreatDoor
