/- The lexer's inner functions as plain functions on the scanner's state: separators, long brackets, comments, identifiers, numerals, escapes, strings. No program in sight. -/
import Derived.Test.YtgiklkapedlckaaGreatDoorSt
namespace Go.Proofs.YtgiklkapedlckaaGreatDoor

/-- The low eight bits. -/
def by8 (c : Int) : UInt8 := UInt8.ofNat (c % 256).toNat
theorem by8_toNat (c : Int) : ((by8 c).toNat : Int) = c % 256 := by
  have h1 : 0 ≤ c % 256 := Int.emod_nonneg _ (by decide)
  have h2 : c % 256 < 256 := Int.emod_lt_of_pos _ (by decide)
  unfold by8
  rw [UInt8.toNat_ofNat']
  omega
theorem by8_u8 (c : UInt8) : by8 (c.toNat : Int) = c := by
  apply UInt8.toNat_inj.1
  have := by8_toNat (c.toNat : Int)
  have := c.toNat_lt
  omega

/-- What the loops count down: the character in hand and what is left. -/
def mu (c : Int) (st : St) : Nat := if c < 0 then 0 else st.rest.length + 1
theorem mu_next {c : Int} {st : St} (h : 0 ≤ c) : mu st.nextC st.nextS < mu c st := by
  have e : mu c st = st.rest.length + 1 := if_neg (by omega)
  rw [e]
  unfold mu
  split
  · omega
  · rename_i hn
    have hr : st.rest ≠ [] := fun e => hn (St.nextC_neg.2 e)
    have := (St.nextS_len hr).1
    omega
theorem mu_next_le (st : St) : mu st.nextC st.nextS ≤ st.rest.length := by
  unfold mu
  split
  · omega
  · rename_i hn
    have hr : st.rest ≠ [] := fun e => hn (St.nextC_neg.2 e)
    have := (St.nextS_len hr).1
    omega
theorem rest_next_le (st : St) : st.nextS.rest.length ≤ st.rest.length := by
  by_cases h : st.rest = []
  · rw [St.nextS_eof h]; exact Nat.zero_le _
  · exact Nat.le_of_lt (St.nextS_len h).1
theorem mu_le (c : Int) (st : St) : mu c st ≤ st.rest.length + 1 := by unfold mu; split <;> omega

/-- countSep. -/
def sepL (c : Int) (st : St) : Nat × Int × St :=
  if h : c = 61 then ((sepL st.nextC st.nextS).1 + 1, (sepL st.nextC st.nextS).2) else (0, c, st)
termination_by mu c st
decreasing_by all_goals exact mu_next (by omega)
theorem sepL_yes (st : St) : sepL 61 st = ((sepL st.nextC st.nextS).1 + 1, (sepL st.nextC st.nextS).2) := by
  rw [sepL]; simp
theorem sepL_no {c : Int} {st : St} (h : c ≠ 61) : sepL c st = (0, c, st) := by
  rw [sepL]; simp [h]
theorem sepL_mu (c : Int) (st : St) : (sepL c st).1 + mu (sepL c st).2.1 (sepL c st).2.2 ≤ mu c st := by
  generalize hn : mu c st = n
  induction n using Nat.strongRecOn generalizing c st with
  | _ n ih =>
    by_cases h : c = 61
    · subst h
      have h1 := mu_next (c := 61) (st := st) (by decide)
      have := ih (mu st.nextC st.nextS) (by omega) _ _ rfl
      rw [sepL_yes]
      show (sepL st.nextC st.nextS).1 + 1 + mu (sepL st.nextC st.nextS).2.1 (sepL st.nextC st.nextS).2.2 ≤ n
      omega
    · rw [sepL_no h]; show 0 + mu c st ≤ n; omega
theorem sepL_rest (c : Int) (st : St) : (sepL c st).2.2.rest.length ≤ st.rest.length := by
  generalize hn : mu c st = n
  induction n using Nat.strongRecOn generalizing c st with
  | _ n ih =>
    by_cases h : c = 61
    · subst h
      have h1 := mu_next (c := 61) (st := st) (by decide)
      have := ih (mu st.nextC st.nextS) (by omega) _ _ rfl
      have := rest_next_le st
      rw [sepL_yes]
      show (sepL st.nextC st.nextS).2.2.rest.length ≤ _
      omega
    · rw [sepL_no h]; exact Nat.le_refl _

/-- A long bracket's body, behind its opening: is it closed; the text; what is left. -/
def longL (k : Nat) (c : Int) (st : St) (acc : List UInt8) : Bool × List UInt8 × St :=
  if h0 : c < 0 then (false, acc, st)
  else if h1 : c = 93 then
    if (sepL st.nextC st.nextS).1 = k ∧ (sepL st.nextC st.nextS).2.1 = 93 then (true, acc, (sepL st.nextC st.nextS).2.2)
    else longL k (sepL st.nextC st.nextS).2.1 (sepL st.nextC st.nextS).2.2 (acc ++ 93 :: List.replicate (sepL st.nextC st.nextS).1 61)
  else longL k st.nextC st.nextS (acc ++ [by8 c])
termination_by mu c st
decreasing_by
  · have := sepL_mu st.nextC st.nextS
    have := mu_next (c := c) (st := st) (by omega)
    omega
  · exact mu_next (by omega)
theorem longL_end {k : Nat} {c : Int} {st : St} {acc : List UInt8} (h : c < 0) : longL k c st acc = (false, acc, st) := by
  rw [longL]; simp [h]
theorem longL_close {k : Nat} {st : St} {acc : List UInt8} (h1 : (sepL st.nextC st.nextS).1 = k) (h2 : (sepL st.nextC st.nextS).2.1 = 93) : longL k 93 st acc = (true, acc, (sepL st.nextC st.nextS).2.2) := by
  rw [longL]; simp [h1, h2]
theorem longL_sep {k : Nat} {st : St} {acc : List UInt8} (h : ¬ ((sepL st.nextC st.nextS).1 = k ∧ (sepL st.nextC st.nextS).2.1 = 93)) :
    longL k 93 st acc = longL k (sepL st.nextC st.nextS).2.1 (sepL st.nextC st.nextS).2.2 (acc ++ 93 :: List.replicate (sepL st.nextC st.nextS).1 61) := by
  rw [longL, dif_neg (by decide), dif_pos rfl, if_neg h]
theorem longL_byte {k : Nat} {c : Int} {st : St} {acc : List UInt8} (h0 : 0 ≤ c) (h : c ≠ 93) : longL k c st acc = longL k st.nextC st.nextS (acc ++ [by8 c]) := by
  rw [longL, dif_neg (by omega), dif_neg h]
theorem longL_rest (k : Nat) (c : Int) (st : St) (acc : List UInt8) : (longL k c st acc).2.2.rest.length ≤ st.rest.length ∧ (longL k c st acc).2.1.length + (longL k c st acc).2.2.rest.length ≤ acc.length + mu c st + st.rest.length := by
  generalize hn : mu c st = n
  induction n using Nat.strongRecOn generalizing c st acc with
  | _ n ih =>
    by_cases h : c < 0
    · rw [longL_end h]; exact ⟨Nat.le_refl _, by show acc.length + st.rest.length ≤ _; omega⟩
    · have h1 := mu_next (c := c) (st := st) (by omega)
      have h2 := rest_next_le st
      have h3 := sepL_rest st.nextC st.nextS
      have h4 := sepL_mu st.nextC st.nextS
      by_cases hc : c = 93
      · subst hc
        by_cases hk : (sepL st.nextC st.nextS).1 = k ∧ (sepL st.nextC st.nextS).2.1 = 93
        · rw [longL_close hk.1 hk.2]
          exact ⟨Nat.le_trans h3 h2, by show acc.length + (sepL st.nextC st.nextS).2.2.rest.length ≤ _; omega⟩
        · rw [longL_sep hk]
          have := ih (mu (sepL st.nextC st.nextS).2.1 (sepL st.nextC st.nextS).2.2) (by omega) (sepL st.nextC st.nextS).2.1 (sepL st.nextC st.nextS).2.2 (acc ++ 93 :: List.replicate (sepL st.nextC st.nextS).1 61) rfl
          simp only [List.length_append, List.length_cons, List.length_replicate] at this
          omega
      · rw [longL_byte (by omega) hc]
        have := ih (mu st.nextC st.nextS) (by omega) st.nextC st.nextS (acc ++ [by8 c]) rfl
        simp only [List.length_append, List.length_cons, List.length_nil] at this
        omega

/-- The state at a long bracket's body: behind the second bracket, one line break dropped. -/
def longB (st : St) : Int × St := if st.nextC = 10 ∨ st.nextC = 13 then (st.nextS.nextC, st.nextS.nextS) else (st.nextC, st.nextS)
/-- scanMultilineString, its first character in hand. -/
def long (c : Int) (st : St) : Bool × List UInt8 × St :=
  if (sepL c st).2.1 = 91 then longL (sepL c st).1 (longB (sepL c st).2.2).1 (longB (sepL c st).2.2).2 []
  else (false, [], (sepL c st).2.2)

/-- The end of a line comment. -/
def lineL (c : Int) (st : St) : St :=
  if h : c = 10 ∨ c = 13 ∨ c < 0 then st else lineL st.nextC st.nextS
termination_by mu c st
decreasing_by exact mu_next (by omega)
theorem lineL_stop {c : Int} {st : St} (h : c = 10 ∨ c = 13 ∨ c < 0) : lineL c st = st := by rw [lineL, dif_pos h]
theorem lineL_more {c : Int} {st : St} (h : ¬ (c = 10 ∨ c = 13 ∨ c < 0)) : lineL c st = lineL st.nextC st.nextS := by rw [lineL, dif_neg h]

/-- skipComments. -/
def comment (c : Int) (st : St) : Bool × St :=
  if hd st.rest = 91 then
    if hd st.nextS.rest = 91 ∨ hd st.nextS.rest = 61 then ((long st.nextS.nextC st.nextS.nextS).1, (long st.nextS.nextC st.nextS.nextS).2.2)
    else (true, lineL 91 st.nextS)
  else (true, lineL c st)

/-- Classes of characters. -/
def decI (c : Int) : Bool := 48 ≤ c && c ≤ 57
def identS (c : Int) : Bool := c == 95 || (65 ≤ c && c ≤ 90) || (97 ≤ c && c ≤ 122)
def identI (c : Int) : Bool := identS c || decI c
def hexI (c : Int) : Bool := (48 ≤ c && c ≤ 57) || (97 ≤ c && c ≤ 102) || (65 ≤ c && c ≤ 70)
def onB (p : Int → Bool) (c : UInt8) : Bool := p c.toNat

/-- Reading on while the next byte is of a class. -/
def St.adv (p : Int → Bool) (st : St) : St := ⟨st.rest.dropWhile (onB p), st.line, st.col + (st.rest.takeWhile (onB p)).length⟩
def St.run (p : Int → Bool) (st : St) : List UInt8 := st.rest.takeWhile (onB p)
/-- A class without line breaks and without the end. -/
structure Cls (p : Int → Bool) : Prop where
  eof : p (-1) = false
  lf : p 10 = false
  cr : p 13 = false
theorem cls_dec : Cls decI := ⟨rfl, rfl, rfl⟩
theorem cls_ident : Cls identI := ⟨rfl, rfl, rfl⟩
theorem cls_hex : Cls hexI := ⟨rfl, rfl, rfl⟩
theorem Cls.cons {p : Int → Bool} (h : Cls p) {st : St} (hp : p (hd st.rest) = true) : ∃ c t, st.rest = c :: t ∧ onB p c = true ∧ ¬ ((c.toNat : Int) = 10 ∨ (c.toNat : Int) = 13) := by
  obtain ⟨rest, line, col⟩ := st
  cases rest with
  | nil => rw [show hd ([] : List UInt8) = -1 from rfl, h.eof] at hp; cases hp
  | cons c t =>
    refine ⟨c, t, rfl, hp, ?_⟩
    rintro (e | e)
    · rw [show hd (c :: t) = (c.toNat : Int) from rfl, e, h.lf] at hp; cases hp
    · rw [show hd (c :: t) = (c.toNat : Int) from rfl, e, h.cr] at hp; cases hp
theorem run_yes {p : Int → Bool} {c : UInt8} {t : List UInt8} {line col : Int} (h : onB p c = true) : (⟨c :: t, line, col⟩ : St).run p = c :: (⟨t, line, col + 1⟩ : St).run p := by
  simp [St.run, h]
theorem adv_yes {p : Int → Bool} {c : UInt8} {t : List UInt8} {line col : Int} (h : onB p c = true) : (⟨c :: t, line, col⟩ : St).adv p = (⟨t, line, col + 1⟩ : St).adv p := by
  simp [St.adv, h]; omega
theorem run_no {p : Int → Bool} {st : St} (h : p (hd st.rest) = false) : st.run p = [] := by
  obtain ⟨rest, line, col⟩ := st
  cases rest with
  | nil => rfl
  | cons c t => simp [St.run, show onB p c = false from h]
theorem adv_no {p : Int → Bool} {st : St} (h : p (hd st.rest) = false) : st.adv p = st := by
  obtain ⟨rest, line, col⟩ := st
  cases rest with
  | nil => simp [St.adv]
  | cons c t => simp [St.adv, show onB p c = false from h]
theorem run_len (p : Int → Bool) (st : St) : (st.run p).length + (st.adv p).rest.length = st.rest.length := by
  have := congrArg List.length (List.takeWhile_append_dropWhile (p := onB p) (l := st.rest))
  rw [List.length_append] at this
  exact this

/-- scanDecimal: the bytes written, what is left. -/
def dec (c : Int) (st : St) : List UInt8 × St := (by8 c :: st.run decI, st.adv decI)
def frac (st : St) : List UInt8 × St := if hd st.rest = 46 then dec st.nextC st.nextS else ([], st)
def sign (st : St) : List UInt8 × St := if hd st.rest = 45 ∨ hd st.rest = 43 then ([by8 st.nextC], st.nextS) else ([], st)
def expo (st : St) : List UInt8 × St :=
  if hd st.rest = 101 ∨ hd st.rest = 69 then
    (by8 st.nextC :: ((sign st.nextS).1 ++ (dec (sign st.nextS).2.nextC (sign st.nextS).2.nextS).1), (dec (sign st.nextS).2.nextC (sign st.nextS).2.nextS).2)
  else ([], st)
def numT (c : Int) (st : St) : List UInt8 × St :=
  ((dec c st).1 ++ ((frac (dec c st).2).1 ++ (expo (frac (dec c st).2).2).1), (expo (frac (dec c st).2).2).2)
/-- scanNumber. -/
def num (c : Int) (st : St) : Bool × List UInt8 × St :=
  if c = 48 then
    if hd st.rest = 120 ∨ hd st.rest = 88 then (!(st.nextS.run hexI).isEmpty, 48 :: by8 st.nextC :: st.nextS.run hexI, st.nextS.adv hexI)
    else if decI (hd st.rest) then (true, numT st.nextC st.nextS)
    else (true, numT 48 st)
  else (true, numT c st)

/-- scanEscape, behind the backslash: the byte written, what is left. -/
def escTab (c : Int) : UInt8 :=
  if c = 97 then 7 else if c = 98 then 8 else if c = 102 then 12 else if c = 110 then 10 else if c = 114 then 13 else if c = 116 then 9 else if c = 118 then 11 else by8 c
/-- One digit more of a decimal escape. -/
def dig1 (v : Int) (st : St) : Int × St := if decI (hd st.rest) then (v * 10 + (st.nextC - 48), st.nextS) else (v, st)
def esc (st : St) : UInt8 × St :=
  if decI st.nextC then
    if decI (hd st.nextS.rest) then (by8 (dig1 (dig1 (st.nextC - 48) st.nextS).1 (dig1 (st.nextC - 48) st.nextS).2).1, (dig1 (dig1 (st.nextC - 48) st.nextS).1 (dig1 (st.nextC - 48) st.nextS).2).2)
    else (by8 (st.nextC - 48), st.nextS)
  else (escTab st.nextC, st.nextS)
theorem dig1_rest (v : Int) (st : St) : (dig1 v st).2.rest.length ≤ st.rest.length := by
  unfold dig1; split
  · exact rest_next_le st
  · exact Nat.le_refl _
theorem esc_rest (st : St) : (esc st).2.rest.length ≤ st.nextS.rest.length := by
  unfold esc
  split
  · split
    · exact Nat.le_trans (dig1_rest _ _) (dig1_rest _ _)
    · exact Nat.le_refl _
  · exact Nat.le_refl _

/-- scanString behind the quote: is it closed; the text; what is left. -/
def strL (q c : Int) (st : St) (acc : List UInt8) : Bool × List UInt8 × St :=
  if c = q then (true, acc, st)
  else if h : c = 10 ∨ c = 13 ∨ c < 0 then (false, acc, st)
  else if c = 92 then strL q (esc st).2.nextC (esc st).2.nextS (acc ++ [(esc st).1])
  else strL q st.nextC st.nextS (acc ++ [by8 c])
termination_by mu c st
decreasing_by
  · have h1 := mu_next_le (esc st).2
    have h2 := esc_rest st
    have h3 := rest_next_le st
    have : mu c st = st.rest.length + 1 := if_neg (by omega)
    omega
  · exact mu_next (by omega)
theorem strL_close {q : Int} {st : St} {acc : List UInt8} : strL q q st acc = (true, acc, st) := by rw [strL, if_pos rfl]
theorem strL_bad {q c : Int} {st : St} {acc : List UInt8} (hq : c ≠ q) (h : c = 10 ∨ c = 13 ∨ c < 0) : strL q c st acc = (false, acc, st) := by rw [strL, if_neg hq, dif_pos h]
theorem strL_esc {q : Int} {st : St} {acc : List UInt8} (hq : 92 ≠ q) : strL q 92 st acc = strL q (esc st).2.nextC (esc st).2.nextS (acc ++ [(esc st).1]) := by
  rw [strL, if_neg hq, dif_neg (by omega), if_pos rfl]
theorem strL_byte {q c : Int} {st : St} {acc : List UInt8} (hq : c ≠ q) (h : ¬ (c = 10 ∨ c = 13 ∨ c < 0)) (h2 : c ≠ 92) : strL q c st acc = strL q st.nextC st.nextS (acc ++ [by8 c]) := by
  rw [strL, if_neg hq, dif_neg h, if_neg h2]
end Go.Proofs.YtgiklkapedlckaaGreatDoor
