/- The scanner as plain data: what is left to read, the line, the column; Next, Peek, Newline as plain functions. No program in sight. -/
import Derived.Test.YtgiklkapedlckaaGreatDoorRd
namespace Go.Proofs.YtgiklkapedlckaaGreatDoor
open Go.RowKit

structure St where
  rest : List UInt8
  line : Int
  col : Int

/-- The first byte as an int; -1 at the end. -/
def hd : List UInt8 → Int
  | [] => -1
  | c :: _ => c.toNat
def tl : List UInt8 → List UInt8
  | [] => []
  | _ :: t => t
def fst? : List UInt8 → Option UInt8
  | [] => none
  | c :: _ => some c
theorem hd_lo (l : List UInt8) : -1 ≤ hd l := by cases l <;> simp only [hd] <;> omega
theorem hd_hi (l : List UInt8) : hd l ≤ 255 := by
  cases l with
  | nil => simp [hd]
  | cons c t => have := c.toNat_lt; simp [hd]; omega
theorem hd_eof {l : List UInt8} : hd l = -1 ↔ l = [] := by
  cases l with
  | nil => simp [hd]
  | cons c t => simp only [hd]; constructor <;> intro h <;> first | omega | cases h
theorem hd_ch {l : List UInt8} (c : UInt8) : hd l = (c.toNat : Int) ↔ ∃ t, l = c :: t := by
  cases l with
  | nil => simp only [hd]; constructor <;> intro h <;> first | omega | (obtain ⟨t, h⟩ := h; cases h)
  | cons d t => simp [hd]; exact ⟨fun h => UInt8.toNat_inj.1 (by omega), fun h => by rw [h]⟩
theorem tl_len (l : List UInt8) : (tl l).length ≤ l.length := by cases l <;> simp [tl]

/-- The other half of a line break. -/
def pair (ch next : Int) : Bool := (ch == 10 && next == 13) || (ch == 13 && next == 10)
def St.newline (st : St) (ch : Int) : St :=
  if ch < 0 then st else ⟨if pair ch (hd st.rest) then tl st.rest else st.rest, st.line + 1, 0⟩
def St.nextC (st : St) : Int := if hd st.rest = 13 then 10 else hd st.rest
def St.nextS (st : St) : St :=
  if hd st.rest < 0 then ⟨[], -1, 0⟩
  else if hd st.rest = 10 ∨ hd st.rest = 13 then (⟨tl st.rest, st.line, st.col⟩ : St).newline (hd st.rest)
  else ⟨tl st.rest, st.line, st.col + 1⟩

/-- The counts are far from any limit. -/
structure St.Bd (st : St) : Prop where
  l0 : -1 ≤ st.line
  c0 : 0 ≤ st.col
  top : st.line + st.col + st.rest.length ≤ 2305843009213693951

theorem St.Bd.tl {st : St} (h : st.Bd) : (⟨Go.Proofs.YtgiklkapedlckaaGreatDoor.tl st.rest, st.line, st.col⟩ : St).Bd :=
  ⟨h.l0, h.c0, by have h1 := tl_len st.rest; have h2 := h.top; show st.line + st.col + (((Go.Proofs.YtgiklkapedlckaaGreatDoor.tl st.rest).length : Nat) : Int) ≤ 2305843009213693951; omega⟩
theorem St.newline_neg {st : St} {ch : Int} (h : ch < 0) : st.newline ch = st := if_pos h
theorem St.newline_pos {st : St} {ch : Int} (h : 0 ≤ ch) : st.newline ch = ⟨if pair ch (hd st.rest) then Go.Proofs.YtgiklkapedlckaaGreatDoor.tl st.rest else st.rest, st.line + 1, 0⟩ := if_neg (by omega)
theorem St.newline_len (st : St) (ch : Int) : (st.newline ch).rest.length ≤ st.rest.length := by
  unfold St.newline
  split
  · exact Nat.le_refl _
  · show (ite _ _ _ : List UInt8).length ≤ _
    split
    · exact tl_len _
    · exact Nat.le_refl _
theorem St.Bd.newline {st : St} (h : st.Bd) (ch : Int) (hb : st.line + st.rest.length + 1 ≤ 2305843009213693951) : (st.newline ch).Bd := by
  have hl := st.newline_len ch
  have h1 := h.l0
  unfold St.newline at hl ⊢
  split
  · exact h
  · rename_i hn
    rw [if_neg hn] at hl
    exact ⟨by show -1 ≤ st.line + 1; omega, Int.le_refl _, by
      generalize (if pair ch (hd st.rest) then Go.Proofs.YtgiklkapedlckaaGreatDoor.tl st.rest else st.rest) = r at hl ⊢
      show st.line + 1 + 0 + ((r.length : Nat) : Int) ≤ 2305843009213693951
      simp only at hl; omega⟩
theorem St.nextS_eof {st : St} (h : st.rest = []) : st.nextS = ⟨[], -1, 0⟩ := by simp [St.nextS, h, hd]
theorem St.nextC_eof {st : St} (h : st.rest = []) : st.nextC = -1 := by simp [St.nextC, h, hd]
theorem St.Bd.next {st : St} (h : st.Bd) : st.nextS.Bd := by
  obtain ⟨rest, line, col⟩ := st
  cases rest with
  | nil => rw [St.nextS_eof rfl]; exact ⟨by decide, by decide, by decide⟩
  | cons c t =>
    have h1 := h.l0
    have h2 := h.c0
    have h3 := h.top
    simp only [List.length_cons] at h1 h2 h3
    have hp : ¬ hd (c :: t) < 0 := by simp only [hd]; omega
    unfold St.nextS
    rw [if_neg hp]
    split
    · exact h.tl.newline _ (by show line + (t.length : Nat) + 1 ≤ _; omega)
    · exact ⟨h1, by show (0 : Int) ≤ col + 1; omega, by show line + (col + 1) + (t.length : Nat) ≤ _; omega⟩
theorem St.nextC_lo (st : St) : -1 ≤ st.nextC := by
  unfold St.nextC; split
  · decide
  · exact hd_lo _
theorem St.nextC_hi (st : St) : st.nextC ≤ 255 := by
  unfold St.nextC; split
  · decide
  · exact hd_hi _
theorem St.nextC_cr (st : St) : st.nextC ≠ 13 := by
  unfold St.nextC; split
  · decide
  · assumption
theorem St.nextC_neg {st : St} : st.nextC < 0 ↔ st.rest = [] := by
  constructor
  · intro h
    have h1 := hd_lo st.rest
    apply hd_eof.1
    unfold St.nextC at h
    split at h
    · omega
    · omega
  · intro h; rw [St.nextC_eof h]; decide
/-- Each Next eats one or two bytes. -/
theorem St.nextS_len {st : St} (h : st.rest ≠ []) : st.nextS.rest.length < st.rest.length ∧ st.rest.length ≤ st.nextS.rest.length + 2 := by
  obtain ⟨rest, line, col⟩ := st
  cases rest with
  | nil => exact absurd rfl h
  | cons c t =>
    have hp : ¬ hd (c :: t) < 0 := by simp only [hd]; omega
    unfold St.nextS
    rw [if_neg hp]
    simp only [tl]
    split
    · have hp' : ¬ hd (c :: t) < 0 := hp
      unfold St.newline
      rw [if_neg hp']
      simp only
      split
      · cases t <;> simp [tl]; omega
      · simp
    · simp
end Go.Proofs.YtgiklkapedlckaaGreatDoor
