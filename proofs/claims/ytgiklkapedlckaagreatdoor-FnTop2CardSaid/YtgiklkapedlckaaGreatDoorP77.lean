/- What a scan tells does not hang on the token before; the token '(' . No program in sight. -/
import Derived.Test.YtgiklkapedlckaaGreatDoorReach
namespace Go.Proofs.YtgiklkapedlckaaGreatDoor

theorem kwIn_ge (tab : List (List UInt8 × Int)) (h : ∀ q ∈ tab, 57346 ≤ q.2) (s : List UInt8) : 57346 ≤ kwIn tab s := by
  induction tab with
  | nil => show (57346 : Int) ≤ 57375; decide
  | cons q r ih =>
    obtain ⟨k, v⟩ := q
    unfold kwIn
    split
    · exact h (k, v) (by simp)
    · exact ih (fun q hq => h q (by simp [hq]))
theorem kw_ge (s : List UInt8) : 57346 ≤ kw s := kwIn_ge kwTab (by decide) s
theorem tok_par (c : Int) (st : St) : (tokL c st).2.1 = 40 ↔ c = 40 := by
  constructor
  · intro e
    by_cases h1 : c = 40
    · exact h1
    exfalso
    have hk := kw_ge (by8 c :: st.run identI)
    revert e
    refine tok_cases c st (fun r => r.2.1 = 40 → False) ?_ ?_ ?_ ?_ ?_ ?_ ?_ ?_ ?_ ?_
    · intro e; have e' : kw (by8 c :: st.run identI) = 40 := e; omega
    · intro e; have e' : (57376 : Int) = 40 := e; omega
    · intro _ e; have e' : (-1 : Int) = 40 := e; omega
    · intro e; have e' : (57377 : Int) = 40 := e; omega
    · intro e; have e' : (57377 : Int) = 40 := e; omega
    · intro _ e; exact h1 e
    · intro k t s _ ht e
      unfold two at e
      split at e
      · have e' : t = 40 := e; omega
      · exact h1 e
    · intro e; have e' : (57369 : Int) = 40 := e; omega
    · intro e; have e' : (0 : Int) = 40 := e; omega
    · refine dot_cases st (fun r => r.2.1 = 40 → False) ?_ ?_ ?_ ?_
      · intro e; have e' : (57376 : Int) = 40 := e; omega
      · intro e; have e' : (57373 : Int) = 40 := e; omega
      · intro e; have e' : (57372 : Int) = 40 := e; omega
      · intro e; have e' : (46 : Int) = 40 := e; omega
  · rintro rfl
    unfold tokL
    rw [if_neg (by decide), if_neg (by decide), if_neg (by decide), if_neg (by decide), if_neg (by decide), if_neg (by decide), if_neg (by decide), if_neg (by decide), if_neg (by decide), if_neg (by decide), if_neg (by decide), if_pos (by decide)]
    rfl
/-- A scan's result, for whatever token before. -/
theorem scan_res (st : St) : ∃ l r, (∀ p, scanL p st = resOf p l r) ∧ (r.1 = true → (r.2.1 = 40 ↔ l.1 = 40)) := by
  generalize hn : st.rest.length = n
  induction n using Nat.strongRecOn generalizing st with
  | _ n ih =>
    by_cases hc : (lead st).1 = 45 ∧ hd (lead st).2.2.rest = 45
    · cases hk : (comment (lead st).2.2.nextC (lead st).2.2.nextS).1
      · exact ⟨_, _, fun p => scanL_bad hc hk, fun h => by cases h⟩
      · have g1 := (lead_rest st).2.1 (by omega)
        have g2 := comment_rest (lead st).2.2.nextC (lead st).2.2.nextS
        have g3 := rest_next_le (lead st).2.2
        obtain ⟨l, r, h1, h2⟩ := ih _ (by omega) (comment (lead st).2.2.nextC (lead st).2.2.nextS).2 rfl
        exact ⟨l, r, fun p => (scanL_again hc hk).trans (h1 p), h2⟩
    · exact ⟨_, _, fun p => scanL_tok hc, fun _ => tok_par _ _⟩
theorem scan_prev (p q : Int) (st : St) : (scanL p st).ok = (scanL q st).ok ∧ (scanL p st).typ = (scanL q st).typ ∧ (scanL p st).str = (scanL q st).str ∧ (scanL p st).line = (scanL q st).line ∧ (scanL p st).col = (scanL q st).col ∧ (scanL p st).nl = (scanL q st).nl ∧ (scanL p st).st = (scanL q st).st := by
  obtain ⟨l, r, h, -⟩ := scan_res st
  rw [h p, h q]
  exact ⟨rfl, rfl, rfl, rfl, rfl, rfl, rfl⟩
theorem scan_pnl (p q : Int) (st : St) (hok : (scanL q st).ok = true) : (scanL p st).pnl = (decide ((scanL q st).typ = 40 ∧ p = 41) && (scanL q st).nl) := by
  obtain ⟨l, r, h, h2⟩ := scan_res st
  rw [h q] at hok
  rw [h p, h q]
  have := h2 hok
  show (decide (l.1 = 40 ∧ p = 41) && l.2.1) = (decide (r.2.1 = 40 ∧ p = 41) && l.2.1)
  congr 1
  rw [decide_eq_decide, this]

/-- A comment to the line's end. -/
theorem comment_line {st : St} (h : hd st.rest ≠ 91) : comment 45 st = (true, lineL st.nextC st.nextS) := by
  unfold comment
  rw [if_neg h, lineL_more (by decide)]
/-- A number of digits alone. -/
theorem expo_no {st : St} (h : hd st.rest ≠ 101 ∧ hd st.rest ≠ 69) : expo st = ([], st) := by
  unfold expo
  rw [if_neg (by omega)]
theorem frac_no {st : St} (h : hd st.rest ≠ 46) : frac st = ([], st) := by
  unfold frac
  rw [if_neg h]
theorem numT_dec {c : Int} {st : St} (h : hd (st.adv decI).rest ≠ 46 ∧ hd (st.adv decI).rest ≠ 101 ∧ hd (st.adv decI).rest ≠ 69) : numT c st = (by8 c :: st.run decI, st.adv decI) := by
  have e : dec c st = (by8 c :: st.run decI, st.adv decI) := rfl
  unfold numT
  rw [e]
  simp only
  rw [frac_no h.1]
  simp only
  rw [expo_no h.2]
  simp
/-- One character more of a class. -/
theorem cls_step {p : Int → Bool} (hp : Cls p) {st : St} (h : p (hd st.rest) = true) : ∃ x : UInt8, st.nextC = (x.toNat : Int) ∧ st.run p = x :: st.nextS.run p ∧ st.adv p = st.nextS.adv p ∧ st.nextS.rest.length < st.rest.length := by
  obtain ⟨c, t, hr, hc, hb⟩ := hp.cons h
  obtain ⟨rest, line, col⟩ := st
  obtain rfl : rest = c :: t := hr
  refine ⟨c, St.nextC_else hb, ?_, ?_, ?_⟩
  · rw [St.nextS_else hb]; exact run_yes hc
  · rw [St.nextS_else hb]; exact adv_yes hc
  · rw [St.nextS_else hb]; simp
/-- A number of digits alone, its first nought dropped. -/
theorem num_digits {c : Int} {st : St} (hc : decI c = true) (hx : ¬ (c = 48 ∧ (hd st.rest = 120 ∨ hd st.rest = 88))) (h : hd (st.adv decI).rest ≠ 46 ∧ hd (st.adv decI).rest ≠ 101 ∧ hd (st.adv decI).rest ≠ 69) :
    num c st = (true, (if c = 48 ∧ st.run decI ≠ [] then st.run decI else by8 c :: st.run decI), st.adv decI) := by
  unfold num
  by_cases h48 : c = 48
  · rw [if_pos h48, if_neg (fun e => hx ⟨h48, e⟩)]
    cases hd1 : decI (hd st.rest)
    · rw [if_neg (by decide), run_no hd1, if_neg (by simp), ← h48, numT_dec h, run_no hd1]
    · obtain ⟨x, e1, e2, e3, -⟩ := cls_step cls_dec hd1
      rw [if_pos rfl, e2, if_pos ⟨h48, by simp⟩, e3]
      rw [e3] at h
      rw [numT_dec h, e1, by8_u8]
  · rw [if_neg h48, if_neg (fun e => h48 e.1), numT_dec h]
/-- A string without escapes, read on. -/
theorem strL_eof (q : Int) (st : St) (acc : List UInt8) (hq : (-1 : Int) ≠ q) : strL q (-1) st acc = (false, acc, st) := strL_bad hq (by omega)
end Go.Proofs.YtgiklkapedlckaaGreatDoor
