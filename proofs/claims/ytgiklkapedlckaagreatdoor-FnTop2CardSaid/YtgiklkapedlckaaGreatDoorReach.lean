/- What a scan leaves is reached by Next alone; the positions grow. No program in sight. -/
import Derived.Test.YtgiklkapedlckaaGreatDoorScM
namespace Go.Proofs.YtgiklkapedlckaaGreatDoor

/-- t is reached from s by Next. -/
inductive Reach : St → St → Prop
  | refl (s : St) : Reach s s
  | next {s t : St} : Reach s t → Reach s t.nextS
theorem Reach.trans {a b c : St} (h : Reach a b) (k : Reach b c) : Reach a c := by
  induction k with
  | refl => exact h
  | next _ ih => exact ih.next
theorem Reach.one (s : St) : Reach s s.nextS := (Reach.refl s).next
theorem reach_len {s t : St} (h : Reach s t) : t.rest.length ≤ s.rest.length := by
  induction h with
  | refl => exact Nat.le_refl _
  | next _ ih => exact Nat.le_trans (rest_next_le _) ih
theorem reach_skip (m : Int) (st : St) : ∃ s, Reach st s ∧ st.skip m = (s.nextC, s.nextS) ∧ inM m s.nextC = false := by
  generalize hn : st.rest.length = n
  induction n using Nat.strongRecOn generalizing st with
  | _ n ih =>
    cases h : inM m st.nextC
    · exact ⟨st, .refl _, skip_stop h, h⟩
    · have hl := (St.nextS_len (rest_of_inM h)).1
      obtain ⟨s, h1, h2, h3⟩ := ih _ (by omega) st.nextS rfl
      exact ⟨s, (Reach.one st).trans h1, (skip_more h).trans h2, h3⟩
theorem lead_is (st : St) : ∃ s, Reach st s ∧ (lead st).1 = s.nextC ∧ (lead st).2.2 = s.nextS ∧ s.nextC ≠ 10 := by
  obtain ⟨s1, h1, h2, h3⟩ := reach_skip mk1 st
  unfold lead
  rw [h2]
  simp only
  split
  · obtain ⟨s2, k1, k2, k3⟩ := reach_skip mk2 s1.nextS
    rw [k2]
    refine ⟨s2, (h1.next).trans k1, rfl, rfl, fun e => ?_⟩
    rw [e, in_mk2 (by decide) (by decide)] at k3
    exact absurd k3 (by decide)
  · rename_i h
    exact ⟨s1, h1, rfl, rfl, h⟩
theorem reach_sepL (c : Int) (st : St) : Reach st (sepL c st).2.2 := by
  generalize hn : mu c st = n
  induction n using Nat.strongRecOn generalizing c st with
  | _ n ih =>
    by_cases h : c = 61
    · subst h
      have h1 := mu_next (c := 61) (st := st) (by decide)
      rw [sepL_yes]
      exact (Reach.one st).trans (ih _ (by omega) st.nextC st.nextS rfl)
    · rw [sepL_no h]; exact .refl _
theorem reach_longL (k : Nat) (c : Int) (st : St) (acc : List UInt8) : Reach st (longL k c st acc).2.2 := by
  generalize hn : mu c st = n
  induction n using Nat.strongRecOn generalizing c st acc with
  | _ n ih =>
    by_cases h : c < 0
    · rw [longL_end h]; exact .refl _
    · have h1 := mu_next (c := c) (st := st) (by omega)
      have h4 := sepL_mu st.nextC st.nextS
      by_cases hc : c = 93
      · subst hc
        have h5 := (Reach.one st).trans (reach_sepL st.nextC st.nextS)
        by_cases hk : (sepL st.nextC st.nextS).1 = k ∧ (sepL st.nextC st.nextS).2.1 = 93
        · rw [longL_close hk.1 hk.2]; exact h5
        · rw [longL_sep hk]
          exact h5.trans (ih _ (by omega) _ _ _ rfl)
      · rw [longL_byte (by omega) hc]
        exact (Reach.one st).trans (ih _ (by omega) _ _ _ rfl)
theorem reach_longB (st : St) : Reach st (longB st).2 := by
  unfold longB; split
  · exact (Reach.one st).next
  · exact Reach.one st
theorem reach_long (c : Int) (st : St) : Reach st (long c st).2.2 := by
  unfold long; split
  · exact ((reach_sepL c st).trans (reach_longB _)).trans (reach_longL _ _ _ _)
  · exact reach_sepL c st
theorem reach_lineL (c : Int) (st : St) : Reach st (lineL c st) := by
  generalize hn : mu c st = n
  induction n using Nat.strongRecOn generalizing c st with
  | _ n ih =>
    by_cases h : c = 10 ∨ c = 13 ∨ c < 0
    · rw [lineL_stop h]; exact .refl _
    · rw [lineL_more h]
      have h1 := mu_next (c := c) (st := st) (by omega)
      exact (Reach.one st).trans (ih _ (by omega) _ _ rfl)
theorem reach_comment (c : Int) (st : St) : Reach st (comment c st).2 := by
  unfold comment; split
  · split
    · exact ((Reach.one st).next).trans (reach_long _ _)
    · exact (Reach.one st).trans (reach_lineL _ _)
  · exact reach_lineL _ _
theorem reach_adv {p : Int → Bool} (hp : Cls p) (st : St) : Reach st (st.adv p) := by
  generalize hn : st.rest.length = n
  induction n using Nat.strongRecOn generalizing st with
  | _ n ih =>
    cases h : p (hd st.rest)
    · rw [adv_no h]; exact .refl _
    · obtain ⟨c, t, hr, hc, hb⟩ := hp.cons h
      have e1 : st.nextS = ⟨t, st.line, st.col + 1⟩ := by
        obtain ⟨rest, line, col⟩ := st
        obtain rfl : rest = c :: t := hr
        exact St.nextS_else hb
      have e2 : st.adv p = st.nextS.adv p := by
        rw [e1]
        obtain ⟨rest, line, col⟩ := st
        obtain rfl : rest = c :: t := hr
        exact adv_yes hc
      rw [e2]
      have hlen : st.nextS.rest.length < n := by rw [e1]; show t.length < n; rw [← hn, hr]; simp
      exact (Reach.one st).trans (ih _ hlen _ rfl)
theorem reach_dec (c : Int) (st : St) : Reach st (dec c st).2 := reach_adv cls_dec st
theorem reach_frac (st : St) : Reach st (frac st).2 := by
  unfold frac; split
  · exact (Reach.one st).trans (reach_dec _ _)
  · exact .refl _
theorem reach_sign (st : St) : Reach st (sign st).2 := by
  unfold sign; split
  · exact Reach.one st
  · exact .refl _
theorem reach_expo (st : St) : Reach st (expo st).2 := by
  unfold expo; split
  · exact (((Reach.one st).trans (reach_sign _)).next).trans (reach_dec 0 _)
  · exact .refl _
theorem reach_numT (c : Int) (st : St) : Reach st (numT c st).2 := ((reach_dec c st).trans (reach_frac _)).trans (reach_expo _)
theorem reach_num (c : Int) (st : St) : Reach st (num c st).2.2 := by
  unfold num; split
  · split
    · exact (Reach.one st).trans (reach_adv cls_hex _)
    · split
      · exact (Reach.one st).trans (reach_numT _ _)
      · exact reach_numT _ _
  · exact reach_numT _ _
theorem reach_dig1 (v : Int) (st : St) : Reach st (dig1 v st).2 := by
  unfold dig1; split
  · exact Reach.one st
  · exact .refl _
theorem reach_esc (st : St) : Reach st (esc st).2 := by
  unfold esc; split
  · split
    · exact ((Reach.one st).trans (reach_dig1 _ _)).trans (reach_dig1 _ _)
    · exact Reach.one st
  · exact Reach.one st
theorem reach_strL (q c : Int) (st : St) (acc : List UInt8) : Reach st (strL q c st acc).2.2 := by
  generalize hn : mu c st = n
  induction n using Nat.strongRecOn generalizing c st acc with
  | _ n ih =>
    by_cases hq : c = q
    · subst hq; rw [strL_close]; exact .refl _
    · by_cases hb : c = 10 ∨ c = 13 ∨ c < 0
      · rw [strL_bad hq hb]; exact .refl _
      · by_cases h92 : c = 92
        · subst h92
          rw [strL_esc hq]
          have h1 := mu_next_le (esc st).2
          have h2 := esc_rest st
          have h3 := rest_next_le st
          have h4 : mu 92 st = st.rest.length + 1 := if_neg (by omega)
          exact ((reach_esc st).next).trans (ih _ (by omega) _ _ _ rfl)
        · rw [strL_byte hq hb h92]
          have h1 := mu_next (c := c) (st := st) (by omega)
          exact (Reach.one st).trans (ih _ (by omega) _ _ _ rfl)
/-- What a token may be. -/
theorem tok_cases (c : Int) (st : St) (P : Bool × Int × List UInt8 × St → Prop) (h1 : P (identK c st)) (h2 : P (numK c st)) (h3 : c = -1 → P (true, -1, [], st)) (h4 : P (strK c st)) (h5 : P (longK st))
    (h6 : c ≠ -1 → P (one c st)) (h7 : ∀ k t s, c ≠ -1 → 57346 ≤ t → P (two c st k t s)) (h8 : P (true, 57369, [126, 61], st.nextS)) (h9 : P (false, 0, [], st)) (h10 : P (dotK st)) : P (tokL c st) := by
  unfold tokL
  by_cases a1 : identS c = true
  · rw [if_pos a1]; exact h1
  rw [if_neg a1]
  by_cases a2 : decI c = true
  · rw [if_pos a2]; exact h2
  rw [if_neg a2]
  by_cases hne : c = -1
  · rw [if_pos hne]; exact h3 hne
  rw [if_neg hne]
  by_cases a4 : c = 34 ∨ c = 39
  · rw [if_pos a4]; exact h4
  rw [if_neg a4]
  by_cases a5 : c = 91
  · rw [if_pos a5]
    split
    · exact h5
    · exact h6 hne
  rw [if_neg a5]
  by_cases a6 : c = 61
  · rw [if_pos a6]; exact h7 _ _ _ hne (by decide)
  rw [if_neg a6]
  by_cases a7 : c = 126
  · rw [if_pos a7]
    split
    · exact h8
    · exact h9
  rw [if_neg a7]
  by_cases a8 : c = 60
  · rw [if_pos a8]; exact h7 _ _ _ hne (by decide)
  rw [if_neg a8]
  by_cases a9 : c = 62
  · rw [if_pos a9]; exact h7 _ _ _ hne (by decide)
  rw [if_neg a9]
  by_cases a10 : c = 46
  · rw [if_pos a10]; exact h10
  rw [if_neg a10]
  by_cases a11 : c = 58
  · rw [if_pos a11]; exact h7 _ _ _ hne (by decide)
  rw [if_neg a11]
  by_cases a12 : lone c = true
  · rw [if_pos a12]; exact h6 hne
  · rw [if_neg a12]; exact h9
theorem dot_cases (st : St) (P : Bool × Int × List UInt8 × St → Prop) (h1 : P (numK 46 st)) (h2 : P (true, 57373, [46, 46, 46], st.nextS.nextS)) (h3 : P (true, 57372, [46, 46], st.nextS)) (h4 : P (true, 46, [], st)) : P (dotK st) := by
  unfold dotK
  split
  · exact h1
  split
  · split
    · exact h2
    · exact h3
  · exact h4
theorem reach_tok (c : Int) (st : St) : Reach st (tokL c st).2.2.2 := by
  refine tok_cases c st (fun r => Reach st r.2.2.2) (reach_adv cls_ident st) (reach_num c st) (fun _ => .refl _) ((Reach.one st).trans (reach_strL _ _ _ _)) ((Reach.one st).trans (reach_long _ _)) (fun _ => .refl _) ?_ (Reach.one st) (.refl _) ?_
  · intro k t s _ _
    unfold two
    split
    · exact Reach.one st
    · exact .refl _
  · exact dot_cases st (fun r => Reach st r.2.2.2) (reach_num _ _) (Reach.one st).next (Reach.one st) (.refl _)

theorem kwIn_pos (tab : List (List UInt8 × Int)) (h : ∀ q ∈ tab, 0 ≤ q.2) (s : List UInt8) : 0 ≤ kwIn tab s := by
  induction tab with
  | nil => show (0 : Int) ≤ 57375; decide
  | cons q r ih =>
    obtain ⟨k, v⟩ := q
    unfold kwIn
    split
    · exact h (k, v) (by simp)
    · exact ih (fun q hq => h q (by simp [hq]))
theorem kw_pos (s : List UInt8) : 0 ≤ kw s := kwIn_pos kwTab (by decide) s
/-- The end is a token by its type alone; its text is empty. -/
theorem tok_eof (c : Int) (st : St) (h : (tokL c st).1 = true) : (c = -1 ↔ (tokL c st).2.1 = -1) ∧ (c = -1 → (tokL c st).2.2.1 = []) := by
  by_cases h1 : c = -1
  · subst h1
    have e : tokL (-1) st = (true, -1, [], st) := by
      unfold tokL
      rw [if_neg (by decide), if_neg (by decide), if_pos rfl]
    rw [e]
    exact ⟨⟨fun _ => rfl, fun _ => rfl⟩, fun _ => rfl⟩
  · refine ⟨⟨fun e => absurd e h1, fun e => ?_⟩, fun e => absurd e h1⟩
    exfalso
    have hk := kw_pos (by8 c :: st.run identI)
    revert e
    refine tok_cases c st (fun r => r.2.1 = -1 → False) ?_ ?_ (fun h => absurd h h1) ?_ ?_ (fun _ => h1) ?_ ?_ ?_ ?_
    · intro e; have e' : kw (by8 c :: st.run identI) = -1 := e; omega
    · intro e; have e' : (57376 : Int) = -1 := e; omega
    · intro e; have e' : (57377 : Int) = -1 := e; omega
    · intro e; have e' : (57377 : Int) = -1 := e; omega
    · intro k t s _ ht e
      unfold two at e
      split at e
      · have e' : t = -1 := e; omega
      · exact h1 e
    · intro e; have e' : (57369 : Int) = -1 := e; omega
    · intro e; have e' : (0 : Int) = -1 := e; omega
    · refine dot_cases st (fun r => r.2.1 = -1 → False) ?_ ?_ ?_ ?_
      · intro e; have e' : (57376 : Int) = -1 := e; omega
      · intro e; have e' : (57373 : Int) = -1 := e; omega
      · intro e; have e' : (57372 : Int) = -1 := e; omega
      · intro e; have e' : (46 : Int) = -1 := e; omega

/-- A scan's token stands at a state that Next reaches from the start by reading its first character; the end is reached from there. -/
theorem scan_at (prev : Int) (st : St) : ∃ s, Reach st s ∧ (scanL prev st).line = s.nextS.line ∧ (scanL prev st).col = s.nextS.col ∧ Reach s.nextS (scanL prev st).st ∧ s.nextC ≠ 10 ∧
    ((scanL prev st).ok = true → (s.nextC = -1 ↔ (scanL prev st).typ = -1) ∧ (s.nextC = -1 → (scanL prev st).str = [])) := by
  generalize hn : st.rest.length = n
  induction n using Nat.strongRecOn generalizing st with
  | _ n ih =>
    obtain ⟨s, h1, h2, h3, h4⟩ := lead_is st
    by_cases hc : (lead st).1 = 45 ∧ hd (lead st).2.2.rest = 45
    · cases hk : (comment (lead st).2.2.nextC (lead st).2.2.nextS).1
      · rw [scanL_bad hc hk]
        refine ⟨s, h1, by simp only [resOf]; rw [h3], by simp only [resOf]; rw [h3], ?_, h4, fun h => by simp [resOf] at h⟩
        rw [← h3]
        exact (Reach.one _).trans (reach_comment _ _)
      · rw [scanL_again hc hk]
        have g1 := (lead_rest st).2.1 (by omega)
        have g2 := comment_rest (lead st).2.2.nextC (lead st).2.2.nextS
        have g3 := rest_next_le (lead st).2.2
        obtain ⟨s', k1, k2⟩ := ih _ (by omega) (comment (lead st).2.2.nextC (lead st).2.2.nextS).2 rfl
        have hr : Reach st (comment (lead st).2.2.nextC (lead st).2.2.nextS).2 := by
          have : Reach st (lead st).2.2 := by rw [h3]; exact h1.next
          exact (this.next).trans (reach_comment _ _)
        exact ⟨s', hr.trans k1, k2⟩
    · rw [scanL_tok hc]
      refine ⟨s, h1, by simp only [resOf]; rw [h3], by simp only [resOf]; rw [h3], ?_, h4, fun hok => ?_⟩
      · simp only [resOf]; rw [← h3]; exact reach_tok _ _
      · rw [← h2]
        exact tok_eof _ _ hok

/-- How many bytes are line breaks. -/
def nls (l : List UInt8) : Nat := l.countP (fun c => c == 10 || c == 13)
/-- Where a state may stand: N line breaks and len bytes in the text. -/
def Good (N len : Nat) (st : St) : Prop := (st.line = -1 ∧ st.col = 0 ∧ st.rest = []) ∨ (1 ≤ st.line ∧ st.line + nls st.rest ≤ 1 + N ∧ 0 ≤ st.col ∧ st.col + st.rest.length ≤ len)
theorem nls_cons (c : UInt8) (t : List UInt8) : nls (c :: t) = nls t + (if (c.toNat : Int) = 10 ∨ (c.toNat : Int) = 13 then 1 else 0) := by
  unfold nls
  rw [List.countP_cons]
  congr 1
  have e : (c == 10 || c == 13) = true ↔ ((c.toNat : Int) = 10 ∨ (c.toNat : Int) = 13) := by
    rw [Bool.or_eq_true, beq_iff_eq, beq_iff_eq]
    constructor
    · rintro (h | h) <;> subst h <;> decide
    · rintro (h | h)
      · left; exact UInt8.toNat_inj.1 (by show c.toNat = 10; omega)
      · right; exact UInt8.toNat_inj.1 (by show c.toNat = 13; omega)
  by_cases h : (c.toNat : Int) = 10 ∨ (c.toNat : Int) = 13
  · rw [if_pos h, if_pos (e.2 h)]
  · rw [if_neg h, if_neg (fun x => h (e.1 x))]
theorem nls_tl (l : List UInt8) : nls (tl l) ≤ nls l := by
  cases l with
  | nil => exact Nat.le_refl _
  | cons c t => rw [nls_cons]; show nls t ≤ _; omega
theorem Good.next {N len : Nat} {st : St} (h : Good N len st) : Good N len st.nextS := by
  by_cases hr : st.rest = []
  · rw [St.nextS_eof hr]; exact Or.inl ⟨rfl, rfl, rfl⟩
  · obtain ⟨rest, line, col⟩ := st
    rcases h with h | ⟨h1, h2, h3, h4⟩
    · exact absurd h.2.2 hr
    · cases rest with
      | nil => exact absurd rfl hr
      | cons c t =>
        right
        simp only [nls_cons, List.length_cons] at h1 h2 h3 h4
        by_cases hb : (c.toNat : Int) = 10 ∨ (c.toNat : Int) = 13
        · rw [if_pos hb] at h2
          rw [St.nextS_brk hb, St.newline_pos (by omega)]
          simp only
          have g1 := nls_tl t
          have g2 := tl_len t
          refine ⟨by omega, ?_, Int.le_refl _, ?_⟩
          · split <;> omega
          · split <;> omega
        · rw [if_neg hb] at h2
          rw [St.nextS_else hb]
          exact ⟨h1, by simp only; omega, by simp only; omega, by simp only; omega⟩
theorem Good.reach {N len : Nat} {s t : St} (h : Good N len s) (r : Reach s t) : Good N len t := by
  induction r with
  | refl => exact h
  | next _ ih => exact ih.next

/-- t stands no earlier than s, or at the end. -/
def Later (s t : St) : Prop := (t.line = -1 ∧ t.rest = []) ∨ (1 ≤ t.line ∧ (s.line < t.line ∨ (s.line = t.line ∧ s.col ≤ t.col)))
/-- t stands behind s. -/
def After (s t : St) : Prop := s.line < t.line ∨ (s.line = t.line ∧ s.col < t.col)
theorem Later.after {s t : St} (h : Later s t) (hr : t.rest ≠ []) : After s t.nextS ∧ 1 ≤ t.nextS.line := by
  rcases h with h | ⟨h1, h2⟩
  · exact absurd h.2 hr
  · obtain ⟨rest, line, col⟩ := t
    cases rest with
    | nil => exact absurd rfl hr
    | cons c t =>
      simp only at h1 h2
      by_cases hb : (c.toNat : Int) = 10 ∨ (c.toNat : Int) = 13
      · rw [St.nextS_brk hb, St.newline_pos (by omega)]
        exact ⟨Or.inl (by simp only; omega), by simp only; omega⟩
      · rw [St.nextS_else hb]
        refine ⟨?_, h1⟩
        rcases h2 with h | h
        · exact Or.inl h
        · exact Or.inr ⟨h.1, by simp only; omega⟩
theorem Later.next {s t : St} (h : Later s t) : Later s t.nextS := by
  by_cases hr : t.rest = []
  · rw [St.nextS_eof hr]; exact Or.inl ⟨rfl, rfl⟩
  · obtain ⟨h1, h2⟩ := h.after hr
    refine Or.inr ⟨h2, ?_⟩
    rcases h1 with h | h
    · exact Or.inl h
    · exact Or.inr ⟨h.1, Int.le_of_lt h.2⟩
theorem later_reach {s t : St} (h : 1 ≤ s.line) (r : Reach s t) : Later s t := by
  induction r with
  | refl => exact Or.inr ⟨h, Or.inr ⟨rfl, Int.le_refl _⟩⟩
  | next _ ih => exact ih.next
/-- The law of positions, for one scan behind another: prev stands where the last token stood (or at line 0). -/
theorem scan_pos {N len : Nat} (prev : Int) {pl pc : Int} {p st : St} (hp : p.line = pl ∧ p.col = pc ∧ ((1 ≤ p.line ∧ Reach p st) ∨ (p.line = 0 ∧ 1 ≤ st.line))) (hg : Good N len st) (hok : (scanL prev st).ok = true) :
    ((scanL prev st).typ = -1 ∧ (scanL prev st).str = [] ∧ (scanL prev st).line = -1 ∧ (scanL prev st).col = 0) ∨
    ((scanL prev st).typ ≠ -1 ∧ 1 ≤ (scanL prev st).line ∧ (scanL prev st).line ≤ 1 + N ∧ 1 ≤ (scanL prev st).col ∧ (scanL prev st).col ≤ len ∧
      (pl < (scanL prev st).line ∨ (pl = (scanL prev st).line ∧ pc < (scanL prev st).col)) ∧ (scanL prev st).st.rest.length < st.rest.length ∧
      ∃ q : St, q.line = (scanL prev st).line ∧ q.col = (scanL prev st).col ∧ Reach q (scanL prev st).st ∧ 1 ≤ q.line ∧ Good N len (scanL prev st).st) := by
  obtain ⟨s, h1, h2, h3, h4, h5, h6⟩ := scan_at prev st
  obtain ⟨h7, h8⟩ := h6 hok
  have hgs := hg.reach h1
  by_cases he : s.rest = []
  · left
    have e1 := St.nextC_eof he
    refine ⟨h7.1 e1, h8 e1, ?_, ?_⟩
    · rw [h2, St.nextS_eof he]
    · rw [h3, St.nextS_eof he]
  · right
    have hne : s.nextC ≠ -1 := fun e => he (St.nextC_neg.1 (by omega))
    have hgn := hgs.next
    have hlt := (St.nextS_len he).1
    have hline : 1 ≤ s.nextS.line ∧ (pl < s.nextS.line ∨ (pl = s.nextS.line ∧ pc < s.nextS.col)) := by
      obtain ⟨g1, g2, g4⟩ := hp
      rcases g4 with ⟨g4, g3⟩ | ⟨g4, g5⟩
      · have := (later_reach g4 (g3.trans h1)).after he
        refine ⟨this.2, ?_⟩
        have h9 := this.1
        unfold After at h9
        rw [g1, g2] at h9
        exact h9
      · have := (later_reach g5 h1).after he
        exact ⟨this.2, Or.inl (by omega)⟩
    have hcol : 1 ≤ s.nextS.col := by
      obtain ⟨rest, line, col⟩ := s
      cases rest with
      | nil => exact absurd rfl he
      | cons c t =>
        by_cases hb : (c.toNat : Int) = 10 ∨ (c.toNat : Int) = 13
        · exact absurd (St.nextC_brk hb) h5
        · rw [St.nextS_else hb]
          rcases hgs with hgs | hgs
          · exact absurd hgs.2.2 he
          · have := hgs.2.2.1
            simp only at this ⊢; omega
    have hrest : (scanL prev st).st.rest.length < st.rest.length := by
      have r1 := reach_len h1
      have r2 := reach_len h4
      omega
    rcases hgn with hgn | ⟨g1, g2, g3, g4⟩
    · omega
    · rw [h2, h3]
      refine ⟨fun e => hne (h7.2 e), g1, by omega, hcol, by omega, hline.2, hrest, s.nextS, rfl, rfl, h4, g1, (hgs.next).reach h4⟩
end Go.Proofs.YtgiklkapedlckaaGreatDoor
