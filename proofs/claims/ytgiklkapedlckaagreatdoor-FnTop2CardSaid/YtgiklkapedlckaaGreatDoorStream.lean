/- The stream of characters that Next hands out, as a list; separators and long brackets on it. No program in sight. -/
import Derived.Test.YtgiklkapedlckaaGreatDoorLex
import Derived.Test.YtgiklkapedlckaaGreatDoorScan2
namespace Go.Proofs.YtgiklkapedlckaaGreatDoor

/-- What Next answers, and how many bytes it eats. -/
def nc (l : List UInt8) : Int := if hd l = 13 then 10 else hd l
def eat : List UInt8 → Nat
  | [] => 0
  | c :: t => if (c.toNat : Int) = 10 ∨ (c.toNat : Int) = 13 then (if pair c.toNat (hd t) then 2 else 1) else 1
theorem nc_or (l : List UInt8) : nc l = 10 ∨ nc l = hd l := by
  unfold nc; split
  · exact Or.inl rfl
  · exact Or.inr rfl
theorem nextC_nc (st : St) : st.nextC = nc st.rest := rfl
theorem nextS_eat (st : St) : st.nextS.rest = st.rest.drop (eat st.rest) := by
  obtain ⟨rest, line, col⟩ := st
  cases rest with
  | nil => rfl
  | cons c t =>
    by_cases h : (c.toNat : Int) = 10 ∨ (c.toNat : Int) = 13
    · rw [St.nextS_brk h, St.newline_pos (by omega)]
      simp only [eat, if_pos h]
      split
      · cases t <;> rfl
      · rfl
    · rw [St.nextS_else h]
      simp only [eat, if_neg h]
      rfl
theorem eat_le (l : List UInt8) : eat l ≤ l.length := by
  cases l with
  | nil => exact Nat.le_refl _
  | cons c t =>
    simp only [eat]
    split
    · split
      · rename_i h
        cases t with
        | nil => simp [pair, hd] at h
        | cons d t => simp
      · simp
    · simp
theorem eat_2 (l : List UInt8) : eat l ≤ 2 := by
  cases l with
  | nil => exact Nat.zero_le _
  | cons c t =>
    simp only [eat]
    split
    · split <;> omega
    · omega
theorem eat_pos {l : List UInt8} (h : l ≠ []) : 0 < eat l := by
  cases l with
  | nil => exact absurd rfl h
  | cons c t =>
    simp only [eat]
    split
    · split <;> omega
    · omega

/-- The stream. -/
def stream (l : List UInt8) : List UInt8 := if h : l = [] then [] else by8 (nc l) :: stream (l.drop (eat l))
termination_by l.length
decreasing_by
  have h1 := eat_pos h
  have h2 := List.length_pos_iff.2 h
  simp only [List.length_drop]; omega
theorem stream_nil : stream [] = [] := by rw [stream]; simp
theorem stream_cons {l : List UInt8} (h : l ≠ []) : stream l = by8 (nc l) :: stream (l.drop (eat l)) := by rw [stream, dif_neg h]
theorem stream_next {st : St} (h : st.rest ≠ []) : stream st.rest = by8 st.nextC :: stream st.nextS.rest := by
  rw [stream_cons h, nextS_eat, nextC_nc]
theorem stream_plain {c : UInt8} {t : List UInt8} (h : ¬ ((c.toNat : Int) = 10 ∨ (c.toNat : Int) = 13)) : stream (c :: t) = c :: stream t := by
  rw [stream_cons (by simp)]
  have e1 : nc (c :: t) = (c.toNat : Int) := by unfold nc; rw [if_neg (by simp only [hd]; omega)]; rfl
  have e2 : eat (c :: t) = 1 := by simp only [eat]; rw [if_neg h]
  rw [e1, e2, by8_u8]; rfl
theorem stream_len (l : List UInt8) : (stream l).length ≤ l.length := by
  generalize hn : l.length = n
  induction n using Nat.strongRecOn generalizing l with
  | _ n ih =>
    by_cases h : l = []
    · subst h; rw [stream_nil]; simp
    · have h1 := eat_pos h
      have h2 := List.length_pos_iff.2 h
      rw [stream_cons h]
      have := ih (l.drop (eat l)).length (by simp only [List.length_drop]; omega) _ rfl
      simp only [List.length_cons, List.length_drop] at this ⊢
      omega

/-- The class of the equals sign. -/
def eqI (c : Int) : Bool := c == 61
theorem cls_eq : Cls eqI := ⟨rfl, rfl, rfl⟩
theorem next_plain {c : UInt8} {t : List UInt8} {line col : Int} (h : ¬ ((c.toNat : Int) = 10 ∨ (c.toNat : Int) = 13)) :
    (⟨c :: t, line, col⟩ : St).nextC = c.toNat ∧ (⟨c :: t, line, col⟩ : St).nextS = ⟨t, line, col + 1⟩ := ⟨St.nextC_else h, St.nextS_else h⟩
/-- countSep, off the bytes. -/
theorem sepL_pre (st : St) : sepL st.nextC st.nextS = ((st.run eqI).length, (st.adv eqI).nextC, (st.adv eqI).nextS) := by
  obtain ⟨rest, line, col⟩ := st
  induction rest generalizing col with
  | nil => rw [sepL_no (by rw [St.nextC_eof rfl]; decide), run_no rfl, adv_no rfl]; rfl
  | cons c t ih =>
    by_cases h : c = 61
    · subst h
      obtain ⟨e1, e2⟩ := next_plain (c := 61) (t := t) (line := line) (col := col) (by decide)
      rw [e1, e2, run_yes (by decide), adv_yes (by decide)]
      show sepL 61 _ = _
      rw [sepL_yes, ih]
      rfl
    · have hc : (c.toNat : Int) ≠ 61 := fun e => h (UInt8.toNat_inj.1 (by show c.toNat = 61; omega))
      have hf : eqI (hd (⟨c :: t, line, col⟩ : St).rest) = false := by simp only [eqI, hd, beq_eq_false_iff_ne]; exact hc
      rw [run_no hf, adv_no hf, sepL_no]
      · rfl
      · unfold St.nextC; split
        · decide
        · exact hc
theorem all_run (p : Int → Bool) (l : List UInt8) (b : UInt8) (h : b ∈ l.takeWhile (onB p)) : onB p b = true := by
  induction l with
  | nil => cases h
  | cons c t ih =>
    rw [List.takeWhile_cons] at h
    split at h
    · rename_i hc
      rcases List.mem_cons.1 h with rfl | h
      · exact hc
      · exact ih h
    · cases h
theorem run_eq (st : St) : st.run eqI = List.replicate (st.run eqI).length 61 := by
  apply List.eq_replicate_iff.2
  refine ⟨rfl, fun b hb => ?_⟩
  have := all_run eqI st.rest b hb
  simp only [onB, eqI, beq_iff_eq] at this
  exact UInt8.toNat_inj.1 (by show b.toNat = 61; omega)
theorem rest_eq (st : St) : st.rest = List.replicate (st.run eqI).length 61 ++ (st.adv eqI).rest := by
  rw [← run_eq]; exact (List.takeWhile_append_dropWhile).symm
theorem adv_hd (p : Int → Bool) (st : St) (hp : p (-1) = false) : p (hd (st.adv p).rest) = false := by
  have h := List.head?_dropWhile_not (onB p) st.rest
  unfold St.adv
  simp only
  cases e : st.rest.dropWhile (onB p) with
  | nil => exact hp
  | cons c t => rw [e] at h; simpa [onB, hd] using h

/-- A close: so many equals signs and a bracket. -/
def closeAt (k : Nat) (t : List UInt8) : Bool := (List.replicate k (61 : UInt8) ++ [93]).isPrefixOf t
/-- The leftmost close. -/
def findC (k : Nat) : List UInt8 → Option Nat
  | [] => none
  | c :: t => if c = 93 ∧ closeAt k t = true then some 0 else (findC k t).map (· + 1)
theorem findC_other {k : Nat} {c : UInt8} {t : List UInt8} (h : c ≠ 93) : findC k (c :: t) = (findC k t).map (· + 1) := by
  simp [findC, h]
theorem findC_no {k : Nat} {c : UInt8} {t : List UInt8} (h : ¬ (c = 93 ∧ closeAt k t = true)) : findC k (c :: t) = (findC k t).map (· + 1) := by rw [findC, if_neg h]
theorem findC_eqs {k : Nat} (n : Nat) (q : List UInt8) : findC k (List.replicate n 61 ++ q) = (findC k q).map (· + n) := by
  induction n with
  | zero => cases h : findC k q <;> simp [h]
  | succ n ih =>
    rw [List.replicate_succ, List.cons_append, findC_other (by decide), ih]
    cases findC k q <;> simp [Nat.add_assoc]
theorem closeAt_iff (k n : Nat) (q : List UInt8) (hq : ∀ t, q ≠ 61 :: t) : closeAt k (List.replicate n 61 ++ q) = true ↔ n = k ∧ ∃ t, q = 93 :: t := by
  unfold closeAt
  induction k generalizing n with
  | zero =>
    cases n with
    | zero =>
      cases q with
      | nil => simp
      | cons c t =>
        simp only [List.replicate_zero, List.nil_append, List.isPrefixOf_cons_cons, List.isPrefixOf_nil_left, Bool.and_true, beq_iff_eq, true_and]
        constructor
        · intro h; exact ⟨t, by rw [← h]⟩
        · rintro ⟨t', h⟩; exact (List.cons.inj h).1.symm
    | succ n => simp [List.replicate_succ]
  | succ k ih =>
    cases n with
    | zero =>
      cases q with
      | nil => simp [List.replicate_succ]
      | cons c t =>
        have hc : (61 : UInt8) ≠ c := fun e => hq t (by rw [e])
        have hb : ((61 : UInt8) == c) = false := beq_eq_false_iff_ne.2 hc
        simp only [List.replicate_succ, List.replicate_zero, List.nil_append, List.cons_append, List.isPrefixOf_cons_cons, hb, Bool.false_and]
        constructor
        · intro h; cases h
        · intro h; exact absurd h.1 (by omega)
    | succ n =>
      simp only [List.replicate_succ, List.cons_append, List.isPrefixOf_cons_cons, beq_self_eq_true, Bool.true_and]
      rw [ih]
      constructor
      · rintro ⟨h1, h2⟩; exact ⟨by omega, h2⟩
      · rintro ⟨h1, h2⟩; exact ⟨by omega, h2⟩
theorem stream_eqs (n : Nat) (q : List UInt8) : stream (List.replicate n 61 ++ q) = List.replicate n 61 ++ stream q := by
  induction n with
  | zero => rfl
  | succ n ih => rw [List.replicate_succ, List.cons_append, stream_plain (by decide), ih]; rfl
theorem nextC_93 {st : St} : st.nextC = 93 ↔ ∃ t, st.rest = 93 :: t := by
  obtain ⟨rest, line, col⟩ := st
  cases rest with
  | nil =>
    rw [St.nextC_eof rfl]
    constructor
    · intro h; cases h
    · rintro ⟨t, h⟩; exact absurd h (by simp)
  | cons c t =>
    constructor
    · intro h
      unfold St.nextC at h
      split at h
      · cases h
      · have : c = 93 := UInt8.toNat_inj.1 (by simp only [hd] at h; show c.toNat = 93; omega)
        exact ⟨t, by rw [this]⟩
    · rintro ⟨t', h⟩
      cases h
      rfl
theorem stream_hd61 {l : List UInt8} (h : hd l ≠ 61) : ∀ t, stream l ≠ 61 :: t := by
  intro t e
  cases l with
  | nil => rw [stream_nil] at e; cases e
  | cons c t' =>
    rw [stream_cons (by simp)] at e
    have e1 := (List.cons.inj e).1
    have h2 := by8_toNat (nc (c :: t'))
    rw [e1] at h2
    have h3 := c.toNat_lt
    have h4 : (61 : UInt8).toNat = 61 := rfl
    have h5 := hd_lo (c :: t')
    have h6 := hd_hi (c :: t')
    rcases nc_or (c :: t') with h7 | h7 <;> rw [h7] at h2 <;> omega

/-- The body of a long bracket: what it reads and where it ends, by the leftmost close. -/
def LongIs (k : Nat) (u : List UInt8) (acc : List UInt8) (r : Bool × List UInt8 × St) : Prop :=
  match findC k u with
  | some j => r.1 = true ∧ r.2.1 = acc ++ u.take j ∧ stream r.2.2.rest = u.drop (j + k + 2)
  | none => r.1 = false ∧ r.2.1 = acc ++ u
theorem LongIs.cons {k : Nat} {c : UInt8} {u acc : List UInt8} {r : Bool × List UInt8 × St} (hc : ¬ (c = 93 ∧ closeAt k u = true)) (h : LongIs k u (acc ++ [c]) r) : LongIs k (c :: u) acc r := by
  unfold LongIs at h ⊢
  simp only [findC, if_neg hc]
  cases hf : findC k u with
  | none => rw [hf] at h; simpa using h
  | some j =>
    rw [hf] at h
    obtain ⟨h1, h2, h3⟩ := h
    refine ⟨h1, by simp [h2], ?_⟩
    rw [h3]
    show _ = List.drop (j + 1 + k + 2) (c :: u)
    rw [show j + 1 + k + 2 = (j + k + 2) + 1 by omega, List.drop_succ_cons]
theorem LongIs.eqs {k n : Nat} {u acc : List UInt8} {r : Bool × List UInt8 × St} (h : LongIs k u (acc ++ List.replicate n 61) r) : LongIs k (List.replicate n 61 ++ u) acc r := by
  induction n generalizing acc with
  | zero => simpa using h
  | succ n ih =>
    rw [List.replicate_succ, List.cons_append]
    refine LongIs.cons (fun hc => absurd hc.1 (by decide)) (ih ?_)
    rw [List.append_assoc]
    simpa [List.replicate_succ] using h
theorem longL_is (k : Nat) (st : St) (acc : List UInt8) : LongIs k (stream st.rest) acc (longL k st.nextC st.nextS acc) := by
  generalize hn : st.rest.length = n
  induction n using Nat.strongRecOn generalizing st acc with
  | _ n ih =>
    by_cases h : st.rest = []
    · rw [h, stream_nil, longL_end (by rw [St.nextC_eof h]; decide)]
      exact ⟨rfl, by simp⟩
    · have h0 : 0 ≤ st.nextC := by
        have := st.nextC_lo
        have : ¬ st.nextC < 0 := fun e => h (St.nextC_neg.1 e)
        omega
      have hl := (St.nextS_len h).1
      rw [stream_next h]
      by_cases hc : st.nextC = 93
      · rw [hc]
        have hsp := sepL_pre st.nextS
        have hr := rest_eq st.nextS
        have hq := stream_hd61 (l := (st.nextS.adv eqI).rest) (fun e => by have := adv_hd eqI st.nextS rfl; rw [e] at this; cases this)
        have hlen := run_len eqI st.nextS
        generalize (st.nextS.run eqI).length = m at hsp hr hlen
        generalize st.nextS.adv eqI = sq at hsp hr hq hlen
        have hs : stream st.nextS.rest = List.replicate m 61 ++ stream sq.rest := by rw [hr, stream_eqs]
        rw [hs]
        have hci := closeAt_iff k m (stream sq.rest) hq
        have h93 : (∃ t, stream sq.rest = 93 :: t) ↔ sq.nextC = 93 := by
          constructor
          · rintro ⟨t, e⟩
            by_cases hz : sq.rest = []
            · rw [hz, stream_nil] at e; cases e
            · rw [stream_next hz] at e
              have e1 := (List.cons.inj e).1
              have h2 := by8_toNat sq.nextC
              rw [e1] at h2
              have := sq.nextC_lo
              have := sq.nextC_hi
              have : (93 : UInt8).toNat = 93 := rfl
              omega
          · intro e
            obtain ⟨t, ht⟩ := nextC_93.1 e
            exact ⟨stream t, by rw [ht, stream_plain (by decide)]⟩
        by_cases hk : m = k ∧ sq.nextC = 93
        · rw [longL_close (by rw [hsp]; exact hk.1) (by rw [hsp]; exact hk.2), hsp]
          unfold LongIs
          have hcl : closeAt k (List.replicate m 61 ++ stream sq.rest) = true := hci.2 ⟨hk.1, h93.2 hk.2⟩
          have hb : by8 93 = 93 := by decide
          rw [hb]
          simp only [findC, hcl, and_self, if_true]
          refine ⟨trivial, by simp, ?_⟩
          obtain ⟨t, ht⟩ := nextC_93.1 hk.2
          have hne : sq.rest ≠ [] := by rw [ht]; simp
          rw [stream_next hne, hk.1, show 0 + k + 2 = k + 1 + 1 by omega, List.drop_succ_cons, List.drop_append]
          simp
        · rw [longL_sep (by rw [hsp]; exact hk), hsp]
          have hb : by8 93 = 93 := by decide
          rw [hb]
          refine LongIs.cons (fun hx => hk ?_) (LongIs.eqs ?_)
          · have := hci.1 hx.2
            exact ⟨this.1, h93.1 this.2⟩
          · rw [List.append_assoc]
            exact ih sq.rest.length (by omega) sq _ rfl
      · rw [longL_byte h0 hc]
        refine LongIs.cons (fun hx => hc ?_) (ih _ (by omega) st.nextS _ rfl)
        have h2 := by8_toNat st.nextC
        rw [hx.1] at h2
        have := st.nextC_hi
        have : (93 : UInt8).toNat = 93 := rfl
        omega

/-- The same off the raw bytes: where the leftmost close of the bytes lies, what is left lies behind it. -/
theorem longL_raw (k : Nat) (st : St) (acc : List UInt8) (j : Nat) (hf : findC k st.rest = some j) :
    (longL k st.nextC st.nextS acc).1 = true ∧ (longL k st.nextC st.nextS acc).2.2.rest = st.rest.drop (j + k + 2) := by
  generalize hn : st.rest.length = n
  induction n using Nat.strongRecOn generalizing st acc j with
  | _ n ih =>
    obtain ⟨rest, line, col⟩ := st
    cases rest with
    | nil => simp [findC] at hf
    | cons c t =>
      have hl := (St.nextS_len (st := ⟨c :: t, line, col⟩) (by simp)).1
      by_cases hbr : (c.toNat : Int) = 10 ∨ (c.toNat : Int) = 13
      · have h93 : c ≠ 93 := fun e => by subst e; revert hbr; decide
        rw [St.nextC_brk hbr, longL_byte (by decide) (by decide)]
        simp only [findC_other h93, Option.map_eq_some_iff] at hf
        obtain ⟨i, hi, rfl⟩ := hf
        have hS : (⟨c :: t, line, col⟩ : St).nextS.rest = t ∨ ∃ d t', t = d :: t' ∧ d ≠ 93 ∧ (⟨c :: t, line, col⟩ : St).nextS.rest = t' := by
          rw [St.nextS_brk hbr, St.newline_pos (by omega)]
          simp only
          split
          · rename_i hp
            right
            cases t with
            | nil => simp [pair, hd] at hp
            | cons d t' =>
              refine ⟨d, t', rfl, fun e => ?_, rfl⟩
              subst e
              simp [pair, hd] at hp
          · left; rfl
        rcases hS with hS | ⟨d, t', rfl, hd93, hS⟩
        · have := ih _ (by omega) (⟨c :: t, line, col⟩ : St).nextS (acc ++ [by8 10]) i (by rw [hS]; exact hi) rfl
          rw [this.2, hS]
          refine ⟨this.1, ?_⟩
          show _ = List.drop (i + 1 + k + 2) (c :: t)
          rw [show i + 1 + k + 2 = (i + k + 2) + 1 by omega, List.drop_succ_cons]
        · simp only [findC_other hd93, Option.map_eq_some_iff] at hi
          obtain ⟨i', hi', rfl⟩ := hi
          have := ih _ (by omega) (⟨c :: d :: t', line, col⟩ : St).nextS (acc ++ [by8 10]) i' (by rw [hS]; exact hi') rfl
          rw [this.2, hS]
          refine ⟨this.1, ?_⟩
          show _ = List.drop (i' + 1 + 1 + k + 2) (c :: d :: t')
          rw [show i' + 1 + 1 + k + 2 = (i' + k + 2) + 1 + 1 by omega, List.drop_succ_cons, List.drop_succ_cons]
      · obtain ⟨e1, e2⟩ := next_plain (c := c) (t := t) (line := line) (col := col) hbr
        rw [e1, e2]
        by_cases h93 : c = 93
        · subst h93
          show (longL k 93 _ acc).1 = true ∧ (longL k 93 _ acc).2.2.rest = _
          generalize hst : (⟨t, line, col + 1⟩ : St) = s1
          have hrt : s1.rest = t := by rw [← hst]
          have hsp := sepL_pre s1
          have hr := rest_eq s1
          have hq : hd (s1.adv eqI).rest ≠ 61 := fun e => by have := adv_hd eqI s1 rfl; rw [e] at this; cases this
          have hlen := run_len eqI s1
          generalize (s1.run eqI).length = m at hsp hr hlen
          generalize s1.adv eqI = sq at hsp hr hq hlen
          have hq' : ∀ x, sq.rest ≠ 61 :: x := fun x e => hq (by rw [e]; rfl)
          have hci := closeAt_iff k m sq.rest hq'
          rw [hrt] at hr
          by_cases hk : m = k ∧ sq.nextC = 93
          · obtain ⟨t', ht'⟩ := nextC_93.1 hk.2
            rw [longL_close (by rw [hsp]; exact hk.1) (by rw [hsp]; exact hk.2), hsp]
            have hcl : closeAt k t = true := by rw [hr]; exact hci.2 ⟨hk.1, t', ht'⟩
            have hj : j = 0 := by simpa [findC, hcl, eq_comm] using hf
            subst hj
            refine ⟨rfl, ?_⟩
            have hs : sq.nextS.rest = t' := by
              obtain ⟨r0, l0, c0⟩ := sq
              obtain rfl : r0 = 93 :: t' := ht'
              rw [St.nextS_else (by decide)]
            show sq.nextS.rest = _
            rw [hs, hr, hk.1, ht', show 0 + k + 2 = k + 1 + 1 by omega, List.drop_succ_cons, List.drop_append]
            simp
          · have hcl : ¬ ((93 : UInt8) = 93 ∧ closeAt k t = true) := fun hx => by
              rw [hr] at hx
              have := hci.1 hx.2
              exact hk ⟨this.1, nextC_93.2 this.2⟩
            rw [longL_sep (by rw [hsp]; exact hk), hsp]
            rw [findC_no hcl, Option.map_eq_some_iff] at hf
            obtain ⟨i, hi, rfl⟩ := hf
            rw [hr, findC_eqs, Option.map_eq_some_iff] at hi
            obtain ⟨i', hi', rfl⟩ := hi
            have hlt : sq.rest.length < n := by
              rw [← hn]; simp only [List.length_cons]; rw [hrt] at hlen; omega
            have := ih _ hlt sq (acc ++ 93 :: List.replicate m 61) i' hi' rfl
            refine ⟨this.1, ?_⟩
            show (longL k sq.nextC sq.nextS (acc ++ 93 :: List.replicate m 61)).2.2.rest = _
            rw [this.2]
            show _ = List.drop (i' + m + 1 + k + 2) (93 :: t)
            rw [hr, show i' + m + 1 + k + 2 = (m + (i' + k + 2)) + 1 by omega, List.drop_succ_cons, List.drop_append]
            simp
        · rw [longL_byte (by omega) (fun e => h93 (UInt8.toNat_inj.1 (by show c.toNat = 93; omega)))]
          simp only [findC_other h93, Option.map_eq_some_iff] at hf
          obtain ⟨i, hi, rfl⟩ := hf
          have := ih _ (by rw [← hn]; simp) ⟨t, line, col + 1⟩ (acc ++ [by8 c.toNat]) i hi rfl
          refine ⟨this.1, ?_⟩
          rw [this.2]
          show _ = List.drop (i + 1 + k + 2) (c :: t)
          rw [show i + 1 + k + 2 = (i + k + 2) + 1 by omega, List.drop_succ_cons]
end Go.Proofs.YtgiklkapedlckaaGreatDoor
