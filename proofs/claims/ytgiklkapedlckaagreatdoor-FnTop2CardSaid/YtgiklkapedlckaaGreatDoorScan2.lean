/- The scanner's Newline and Next, walked. -/
import Derived.Test.YtgiklkapedlckaaGreatDoorScan1
namespace Go.Proofs.YtgiklkapedlckaaGreatDoor
open Go.RowKit

theorem St.nextS_brk {c : UInt8} {t : List UInt8} {line col : Int} (h : (c.toNat : Int) = 10 ∨ (c.toNat : Int) = 13) : (⟨c :: t, line, col⟩ : St).nextS = (⟨t, line, col⟩ : St).newline c.toNat := by
  have hp : ¬ hd (c :: t) < 0 := by simp only [hd]; omega
  unfold St.nextS
  rw [if_neg hp, if_pos (by simpa [hd] using h)]
  rfl
theorem St.nextS_else {c : UInt8} {t : List UInt8} {line col : Int} (h : ¬ ((c.toNat : Int) = 10 ∨ (c.toNat : Int) = 13)) : (⟨c :: t, line, col⟩ : St).nextS = ⟨t, line, col + 1⟩ := by
  have hp : ¬ hd (c :: t) < 0 := by simp only [hd]; omega
  unfold St.nextS
  rw [if_neg hp, if_neg (by simpa [hd] using h)]
  rfl
theorem St.nextC_brk {c : UInt8} {t : List UInt8} {line col : Int} (h : (c.toNat : Int) = 10 ∨ (c.toNat : Int) = 13) : (⟨c :: t, line, col⟩ : St).nextC = 10 := by
  unfold St.nextC
  rcases h with h | h
  · rw [if_neg (by simp [hd]; omega)]; simpa [hd] using h
  · rw [if_pos (by simpa [hd] using h)]
theorem St.nextC_else {c : UInt8} {t : List UInt8} {line col : Int} (h : ¬ ((c.toNat : Int) = 10 ∨ (c.toNat : Int) = 13)) : (⟨c :: t, line, col⟩ : St).nextC = c.toNat := by
  unfold St.nextC
  rw [if_neg (by simp only [hd]; omega)]; rfl

theorem Sc.pos {w : World} {L : Loc} {st : St} {lb : Option UInt8} (h : Sc w L st lb) (l c : Int) (hb : (⟨st.rest, l, c⟩ : St).Bd) :
    Sc ((w.setCell ⟨L.S, 1, none⟩ (.int .i64 l)).setCell ⟨L.S, 2, none⟩ (.int .i64 c)) L ⟨st.rest, l, c⟩ lb :=
  ⟨(h.bS.set 1 _).set 2 _, (h.rd.setS 1 _).setS 2 _, hb⟩
theorem Sc.col {w : World} {L : Loc} {st : St} {lb : Option UInt8} (h : Sc w L st lb) (c : Int) (hb : (⟨st.rest, st.line, c⟩ : St).Bd) :
    Sc (w.setCell ⟨L.S, 2, none⟩ (.int .i64 c)) L ⟨st.rest, st.line, c⟩ lb :=
  ⟨h.bS.set 2 _, h.rd.setS 2 _, hb⟩

set_option maxRecDepth 100000 in
set_option maxHeartbeats 1600000 in
/-- Newline at a number below zero: nothing. -/
theorem newline_neg (w : World) (L : Loc) (ch : Int) (hch : ch < 0) :
    Calls Tryz.prog 41 #[.pointer (some ⟨L.S, 0, none⟩), .int .i64 ch] w
      fun e w' => e = .returned (.tuple #[]) ∧ w' = w := by
  go_enter Tryz.func41, Tryz.ntmps41
  go_wp2
  refine bodyPost_ret (results_none rfl _ _ _) rfl ?_
  exact ⟨rfl, rfl⟩

set_option maxRecDepth 100000 in
set_option maxHeartbeats 3200000 in
/-- Newline, nothing to swallow. -/
theorem newline_plain (w : World) (L : Loc) (st : St) (lb : Option UInt8) (h : Sc w L st lb) (ch : Int) (hch : 0 ≤ ch) (hb : st.line + st.rest.length + 1 ≤ 2305843009213693951) (hp : pair ch (hd st.rest) = false) :
    Calls Tryz.prog 41 #[.pointer (some ⟨L.S, 0, none⟩), .int .i64 ch] w
      fun e w' => e = .returned (.tuple #[]) ∧ Sc w' L ⟨st.rest, st.line + 1, 0⟩ none ∧ Fr L.own w w' := by
  obtain ⟨rest, line, col⟩ := st
  have hB := h.bd.newline ch hb
  rw [St.newline_pos hch, hp] at hB
  have b0 := h.bd.l0
  simp only at b0 hb
  obtain ⟨_, c1, c2, _, f1, f2⟩ := h.facts
  have h1 := h.pos (line + 1) 0 hB
  have fr1 : Fr L.own w ((w.setCell ⟨L.S, 1, none⟩ (.int .i64 (line + 1))).setCell ⟨L.S, 2, none⟩ (.int .i64 0)) := ((Fr.refl _ _).setCell (by simp [Loc.own]) _).setCell (by simp [Loc.own]) _
  have HB := Lib.hid hB
  have HP := Lib.hid hp
  clear hB hp
  go_enter Tryz.func41, Tryz.ntmps41
  go_wp2_with (go_at_call 16; refine (peek_any _ L _ lb h1).mono ?_; rintro e w' ⟨rfl, h', fr⟩; refine Hid.out ?_)
  refine Lib.hid ?_
  clear c1 c2 f1 f2
  have hp := HP.out
  unfold pair at hp
  generalize hd rest = n at hp ⊢
  have H' := Lib.hid (And.intro h' (fr1.trans fr))
  clear h' fr h1 fr1 h HB HP
  cases hA : (ch == 10) <;> cases hB : (n == 13) <;> cases hC : (ch == 13) <;> cases hD : (n == 10) <;> simp only [hA, hB, hC, hD, Bool.and_true, Bool.and_false, Bool.or_true, Bool.or_false, Bool.true_eq_false] at hp
  all_goals try (exfalso; exact hp)
  all_goals (clear hp; go_wp2; refine bodyPost_end (results_none rfl _ _ _) rfl ⟨rfl, H'.out⟩)

set_option maxRecDepth 100000 in
set_option maxHeartbeats 3200000 in
/-- Newline, the other half of the break is swallowed. -/
theorem newline_pair (w : World) (L : Loc) (st : St) (lb : Option UInt8) (h : Sc w L st lb) (ch : Int) (hch : 0 ≤ ch) (hb : st.line + st.rest.length + 1 ≤ 2305843009213693951) (hp : pair ch (hd st.rest) = true) :
    Calls Tryz.prog 41 #[.pointer (some ⟨L.S, 0, none⟩), .int .i64 ch] w
      fun e w' => e = .returned (.tuple #[]) ∧ Sc w' L ⟨tl st.rest, st.line + 1, 0⟩ none ∧ Fr L.own w w' := by
  obtain ⟨rest, line, col⟩ := st
  have hB := h.bd.newline ch hb
  rw [St.newline_pos hch, hp] at hB
  have b0 := h.bd.l0
  simp only at b0 hb
  obtain ⟨d, t, rfl⟩ : ∃ d t, rest = d :: t := by
    cases rest with
    | nil => simp [pair, hd] at hp
    | cons d t => exact ⟨d, t, rfl⟩
  have hB0 : (⟨d :: t, line + 1, 0⟩ : St).Bd := ⟨by show -1 ≤ line + 1; omega, Int.le_refl _, by show line + 1 + 0 + (((d :: t).length : Nat) : Int) ≤ _; omega⟩
  obtain ⟨_, c1, c2, _, f1, f2⟩ := h.facts
  have h1 := h.pos (line + 1) 0 hB0
  have fr1 : Fr L.own w ((w.setCell ⟨L.S, 1, none⟩ (.int .i64 (line + 1))).setCell ⟨L.S, 2, none⟩ (.int .i64 0)) := ((Fr.refl _ _).setCell (by simp [Loc.own]) _).setCell (by simp [Loc.own]) _
  have HB := Lib.hid hB
  have HP := Lib.hid hp
  clear hB hp
  go_enter Tryz.func41, Tryz.ntmps41
  go_wp2_with (go_at_call 16; refine (peek_any _ L _ lb h1).mono ?_; rintro e w' ⟨rfl, h', fr⟩; refine Hid.out ?_)
  refine Lib.hid ?_
  clear c1 c2 f1 f2
  have hp := HP.out
  unfold pair at hp
  simp only [hd] at hp ⊢
  have HF := Lib.hid (fr1.trans fr)
  have H' := Lib.hid (show Sc w' L ⟨d :: t, line + 1, 0⟩ none from h')
  obtain ⟨_, _, _, c3, _, _⟩ := h'.facts
  clear h' fr h1 fr1 h HP
  generalize (d.toNat : Int) = n at hp ⊢
  cases hA : (ch == 10) <;> cases hB : (n == 13) <;> cases hC : (ch == 13) <;> cases hD : (n == 10) <;> simp only [hA, hB, hC, hD, Bool.and_true, Bool.and_false, Bool.or_true, Bool.or_false, Bool.false_eq_true] at hp
  all_goals try (exfalso; exact hp)
  all_goals
    clear hp
    go_wp2_with (go_at_call 49; refine (readByte_cons w' L none d t H'.out.rd).mono ?_; rintro e w'' ⟨rfl, hr, fr⟩)
    refine bodyPost_end (results_none rfl _ _ _) rfl ⟨rfl, (H'.out.after (st' := ⟨t, line + 1, 0⟩) hr fr rfl rfl HB.out).weak, HF.out.trans (fr.mono Loc.rown_own)⟩

/-- Newline at a number not below zero. -/
theorem newline_any (w : World) (L : Loc) (st : St) (lb : Option UInt8) (h : Sc w L st lb) (ch : Int) (hch : 0 ≤ ch) (hb : st.line + st.rest.length + 1 ≤ 2305843009213693951) :
    Calls Tryz.prog 41 #[.pointer (some ⟨L.S, 0, none⟩), .int .i64 ch] w
      fun e w' => e = .returned (.tuple #[]) ∧ Sc w' L (st.newline ch) none ∧ Fr L.own w w' := by
  rw [St.newline_pos hch]
  cases hp : pair ch (hd st.rest)
  · exact newline_plain w L st lb h ch hch hb hp
  · exact newline_pair w L st lb h ch hch hb hp

set_option maxRecDepth 100000 in
set_option maxHeartbeats 3200000 in
/-- Next. -/
theorem next_any (w : World) (L : Loc) (st : St) (lb : Option UInt8) (h : Sc w L st lb) :
    Calls Tryz.prog 18 #[.pointer (some ⟨L.S, 0, none⟩)] w
      fun e w' => e = .returned (.int .i64 st.nextC) ∧ Sc w' L st.nextS none ∧ Fr L.own w w' := by
  obtain ⟨rest, line, col⟩ := st
  cases rest with
  | nil =>
    rw [St.nextC_eof rfl, St.nextS_eof rfl]
    go_enter Tryz.func18, Tryz.ntmps18
    go_wp2_with (go_at_call 39; refine (readNext_nil w L _ lb h rfl).mono ?_; rintro e w' ⟨rfl, h', fr⟩; refine Hid.out ?_)
    refine Lib.hid ?_
    obtain ⟨_, c1, c2, _, f1, f2⟩ := h'.facts
    go_wp2
    go_ret
    exact ⟨rfl, h'.pos (-1) 0 ⟨Int.le_refl (-1), Int.le_refl 0, by show (-1 : Int) + 0 + ((0 : Nat) : Int) ≤ 2305843009213693951; decide⟩, (fr.setCell (by simp [Loc.own]) _).setCell (by simp [Loc.own]) _⟩
  | cons c t =>
    have b0 := h.bd.l0
    have b1 := h.bd.c0
    have b2 := h.bd.top
    simp only [List.length_cons] at b0 b1 b2
    have hc0 : (0 : Int) ≤ (c.toNat : Int) := by omega
    by_cases hbr : (c.toNat : Int) = 10 ∨ (c.toNat : Int) = 13
    · rw [St.nextC_brk hbr, St.nextS_brk hbr]
      have HBR := Lib.hid hbr
      have hbb : (⟨t, line, col⟩ : St).line + ((⟨t, line, col⟩ : St).rest.length : Nat) + 1 ≤ 2305843009213693951 := by show line + (t.length : Nat) + 1 ≤ _; omega
      rcases hbr with hbr | hbr
      · have e1 : ((c.toNat : Int) == 10) = true := by rw [beq_iff_eq]; exact hbr
        clear hbr
        go_enter Tryz.func18, Tryz.ntmps18
        go_wp2_with (go_at_call 39; refine (readNext_cons w L _ lb c t h rfl).mono ?_; rintro e w' ⟨rfl, h', fr⟩; refine Hid.out ?_)
        refine Lib.hid ?_
        go_wp2_with (go_at_call 41; refine (newline_any w' L _ _ h' c.toNat hc0 hbb).mono ?_; rintro e w'' ⟨rfl, h2, fr2⟩)
        go_ret
        exact ⟨rfl, h2, fr.trans fr2⟩
      · have e1 : ((c.toNat : Int) == 10) = false := by rw [beq_eq_false_iff_ne]; omega
        have e2 : ((c.toNat : Int) == 13) = true := by rw [beq_iff_eq]; exact hbr
        clear hbr
        go_enter Tryz.func18, Tryz.ntmps18
        go_wp2_with (go_at_call 39; refine (readNext_cons w L _ lb c t h rfl).mono ?_; rintro e w' ⟨rfl, h', fr⟩; refine Hid.out ?_)
        refine Lib.hid ?_
        go_wp2_with (go_at_call 41; refine (newline_any w' L _ _ h' c.toNat hc0 hbb).mono ?_; rintro e w'' ⟨rfl, h2, fr2⟩)
        go_ret
        exact ⟨rfl, h2, fr.trans fr2⟩
    · rw [St.nextC_else hbr, St.nextS_else hbr]
      have e1 : ((c.toNat : Int) == 10) = false := by rw [beq_eq_false_iff_ne]; omega
      have e2 : ((c.toNat : Int) == 13) = false := by rw [beq_eq_false_iff_ne]; omega
      have e3 : ((c.toNat : Int) == -1) = false := by rw [beq_eq_false_iff_ne]; omega
      clear hbr
      go_enter Tryz.func18, Tryz.ntmps18
      go_wp2_with (go_at_call 39; refine (readNext_cons w L _ lb c t h rfl).mono ?_; rintro e w' ⟨rfl, h', fr⟩; refine Hid.out ?_)
      refine Lib.hid ?_
      obtain ⟨_, c1, c2, _, f1, f2⟩ := h'.facts
      go_wp2
      go_ret
      exact ⟨rfl, (h'.col (col + 1) ⟨b0, by show (0 : Int) ≤ col + 1; omega, by show line + (col + 1) + (t.length : Nat) ≤ _; omega⟩).weak, fr.setCell (by simp [Loc.own]) _⟩
end Go.Proofs.YtgiklkapedlckaaGreatDoor
