/- skipComments, walked. -/
import Derived.Test.YtgiklkapedlckaaGreatDoorLong
import Derived.Deep.LoopGhost
namespace Go.Proofs.YtgiklkapedlckaaGreatDoor
open Go.RowKit

def ComIs (w : World) (L : Loc) (r : Bool × St) (e : Ending) (w' : World) : Prop := ∃ er, e = .returned er ∧ ErrIs r.1 er ∧ Sc w' L r.2 none ∧ Fr L.own w w'

/-- When a line comment ends, as the machine asks. -/
theorem stop_or (c : Int) (h : c = 10 ∨ c = 13 ∨ c < 0) : (c == 10) = true ∨ ((c == 10) = false ∧ (c == 13) = true) ∨ ((c == 10) = false ∧ (c == 13) = false ∧ c < 0) := by
  by_cases g1 : c = 10
  · left; rw [beq_iff_eq]; exact g1
  · right
    by_cases g2 : c = 13
    · left; exact ⟨by rw [beq_eq_false_iff_ne]; exact g1, by rw [beq_iff_eq]; exact g2⟩
    · right; exact ⟨by rw [beq_eq_false_iff_ne]; exact g1, by rw [beq_eq_false_iff_ne]; exact g2, by omega⟩

set_option maxRecDepth 100000 in
set_option maxHeartbeats 3200000 in
/-- A line comment. -/
theorem com_line (w : World) (L : Loc) (st : St) (c : Int) (h : Sc w L st none) (hx : hd st.rest ≠ 91) :
    Calls Tryz.prog 17 #[.pointer (some ⟨L.S, 0, none⟩), .int .i64 c] w (ComIs w L (comment c st)) := by
  have HC := Lib.hid (show comment c st = (true, lineL c st) from if_neg hx)
  rw [HC.out]
  obtain ⟨R, hR⟩ : ∃ R, R = lineL c st := ⟨_, rfl⟩
  rw [← hR]
  have HR := Lib.hid hR
  have e1 : (hd st.rest == 91) = false := by rw [beq_eq_false_iff_ne]; exact hx
  clear HC hR hx
  go_enter Tryz.func17, Tryz.ntmps17
  go_wp2_with (go_at_call 16; refine (peek_any w L st none h).mono ?_; rintro e w1 ⟨rfl, h1, f1⟩; refine Hid.out ?_)
  refine Lib.hid ?_
  have F1 := Lib.hid f1
  clear h f1
  go_wp2
  clear e1
  go_loopg [1] (mu c st) (fun n ch wr => ∃ (c' : Int) (sp : St), mu c' sp ≤ n ∧ ch = .int .i64 c' ∧ Sc wr L sp none ∧ Fr L.own w wr ∧ R = lineL c' sp)
  case atStart => exact ⟨c, st, Nat.le_refl _, rfl, h1, F1.out, HR.out⟩
  case round =>
    clear h1 F1 HR
    obtain ⟨c', sp, hn, rfl, hS, hf, hR⟩ := hrel
    have HRR := Lib.hid hR
    have HN := Lib.hid hn
    have FR := Lib.hid hf
    clear hR hn hf
    by_cases hbad : c' = 10 ∨ c' = 13 ∨ c' < 0
    · have HE := Lib.hid (HRR.out.trans (lineL_stop hbad))
      have hd := stop_or c' hbad
      clear hbad HRR
      rcases hd with e2 | ⟨e2, e3⟩ | ⟨e2, e3, e4⟩
      all_goals
        go_wp2
        go_ret
        rw [HE.out]
        exact ⟨_, rfl, Or.inl ⟨rfl, rfl⟩, hS, FR.out⟩
    · have HE := Lib.hid (HRR.out.trans (lineL_more hbad))
      have hml := mu_next (c := c') (st := sp) (by omega)
      have HM := Lib.hid hml
      have e2 : (c' == 10) = false := by rw [beq_eq_false_iff_ne]; omega
      have e3 : (c' == 13) = false := by rw [beq_eq_false_iff_ne]; omega
      have e4 : 0 ≤ c' := by omega
      clear hbad HRR hml
      go_wp2_with (go_at_call 18; refine (next_any wr L sp none hS).mono ?_; rintro e w2 ⟨rfl, h2, f2⟩; refine Hid.out ?_)
      refine Lib.hid ?_
      have H2 := Lib.hid (And.intro h2 f2)
      clear hS h2 f2
      go_wp2
      go_roundg (mu sp.nextC sp.nextS)
      case measure => exact Nat.lt_of_lt_of_le HM.out HN.out
      case rel => exact ⟨sp.nextC, sp.nextS, Nat.le_refl _, rfl, H2.out.1, FR.out.trans H2.out.2, HE.out⟩

set_option maxRecDepth 100000 in
set_option maxHeartbeats 3200000 in
/-- A line comment that begins with a bracket. -/
theorem com_brk (w : World) (L : Loc) (st : St) (c : Int) (h : Sc w L st none) (hx : hd st.rest = 91) (hy : ¬ (hd st.nextS.rest = 91 ∨ hd st.nextS.rest = 61)) :
    Calls Tryz.prog 17 #[.pointer (some ⟨L.S, 0, none⟩), .int .i64 c] w (ComIs w L (comment c st)) := by
  have HC := Lib.hid (show comment c st = (true, lineL 91 st.nextS) by unfold comment; rw [if_pos hx, if_neg hy])
  rw [HC.out]
  obtain ⟨R, hR⟩ : ∃ R, R = lineL 91 st.nextS := ⟨_, rfl⟩
  rw [← hR]
  have HR := Lib.hid hR
  have e1 : (hd st.rest == 91) = true := by rw [beq_iff_eq]; exact hx
  have e2 : (hd st.nextS.rest == 91) = false := by rw [beq_eq_false_iff_ne]; omega
  have e3 : (hd st.nextS.rest == 61) = false := by rw [beq_eq_false_iff_ne]; omega
  have hc : st.nextC = 91 := by unfold St.nextC; rw [if_neg (by omega)]; exact hx
  have HNC := Lib.hid hc
  clear HC hR hx hy hc
  go_enter Tryz.func17, Tryz.ntmps17
  go_wp2_with (go_at_call 16; refine (peek_any w L st none h).mono ?_; rintro e w1 ⟨rfl, h1, f1⟩; refine Hid.out ?_)
  refine Lib.hid ?_
  have F1 := Lib.hid f1
  clear h f1
  go_wp2_with (go_at_call 18; refine (next_any w1 L st none h1).mono ?_; rintro e w2 ⟨rfl, h2, f2⟩; refine Hid.out ?_)
  refine Lib.hid ?_
  rw [HNC.out]
  have F2 := Lib.hid (F1.out.trans f2)
  clear h1 f2 F1 HNC e1
  go_wp2_with (go_at_call 16; refine (peek_any w2 L st.nextS none h2).mono ?_; rintro e w3 ⟨rfl, h3, f3⟩; refine Hid.out ?_)
  refine Lib.hid ?_
  have F3 := Lib.hid (F2.out.trans f3)
  clear h2 f3 F2
  go_wp2_with (go_at_call 16; refine (peek_any w3 L st.nextS none h3).mono ?_; rintro e w4 ⟨rfl, h4, f4⟩; refine Hid.out ?_)
  refine Lib.hid ?_
  have F4 := Lib.hid (F3.out.trans f4)
  clear h3 f4 F3
  go_wp2
  clear e2 e3
  go_loopg [1] (mu 91 st.nextS) (fun n ch wr => ∃ (c' : Int) (sp : St), mu c' sp ≤ n ∧ ch = .int .i64 c' ∧ Sc wr L sp none ∧ Fr L.own w wr ∧ R = lineL c' sp)
  case atStart => exact ⟨91, st.nextS, Nat.le_refl _, rfl, h4, F4.out, HR.out⟩
  case round =>
    clear h4 F4 HR
    obtain ⟨c', sp, hn, rfl, hS, hf, hR⟩ := hrel
    have HRR := Lib.hid hR
    have HN := Lib.hid hn
    have FR := Lib.hid hf
    clear hR hn hf
    by_cases hbad : c' = 10 ∨ c' = 13 ∨ c' < 0
    · have HE := Lib.hid (HRR.out.trans (lineL_stop hbad))
      have hd := stop_or c' hbad
      clear hbad HRR
      rcases hd with e2 | ⟨e2, e3⟩ | ⟨e2, e3, e4⟩
      all_goals
        go_wp2
        go_ret
        rw [HE.out]
        exact ⟨_, rfl, Or.inl ⟨rfl, rfl⟩, hS, FR.out⟩
    · have HE := Lib.hid (HRR.out.trans (lineL_more hbad))
      have hml := mu_next (c := c') (st := sp) (by omega)
      have HM := Lib.hid hml
      have e2 : (c' == 10) = false := by rw [beq_eq_false_iff_ne]; omega
      have e3 : (c' == 13) = false := by rw [beq_eq_false_iff_ne]; omega
      have e4 : 0 ≤ c' := by omega
      clear hbad HRR hml
      go_wp2_with (go_at_call 18; refine (next_any wr L sp none hS).mono ?_; rintro e w2 ⟨rfl, h2, f2⟩; refine Hid.out ?_)
      refine Lib.hid ?_
      have H2 := Lib.hid (And.intro h2 f2)
      clear hS h2 f2
      go_wp2
      go_roundg (mu sp.nextC sp.nextS)
      case measure => exact Nat.lt_of_lt_of_le HM.out HN.out
      case rel => exact ⟨sp.nextC, sp.nextS, Nat.le_refl _, rfl, H2.out.1, FR.out.trans H2.out.2, HE.out⟩

set_option maxRecDepth 100000 in
set_option maxHeartbeats 3200000 in
/-- A long comment. -/
theorem com_long (w : World) (L : Loc) (st : St) (c : Int) (h : Sc w L st none) (hl : st.rest.length ≤ 1099511627776) (hx : hd st.rest = 91) (b1 b2 : Bool) (hb1 : (hd st.nextS.rest == 91) = b1) (hb2 : (hd st.nextS.rest == 61) = b2) (hb : b1 = true ∨ (b1 = false ∧ b2 = true)) :
    Calls Tryz.prog 17 #[.pointer (some ⟨L.S, 0, none⟩), .int .i64 c] w (ComIs w L (comment c st)) := by
  have hy : hd st.nextS.rest = 91 ∨ hd st.nextS.rest = 61 := by
    rcases hb with e | ⟨_, e⟩
    · left; rw [e, beq_iff_eq] at hb1; exact hb1
    · right; rw [e, beq_iff_eq] at hb2; exact hb2
  have HC := Lib.hid (show comment c st = ((long st.nextS.nextC st.nextS.nextS).1, (long st.nextS.nextC st.nextS.nextS).2.2) by unfold comment; rw [if_pos hx, if_pos hy])
  rw [HC.out]
  have e1 : (hd st.rest == 91) = true := by rw [beq_iff_eq]; exact hx
  have hl2 : st.nextS.nextS.rest.length ≤ 1099511627776 := by
    have h5 := rest_next_le st
    have h6 := rest_next_le st.nextS
    omega
  have hm := fun (W0 wz : World) (B b : Nat) (hz : At W0 L B b wz st.nextS.nextS []) => multi_at hz st.nextS.nextC hl2
  unfold MultiIs at hm
  generalize long st.nextS.nextC st.nextS.nextS = R at hm ⊢
  clear HC hx hy hl hl2
  rcases hb with hq | ⟨hq, hq2⟩
  · subst hq
    go_enter Tryz.func17, Tryz.ntmps17
    go_wp2_with (go_at_call 16; refine (peek_any w L st none h).mono ?_; rintro e w1 ⟨rfl, h1, f1⟩; refine Hid.out ?_)
    refine Lib.hid ?_
    have F1 := Lib.hid f1
    clear h f1
    go_wp2_with (go_at_call 18; refine (next_any w1 L st none h1).mono ?_; rintro e w2 ⟨rfl, h2, f2⟩; refine Hid.out ?_)
    refine Lib.hid ?_
    have F2 := Lib.hid (F1.out.trans f2)
    clear h1 f2 F1 e1
    go_wp2_with (go_at_call 16; refine (peek_any w2 L st.nextS none h2).mono ?_; rintro e w3 ⟨rfl, h3, f3⟩; refine Hid.out ?_)
    refine Lib.hid ?_
    have F3 := Lib.hid (F2.out.trans f3)
    have hA := At.start h3
    clear h2 f3 F2
    go_wp2_with (first | (go_at_call 18; refine (next_at hA).mono ?_; rintro e w4 ⟨rfl, h4⟩) | (go_at_call 20; refine (hm _ _ _ _ h4).mono ?_; rintro e w5 ⟨er, rfl, her, h5⟩; refine Hid.out ?_))
    refine Lib.hid ?_
    clear hA h3 h4 hm
    rcases her with ⟨q1, rfl⟩ | ⟨q1, k, rfl⟩
    · go_wp2
      go_ret
      exact ⟨_, rfl, Or.inl ⟨q1, rfl⟩, h5.sc, F3.out.trans h5.done⟩
    · go_wp2_with (first | (go_at_call 12; refine (bufString_at h5).mono ?_; rintro e w6 ⟨rfl, nq, rfl⟩) | (go_at_call 21; refine (error_at (h5.drewN _) _ _).mono ?_; rintro e w7 ⟨rfl, h7⟩; refine Hid.out ?_))
      refine Lib.hid ?_
      go_wp2
      go_ret
      exact ⟨_, rfl, Or.inr ⟨q1, _, rfl⟩, h7.sc, F3.out.trans h7.done⟩
  · subst hq
    subst hq2
    go_enter Tryz.func17, Tryz.ntmps17
    go_wp2_with (go_at_call 16; refine (peek_any w L st none h).mono ?_; rintro e w1 ⟨rfl, h1, f1⟩; refine Hid.out ?_)
    refine Lib.hid ?_
    have F1 := Lib.hid f1
    clear h f1
    go_wp2_with (go_at_call 18; refine (next_any w1 L st none h1).mono ?_; rintro e w2 ⟨rfl, h2, f2⟩; refine Hid.out ?_)
    refine Lib.hid ?_
    have F2 := Lib.hid (F1.out.trans f2)
    clear h1 f2 F1 e1
    go_wp2_with (go_at_call 16; refine (peek_any w2 L st.nextS none h2).mono ?_; rintro e w3 ⟨rfl, h3, f3⟩; refine Hid.out ?_)
    refine Lib.hid ?_
    have F3 := Lib.hid (F2.out.trans f3)
    clear h2 f3 F2
    go_wp2_with (go_at_call 16; refine (peek_any w3 L st.nextS none h3).mono ?_; rintro e w8 ⟨rfl, h8, f8⟩; refine Hid.out ?_)
    refine Lib.hid ?_
    have F8 := Lib.hid (F3.out.trans f8)
    have hA := At.start h8
    clear h3 f8 F3
    go_wp2_with (first | (go_at_call 18; refine (next_at hA).mono ?_; rintro e w4 ⟨rfl, h4⟩) | (go_at_call 20; refine (hm _ _ _ _ h4).mono ?_; rintro e w5 ⟨er, rfl, her, h5⟩; refine Hid.out ?_))
    refine Lib.hid ?_
    clear hA h8 h4 hm
    rcases her with ⟨q1, rfl⟩ | ⟨q1, k, rfl⟩
    · go_wp2
      go_ret
      exact ⟨_, rfl, Or.inl ⟨q1, rfl⟩, h5.sc, F8.out.trans h5.done⟩
    · go_wp2_with (first | (go_at_call 12; refine (bufString_at h5).mono ?_; rintro e w6 ⟨rfl, nq, rfl⟩) | (go_at_call 21; refine (error_at (h5.drewN _) _ _).mono ?_; rintro e w7 ⟨rfl, h7⟩; refine Hid.out ?_))
      refine Lib.hid ?_
      go_wp2
      go_ret
      exact ⟨_, rfl, Or.inr ⟨q1, _, rfl⟩, h7.sc, F8.out.trans h7.done⟩

/-- skipComments. -/
theorem comment_any (w : World) (L : Loc) (st : St) (c : Int) (h : Sc w L st none) (hl : st.rest.length ≤ 1099511627776) :
    Calls Tryz.prog 17 #[.pointer (some ⟨L.S, 0, none⟩), .int .i64 c] w (ComIs w L (comment c st)) := by
  by_cases hx : hd st.rest = 91
  · by_cases hy : hd st.nextS.rest = 91 ∨ hd st.nextS.rest = 61
    · refine com_long w L st c h hl hx _ _ rfl rfl ?_
      by_cases h1 : hd st.nextS.rest = 91
      · left; rw [beq_iff_eq]; exact h1
      · right; exact ⟨by rw [beq_eq_false_iff_ne]; exact h1, by rw [beq_iff_eq]; omega⟩
    · exact com_brk w L st c h hx hy
  · exact com_line w L st c h hx
end Go.Proofs.YtgiklkapedlckaaGreatDoor
