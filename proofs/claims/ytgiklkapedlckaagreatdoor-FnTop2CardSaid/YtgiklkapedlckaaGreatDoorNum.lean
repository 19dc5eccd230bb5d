/- scanIdent, scanDecimal, scanNumber, walked. -/
import Derived.Test.YtgiklkapedlckaaGreatDoorLong
import Derived.Test.YtgiklkapedlckaaGreatDoorIdent
import Derived.Test.YtgiklkapedlckaaGreatDoorStream
import Derived.Deep.LoopGhost
namespace Go.Proofs.YtgiklkapedlckaaGreatDoor
open Go.RowKit

theorem Cls.step {p : Int → Bool} (h : Cls p) {st : St} (hp : p (hd st.rest) = true) : st.run p = by8 st.nextC :: st.nextS.run p ∧ st.adv p = st.nextS.adv p ∧ st.nextS.rest.length + 1 = st.rest.length := by
  obtain ⟨c, t, hr, hc, hb⟩ := h.cons hp
  obtain ⟨rest, line, col⟩ := st
  obtain rfl : rest = c :: t := hr
  rw [St.nextC_else hb, St.nextS_else hb, by8_u8]
  exact ⟨run_yes hc, adv_yes hc, rfl⟩
/-- A state is at most as long. -/
theorem dec_len (c : Int) (st : St) : (dec c st).1.length + (dec c st).2.rest.length = st.rest.length + 1 := by
  have := run_len decI st
  simp only [dec, List.length_cons]; omega

theorem frac_len (st : St) : (frac st).1.length + (frac st).2.rest.length ≤ st.rest.length + 1 := by
  unfold frac; split
  · have h6 := dec_len st.nextC st.nextS
    have h7 := rest_next_le st
    omega
  · simp

set_option maxRecDepth 100000 in
set_option maxHeartbeats 3200000 in
theorem ident_at {W0 w : World} {L : Loc} {B b : Nat} {st : St} {l : List UInt8} (h : At W0 L B b w st l) (c : Int) (hl : l.length + st.rest.length ≤ 8796093022208) :
    Calls Tryz.prog 11 #[.pointer (some ⟨L.S, 0, none⟩), .int .i64 c, .pointer (some ⟨b, 0, none⟩)] w fun e w' => e = .returned .nilIface ∧ At W0 L B b w' (st.adv identI) (l ++ by8 c :: st.run identI) := by
  have HL1 := Lib.hid (show l.length + 1 ≤ 140737488355328 by omega)
  have HL2 := Lib.hid (show (l ++ [by8 c]).length + st.rest.length ≤ 8796093022209 by simp; omega)
  clear hl
  go_enter Tryz.func11, Tryz.ntmps11
  go_wp2_with (go_at_call 22; refine (writeChar_at h c HL1.out).mono ?_; rintro e w1 ⟨rfl, h1⟩; refine Hid.out ?_)
  refine Lib.hid ?_
  clear h
  go_wp2
  go_loopg [] st.rest.length (fun n wr => ∃ (sp : St) (acc : List UInt8), sp.rest.length ≤ n ∧ acc.length + sp.rest.length ≤ 8796093022209 ∧ At W0 L B b wr sp acc ∧ acc ++ sp.run identI = l ++ by8 c :: st.run identI ∧ sp.adv identI = st.adv identI)
  case atStart => exact ⟨st, l ++ [by8 c], Nat.le_refl _, HL2.out, h1, by simp, rfl⟩
  case round =>
    clear h1 HL1 HL2
    obtain ⟨sp, acc, hn, hacc, hS, hrun, hadv⟩ := hrel
    have HN := Lib.hid hn
    have HV := Lib.hid (And.intro hrun hadv)
    clear hn hrun hadv
    cases hp : identI (hd sp.rest)
    · have HP := Lib.hid hp
      have HE := Lib.hid (show acc = l ++ by8 c :: st.run identI ∧ sp = st.adv identI by
        have h1 := HV.out.1
        have h2 := HV.out.2
        rw [run_no hp, List.append_nil] at h1
        rw [adv_no hp] at h2
        exact ⟨h1, h2⟩)
      clear hp hacc
      go_wp2_with (first | (go_at_call 16; refine (peek_at hS).mono ?_; rintro e w2 ⟨rfl, h2⟩) | (go_at_call 10; refine (isIdent1_no _ _ HP).mono ?_; rintro e w5 ⟨rfl, rfl⟩))
      go_ret
      rw [← HE.out.1, ← HE.out.2]
      exact ⟨rfl, h2⟩
    · have HP := Lib.hid hp
      obtain ⟨g1, g2, g3⟩ := Cls.step cls_ident hp
      have HE := Lib.hid (show (acc ++ [by8 sp.nextC]) ++ sp.nextS.run identI = l ++ by8 c :: st.run identI ∧ sp.nextS.adv identI = st.adv identI by
        rw [← HV.out.1, ← HV.out.2, g1, g2, List.append_assoc]
        exact ⟨rfl, rfl⟩)
      have HL1 := Lib.hid (show acc.length + 1 ≤ 140737488355328 by omega)
      have HL2 := Lib.hid (show acc.length + 1 + sp.nextS.rest.length ≤ 8796093022209 ∧ sp.nextS.rest.length < sp.rest.length by omega)
      clear hp hacc g1 g2 g3
      go_wp2_with (first | (go_at_call 16; refine (peek_at hS).mono ?_; rintro e w2 ⟨rfl, h2⟩) | (go_at_call 10; refine (isIdent1_yes _ _ HP).mono ?_; rintro e w5 ⟨rfl, rfl⟩) | (go_at_call 18; refine (next_at h2).mono ?_; rintro e w3 ⟨rfl, h3⟩) | (go_at_call 22; refine (writeChar_at h3 _ HL1.out).mono ?_; rintro e w4 ⟨rfl, h4⟩; refine Hid.out ?_))
      refine Lib.hid ?_
      have H4 := Lib.hid h4
      clear hS h2 h3 h4
      go_wp2
      go_roundg sp.nextS.rest.length
      case measure => exact Nat.lt_of_lt_of_le HL2.out.2 HN.out
      case rel => exact ⟨sp.nextS, acc ++ [by8 sp.nextC], Nat.le_refl _, by have := HL2.out.1; simp; omega, H4.out, HE.out.1, HE.out.2⟩

set_option maxRecDepth 100000 in
set_option maxHeartbeats 3200000 in
theorem dec_at {W0 w : World} {L : Loc} {B b : Nat} {st : St} {l : List UInt8} (h : At W0 L B b w st l) (c : Int) (hl : l.length + st.rest.length ≤ 8796093022208) :
    Calls Tryz.prog 38 #[.pointer (some ⟨L.S, 0, none⟩), .int .i64 c, .pointer (some ⟨b, 0, none⟩)] w fun e w' => e = .returned .nilIface ∧ At W0 L B b w' (st.adv decI) (l ++ by8 c :: st.run decI) := by
  have HL1 := Lib.hid (show l.length + 1 ≤ 140737488355328 by omega)
  have HL2 := Lib.hid (show (l ++ [by8 c]).length + st.rest.length ≤ 8796093022209 by simp; omega)
  clear hl
  go_enter Tryz.func38, Tryz.ntmps38
  go_wp2_with (go_at_call 22; refine (writeChar_at h c HL1.out).mono ?_; rintro e w1 ⟨rfl, h1⟩; refine Hid.out ?_)
  refine Lib.hid ?_
  clear h
  go_wp2
  go_loopg [] st.rest.length (fun n wr => ∃ (sp : St) (acc : List UInt8), sp.rest.length ≤ n ∧ acc.length + sp.rest.length ≤ 8796093022209 ∧ At W0 L B b wr sp acc ∧ acc ++ sp.run decI = l ++ by8 c :: st.run decI ∧ sp.adv decI = st.adv decI)
  case atStart => exact ⟨st, l ++ [by8 c], Nat.le_refl _, HL2.out, h1, by simp, rfl⟩
  case round =>
    clear h1 HL1 HL2
    obtain ⟨sp, acc, hn, hacc, hS, hrun, hadv⟩ := hrel
    have HN := Lib.hid hn
    have HV := Lib.hid (And.intro hrun hadv)
    clear hn hrun hadv
    cases hp : decI (hd sp.rest)
    · have HP := Lib.hid hp
      have HE := Lib.hid (show acc = l ++ by8 c :: st.run decI ∧ sp = st.adv decI by
        have h1 := HV.out.1
        have h2 := HV.out.2
        rw [run_no hp, List.append_nil] at h1
        rw [adv_no hp] at h2
        exact ⟨h1, h2⟩)
      clear hp hacc
      go_wp2_with (first | (go_at_call 16; refine (peek_at hS).mono ?_; rintro e w2 ⟨rfl, h2⟩) | (go_at_call 14; refine (isDecimal_no _ _ HP).mono ?_; rintro e w5 ⟨rfl, rfl⟩))
      go_ret
      rw [← HE.out.1, ← HE.out.2]
      exact ⟨rfl, h2⟩
    · have HP := Lib.hid hp
      obtain ⟨g1, g2, g3⟩ := Cls.step cls_dec hp
      have HE := Lib.hid (show (acc ++ [by8 sp.nextC]) ++ sp.nextS.run decI = l ++ by8 c :: st.run decI ∧ sp.nextS.adv decI = st.adv decI by
        rw [← HV.out.1, ← HV.out.2, g1, g2, List.append_assoc]
        exact ⟨rfl, rfl⟩)
      have HL1 := Lib.hid (show acc.length + 1 ≤ 140737488355328 by omega)
      have HL2 := Lib.hid (show acc.length + 1 + sp.nextS.rest.length ≤ 8796093022209 ∧ sp.nextS.rest.length < sp.rest.length by omega)
      clear hp hacc g1 g2 g3
      go_wp2_with (first | (go_at_call 16; refine (peek_at hS).mono ?_; rintro e w2 ⟨rfl, h2⟩) | (go_at_call 14; refine (isDecimal_yes _ _ HP).mono ?_; rintro e w5 ⟨rfl, rfl⟩) | (go_at_call 18; refine (next_at h2).mono ?_; rintro e w3 ⟨rfl, h3⟩) | (go_at_call 22; refine (writeChar_at h3 _ HL1.out).mono ?_; rintro e w4 ⟨rfl, h4⟩; refine Hid.out ?_))
      refine Lib.hid ?_
      have H4 := Lib.hid h4
      clear hS h2 h3 h4
      go_wp2
      go_roundg sp.nextS.rest.length
      case measure => exact Nat.lt_of_lt_of_le HL2.out.2 HN.out
      case rel => exact ⟨sp.nextS, acc ++ [by8 sp.nextC], Nat.le_refl _, by have := HL2.out.1; simp; omega, H4.out, HE.out.1, HE.out.2⟩

theorem dec2_at {W0 w : World} {L : Loc} {B b : Nat} {st : St} {l : List UInt8} (h : At W0 L B b w st l) (c : Int) (hl : l.length + st.rest.length ≤ 8796093022208) :
    Calls Tryz.prog 38 #[.pointer (some ⟨L.S, 0, none⟩), .int .i64 c, .pointer (some ⟨b, 0, none⟩)] w fun e w' => e = .returned .nilIface ∧ At W0 L B b w' (dec c st).2 (l ++ (dec c st).1) := dec_at h c hl


/-- The numeral's start: the character in hand behind a dropped nought, and the state. -/
def num0 (c : Int) (st : St) : Int × St := if c = 48 ∧ decI (hd st.rest) = true then (st.nextC, st.nextS) else (c, st)
theorem num_eq (c : Int) (st : St) (h : ¬ (c = 48 ∧ (hd st.rest = 120 ∨ hd st.rest = 88))) : num c st = (true, numT (num0 c st).1 (num0 c st).2) := by
  unfold num num0
  by_cases hc : c = 48
  · have hx : ¬ (hd st.rest = 120 ∨ hd st.rest = 88) := fun e => h ⟨hc, e⟩
    rw [if_pos hc, if_neg hx]
    by_cases hd' : decI (hd st.rest) = true
    · rw [if_pos hd', if_pos ⟨hc, hd'⟩]
    · rw [if_neg hd', if_neg (fun e => hd' e.2), hc]
  · rw [if_neg hc, if_neg (fun e => hc e.1)]
theorem num0_len (c : Int) (st : St) : (num0 c st).2.rest.length ≤ st.rest.length := by
  unfold num0; split
  · exact rest_next_le st
  · exact Nat.le_refl _
def NumIs (W0 : World) (L : Loc) (B b : Nat) (l : List UInt8) (r : Bool × List UInt8 × St) (e : Ending) (w' : World) : Prop := ∃ er, e = .returned er ∧ ErrIs r.1 er ∧ At W0 L B b w' r.2.2 (l ++ r.2.1)
set_option maxRecDepth 100000 in
set_option maxHeartbeats 6400000 in
theorem num_dec {W0 w : World} {L : Loc} {B b : Nat} {st : St} {l : List UInt8} (h : At W0 L B b w st l) (c : Int) (hl : l.length + st.rest.length ≤ 4398046511104) (hx : ¬ (c = 48 ∧ (hd st.rest = 120 ∨ hd st.rest = 88))) :
    Calls Tryz.prog 15 #[.pointer (some ⟨L.S, 0, none⟩), .int .i64 c, .pointer (some ⟨b, 0, none⟩)] w (NumIs W0 L B b l (num c st)) := by
  have HNUM := Lib.hid (num_eq c st hx)
  rw [HNUM.out]
  have h0l := num0_len c st
  have HL0 := Lib.hid (show l.length + (num0 c st).2.rest.length ≤ 4398046511104 by omega)
  clear hl h0l HNUM
  obtain ⟨r, hr⟩ : ∃ r, r = num0 c st := ⟨_, rfl⟩
  rw [← hr] at HL0 ⊢
  have HR := Lib.hid hr
  clear hr
  obtain ⟨c0, s0⟩ := r
  have HX := Lib.hid hx
  clear hx
  go_enter Tryz.func15, Tryz.ntmps15
  go_upto_if 9 with fail
  go_cut [1] (fun ch wx => ch = .int .i64 c0 ∧ At W0 L B b wx s0 l)
  case first =>
    by_cases hc : c = 48
    · subst hc
      have hn1 : (hd st.rest == 120) = false := by rw [beq_eq_false_iff_ne]; exact fun e => HX.out ⟨rfl, Or.inl e⟩
      have hn2 : (hd st.rest == 88) = false := by rw [beq_eq_false_iff_ne]; exact fun e => HX.out ⟨rfl, Or.inr e⟩
      cases hd' : decI (hd st.rest)
      · have HD := Lib.hid hd'
        have HRE := Lib.hid (show (c0, s0) = (48, st) by rw [HR.out]; unfold num0; rw [if_neg (by rw [hd']; simp)])
        have HC := Lib.hid (Prod.mk.inj HRE.out)
        clear hd' HRE
        by_cases h46 : hd st.rest = 46
        · have e46 : (hd st.rest != 46) = false := by simp [h46]
          clear h46
          go_wp2_with (first | (go_at_call 16; refine (peek_at h).mono ?_; rintro e w2 ⟨rfl, h2⟩) | (go_at_call 16; refine (peek_at h2).mono ?_; rintro e w3 ⟨rfl, h3⟩) | (go_at_call 16; refine (peek_at h3).mono ?_; rintro e w4 ⟨rfl, h4⟩))
          go_meet
          rw [HC.out.1, HC.out.2]
          exact ⟨rfl, h4⟩
        · have e46 : (hd st.rest != 46) = true := by rw [bne_iff_ne]; exact h46
          clear h46
          go_wp2_with (first | (go_at_call 16; refine (peek_at h).mono ?_; rintro e w2 ⟨rfl, h2⟩) | (go_at_call 16; refine (peek_at h2).mono ?_; rintro e w3 ⟨rfl, h3⟩) | (go_at_call 16; refine (peek_at h3).mono ?_; rintro e w4 ⟨rfl, h4⟩) | (go_at_call 16; refine (peek_at h4).mono ?_; rintro e w5 ⟨rfl, h5⟩) | (go_at_call 14; refine (isDecimal_no _ _ HD).mono ?_; rintro e w6 ⟨rfl, rfl⟩))
          go_meet
          rw [HC.out.1, HC.out.2]
          exact ⟨rfl, h5⟩
      · have HD := Lib.hid hd'
        have HRE := Lib.hid (show (c0, s0) = (st.nextC, st.nextS) by rw [HR.out]; unfold num0; rw [if_pos ⟨rfl, hd'⟩])
        have HC := Lib.hid (Prod.mk.inj HRE.out)
        have e46 : (hd st.rest != 46) = true := by
          rw [bne_iff_ne]; intro e; rw [e] at hd'; revert hd'; decide
        clear hd' HRE
        go_wp2_with (first | (go_at_call 16; refine (peek_at h).mono ?_; rintro e w2 ⟨rfl, h2⟩) | (go_at_call 16; refine (peek_at h2).mono ?_; rintro e w3 ⟨rfl, h3⟩) | (go_at_call 16; refine (peek_at h3).mono ?_; rintro e w4 ⟨rfl, h4⟩) | (go_at_call 16; refine (peek_at h4).mono ?_; rintro e w5 ⟨rfl, h5⟩) | (go_at_call 14; refine (isDecimal_yes _ _ HD).mono ?_; rintro e w6 ⟨rfl, rfl⟩) | (go_at_call 18; refine (next_at h5).mono ?_; rintro e w7 ⟨rfl, h7⟩))
        go_meet
        rw [HC.out.1, HC.out.2]
        exact ⟨rfl, h7⟩
    · have hc' : (c == 48) = false := by rw [beq_eq_false_iff_ne]; exact hc
      have HRE := Lib.hid (show (c0, s0) = (c, st) by rw [HR.out]; unfold num0; rw [if_neg (fun e => hc e.1)])
      have HC := Lib.hid (Prod.mk.inj HRE.out)
      clear hc HRE
      go_wp2
      go_meet
      rw [HC.out.1, HC.out.2]
      exact ⟨rfl, h⟩
  case rest =>
    obtain ⟨rfl, h0⟩ := hcut
    clear h HX HR
    have hd1 := dec_len c0 s0
    have HL1 := Lib.hid (show l.length + s0.rest.length ≤ 8796093022208 by have := HL0.out; simp only at this; omega)
    have HS1 := Lib.hid (show (l ++ (dec c0 s0).1).length + (dec c0 s0).2.rest.length ≤ 4398046511105 by have := HL0.out; simp only at this; simp only [List.length_append]; omega)
    clear hd1 HL0
    go_upto_if 55 with (first | (go_at_call 38; refine (dec2_at h0 _ HL1.out).mono ?_; rintro e w1 ⟨rfl, h1⟩) | (go_at_call 16; refine (peek_at h1).mono ?_; rintro e w2 ⟨rfl, h2⟩))
    clear h0 h1
    go_cut [] (fun wx => At W0 L B b wx (frac (dec c0 s0).2).2 (l ++ ((dec c0 s0).1 ++ (frac (dec c0 s0).2).1)))
    case first =>
      by_cases h46 : hd (dec c0 s0).2.rest = 46
      · have HF := Lib.hid (show frac (dec c0 s0).2 = dec (dec c0 s0).2.nextC (dec c0 s0).2.nextS from if_pos h46)
        have e46 : (hd (dec c0 s0).2.rest == 46) = true := by rw [beq_iff_eq]; exact h46
        have HL2 := Lib.hid (show (l ++ (dec c0 s0).1).length + (dec c0 s0).2.nextS.rest.length ≤ 8796093022208 by have := HS1.out; have := rest_next_le (dec c0 s0).2; omega)
        clear h46 HS1
        go_wp2_with (first | (go_at_call 18; refine (next_at h2).mono ?_; rintro e w3 ⟨rfl, h3⟩) | (go_at_call 38; refine (dec2_at h3 _ HL2.out).mono ?_; rintro e w4 ⟨rfl, h4⟩))
        go_meet
        rw [HF.out, ← List.append_assoc]
        exact h4
      · have HF := Lib.hid (show frac (dec c0 s0).2 = ([], (dec c0 s0).2) from if_neg h46)
        have e46 : (hd (dec c0 s0).2.rest == 46) = false := by rw [beq_eq_false_iff_ne]; exact h46
        clear h46 HS1
        go_wp2
        go_meet
        rw [HF.out, List.append_nil]
        exact h2
    case rest =>
      clear h2
      have HS2 := Lib.hid (show (l ++ ((dec c0 s0).1 ++ (frac (dec c0 s0).2).1)).length + (frac (dec c0 s0).2).2.rest.length ≤ 4398046511106 by
        have h5 := HS1.out
        have h6 := frac_len (dec c0 s0).2
        simp only [List.length_append] at h5 ⊢
        omega)
      have HT := Lib.hid (show numT c0 s0 = (((dec c0 s0).1 ++ (frac (dec c0 s0).2).1) ++ (expo (frac (dec c0 s0).2).2).1, (expo (frac (dec c0 s0).2).2).2) by unfold numT; rw [List.append_assoc])
      have H2 := Lib.hid (show At W0 L B b wc (frac (dec c0 s0).2).2 (l ++ ((dec c0 s0).1 ++ (frac (dec c0 s0).2).1)) from hcut)
      generalize (dec c0 s0).1 ++ (frac (dec c0 s0).2).1 = t2 at HS2 HT H2
      generalize (frac (dec c0 s0).2).2 = s2 at HS2 HT H2
      clear hcut HS1 HL1
      have hS := H2.out
      clear H2
      have hcase : ((hd s2.rest == 101) = true ∧ hd s2.rest = 101) ∨ ((hd s2.rest == 101) = false ∧ (hd s2.rest == 69) = true ∧ hd s2.rest = 69) ∨ ((hd s2.rest == 101) = false ∧ (hd s2.rest == 69) = false) := by
        by_cases g1 : hd s2.rest = 101
        · exact Or.inl ⟨by rw [beq_iff_eq]; exact g1, g1⟩
        · by_cases g2 : hd s2.rest = 69
          · exact Or.inr (Or.inl ⟨by rw [beq_eq_false_iff_ne]; exact g1, by rw [beq_iff_eq]; exact g2, g2⟩)
          · exact Or.inr (Or.inr ⟨by rw [beq_eq_false_iff_ne]; exact g1, by rw [beq_eq_false_iff_ne]; exact g2⟩)
      have hyes : (hd s2.rest = 101 ∨ hd s2.rest = 69) → expo s2 = (by8 s2.nextC :: ((sign s2.nextS).1 ++ (dec (sign s2.nextS).2.nextC (sign s2.nextS).2.nextS).1), (dec (sign s2.nextS).2.nextC (sign s2.nextS).2.nextS).2) := fun e => if_pos e
      have HY := Lib.hid hyes
      clear hyes
      have HA := Lib.hid (show (l ++ t2).length + 1 ≤ 140737488355328 by have := HS2.out; omega)
      have HB := Lib.hid (show (l ++ t2 ++ [by8 s2.nextC]).length + 1 ≤ 140737488355328 by have := HS2.out; simp only [List.length_append, List.length_singleton] at this ⊢; omega)
      have hsg : ((hd s2.nextS.rest == 45) = true ∧ sign s2.nextS = ([by8 s2.nextS.nextC], s2.nextS.nextS)) ∨ ((hd s2.nextS.rest == 45) = false ∧ (hd s2.nextS.rest == 43) = true ∧ sign s2.nextS = ([by8 s2.nextS.nextC], s2.nextS.nextS)) ∨ ((hd s2.nextS.rest == 45) = false ∧ (hd s2.nextS.rest == 43) = false ∧ sign s2.nextS = ([], s2.nextS)) := by
        by_cases g1 : hd s2.nextS.rest = 45
        · exact Or.inl ⟨by rw [beq_iff_eq]; exact g1, if_pos (Or.inl g1)⟩
        · by_cases g2 : hd s2.nextS.rest = 43
          · exact Or.inr (Or.inl ⟨by rw [beq_eq_false_iff_ne]; exact g1, by rw [beq_iff_eq]; exact g2, if_pos (Or.inr g2)⟩)
          · exact Or.inr (Or.inr ⟨by rw [beq_eq_false_iff_ne]; exact g1, by rw [beq_eq_false_iff_ne]; exact g2, if_neg (by rintro (e | e); exact g1 e; exact g2 e)⟩)
      have hr1 := rest_next_le s2
      have hr2 := rest_next_le s2.nextS
      have hr3 := rest_next_le s2.nextS.nextS
      have HC1 := Lib.hid (show (l ++ t2 ++ [by8 s2.nextC] ++ [by8 s2.nextS.nextC]).length + s2.nextS.nextS.nextS.rest.length ≤ 8796093022208 by have := HS2.out; simp only [List.length_append, List.length_singleton] at this ⊢; omega)
      have HC2 := Lib.hid (show (l ++ t2 ++ [by8 s2.nextC]).length + s2.nextS.nextS.rest.length ≤ 8796093022208 by have := HS2.out; simp only [List.length_append, List.length_singleton] at this ⊢; omega)
      clear hr1 hr2 hr3 HS2
      rcases hcase with ⟨e1, e2⟩ | ⟨e1, e2, e3⟩ | ⟨e1, e2⟩
      · have HE := Lib.hid (HY.out (Or.inl e2))
        clear HY e2
        rcases hsg with ⟨g1, g2⟩ | ⟨g1, g2, g3⟩ | ⟨g1, g2, g3⟩
        · have HG := Lib.hid g2
          clear g2
          go_wp2_with (first | (go_at_call 16; refine (peek_at hS).mono ?_; rintro e w3 ⟨rfl, h3⟩) | (go_at_call 18; refine (next_at h3).mono ?_; rintro e w4 ⟨rfl, h4⟩) | (go_at_call 22; refine (writeChar_at h4 _ HA.out).mono ?_; rintro e w5 ⟨rfl, h5⟩) | (go_at_call 16; refine (peek_at h5).mono ?_; rintro e w6 ⟨rfl, h6⟩) | (go_at_call 18; refine (next_at h6).mono ?_; rintro e w7 ⟨rfl, h7⟩) | (go_at_call 22; refine (writeChar_at h7 _ HB.out).mono ?_; rintro e w8 ⟨rfl, h8⟩) | (go_at_call 18; refine (next_at h8).mono ?_; rintro e w9 ⟨rfl, h9⟩) | (go_at_call 38; refine (dec2_at h9 _ HC1.out).mono ?_; rintro e w10 ⟨rfl, h10⟩))
          go_ret
          rw [HT.out, HE.out, HG.out]
          exact ⟨_, rfl, Or.inl ⟨rfl, rfl⟩, by simpa [List.append_assoc] using h10⟩
        · have HG := Lib.hid g3
          clear g3
          go_wp2_with (first | (go_at_call 16; refine (peek_at hS).mono ?_; rintro e w3 ⟨rfl, h3⟩) | (go_at_call 18; refine (next_at h3).mono ?_; rintro e w4 ⟨rfl, h4⟩) | (go_at_call 22; refine (writeChar_at h4 _ HA.out).mono ?_; rintro e w5 ⟨rfl, h5⟩) | (go_at_call 16; refine (peek_at h5).mono ?_; rintro e w6 ⟨rfl, h6⟩) | (go_at_call 18; refine (next_at h6).mono ?_; rintro e w7 ⟨rfl, h7⟩) | (go_at_call 22; refine (writeChar_at h7 _ HB.out).mono ?_; rintro e w8 ⟨rfl, h8⟩) | (go_at_call 18; refine (next_at h8).mono ?_; rintro e w9 ⟨rfl, h9⟩) | (go_at_call 38; refine (dec2_at h9 _ HC1.out).mono ?_; rintro e w10 ⟨rfl, h10⟩))
          go_ret
          rw [HT.out, HE.out, HG.out]
          exact ⟨_, rfl, Or.inl ⟨rfl, rfl⟩, by simpa [List.append_assoc] using h10⟩
        · have HG := Lib.hid g3
          clear g3
          go_wp2_with (first | (go_at_call 16; refine (peek_at hS).mono ?_; rintro e w3 ⟨rfl, h3⟩) | (go_at_call 18; refine (next_at h3).mono ?_; rintro e w4 ⟨rfl, h4⟩) | (go_at_call 22; refine (writeChar_at h4 _ HA.out).mono ?_; rintro e w5 ⟨rfl, h5⟩) | (go_at_call 16; refine (peek_at h5).mono ?_; rintro e w6 ⟨rfl, h6⟩) | (go_at_call 18; refine (next_at h6).mono ?_; rintro e w9 ⟨rfl, h9⟩) | (go_at_call 38; refine (dec2_at h9 _ HC2.out).mono ?_; rintro e w10 ⟨rfl, h10⟩))
          go_ret
          rw [HT.out, HE.out, HG.out]
          exact ⟨_, rfl, Or.inl ⟨rfl, rfl⟩, by simpa [List.append_assoc] using h10⟩
      · have HE := Lib.hid (HY.out (Or.inr e3))
        clear HY e3
        rcases hsg with ⟨g1, g2⟩ | ⟨g1, g2, g3⟩ | ⟨g1, g2, g3⟩
        · have HG := Lib.hid g2
          clear g2
          go_wp2_with (first | (go_at_call 16; refine (peek_at hS).mono ?_; rintro e w3 ⟨rfl, h3⟩) | (go_at_call 18; refine (next_at h3).mono ?_; rintro e w4 ⟨rfl, h4⟩) | (go_at_call 22; refine (writeChar_at h4 _ HA.out).mono ?_; rintro e w5 ⟨rfl, h5⟩) | (go_at_call 16; refine (peek_at h5).mono ?_; rintro e w6 ⟨rfl, h6⟩) | (go_at_call 18; refine (next_at h6).mono ?_; rintro e w7 ⟨rfl, h7⟩) | (go_at_call 22; refine (writeChar_at h7 _ HB.out).mono ?_; rintro e w8 ⟨rfl, h8⟩) | (go_at_call 18; refine (next_at h8).mono ?_; rintro e w9 ⟨rfl, h9⟩) | (go_at_call 38; refine (dec2_at h9 _ HC1.out).mono ?_; rintro e w10 ⟨rfl, h10⟩))
          go_ret
          rw [HT.out, HE.out, HG.out]
          exact ⟨_, rfl, Or.inl ⟨rfl, rfl⟩, by simpa [List.append_assoc] using h10⟩
        · have HG := Lib.hid g3
          clear g3
          go_wp2_with (first | (go_at_call 16; refine (peek_at hS).mono ?_; rintro e w3 ⟨rfl, h3⟩) | (go_at_call 18; refine (next_at h3).mono ?_; rintro e w4 ⟨rfl, h4⟩) | (go_at_call 22; refine (writeChar_at h4 _ HA.out).mono ?_; rintro e w5 ⟨rfl, h5⟩) | (go_at_call 16; refine (peek_at h5).mono ?_; rintro e w6 ⟨rfl, h6⟩) | (go_at_call 18; refine (next_at h6).mono ?_; rintro e w7 ⟨rfl, h7⟩) | (go_at_call 22; refine (writeChar_at h7 _ HB.out).mono ?_; rintro e w8 ⟨rfl, h8⟩) | (go_at_call 18; refine (next_at h8).mono ?_; rintro e w9 ⟨rfl, h9⟩) | (go_at_call 38; refine (dec2_at h9 _ HC1.out).mono ?_; rintro e w10 ⟨rfl, h10⟩))
          go_ret
          rw [HT.out, HE.out, HG.out]
          exact ⟨_, rfl, Or.inl ⟨rfl, rfl⟩, by simpa [List.append_assoc] using h10⟩
        · have HG := Lib.hid g3
          clear g3
          go_wp2_with (first | (go_at_call 16; refine (peek_at hS).mono ?_; rintro e w3 ⟨rfl, h3⟩) | (go_at_call 18; refine (next_at h3).mono ?_; rintro e w4 ⟨rfl, h4⟩) | (go_at_call 22; refine (writeChar_at h4 _ HA.out).mono ?_; rintro e w5 ⟨rfl, h5⟩) | (go_at_call 16; refine (peek_at h5).mono ?_; rintro e w6 ⟨rfl, h6⟩) | (go_at_call 18; refine (next_at h6).mono ?_; rintro e w9 ⟨rfl, h9⟩) | (go_at_call 38; refine (dec2_at h9 _ HC2.out).mono ?_; rintro e w10 ⟨rfl, h10⟩))
          go_ret
          rw [HT.out, HE.out, HG.out]
          exact ⟨_, rfl, Or.inl ⟨rfl, rfl⟩, by simpa [List.append_assoc] using h10⟩
      · have HE := Lib.hid (show expo s2 = ([], s2) from if_neg (by rw [beq_eq_false_iff_ne] at e1 e2; rintro (e | e); exact e1 e; exact e2 e))
        clear HY hsg
        go_wp2_with ((go_at_call 16; refine (peek_at hS).mono ?_; rintro e w3 ⟨rfl, h3⟩))
        go_ret
        rw [HT.out, HE.out]
        exact ⟨_, rfl, Or.inl ⟨rfl, rfl⟩, by simpa using h3⟩

end Go.Proofs.YtgiklkapedlckaaGreatDoor
