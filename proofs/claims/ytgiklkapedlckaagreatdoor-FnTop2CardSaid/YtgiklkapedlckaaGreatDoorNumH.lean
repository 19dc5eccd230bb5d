/- scanNumber on hexadecimal numerals, walked; scanNumber whole. -/
import Derived.Test.YtgiklkapedlckaaGreatDoorNum
namespace Go.Proofs.YtgiklkapedlckaaGreatDoor
open Go.RowKit

set_option maxRecDepth 100000 in
set_option maxHeartbeats 6400000 in
theorem num_hex {W0 w : World} {L : Loc} {B b : Nat} {st : St} {l : List UInt8} (h : At W0 L B b w st l) (hl : l.length + st.rest.length ≤ 4398046511104) (b1 b2 : Bool) (hb1 : (hd st.rest == 120) = b1) (hb2 : (hd st.rest == 88) = b2) (hb : b1 = true ∨ (b1 = false ∧ b2 = true)) :
    Calls Tryz.prog 15 #[.pointer (some ⟨L.S, 0, none⟩), .int .i64 48, .pointer (some ⟨b, 0, none⟩)] w (NumIs W0 L B b l (num 48 st)) := by
  have hx : hd st.rest = 120 ∨ hd st.rest = 88 := by
    rcases hb with e | ⟨_, e⟩
    · left; rw [e, beq_iff_eq] at hb1; exact hb1
    · right; rw [e, beq_iff_eq] at hb2; exact hb2
  have hnum : num 48 st = (!(st.nextS.run hexI).isEmpty, 48 :: by8 st.nextC :: st.nextS.run hexI, st.nextS.adv hexI) := by unfold num; rw [if_pos rfl, if_pos hx]
  rw [hnum]
  have hnl := rest_next_le st
  have HL := Lib.hid (show l.length + 1 ≤ 140737488355328 ∧ (l ++ [by8 48]).length + 1 ≤ 140737488355328 ∧ (l ++ [by8 48] ++ [by8 st.nextC]).length + st.nextS.rest.length ≤ 4398046511106 by simp; omega)
  have h48 : by8 48 = 48 := by decide
  have H48 := Lib.hid h48
  clear hnum hx hl hnl h48
  rcases hb with hq | ⟨hq, hq2⟩
  · subst hq
    go_enter Tryz.func15, Tryz.ntmps15
    go_wp2_with (go_at_call 16; refine (peek_at h).mono ?_; rintro e w1 ⟨rfl, h1⟩; refine Hid.out ?_)
    refine Lib.hid ?_
    clear h
    have h := h1
    clear h1
    go_wp2_with (go_at_call 22; refine (writeChar_at h 48 HL.out.1).mono ?_; rintro e w1 ⟨rfl, h1⟩; refine Hid.out ?_)
    refine Lib.hid ?_
    clear h
    go_wp2_with (first | (go_at_call 18; refine (next_at h1).mono ?_; rintro e w2 ⟨rfl, h2⟩) | (go_at_call 22; refine (writeChar_at h2 st.nextC HL.out.2.1).mono ?_; rintro e w3 ⟨rfl, h3⟩; refine Hid.out ?_))
    refine Lib.hid ?_
    clear h1 h2
    go_wp2
    go_loopg [7] st.nextS.rest.length (fun n hv wr => ∃ (sp : St) (acc : List UInt8) (f : Bool), sp.rest.length ≤ n ∧ hv = .bool f ∧ acc.length + sp.rest.length ≤ 4398046511106 ∧ At W0 L B b wr sp acc ∧ acc ++ sp.run hexI = l ++ 48 :: by8 st.nextC :: st.nextS.run hexI ∧ sp.adv hexI = st.nextS.adv hexI ∧ (f || !(sp.run hexI).isEmpty) = !(st.nextS.run hexI).isEmpty)
    case atStart => exact ⟨st.nextS, _, false, Nat.le_refl _, rfl, HL.out.2.2, h3, by rw [H48.out]; simp, rfl, by simp⟩
    case round =>
      clear h3 HL
      obtain ⟨sp, acc, f, hn, rfl, hacc, hS, hrun, hadv, hf⟩ := hrel
      have HN := Lib.hid hn
      have HV := Lib.hid (And.intro hrun (And.intro hadv hf))
      clear hn hrun hadv hf
      cases hp : hexI (hd sp.rest)
      · have HP := Lib.hid hp
        have HE := Lib.hid (show acc = l ++ 48 :: by8 st.nextC :: st.nextS.run hexI ∧ sp = st.nextS.adv hexI ∧ f = !(st.nextS.run hexI).isEmpty by
          obtain ⟨h1, h2, h3⟩ := HV.out
          rw [run_no hp, List.append_nil] at h1
          rw [adv_no hp] at h2
          rw [run_no hp] at h3
          exact ⟨h1, h2, by simpa using h3⟩)
        clear hp hacc
        cases f
        · go_wp2_with (first | (go_at_call 16; refine (peek_at hS).mono ?_; rintro e w4 ⟨rfl, h4⟩) | (go_at_call 37; refine (isDigit_no _ _ HP).mono ?_; rintro e w5 ⟨rfl, rfl⟩) | (go_at_call 12; refine (bufString_at h4).mono ?_; rintro e w6 ⟨rfl, nq, rfl⟩) | (go_at_call 21; refine (error_at (h4.drewN _) _ _).mono ?_; rintro e w7 ⟨rfl, h7⟩; refine Hid.out ?_))
          refine Lib.hid ?_
          go_wp2
          go_ret
          refine ⟨_, rfl, Or.inr ⟨HE.out.2.2.symm, _, rfl⟩, ?_⟩
          show At W0 L B b _ (st.nextS.adv hexI) (l ++ 48 :: by8 st.nextC :: st.nextS.run hexI)
          rw [← HE.out.1, ← HE.out.2.1]; exact h7
        · go_wp2_with (first | (go_at_call 16; refine (peek_at hS).mono ?_; rintro e w4 ⟨rfl, h4⟩) | (go_at_call 37; refine (isDigit_no _ _ HP).mono ?_; rintro e w5 ⟨rfl, rfl⟩))
          go_ret
          refine ⟨_, rfl, Or.inl ⟨HE.out.2.2.symm, rfl⟩, ?_⟩
          show At W0 L B b _ (st.nextS.adv hexI) (l ++ 48 :: by8 st.nextC :: st.nextS.run hexI)
          rw [← HE.out.1, ← HE.out.2.1]; exact h4
      · have HP := Lib.hid hp
        obtain ⟨g1, g2, g3⟩ := Cls.step cls_hex hp
        have HE := Lib.hid (show (acc ++ [by8 sp.nextC]) ++ sp.nextS.run hexI = l ++ 48 :: by8 st.nextC :: st.nextS.run hexI ∧ sp.nextS.adv hexI = st.nextS.adv hexI ∧ (true || !(sp.nextS.run hexI).isEmpty) = !(st.nextS.run hexI).isEmpty by
          obtain ⟨h1, h2, h3⟩ := HV.out
          rw [← h1, ← h2, ← h3, g1, g2, List.append_assoc]
          exact ⟨rfl, rfl, by simp⟩)
        have HL1 := Lib.hid (show acc.length + 1 ≤ 140737488355328 by omega)
        have HL2 := Lib.hid (show acc.length + 1 + sp.nextS.rest.length ≤ 4398046511106 ∧ sp.nextS.rest.length < sp.rest.length by omega)
        clear hp hacc g1 g2 g3
        go_wp2_with (first | (go_at_call 16; refine (peek_at hS).mono ?_; rintro e w4 ⟨rfl, h4⟩) | (go_at_call 37; refine (isDigit_yes _ _ HP).mono ?_; rintro e w5 ⟨rfl, rfl⟩) | (go_at_call 18; refine (next_at h4).mono ?_; rintro e w6 ⟨rfl, h6⟩) | (go_at_call 22; refine (writeChar_at h6 sp.nextC HL1.out).mono ?_; rintro e w7 ⟨rfl, h7⟩; refine Hid.out ?_))
        refine Lib.hid ?_
        have H7 := Lib.hid h7
        clear hS h4 h6 h7
        go_wp2
        go_roundg sp.nextS.rest.length
        case measure => exact Nat.lt_of_lt_of_le HL2.out.2 HN.out
        case rel => exact ⟨sp.nextS, acc ++ [by8 sp.nextC], true, Nat.le_refl _, rfl, by have := HL2.out.1; simp; omega, H7.out, HE.out.1, HE.out.2.1, HE.out.2.2⟩
  · subst hq
    subst hq2
    go_enter Tryz.func15, Tryz.ntmps15
    go_wp2_with (go_at_call 16; refine (peek_at h).mono ?_; rintro e w1 ⟨rfl, h1⟩; refine Hid.out ?_)
    refine Lib.hid ?_
    clear h
    have h := h1
    clear h1
    go_wp2_with (go_at_call 16; refine (peek_at h).mono ?_; rintro e w1 ⟨rfl, h1⟩; refine Hid.out ?_)
    refine Lib.hid ?_
    clear h
    have h := h1
    clear h1
    go_wp2_with (go_at_call 22; refine (writeChar_at h 48 HL.out.1).mono ?_; rintro e w1 ⟨rfl, h1⟩; refine Hid.out ?_)
    refine Lib.hid ?_
    clear h
    go_wp2_with (first | (go_at_call 18; refine (next_at h1).mono ?_; rintro e w2 ⟨rfl, h2⟩) | (go_at_call 22; refine (writeChar_at h2 st.nextC HL.out.2.1).mono ?_; rintro e w3 ⟨rfl, h3⟩; refine Hid.out ?_))
    refine Lib.hid ?_
    clear h1 h2
    go_wp2
    go_loopg [7] st.nextS.rest.length (fun n hv wr => ∃ (sp : St) (acc : List UInt8) (f : Bool), sp.rest.length ≤ n ∧ hv = .bool f ∧ acc.length + sp.rest.length ≤ 4398046511106 ∧ At W0 L B b wr sp acc ∧ acc ++ sp.run hexI = l ++ 48 :: by8 st.nextC :: st.nextS.run hexI ∧ sp.adv hexI = st.nextS.adv hexI ∧ (f || !(sp.run hexI).isEmpty) = !(st.nextS.run hexI).isEmpty)
    case atStart => exact ⟨st.nextS, _, false, Nat.le_refl _, rfl, HL.out.2.2, h3, by rw [H48.out]; simp, rfl, by simp⟩
    case round =>
      clear h3 HL
      obtain ⟨sp, acc, f, hn, rfl, hacc, hS, hrun, hadv, hf⟩ := hrel
      have HN := Lib.hid hn
      have HV := Lib.hid (And.intro hrun (And.intro hadv hf))
      clear hn hrun hadv hf
      cases hp : hexI (hd sp.rest)
      · have HP := Lib.hid hp
        have HE := Lib.hid (show acc = l ++ 48 :: by8 st.nextC :: st.nextS.run hexI ∧ sp = st.nextS.adv hexI ∧ f = !(st.nextS.run hexI).isEmpty by
          obtain ⟨h1, h2, h3⟩ := HV.out
          rw [run_no hp, List.append_nil] at h1
          rw [adv_no hp] at h2
          rw [run_no hp] at h3
          exact ⟨h1, h2, by simpa using h3⟩)
        clear hp hacc
        cases f
        · go_wp2_with (first | (go_at_call 16; refine (peek_at hS).mono ?_; rintro e w4 ⟨rfl, h4⟩) | (go_at_call 37; refine (isDigit_no _ _ HP).mono ?_; rintro e w5 ⟨rfl, rfl⟩) | (go_at_call 12; refine (bufString_at h4).mono ?_; rintro e w6 ⟨rfl, nq, rfl⟩) | (go_at_call 21; refine (error_at (h4.drewN _) _ _).mono ?_; rintro e w7 ⟨rfl, h7⟩; refine Hid.out ?_))
          refine Lib.hid ?_
          go_wp2
          go_ret
          refine ⟨_, rfl, Or.inr ⟨HE.out.2.2.symm, _, rfl⟩, ?_⟩
          show At W0 L B b _ (st.nextS.adv hexI) (l ++ 48 :: by8 st.nextC :: st.nextS.run hexI)
          rw [← HE.out.1, ← HE.out.2.1]; exact h7
        · go_wp2_with (first | (go_at_call 16; refine (peek_at hS).mono ?_; rintro e w4 ⟨rfl, h4⟩) | (go_at_call 37; refine (isDigit_no _ _ HP).mono ?_; rintro e w5 ⟨rfl, rfl⟩))
          go_ret
          refine ⟨_, rfl, Or.inl ⟨HE.out.2.2.symm, rfl⟩, ?_⟩
          show At W0 L B b _ (st.nextS.adv hexI) (l ++ 48 :: by8 st.nextC :: st.nextS.run hexI)
          rw [← HE.out.1, ← HE.out.2.1]; exact h4
      · have HP := Lib.hid hp
        obtain ⟨g1, g2, g3⟩ := Cls.step cls_hex hp
        have HE := Lib.hid (show (acc ++ [by8 sp.nextC]) ++ sp.nextS.run hexI = l ++ 48 :: by8 st.nextC :: st.nextS.run hexI ∧ sp.nextS.adv hexI = st.nextS.adv hexI ∧ (true || !(sp.nextS.run hexI).isEmpty) = !(st.nextS.run hexI).isEmpty by
          obtain ⟨h1, h2, h3⟩ := HV.out
          rw [← h1, ← h2, ← h3, g1, g2, List.append_assoc]
          exact ⟨rfl, rfl, by simp⟩)
        have HL1 := Lib.hid (show acc.length + 1 ≤ 140737488355328 by omega)
        have HL2 := Lib.hid (show acc.length + 1 + sp.nextS.rest.length ≤ 4398046511106 ∧ sp.nextS.rest.length < sp.rest.length by omega)
        clear hp hacc g1 g2 g3
        go_wp2_with (first | (go_at_call 16; refine (peek_at hS).mono ?_; rintro e w4 ⟨rfl, h4⟩) | (go_at_call 37; refine (isDigit_yes _ _ HP).mono ?_; rintro e w5 ⟨rfl, rfl⟩) | (go_at_call 18; refine (next_at h4).mono ?_; rintro e w6 ⟨rfl, h6⟩) | (go_at_call 22; refine (writeChar_at h6 sp.nextC HL1.out).mono ?_; rintro e w7 ⟨rfl, h7⟩; refine Hid.out ?_))
        refine Lib.hid ?_
        have H7 := Lib.hid h7
        clear hS h4 h6 h7
        go_wp2
        go_roundg sp.nextS.rest.length
        case measure => exact Nat.lt_of_lt_of_le HL2.out.2 HN.out
        case rel => exact ⟨sp.nextS, acc ++ [by8 sp.nextC], true, Nat.le_refl _, rfl, by have := HL2.out.1; simp; omega, H7.out, HE.out.1, HE.out.2.1, HE.out.2.2⟩

/-- scanNumber. -/
theorem num_at {W0 w : World} {L : Loc} {B b : Nat} {st : St} {l : List UInt8} (h : At W0 L B b w st l) (c : Int) (hl : l.length + st.rest.length ≤ 4398046511104) :
    Calls Tryz.prog 15 #[.pointer (some ⟨L.S, 0, none⟩), .int .i64 c, .pointer (some ⟨b, 0, none⟩)] w (NumIs W0 L B b l (num c st)) := by
  by_cases hx : c = 48 ∧ (hd st.rest = 120 ∨ hd st.rest = 88)
  · obtain ⟨rfl, hx⟩ := hx
    refine num_hex h hl _ _ rfl rfl ?_
    by_cases h1 : hd st.rest = 120
    · left; rw [beq_iff_eq]; exact h1
    · right; exact ⟨by rw [beq_eq_false_iff_ne]; exact h1, by rw [beq_iff_eq]; omega⟩
  · exact num_dec h c hl hx
end Go.Proofs.YtgiklkapedlckaaGreatDoor
