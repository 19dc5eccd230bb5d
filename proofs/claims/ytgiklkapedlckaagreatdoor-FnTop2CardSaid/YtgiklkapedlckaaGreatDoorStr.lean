/- scanString, walked. -/
import Derived.Test.YtgiklkapedlckaaGreatDoorLong
import Derived.Test.YtgiklkapedlckaaGreatDoorEsc
namespace Go.Proofs.YtgiklkapedlckaaGreatDoor
open Go.RowKit

set_option maxRecDepth 100000 in
set_option maxHeartbeats 6400000 in
theorem str_at {W0 w : World} {L : Loc} {B b : Nat} {st : St} {l : List UInt8} (h : At W0 L B b w st l) (q : Int) (hl : l.length + st.rest.length ≤ 1099511627776) :
    Calls Tryz.prog 19 #[.pointer (some ⟨L.S, 0, none⟩), .int .i64 q, .pointer (some ⟨b, 0, none⟩)] w (MultiIs W0 L B b (strL q st.nextC st.nextS l)) := by
  obtain ⟨R, hR⟩ : ∃ R, R = strL q st.nextC st.nextS l := ⟨_, rfl⟩
  rw [← hR]
  have HR := Lib.hid hR
  have hmu := mu_next_le st
  have hle := rest_next_le st
  have HB := Lib.hid (show l.length + mu st.nextC st.nextS ≤ 1099511627776 by omega)
  clear hR hmu hle hl
  go_enter Tryz.func19, Tryz.ntmps19
  go_wp2_with (go_at_call 18; refine (next_at h).mono ?_; rintro e w1 ⟨rfl, h1⟩; refine Hid.out ?_)
  refine Lib.hid ?_
  clear h
  go_wp2
  go_loopg [7] (mu st.nextC st.nextS) (fun n ch wr => ∃ (c' : Int) (sp : St) (acc : List UInt8), mu c' sp ≤ n ∧ acc.length + mu c' sp ≤ 1099511627776 ∧ ch = .int .i64 c' ∧ At W0 L B b wr sp acc ∧ R = strL q c' sp acc)
  case atStart => exact ⟨st.nextC, st.nextS, l, Nat.le_refl _, HB.out, rfl, h1, HR.out⟩
  case round =>
    clear h1 HR HB
    obtain ⟨c', sp, acc, hn, hacc, rfl, hS, hR⟩ := hrel
    have HRR := Lib.hid hR
    have HN := Lib.hid hn
    clear hR hn
    by_cases hq : c' = q
    · have HE := Lib.hid (show R = (true, acc, sp) by rw [HRR.out, hq]; exact strL_close)
      have e1 : (c' != q) = false := by simp [hq]
      clear hq HRR hacc
      go_wp2
      go_ret
      rw [HE.out]
      exact ⟨_, rfl, Or.inl ⟨rfl, rfl⟩, hS⟩
    · have e1 : (c' != q) = true := by rw [bne_iff_ne]; exact hq
      by_cases hbad : c' = 10 ∨ c' = 13 ∨ c' < 0
      · have HE := Lib.hid (HRR.out.trans (strL_bad hq hbad))
        have hd : (c' == 10) = true ∨ ((c' == 10) = false ∧ (c' == 13) = true) ∨ ((c' == 10) = false ∧ (c' == 13) = false ∧ c' < 0) := by
          by_cases g1 : c' = 10
          · left; rw [beq_iff_eq]; exact g1
          · right
            by_cases g2 : c' = 13
            · left; exact ⟨by rw [beq_eq_false_iff_ne]; exact g1, by rw [beq_iff_eq]; exact g2⟩
            · right; exact ⟨by rw [beq_eq_false_iff_ne]; exact g1, by rw [beq_eq_false_iff_ne]; exact g2, by omega⟩
        clear hbad hq HRR hacc
        rcases hd with e2 | ⟨e2, e3⟩ | ⟨e2, e3, e4⟩
        all_goals
          go_wp2_with (first | (go_at_call 12; refine (bufString_at hS).mono ?_; rintro e w3 ⟨rfl, nq, rfl⟩) | (go_at_call 21; refine (error_at (hS.drewN _) _ _).mono ?_; rintro e w4 ⟨rfl, h4⟩; refine Hid.out ?_))
          refine Lib.hid ?_
          go_wp2
          go_ret
          rw [HE.out]
          exact ⟨_, rfl, Or.inr ⟨rfl, _, rfl⟩, h4⟩
      · have e2 : (c' == 10) = false := by rw [beq_eq_false_iff_ne]; omega
        have e3 : (c' == 13) = false := by rw [beq_eq_false_iff_ne]; omega
        have e4 : 0 ≤ c' := by omega
        by_cases h92 : c' = 92
        · subst h92
          have HE := Lib.hid (HRR.out.trans (strL_esc hq))
          have hm1 := mu_next_le (esc sp).2
          have hm2 := esc_rest sp
          have hm3 := rest_next_le sp
          have hm4 : mu 92 sp = sp.rest.length + 1 := if_neg (by decide)
          have HM := Lib.hid (show mu (esc sp).2.nextC (esc sp).2.nextS < mu 92 sp ∧ acc.length + 1 + mu (esc sp).2.nextC (esc sp).2.nextS ≤ 1099511627776 by omega)
          have HL := Lib.hid (show acc.length + 1 ≤ 140737488355328 by omega)
          clear hbad hq HRR hacc hm1 hm2 hm3 hm4
          go_wp2_with (first | (go_at_call 42; refine (esc_at hS 92 HL.out).mono ?_; rintro e w3 ⟨rfl, h3⟩) | (go_at_call 18; refine (next_at h3).mono ?_; rintro e w4 ⟨rfl, h4⟩; refine Hid.out ?_))
          refine Lib.hid ?_
          have H4 := Lib.hid h4
          clear hS h3 h4
          go_wp2
          go_roundg (mu (esc sp).2.nextC (esc sp).2.nextS)
          case measure => exact Nat.lt_of_lt_of_le HM.out.1 HN.out
          case rel => exact ⟨(esc sp).2.nextC, (esc sp).2.nextS, acc ++ [(esc sp).1], Nat.le_refl _, by have := HM.out; simp; omega, rfl, H4.out, HE.out⟩
        · have e5 : (c' == 92) = false := by rw [beq_eq_false_iff_ne]; exact h92
          have HE := Lib.hid (HRR.out.trans (strL_byte hq hbad h92))
          have hml := mu_next (c := c') (st := sp) e4
          have HM := Lib.hid (show mu sp.nextC sp.nextS < mu c' sp ∧ acc.length + 1 + mu sp.nextC sp.nextS ≤ 1099511627776 by omega)
          have HL := Lib.hid (show acc.length + 1 ≤ 140737488355328 by omega)
          clear hbad hq HRR hacc hml h92
          go_wp2_with (first | (go_at_call 22; refine (writeChar_at hS c' HL.out).mono ?_; rintro e w3 ⟨rfl, h3⟩) | (go_at_call 18; refine (next_at h3).mono ?_; rintro e w4 ⟨rfl, h4⟩; refine Hid.out ?_))
          refine Lib.hid ?_
          have H4 := Lib.hid h4
          clear hS h3 h4
          go_wp2
          go_roundg (mu sp.nextC sp.nextS)
          case measure => exact Nat.lt_of_lt_of_le HM.out.1 HN.out
          case rel => exact ⟨sp.nextC, sp.nextS, acc ++ [by8 c'], Nat.le_refl _, by have := HM.out; simp; omega, rfl, H4.out, HE.out⟩
end Go.Proofs.YtgiklkapedlckaaGreatDoor
