/- The law FnScanDecimalPrefixOfIdent, walked. -/
import Derived.Test.YtpjnggpjcbojcaaDoorZ160
import Derived.Test.YtpjnggpjcbojcaaDoorLet160
namespace Go.Proofs.YtpjnggpjcbojcaaDoor
open Go.RowKit

theorem dec_sub (c : Int) (h : decI c = true) : identI c = true := by unfold identI; rw [h, Bool.or_true]
theorem ident_let (c : Int) (h : decI c = false) : identI c = identS c := by unfold identI; rw [h, Bool.or_false]
/-- A run of digits and a run of an identifier's characters. -/
theorem runs (l : List UInt8) : ∃ m, l.takeWhile (onB identI) = l.takeWhile (onB decI) ++ m ∧
    (∀ h : (l.takeWhile (onB decI)).length < l.length, (identS (l[(l.takeWhile (onB decI)).length]).toNat = true ↔ m ≠ [])) ∧ (l.length ≤ (l.takeWhile (onB decI)).length → m = []) := by
  induction l with
  | nil => exact ⟨[], rfl, by simp, fun _ => rfl⟩
  | cons c t ih =>
    obtain ⟨m, h1, h2, h3⟩ := ih
    cases hc : onB decI c with
    | true =>
      have hi : onB identI c = true := dec_sub _ hc
      refine ⟨m, ?_, ?_, ?_⟩
      · rw [List.takeWhile_cons, if_pos hi, List.takeWhile_cons, if_pos hc, h1]; rfl
      · simp only [List.takeWhile_cons, hc, if_true, List.length_cons, Nat.succ_lt_succ_iff, List.getElem_cons_succ]
        exact h2
      · simp only [List.takeWhile_cons, hc, if_true, List.length_cons, Nat.succ_le_succ_iff]
        exact h3
    | false =>
      have hi := ident_let (c.toNat : Int) hc
      have hdt : (c :: t).takeWhile (onB decI) = [] := by rw [List.takeWhile_cons, hc]; rfl
      rw [hdt]
      refine ⟨(c :: t).takeWhile (onB identI), rfl, fun h => ?_, fun h => by simp at h⟩
      show identS c.toNat = true ↔ _
      cases hs : identS (c.toNat : Int) with
      | true =>
        have : onB identI c = true := hi.trans hs
        simp [List.takeWhile_cons, this]
      | false =>
        have : onB identI c = false := hi.trans hs
        simp [List.takeWhile_cons, this]
theorem extract_take (I T : ByteArray) (m : List UInt8) (h : I.data.toList = T.data.toList ++ m) : I.extract 0 T.size = T := by
  have ht : T.size = T.data.toList.length := by rw [Array.length_toList]; rfl
  apply ByteArray.ext
  apply Array.ext'
  rw [show (I.extract 0 T.size).data.toList = (I.data.toList.drop 0).take (T.size - 0) by simp]
  rw [h, ht]; simp

set_option maxRecDepth 100000 in
set_option maxHeartbeats 4000000 in
theorem dp_yes (w : World) (a : Addr) (c : UInt8) (s : ByteArray) (he : HasEof w a) (h1 : (s.size : Int) ≤ 1048576) (hd : onB decI c = true) :
    Calls Tryd.prog 6 #[.int .u8 c.toNat, .string s] w fun e w' => e = .returned (.bool true) ∧ Fr [] w w' := by
  have b1 : decide ((1048576 : Int) < (s.size : Int)) = false := by rw [decide_eq_false_iff_not]; omega
  have HS := Lib.hid (show s.size ≤ 1099511627776 by omega)
  have hlen : s.data.toList.length = s.size := by rw [Array.length_toList]; rfl
  have HL := Lib.hid (show (⟨s.data.toList, 1, 0⟩ : St).rest.length ≤ 8796093022208 by show s.data.toList.length ≤ _; omega)
  have hc0 : (0 : Int) ≤ (c.toNat : Int) := by omega
  have hc1 : (c.toNat : Int) ≤ 255 := by have := c.toNat_lt; omega
  have HD := Lib.hid (show decI c.toNat = true from hd)
  have hzd := fun (wz : World) (L : Loc) (hS : Sc wz L ⟨s.data.toList, 1, 0⟩ none) => zdec wz L _ (c.toNat : Int) hS HL.out
  have hzi := fun (wz : World) (L : Loc) (hS : Sc wz L ⟨s.data.toList, 1, 0⟩ none) => zident wz L _ (c.toNat : Int) hS HL.out
  simp only [by8_u8] at hzd hzi
  obtain ⟨m, r1, r2, r3⟩ := runs s.data.toList
  obtain ⟨k, hk⟩ : ∃ k, k = (s.data.toList.takeWhile (onB decI)).length := ⟨_, rfl⟩
  obtain ⟨T, hT⟩ : ∃ T : ByteArray, T = ⟨(c :: (⟨s.data.toList, 1, 0⟩ : St).run decI).toArray⟩ := ⟨_, rfl⟩
  obtain ⟨I, hI⟩ : ∃ I : ByteArray, I = ⟨(c :: (⟨s.data.toList, 1, 0⟩ : St).run identI).toArray⟩ := ⟨_, rfl⟩
  rw [← hT] at hzd
  rw [← hI] at hzi
  have hTd : T.data.toList = c :: s.data.toList.takeWhile (onB decI) := by rw [hT]; rfl
  have hId : I.data.toList = c :: s.data.toList.takeWhile (onB identI) := by rw [hI]; rfl
  have hTI : I.data.toList = T.data.toList ++ m := by rw [hTd, hId, r1]; rfl
  have hTs : T.size = k + 1 := by rw [hk, show T.size = T.data.toList.length by rw [Array.length_toList]; rfl, hTd]; rfl
  have hIs : I.size = k + 1 + m.length := by rw [show I.size = I.data.toList.length by rw [Array.length_toList]; rfl, hTI, List.length_append, show T.data.toList.length = T.size by rw [Array.length_toList]; rfl, hTs]
  have hext := extract_take I T m hTI
  have hkl : k ≤ s.size := by rw [hk, ← hlen]; exact (List.takeWhile_sublist _).length_le
  rw [← hk] at r2 r3
  have hki : (k : Int) ≤ 1048576 := by omega
  have hle : decide ((I.size : Int) < (T.size : Int)) = false := by rw [decide_eq_false_iff_not]; omega
  have hle2 : (T.size : Int) ≤ (I.size : Int) := by omega
  have hT0 : ((T.size : Int) == 0) = false := by rw [beq_eq_false_iff_ne]; omega
  have hTm : (T.size : Int) - 1 = (k : Int) := by omega
  have hxe : ((I.extract 0 T.size).toList == T.toList) = true := by rw [hext, beq_iff_eq]
  have hm0 : m = [] → (T.toList == I.toList) = true := fun e => by rw [ByteArray.toList_eq, ByteArray.toList_eq, hTI, e, List.append_nil, beq_iff_eq]
  have hm1 : m ≠ [] → (T.toList == I.toList) = false := fun e => by
    rw [ByteArray.toList_eq, ByteArray.toList_eq, hTI, beq_eq_false_iff_ne]
    intro e2
    have := congrArg List.length e2
    rw [List.length_append] at this
    exact e (List.eq_nil_of_length_eq_zero (by omega))
  have HM := Lib.hid (And.intro hm0 hm1)
  have HTI := Lib.hid hTI
  have HR := Lib.hid (And.intro r2 r3)
  have HLEN := Lib.hid hlen
  clear hT hI hTd hId hTI hTs hIs r1 r2 r3 hk hlen hd hext hm0 hm1 HTI
  go_enter Tryd.func6, Tryd.ntmps6
  go_wp2_with (first | (go_at_call 10; refine (znew _ a _ he HS.out).mono ?_; rintro e w1 hN; obtain ⟨L, hLs, hown, rfl, hSc, fr, he1⟩ := hN; refine Hid.out ?_) | (go_at_call 20; refine (isDec4_yes _ _ HD).mono ?_; rintro e w' ⟨rfl, rfl⟩) | go_in)
  refine Lib.hid ?_
  have HOWN := Lib.hid hown
  have FR0 := Lib.hid fr
  have he2 := he.fr fr (by simp)
  clear hLs hown fr he1
  go_wp2_with (go_at_call 21; refine (hzd w1 L hSc).mono ?_; rintro e w2 ⟨rfl, hS2, fr2⟩; refine Hid.out ?_)
  refine Lib.hid ?_
  have FR2 := Lib.hid (Fr.new FR0.out fr2 HOWN.out)
  have he3 := he2.fr fr2 (fun hm => by have h5 := HOWN.out _ hm; have h6 := he.2; omega)
  clear hSc hS2 fr2 hzd he2
  go_wp2_with (go_at_call 10; refine (znew w2 a s he3 HS.out).mono ?_; rintro e w3 hN; obtain ⟨L2, hLs, hown, rfl, hSc, fr, he1⟩ := hN; refine Hid.out ?_)
  refine Lib.hid ?_
  have HOWN2 := Lib.hid (show ∀ k ∈ L2.own, w.heap.size ≤ k from fun k hk => Nat.le_trans FR2.out.size (hown k hk))
  have FR3 := Lib.hid (FR2.out.trans fr)
  clear hLs hown fr he1 he3
  go_wp2_with (go_at_call 18; refine (hzi w3 L2 hSc).mono ?_; rintro e w4 ⟨rfl, hS4, fr4⟩; refine Hid.out ?_)
  refine Lib.hid ?_
  have FR4 := Lib.hid (Fr.new FR3.out fr4 HOWN2.out)
  clear hSc hS4 fr4 hzi
  by_cases hks : k < s.size
  · have hksi : (k : Int) < (s.size : Int) := by omega
    have hksd : decide (s.size ≤ k) = false := by rw [decide_eq_false_iff_not]; omega
    have hkk : ∀ h : k < s.data.toList.length, s.data.toList[k] = s[k] := fun h => by simp; rfl
    cases hlet : identS (s[k].toNat)
    · have HLT := Lib.hid hlet
      have hfin : (T.toList == I.toList) = true := HM.out.1 (by
        have h5 := HR.out.1 (by rw [HLEN.out]; exact hks)
        rw [hkk, hlet] at h5
        exact Classical.byContradiction fun e => by cases h5.2 e)
      clear hlet hkk HM HR
      go_wp2_with (go_at_call 16; refine (isLet_no _ _ HLT).mono ?_; rintro e w' ⟨rfl, rfl⟩)
      go_ret
      exact ⟨rfl, FR4.out⟩
    · have HLT := Lib.hid hlet
      have hfin : (T.toList == I.toList) = false := HM.out.2 (by
        have h5 := HR.out.1 (by rw [HLEN.out]; exact hks)
        rw [hkk, hlet] at h5
        exact h5.1 rfl)
      clear hlet hkk HM HR
      go_wp2_with (go_at_call 16; refine (isLet_yes _ _ HLT).mono ?_; rintro e w' ⟨rfl, rfl⟩)
      go_ret
      exact ⟨rfl, FR4.out⟩
  · have hksi : (s.size : Int) ≤ (k : Int) := by omega
    have hfin : (T.toList == I.toList) = true := HM.out.1 (HR.out.2 (by rw [HLEN.out]; omega))
    clear HM HR
    go_wp2
    go_ret
    exact ⟨rfl, FR4.out⟩

set_option maxRecDepth 100000 in
set_option maxHeartbeats 1600000 in
theorem dp_n1 (w : World) (c : UInt8) (s : ByteArray) (h : (1048576 : Int) < (s.size : Int)) :
    Calls Tryd.prog 6 #[.int .u8 c.toNat, .string s] w fun e w' => e = .returned (.bool true) ∧ w' = w := by
  go_enter Tryd.func6, Tryd.ntmps6
  go_wp2
  go_ret
  exact ⟨rfl, rfl⟩
set_option maxRecDepth 100000 in
set_option maxHeartbeats 1600000 in
theorem dp_n2 (w : World) (c : UInt8) (s : ByteArray) (h : (s.size : Int) ≤ 1048576) (hd : onB decI c = false) :
    Calls Tryd.prog 6 #[.int .u8 c.toNat, .string s] w fun e w' => e = .returned (.bool true) ∧ w' = w := by
  have HD := Lib.hid (show decI c.toNat = false from hd)
  clear hd
  go_enter Tryd.func6, Tryd.ntmps6
  go_wp2_with (first | (go_at_call 20; refine (isDec4_no _ _ HD).mono ?_; rintro e w' ⟨rfl, rfl⟩) | go_in)
  go_ret
  exact ⟨rfl, rfl⟩
theorem dp_walk (W : World) (a : Addr) (he : HasEof W a) (x : Int) (hx : (Lit.int .u8 x).wf = true) (s : ByteArray) :
    Calls Tryd.prog 6 #[.int .u8 x, .string s] W fun e w' => e = .returned (.bool true) ∧ Below W.heap.size W w' := by
  have h0 : IntKind.u8.min ≤ x ∧ x ≤ IntKind.u8.max := by simpa [Lit.wf] using hx
  have hr : 0 ≤ x ∧ x ≤ 255 := h0
  have hc : x = ((by8 x).toNat : Int) := by rw [by8_toNat]; omega
  rw [hc]
  by_cases h : (s.size : Int) ≤ 1048576
  · cases hd : onB decI (by8 x)
    · exact (dp_n2 W _ s h hd).mono fun _ _ ⟨h1, h2⟩ => ⟨h1, h2 ▸ Below.refl _ _⟩
    · exact (dp_yes W a _ s he h hd).mono fun _ _ ⟨h1, h2⟩ => ⟨h1, h2.below (Nat.le_refl _) (by simp)⟩
  · exact (dp_n1 W _ s (by omega)).mono fun _ _ ⟨h1, h2⟩ => ⟨h1, h2 ▸ Below.refl _ _⟩
end Go.Proofs.YtpjnggpjcbojcaaDoor
