/- The law FnScanNumberRescanFixpoint, walked. -/
import Derived.Test.YtpjnggpjcbojcaaDoorZr160
import Derived.Test.YtpjnggpjcbojcaaDoorResc
namespace Go.Proofs.YtpjnggpjcbojcaaDoor
open Go.RowKit

theorem sign_len (st : St) : (sign st).1.length + (sign st).2.rest.length ≤ st.rest.length + 1 := by
  unfold sign; split
  · have h7 := rest_next_le st
    simp only [List.length_cons, List.length_nil]; omega
  · simp
theorem expo_len (st : St) : (expo st).1.length + (expo st).2.rest.length ≤ st.rest.length + 3 := by
  unfold expo; split
  · have h1 := sign_len st.nextS
    have h2 := rest_next_le st
    have h3 := dec_len (sign st.nextS).2.nextC (sign st.nextS).2.nextS
    have h4 := rest_next_le (sign st.nextS).2
    simp only [List.length_cons, List.length_append]; omega
  · simp
theorem numT_len (c : Int) (st : St) : (numT c st).1.length ≤ st.rest.length + 5 := by
  have h1 := dec_len c st
  have h2 := frac_len (dec c st).2
  have h3 := expo_len (frac (dec c st).2).2
  unfold numT
  simp only [List.length_append]; omega

set_option maxRecDepth 100000 in
set_option maxHeartbeats 4000000 in
theorem rf_yes (w : World) (a : Addr) (c : UInt8) (s : ByteArray) (he : HasEof w a) (h1 : (s.size : Int) ≤ 1048576) (hc : c ≠ 48) :
    Calls Tryd.prog 4 #[.int .u8 c.toNat, .string s] w fun e w' => e = .returned (.bool true) ∧ Fr [] w w' := by
  have b1 : decide ((1048576 : Int) < (s.size : Int)) = false := by rw [decide_eq_false_iff_not]; omega
  have HS := Lib.hid (show s.size ≤ 1099511627776 by omega)
  have hlen : s.data.toList.length = s.size := by rw [Array.length_toList]; rfl
  have HL := Lib.hid (show (⟨s.data.toList, 1, 0⟩ : St).rest.length ≤ 4398046511104 by show s.data.toList.length ≤ _; omega)
  have hc0 : (0 : Int) ≤ (c.toNat : Int) := by omega
  have hc1 : (c.toNat : Int) ≤ 255 := by have := c.toNat_lt; omega
  have hcn : (c.toNat : Int) ≠ 48 := fun e => hc (UInt8.toNat_inj.1 (by show c.toNat = 48; omega))
  have hcb : ((c.toNat : Int) == 48) = false := by rw [beq_eq_false_iff_ne]; exact hcn
  obtain ⟨t, l', c', ht, hag⟩ := numT_again (c.toNat : Int) ⟨s.data.toList, 1, 0⟩ 1 0
  have hnl := numT_len (c.toNat : Int) ⟨s.data.toList, 1, 0⟩
  have hz1 := fun (wz : World) (L : Loc) (hS : Sc wz L ⟨s.data.toList, 1, 0⟩ none) => znum wz L _ (c.toNat : Int) hS HL.out hcn
  obtain ⟨T, hT⟩ : ∃ T : ByteArray, T = ⟨(numT (c.toNat : Int) ⟨s.data.toList, 1, 0⟩).1.toArray⟩ := ⟨_, rfl⟩
  rw [← hT] at hz1
  have hTd : T.data.toList = by8 (c.toNat : Int) :: t := by rw [hT, ht]
  have hTl : T.size = t.length + 1 := by rw [show T.size = T.data.toList.length by rw [Array.length_toList]; rfl, hTd]; rfl
  have htl : t.length ≤ 1048590 := by
    rw [ht] at hnl
    have : (by8 (c.toNat : Int) :: t).length ≤ s.data.toList.length + 5 := hnl
    simp only [List.length_cons] at this; omega
  obtain ⟨Y, hY⟩ : ∃ Y : ByteArray, Y = T.extract 1 T.size ++ ⟨#[59]⟩ := ⟨_, rfl⟩
  have hYd : Y.data.toList = t ++ [59] := by
    have hx : (T.extract 1 T.size).data.toList = t := by rw [extract_end, hTd]; rfl
    generalize T.extract 1 T.size = X at hx hY
    rw [hY]
    simp [hx]
  have hYs : Y.size ≤ 1099511627776 := by
    rw [show Y.size = Y.data.toList.length by rw [Array.length_toList]; rfl, hYd, List.length_append]; simp; omega
  have hadd : ∀ wz : World, (Op.stringOp BinOp.add (T.extract 1 T.size) ⟨#[59]⟩).run Tryd.prog wz = .ok (.string Y) wz := fun wz => by
    rw [hY]; exact run_string_add_sum wz _ _ (by
      have : (T.extract 1 T.size).size = T.size - 1 := by simp
      rw [this]; show T.size - 1 + 1 ≤ _; omega)
  have hz2 : ∀ (wz : World) (L : Loc), Sc wz L ⟨Y.data.toList, 1, 0⟩ none → Calls Tryd.prog 14 #[.pointer (some ⟨L.S, 0, none⟩), .int .i64 (c.toNat : Int)] wz
      fun e w' => e = .returned (.tuple #[.string T, .nilIface]) ∧ Sc w' L ⟨[59], l', c'⟩ none ∧ Fr L.own wz w' := fun wz L hS => by
    have h := znum wz L _ (c.toNat : Int) hS (by show Y.data.toList.length ≤ _; rw [hYd, List.length_append]; simp; omega) hcn
    rw [hYd, hag] at h
    simp only at h
    rw [← hT] at h
    exact h
  have hz3 : ∀ (wz : World) (L : Loc), Sc wz L ⟨[59], l', c'⟩ none → Calls Tryd.prog 12 #[.pointer (some ⟨L.S, 0, none⟩)] wz fun e w' => e = .returned (.string ⟨#[59]⟩) ∧ Fr L.own wz w' := fun wz L hS => zrest wz L _ none hS (by simp)
  have hT0 : ((T.size : Int) == 0) = false := by rw [beq_eq_false_iff_ne]; omega
  have hT1 : (1 : Int) ≤ (T.size : Int) := by omega
  have hTT : (T.toList == T.toList) = true := by rw [beq_iff_eq]
  have HYS := Lib.hid hYs
  have HZ := Lib.hid (And.intro hz1 (And.intro hz2 hz3))
  clear hT hTd hTl htl hY hYd hYs hnl ht hag hz1 hz2 hz3 hlen hcn hc
  go_enter Tryd.func4, Tryd.ntmps4
  go_wp2_with (first | (go_at_call 10; refine (znew _ a _ he HS.out).mono ?_; rintro e w1 hN; obtain ⟨L, hLs, hown, rfl, hSc, fr, he1⟩ := hN; refine Hid.out ?_) | go_in)
  refine Lib.hid ?_
  have HOWN := Lib.hid hown
  have FR0 := Lib.hid fr
  have he2 := he.fr fr (by simp)
  clear hLs hown fr he1
  go_wp2_with (go_at_call 14; refine (HZ.out.1 w1 L hSc).mono ?_; rintro e w2 ⟨rfl, hS2, fr2⟩; refine Hid.out ?_)
  refine Lib.hid ?_
  have FR2 := Lib.hid (Fr.new FR0.out fr2 HOWN.out)
  have he3 := he2.fr fr2 (fun hm => by have h5 := HOWN.out _ hm; have h6 := he.2; omega)
  clear hSc hS2 fr2 he2
  go_wp2_with (go_at_call 10; refine (znew w2 a Y he3 HYS.out).mono ?_; rintro e w3 hN; obtain ⟨L2, hLs, hown, rfl, hSc, fr, he1⟩ := hN; refine Hid.out ?_)
  refine Lib.hid ?_
  have HOWN2 := Lib.hid (show ∀ k ∈ L2.own, w.heap.size ≤ k from fun k hk => Nat.le_trans FR2.out.size (hown k hk))
  have FR3 := Lib.hid (FR2.out.trans fr)
  clear hLs hown fr he1 he3
  go_wp2_with (go_at_call 14; refine (HZ.out.2.1 w3 L2 hSc).mono ?_; rintro e w4 ⟨rfl, hS4, fr4⟩; refine Hid.out ?_)
  refine Lib.hid ?_
  have FR4 := Lib.hid (Fr.new FR3.out fr4 HOWN2.out)
  clear hSc fr4
  go_wp2_with (go_at_call 12; refine (HZ.out.2.2 w4 L2 hS4).mono ?_; rintro e w5 ⟨rfl, fr5⟩; refine Hid.out ?_)
  refine Lib.hid ?_
  have FR5 := Lib.hid (Fr.new FR4.out fr5 HOWN2.out)
  clear hS4 fr5
  go_wp2
  go_ret
  exact ⟨rfl, FR5.out⟩

set_option maxRecDepth 100000 in
set_option maxHeartbeats 1600000 in
theorem rf_n1 (w : World) (c : UInt8) (s : ByteArray) (h : (1048576 : Int) < (s.size : Int)) :
    Calls Tryd.prog 4 #[.int .u8 c.toNat, .string s] w fun e w' => e = .returned (.bool true) ∧ w' = w := by
  go_enter Tryd.func4, Tryd.ntmps4
  go_wp2
  go_ret
  exact ⟨rfl, rfl⟩
set_option maxRecDepth 100000 in
set_option maxHeartbeats 1600000 in
theorem rf_n2 (w : World) (s : ByteArray) (h : (s.size : Int) ≤ 1048576) :
    Calls Tryd.prog 4 #[.int .u8 48, .string s] w fun e w' => e = .returned (.bool true) ∧ w' = w := by
  go_enter Tryd.func4, Tryd.ntmps4
  go_wp2
  go_ret
  exact ⟨rfl, rfl⟩
theorem rf_walk (W : World) (a : Addr) (he : HasEof W a) (x : Int) (hx : (Lit.int .u8 x).wf = true) (s : ByteArray) :
    Calls Tryd.prog 4 #[.int .u8 x, .string s] W fun e w' => e = .returned (.bool true) ∧ Below W.heap.size W w' := by
  have h0 : IntKind.u8.min ≤ x ∧ x ≤ IntKind.u8.max := by simpa [Lit.wf] using hx
  have hr : 0 ≤ x ∧ x ≤ 255 := h0
  have hc : x = ((by8 x).toNat : Int) := by rw [by8_toNat]; omega
  by_cases h : (s.size : Int) ≤ 1048576
  · by_cases h48 : x = 48
    · subst h48
      exact (rf_n2 W s h).mono fun _ _ ⟨h1, h2⟩ => ⟨h1, h2 ▸ Below.refl _ _⟩
    · rw [hc]
      exact (rf_yes W a _ s he h (fun e => h48 (by rw [hc, e]; rfl))).mono fun _ _ ⟨h1, h2⟩ => ⟨h1, h2.below (Nat.le_refl _) (by simp)⟩
  · rw [hc]
    exact (rf_n1 W _ s (by omega)).mono fun _ _ ⟨h1, h2⟩ => ⟨h1, h2 ▸ Below.refl _ _⟩
end Go.Proofs.YtpjnggpjcbojcaaDoor
