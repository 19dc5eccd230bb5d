/- The law FnScanIdentAgreesWithScan in plain Lean: a scan of a text that opens with a letter. The law FnScanIdentAgreesWithScan, walked. -/
import Derived.Test.YtpjnggpjcbojcaaDoorScM
import Derived.Test.YtpjnggpjcbojcaaDoorZ160
import Derived.Test.YtpjnggpjcbojcaaDoorZr160
import Derived.Test.YtpjnggpjcbojcaaDoorLet160
import Derived.Test.YtpjnggpjcbojcaaDoorSwB
namespace Go.Proofs.YtpjnggpjcbojcaaDoor

theorem scan_ident (prev : Int) (c : UInt8) (t : List UInt8) (h : identS c.toNat = true) :
    (scanL prev ⟨c :: t, 1, 0⟩).ok = true ∧ (scanL prev ⟨c :: t, 1, 0⟩).str = c :: t.takeWhile (onB identI) ∧ (scanL prev ⟨c :: t, 1, 0⟩).st.rest = t.dropWhile (onB identI) ∧ (scanL prev ⟨c :: t, 1, 0⟩).pnl = false := by
  have hc : (65 : Int) ≤ c.toNat ∧ (c.toNat : Int) ≤ 122 := by
    unfold identS at h
    simp only [Bool.or_eq_true, beq_iff_eq, Bool.and_eq_true, decide_eq_true_eq] at h
    omega
  obtain ⟨n1, n2⟩ := next_plain (c := c) (t := t) (line := 1) (col := 0) (by omega)
  have hm : inM mk1 (⟨c :: t, 1, 0⟩ : St).nextC = false := by
    rw [n1, in_mk1 (by omega) (by omega), decide_eq_false_iff_not]; omega
  have hl : lead ⟨c :: t, 1, 0⟩ = ((c.toNat : Int), false, ⟨t, 1, 0 + 1⟩) := by
    unfold lead
    rw [skip_stop hm, n1, n2, if_neg (by simp only; omega)]
  have htok : tokL c.toNat ⟨t, 1, 0 + 1⟩ = identK c.toNat ⟨t, 1, 0 + 1⟩ := by unfold tokL; rw [if_pos h]
  have hs : scanL prev ⟨c :: t, 1, 0⟩ = resOf prev ((c.toNat : Int), false, ⟨t, 1, 0 + 1⟩) (identK c.toNat ⟨t, 1, 0 + 1⟩) := by
    rw [scanL_tok (by rw [hl]; simp only; omega), hl]
    simp only
    rw [htok]
  rw [hs]
  refine ⟨rfl, ?_, rfl, ?_⟩
  · show by8 (c.toNat : Int) :: _ = _
    rw [by8_u8]; rfl
  · show (_ && false) = false
    rw [Bool.and_false]
end Go.Proofs.YtpjnggpjcbojcaaDoor

namespace Go.Proofs.YtpjnggpjcbojcaaDoor
open Go.RowKit

/-- A fresh lexer's cells. -/
def lexZ : List Value := [.pointer none, .slice none 0 0, .bool false, .int .i64 0, .string ⟨#[]⟩, .string ⟨#[]⟩, .string ⟨#[]⟩, .int .i64 0, .int .i64 0, .int .i64 0]

def ScIs (wz : World) (L : Loc) (lx : Nat) (I : ByteArray) (D : List UInt8) (e : Ending) (w' : World) : Prop :=
  ∃ (typ line col : Int) (nm : ByteArray) (st : St), e = .returned (.tuple #[.agg #[.int .i64 typ, .string nm, .string I, .string L.src, .int .i64 line, .int .i64 col], .nilIface]) ∧ st.rest = D ∧ Sc w' L st none ∧ Fr (lx :: L.own) wz w'
theorem all_own {L : Loc} {k : Nat} (h : k ∈ L.all) : k = 0 ∨ k ∈ L.own := by
  simp [Loc.all, Loc.own] at h ⊢; omega

set_option maxRecDepth 100000 in
set_option maxHeartbeats 6400000 in
theorem ia_yes (w : World) (a : Addr) (s : ByteArray) (c : UInt8) (t : List UInt8) (he : HasEof w a) (ht : HasTok w) (h1 : (s.size : Int) ≤ 1048576) (hs : s.data.toList = c :: t) (hI : identS c.toNat = true) :
    Calls Tryd.prog 5 #[.string s] w fun e w' => e = .returned (.bool true) ∧ Fr [] w w' := by
  have b1 : decide ((1048576 : Int) < (s.size : Int)) = false := by rw [decide_eq_false_iff_not]; omega
  have hlen : s.data.toList.length = s.size := by rw [Array.length_toList]; rfl
  have htl : t.length + 1 = s.size := by rw [← hlen, hs]; rfl
  have hz : ((s.size : Int) == 0) = false := by rw [beq_eq_false_iff_ne]; omega
  have hp0 : 0 < s.size := by omega
  have hd0 : decide (s.size ≤ 0) = false := by rw [decide_eq_false_iff_not]; omega
  have hT1 : (1 : Int) ≤ (s.size : Int) := by omega
  have hs0 : ∀ h : 0 < s.size, s[0] = c := fun h => by
    have : s.data.toList[0]'(by omega) = c := by simp only [hs, List.getElem_cons_zero]
    rw [← this]; simp; rfl
  have hc0 : (0 : Int) ≤ (c.toNat : Int) := by omega
  have hc1 : (c.toNat : Int) ≤ 255 := by have := c.toNat_lt; omega
  obtain ⟨o1, o2, o3, o4⟩ := scan_ident 0 c t hI
  have HS := Lib.hid (show s.size ≤ 1099511627776 by omega)
  obtain ⟨Y, hY⟩ : ∃ Y : ByteArray, Y = s.extract 1 s.size := ⟨_, rfl⟩
  have hYd : Y.data.toList = t := by rw [hY, extract_end, hs]; rfl
  have hYs : Y.size ≤ 1099511627776 := by rw [show Y.size = Y.data.toList.length by rw [Array.length_toList]; rfl, hYd]; omega
  obtain ⟨I, hIe⟩ : ∃ I : ByteArray, I = ⟨(c :: t.takeWhile (onB identI)).toArray⟩ := ⟨_, rfl⟩
  obtain ⟨D, hD⟩ : ∃ D, D = t.dropWhile (onB identI) := ⟨_, rfl⟩
  have hDl : D.length ≤ 1099511627776 := by
    have h5 := (List.dropWhile_sublist (l := t) (onB identI)).length_le
    rw [← hD] at h5; omega
  have z1 : ∀ (wz : World) (L : Loc) (lx : Nat), Sc wz L ⟨s.data.toList, 1, 0⟩ none → Blk wz lx lexZ → lx ∉ L.all → HasTok wz → 1 ∉ lx :: L.own →
      Calls Tryd.prog 17 #[.pointer (some ⟨L.S, 0, none⟩), .pointer (some ⟨lx, 0, none⟩)] wz (ScIs wz L lx I D) := fun wz L lx q1 q2 q3 q4 q5 => by
    have hsc := scan_any wz L _ lx lexZ 0 q1 q2 rfl q3 q4 q5 (by show s.data.toList.length ≤ _; omega)
    rw [hs] at hsc
    rw [o1, o2] at hsc
    refine hsc.mono ?_
    rintro e w' ⟨er, typ, nm, str, rfl, her, hk, hS, -, f⟩
    obtain ⟨-, rfl⟩ := (hk rfl)
    rcases her with ⟨-, rfl⟩ | ⟨q, -⟩
    · exact ⟨typ, _, _, nm, _, by rw [hIe]; rfl, by rw [hD]; exact o3, hS, f⟩
    · cases q
  have z2 : ∀ (wz : World) (L : Loc), Sc wz L ⟨Y.data.toList, 1, 0⟩ none → Calls Tryd.prog 18 #[.pointer (some ⟨L.S, 0, none⟩), .int .i64 (c.toNat : Int)] wz
      fun e w' => e = .returned (.tuple #[.string I, .nilIface]) ∧ (∃ st : St, st.rest = D ∧ Sc w' L st none) ∧ Fr L.own wz w' := fun wz L q1 => by
    have h5 := zident wz L _ (c.toNat : Int) q1 (by show Y.data.toList.length ≤ _; rw [hYd]; omega)
    rw [by8_u8] at h5
    refine h5.mono ?_
    rintro e w' ⟨rfl, hS, f⟩
    exact ⟨by rw [hIe, hYd]; rfl, ⟨_, by rw [hD, hYd]; rfl, hS⟩, f⟩
  have z3 : ∀ (wz : World) (L : Loc) (st : St), st.rest = D → Sc wz L st none → Calls Tryd.prog 12 #[.pointer (some ⟨L.S, 0, none⟩)] wz
      fun e w' => e = .returned (.string ⟨D.toArray⟩) ∧ Fr L.own wz w' := fun wz L st q1 q2 => by
    have h5 := zrest wz L st none q2 (by rw [q1]; exact hDl)
    rw [q1] at h5
    exact h5
  obtain ⟨DD, hDD⟩ : ∃ DD : ByteArray, DD = ⟨D.toArray⟩ := ⟨_, rfl⟩
  rw [← hDD] at z3
  have HII : (I.toList == I.toList) = true := by rw [beq_iff_eq]
  have HDD : (DD.toList == DD.toList) = true := by rw [beq_iff_eq]
  have Z := Lib.hid (And.intro z1 (And.intro z2 (And.intro z3 (And.intro hYs (And.intro ht he)))))
  have HYE := Lib.hid hY
  clear hDD hDl hD hIe hYd hYs o1 o2 o3 o4 htl hlen hs z1 z2 z3 hY ht
  go_enter Tryd.func5, Tryd.ntmps5
  go_wp2_with (first | (go_at_call 10; refine (znew _ a _ he HS.out).mono ?_; rintro e w1 hN; obtain ⟨L, hLs, hown, rfl, hSc, fr, he1⟩ := hN; refine Hid.out ?_) | (go_at_call 16; refine (isLet_any _ _).mono ?_; rintro e w' ⟨rfl, rfl⟩) | go_in)
  refine Lib.hid ?_
  have HOWN := Lib.hid hown
  have FR0 := Lib.hid fr
  have HX := Lib.hid (And.intro (hSc.fr ((Fr.refl [] w1).alloc (.cells lexZ.toArray 43))) (And.intro (Blk.new w1 lexZ.toArray 43) (And.intro (show w1.heap.size ∉ L.all from fun hm => Nat.lt_irrefl _ (hSc.lt _ hm))
    (And.intro (Z.out.2.2.2.2.1.of_block ((fr.alloc (.cells lexZ.toArray 43)).block _ Z.out.2.2.2.2.1.1 (by simp)) (fr.alloc (.cells lexZ.toArray 43)).size)
      (show 1 ∉ w1.heap.size :: L.own from fun hm => by
        have h5 := Z.out.2.2.2.2.1.1
        have h6 := fr.size
        rcases List.mem_cons.1 hm with h7 | h7
        · omega
        · have := hown _ h7; omega)))))
  have FR1 := Lib.hid (fr.alloc (.cells lexZ.toArray 43))
  clear hLs hown fr he1 hSc
  go_wp2_with (go_at_call 17; refine (Z.out.1 _ L _ HX.out.1 HX.out.2.1 HX.out.2.2.1 HX.out.2.2.2.1 HX.out.2.2.2.2).mono ?_; rintro e w2 ⟨typ, line, col, nm, st2, rfl, hr2, hS2, fr2⟩; refine Hid.out ?_)
  refine Lib.hid ?_
  have FR2 := Lib.hid (Fr.new FR1.out fr2 (fun k hk => by
    have h6 := FR0.out.size
    rcases List.mem_cons.1 hk with h7 | h7
    · omega
    · exact HOWN.out _ h7))
  have HR2 := Lib.hid (And.intro hr2 hS2)
  have HE3 := Lib.hid (he.fr FR2.out (by simp))
  clear HX FR1 hr2 hS2 fr2
  go_wp2_with (go_at_call 10; rw [← HYE.out]; refine (znew _ a Y (HE3.out.fr ((Fr.refl [] w2).alloc _) (by simp)) Z.out.2.2.2.1).mono ?_; rintro e w3 hN; obtain ⟨L2, hLs, hown, rfl, hSc, fr, he1⟩ := hN; refine Hid.out ?_)
  refine Lib.hid ?_
  have HOWN2 := Lib.hid (show ∀ k ∈ L2.own, w2.heap.size + 1 ≤ k from fun k hk => by have := hown k hk; simpa using this)
  have FR3 := Lib.hid ((FR2.out.alloc _).trans fr)
  have HS3 := Lib.hid ((HR2.out.2.fr ((Fr.refl _ w2).alloc _)).fr fr)
  have HT := Lib.hid (fr.blk (Blk.new w2 _ _) (by simp))
  clear hLs hown fr he1
  go_wp2_with (go_at_call 18; refine (Z.out.2.1 w3 L2 hSc).mono ?_; rintro e w4 ⟨rfl, ⟨st4, hr4, hS4⟩, fr4⟩; refine Hid.out ?_)
  refine Lib.hid ?_
  have hlt2 := fun k (hk : k ∈ L2.own) => HOWN2.out k hk
  have HS4 := Lib.hid (HS3.out.keep fr4.size (fun k hk => fr4.block k (HS3.out.lt k hk) (fun hm => by have h5 := hlt2 k hm; have h6 := HR2.out.2.lt k hk; omega)))
  have hT4 := fr4.blk HT.out (fun hm => by have h5 := hlt2 _ hm; omega)
  have k2 := hT4.cell 2 (.string I) rfl
  have FR4 := Lib.hid (Fr.new FR3.out fr4 (fun k hk => by have h5 := hlt2 k hk; have h6 := FR2.out.size; omega))
  clear hSc fr4 hT4 HT HS3 hlt2
  go_wp2_with (go_at_call 12; refine (Z.out.2.2.1 w4 L st2 HR2.out.1 HS4.out).mono ?_; rintro e w5 ⟨rfl, fr5⟩; refine Hid.out ?_)
  refine Lib.hid ?_
  have HS5 := Lib.hid (hS4.keep fr5.size (fun k hk => fr5.block k (hS4.lt k hk) (fun hm => by
    have h7 := HOWN.out k hm
    have h8 := he.2
    rcases all_own hk with h5 | h5
    · omega
    · have h6 := HOWN2.out k h5
      have h9 := HR2.out.2.lt k (Loc.own_all _ hm); omega)))
  have FR5 := Lib.hid (Fr.new FR4.out fr5 HOWN.out)
  clear hS4 fr5 k2
  go_wp2_with (go_at_call 12; refine (Z.out.2.2.1 w5 L2 st4 hr4 HS5.out).mono ?_; rintro e w6 ⟨rfl, fr6⟩; refine Hid.out ?_)
  refine Lib.hid ?_
  have FR6 := Lib.hid (Fr.new FR5.out fr6 (fun k hk => by have h5 := HOWN2.out k hk; have h6 := FR2.out.size; omega))
  clear fr6
  go_wp2
  go_ret
  exact ⟨rfl, FR6.out⟩

set_option maxRecDepth 100000 in
set_option maxHeartbeats 1600000 in
theorem ia_n1 (w : World) (s : ByteArray) (h : (1048576 : Int) < (s.size : Int)) :
    Calls Tryd.prog 5 #[.string s] w fun e w' => e = .returned (.bool true) ∧ w' = w := by
  go_enter Tryd.func5, Tryd.ntmps5
  go_wp2
  go_ret
  exact ⟨rfl, rfl⟩
set_option maxRecDepth 100000 in
set_option maxHeartbeats 1600000 in
theorem ia_n2 (w : World) (s : ByteArray) (h : s.size = 0) :
    Calls Tryd.prog 5 #[.string s] w fun e w' => e = .returned (.bool true) ∧ w' = w := by
  obtain rfl : s = ⟨#[]⟩ := ByteArray.ext (Array.eq_empty_of_size_eq_zero h)
  clear h
  go_enter Tryd.func5, Tryd.ntmps5
  go_wp2
  go_ret
  exact ⟨rfl, rfl⟩
set_option maxRecDepth 100000 in
set_option maxHeartbeats 1600000 in
theorem ia_n3 (w : World) (s : ByteArray) (c : UInt8) (t : List UInt8) (h1 : (s.size : Int) ≤ 1048576) (hs : s.data.toList = c :: t) (hI : identS c.toNat = false) :
    Calls Tryd.prog 5 #[.string s] w fun e w' => e = .returned (.bool true) ∧ w' = w := by
  have b1 : decide ((1048576 : Int) < (s.size : Int)) = false := by rw [decide_eq_false_iff_not]; omega
  have hlen : s.data.toList.length = s.size := by rw [Array.length_toList]; rfl
  have htl : t.length + 1 = s.size := by rw [← hlen, hs]; rfl
  have hz : ((s.size : Int) == 0) = false := by rw [beq_eq_false_iff_ne]; omega
  have hp0 : 0 < s.size := by omega
  have hd0 : decide (s.size ≤ 0) = false := by rw [decide_eq_false_iff_not]; omega
  have hs0 : ∀ h : 0 < s.size, s[0] = c := fun h => by
    have : s.data.toList[0]'(by omega) = c := by simp only [hs, List.getElem_cons_zero]
    rw [← this]; simp; rfl
  clear hlen htl hs
  go_enter Tryd.func5, Tryd.ntmps5
  go_wp2_with (first | (go_at_call 16; refine (isLet_any _ _).mono ?_; rintro e w' ⟨rfl, rfl⟩) | go_in)
  go_ret
  exact ⟨rfl, rfl⟩
theorem ia_walk (W : World) (a : Addr) (he : HasEof W a) (ht : HasTok W) (s : ByteArray) :
    Calls Tryd.prog 5 #[.string s] W fun e w' => e = .returned (.bool true) ∧ Below W.heap.size W w' := by
  by_cases h : (s.size : Int) ≤ 1048576
  · cases hl : s.data.toList with
    | nil =>
      have h0 : s.size = 0 := by rw [show s.size = s.data.toList.length by rw [Array.length_toList]; rfl, hl]; rfl
      exact (ia_n2 W s h0).mono fun _ _ ⟨h1, h2⟩ => ⟨h1, h2 ▸ Below.refl _ _⟩
    | cons c t =>
      cases hi : identS (c.toNat : Int)
      · exact (ia_n3 W s c t h hl hi).mono fun _ _ ⟨h1, h2⟩ => ⟨h1, h2 ▸ Below.refl _ _⟩
      · exact (ia_yes W a s c t he ht h hl hi).mono fun _ _ ⟨h1, h2⟩ => ⟨h1, h2.below (Nat.le_refl _) (by simp)⟩
  · exact (ia_n1 W s (by omega)).mono fun _ _ ⟨h1, h2⟩ => ⟨h1, h2 ▸ Below.refl _ _⟩
end Go.Proofs.YtpjnggpjcbojcaaDoor
