/- The law FnScanEscapeWritesOneByteEatsAtMostThreeDigits, walked. -/
import Derived.Test.YtoibhhbhohpljaaDoorZ131
import Derived.Deep.LoopGhost
namespace Go.Proofs.YtoibhhbhohpljaaDoor
open Go.RowKit

theorem digs_at (l : List UInt8) (k : Nat) (hk : k ≤ digs l) : k < digs l ↔ k < 3 ∧ ∃ h : k < l.length, onB decI l[k] = true := by
  have key : ∀ (l : List UInt8) (k : Nat), k ≤ (l.takeWhile (onB decI)).length → (k < (l.takeWhile (onB decI)).length ↔ ∃ h : k < l.length, onB decI l[k] = true) := by
    intro l
    induction l with
    | nil => intro k hk; simp at hk ⊢
    | cons c t ih =>
      intro k hk
      cases hc : onB decI c with
      | false =>
        simp only [List.takeWhile_cons, hc] at hk ⊢
        have : k = 0 := by simpa using hk
        subst this
        simp [hc]
      | true =>
        simp only [List.takeWhile_cons, hc, if_true] at hk ⊢
        cases k with
        | zero => simp [hc]
        | succ k =>
          have := ih k (by simpa using hk)
          simpa using this
  unfold digs at hk ⊢
  have := key l k (by omega)
  constructor
  · intro h; exact ⟨by omega, this.1 (by omega)⟩
  · rintro ⟨h3, h⟩; have := this.2 h; omega
set_option maxRecDepth 100000 in
set_option maxHeartbeats 1600000 in
theorem isd_any (w : World) (c : UInt8) : Calls Tryd.prog 13 #[.int .u8 c.toNat] w fun e w' => e = .returned (.bool (onB decI c)) ∧ w = w' := by
  have hc0 : (0 : Int) ≤ (c.toNat : Int) := by omega
  have hc1 : (c.toNat : Int) ≤ 255 := by have := c.toNat_lt; omega
  by_cases h1 : 48 ≤ (c.toNat : Int)
  · by_cases h2 : (c.toNat : Int) ≤ 57
    · have HD := Lib.hid (show onB decI c = true by unfold onB; rw [dec_iff, decide_eq_true_eq]; exact ⟨h1, h2⟩)
      rw [HD.out]
      go_enter Tryd.func13, Tryd.ntmps13
      go_wp2
      go_ret
      exact ⟨rfl, rfl⟩
    · have HD := Lib.hid (show onB decI c = false by unfold onB; rw [dec_iff, decide_eq_false_iff_not]; omega)
      rw [HD.out]
      go_enter Tryd.func13, Tryd.ntmps13
      go_wp2
      go_ret
      exact ⟨rfl, rfl⟩
  · have HD := Lib.hid (show onB decI c = false by unfold onB; rw [dec_iff, decide_eq_false_iff_not]; omega)
    rw [HD.out]
    go_enter Tryd.func13, Tryd.ntmps13
    go_wp2
    go_ret
    exact ⟨rfl, rfl⟩
theorem isd_yes (w : World) (c : UInt8) (h : Hid (onB decI c = true)) : Calls Tryd.prog 13 #[.int .u8 c.toNat] w fun e w' => e = .returned (.bool true) ∧ w = w' := by
  have := isd_any w c; rw [h.out] at this; exact this
theorem isd_no (w : World) (c : UInt8) (h : Hid (onB decI c = false)) : Calls Tryd.prog 13 #[.int .u8 c.toNat] w fun e w' => e = .returned (.bool false) ∧ w = w' := by
  have := isd_any w c; rw [h.out] at this; exact this

set_option maxRecDepth 100000 in
set_option maxHeartbeats 1600000 in
theorem ep_no (w : World) (s : ByteArray) (h : ¬ (s.size ≤ 1048576 ∧ s.size ≤ 65536)) :
    Calls Tryd.prog 4 #[.string s] w fun e w' => e = .returned (.bool true) ∧ w' = w := by
  by_cases h0 : s.size ≤ 1048576
  case neg =>
    have hf : (1048576 : Int) < (s.size : Int) := by omega
    clear h h0
    go_enter Tryd.func4, Tryd.ntmps4
    go_wp2
    go_ret
    exact ⟨rfl, rfl⟩
  by_cases h1 : s.size ≤ 65536
  case neg =>
    have hf : (65536 : Int) < (s.size : Int) := by omega
    clear h h1
    go_enter Tryd.func4, Tryd.ntmps4
    go_wp2
    go_ret
    exact ⟨rfl, rfl⟩
  exact absurd ⟨h0, h1⟩ h

set_option maxRecDepth 100000 in
set_option maxHeartbeats 4000000 in
theorem ep_nil (w : World) (a : Addr) (s : ByteArray) (he : HasEof w a) (h0 : s.size = 0) :
    Calls Tryd.prog 4 #[.string s] w fun e w' => e = .returned (.bool true) ∧ Fr [] w w' := by
  have HS := Lib.hid (show s.size ≤ 1099511627776 by omega)
  have HP := Lib.hid ((esc_pos s.data.toList).1 (List.eq_nil_of_length_eq_zero (by rw [Array.length_toList]; exact h0)))
  go_enter Tryd.func4, Tryd.ntmps4
  go_wp2_with (first | (go_at_call 9; refine (znew _ a _ he HS.out).mono ?_; rintro e w1 hN; obtain ⟨L, hLs, hown, rfl, hSc, fr⟩ := hN; refine Hid.out ?_) | go_in)
  refine Lib.hid ?_
  have HOWN := Lib.hid hown
  have FR0 := Lib.hid fr
  clear he hLs hown fr
  go_wp2_with (go_at_call 12; refine (zesc w1 L _ hSc).mono ?_; rintro e w2 ⟨rfl, hS2, fr2⟩; refine Hid.out ?_)
  refine Lib.hid ?_
  obtain ⟨_, c1, c2, _, _, _⟩ := hS2.facts
  rw [HP.out.1] at c1
  rw [HP.out.2] at c2
  have FR := Lib.hid (Fr.new FR0.out fr2 HOWN.out)
  clear hSc hS2 fr2
  have hsz1 : ∀ x : UInt8, ByteArray.size ⟨#[x]⟩ = 1 := fun _ => rfl
  go_wp2
  go_ret
  exact ⟨rfl, FR.out⟩
set_option maxRecDepth 100000 in
set_option maxHeartbeats 4000000 in
theorem ep_brk (w : World) (a : Addr) (s : ByteArray) (he : HasEof w a) (h0 : 0 < s.size) (h : s.size ≤ 1048576 ∧ s.size ≤ 65536) (hbr : (s[0].toNat : Int) = 10 ∨ (s[0].toNat : Int) = 13) :
    Calls Tryd.prog 4 #[.string s] w fun e w' => e = .returned (.bool true) ∧ Fr [] w w' := by
  obtain ⟨h1, h2⟩ := h
  have b1 : decide ((1048576 : Int) < (s.size : Int)) = false := by rw [decide_eq_false_iff_not]; omega
  have b2 : decide ((65536 : Int) < (s.size : Int)) = false := by rw [decide_eq_false_iff_not]; omega
  have HS := Lib.hid (show s.size ≤ 1099511627776 by omega)
  have hdr : s.data.toList = s[0] :: s.data.toList.drop 1 := str_drop s 0 h0
  have HP := Lib.hid (((esc_pos s.data.toList).2 _ _ hdr).1 hbr)
  have h0i : (0 : Int) < (s.size : Int) := by omega
  have hne : ((s.size : Int) == 0) = false := by rw [beq_eq_false_iff_ne]; omega
  have hc0 : (0 : Int) ≤ (s[0].toNat : Int) := by omega
  have hc1 : (s[0].toNat : Int) ≤ 255 := by have := s[0].toNat_lt; omega
  clear hdr
  have hd : ((s[0].toNat : Int) == 10) = true ∨ (((s[0].toNat : Int) == 10) = false ∧ ((s[0].toNat : Int) == 13) = true) := by
    rcases hbr with h | h
    · left; rw [beq_iff_eq]; exact h
    · right; exact ⟨by rw [beq_eq_false_iff_ne]; omega, by rw [beq_iff_eq]; exact h⟩
  clear hbr
  rcases hd with e1 | ⟨e1, e2⟩
  all_goals
    go_enter Tryd.func4, Tryd.ntmps4
    go_wp2_with (first | (go_at_call 9; refine (znew _ a _ he HS.out).mono ?_; rintro e w1 hN; obtain ⟨L, hLs, hown, rfl, hSc, fr⟩ := hN; refine Hid.out ?_) | go_in)
    refine Lib.hid ?_
    have HOWN := Lib.hid hown
    have FR0 := Lib.hid fr
    clear he hLs hown fr
    go_wp2_with (go_at_call 12; refine (zesc w1 L _ hSc).mono ?_; rintro e w2 ⟨rfl, hS2, fr2⟩; refine Hid.out ?_)
    refine Lib.hid ?_
    obtain ⟨_, c1, c2, _, _, _⟩ := hS2.facts
    rw [HP.out.1] at c1
    rw [HP.out.2] at c2
    have FR := Lib.hid (Fr.new FR0.out fr2 HOWN.out)
    clear hSc hS2 fr2
    have hsz1 : ∀ x : UInt8, ByteArray.size ⟨#[x]⟩ = 1 := fun _ => rfl
    go_wp2
    go_ret
    exact ⟨rfl, FR.out⟩
set_option maxRecDepth 100000 in
set_option maxHeartbeats 4000000 in
theorem ep_other (w : World) (a : Addr) (s : ByteArray) (he : HasEof w a) (h0 : 0 < s.size) (h : s.size ≤ 1048576 ∧ s.size ≤ 65536) (hbr : ¬ ((s[0].toNat : Int) = 10 ∨ (s[0].toNat : Int) = 13)) (hdg : onB decI s[0] = false) :
    Calls Tryd.prog 4 #[.string s] w fun e w' => e = .returned (.bool true) ∧ Fr [] w w' := by
  obtain ⟨h1, h2⟩ := h
  have b1 : decide ((1048576 : Int) < (s.size : Int)) = false := by rw [decide_eq_false_iff_not]; omega
  have b2 : decide ((65536 : Int) < (s.size : Int)) = false := by rw [decide_eq_false_iff_not]; omega
  have HS := Lib.hid (show s.size ≤ 1099511627776 by omega)
  have hdr : s.data.toList = s[0] :: s.data.toList.drop 1 := str_drop s 0 h0
  have HP := Lib.hid (((esc_pos s.data.toList).2 _ _ hdr).2.2 hdg hbr)
  have h0i : (0 : Int) < (s.size : Int) := by omega
  have hne : ((s.size : Int) == 0) = false := by rw [beq_eq_false_iff_ne]; omega
  have hc0 : (0 : Int) ≤ (s[0].toNat : Int) := by omega
  have hc1 : (s[0].toNat : Int) ≤ 255 := by have := s[0].toNat_lt; omega
  have e1 : ((s[0].toNat : Int) == 10) = false := by rw [beq_eq_false_iff_ne]; omega
  have e2 : ((s[0].toNat : Int) == 13) = false := by rw [beq_eq_false_iff_ne]; omega
  have HD := Lib.hid hdg
  clear hdr hbr hdg
  go_enter Tryd.func4, Tryd.ntmps4
  go_wp2_with (first | (go_at_call 9; refine (znew _ a _ he HS.out).mono ?_; rintro e w1 hN; obtain ⟨L, hLs, hown, rfl, hSc, fr⟩ := hN; refine Hid.out ?_) | go_in)
  refine Lib.hid ?_
  have HOWN := Lib.hid hown
  have FR0 := Lib.hid fr
  clear he hLs hown fr
  go_wp2_with (go_at_call 12; refine (zesc w1 L _ hSc).mono ?_; rintro e w2 ⟨rfl, hS2, fr2⟩; refine Hid.out ?_)
  refine Lib.hid ?_
  obtain ⟨_, c1, c2, _, _, _⟩ := hS2.facts
  rw [HP.out.1] at c1
  rw [HP.out.2] at c2
  have FR := Lib.hid (Fr.new FR0.out fr2 HOWN.out)
  clear hSc hS2 fr2
  have hsz1 : ∀ x : UInt8, ByteArray.size ⟨#[x]⟩ = 1 := fun _ => rfl
  go_wp2_with (go_at_call 13; refine (isd_no _ _ HD).mono ?_; rintro e w' ⟨rfl, rfl⟩)
  go_ret
  exact ⟨rfl, FR.out⟩
set_option maxRecDepth 100000 in
set_option maxHeartbeats 6400000 in
theorem ep_digit (w : World) (a : Addr) (s : ByteArray) (he : HasEof w a) (h0 : 0 < s.size) (h : s.size ≤ 1048576 ∧ s.size ≤ 65536) (hdg : onB decI s[0] = true) :
    Calls Tryd.prog 4 #[.string s] w fun e w' => e = .returned (.bool true) ∧ Fr [] w w' := by
  obtain ⟨h1, h2⟩ := h
  have b1 : decide ((1048576 : Int) < (s.size : Int)) = false := by rw [decide_eq_false_iff_not]; omega
  have b2 : decide ((65536 : Int) < (s.size : Int)) = false := by rw [decide_eq_false_iff_not]; omega
  have HS := Lib.hid (show s.size ≤ 1099511627776 by omega)
  have hdr : s.data.toList = s[0] :: s.data.toList.drop 1 := str_drop s 0 h0
  have HP := Lib.hid (((esc_pos s.data.toList).2 _ _ hdr).2.1 hdg)
  have hlen : s.data.toList.length = s.size := by rw [Array.length_toList]; rfl
  have HLEN := Lib.hid hlen
  have HD1 := Lib.hid (show 1 ≤ digs s.data.toList by rw [hdr, digs_cons hdg]; omega)
  have HDA := Lib.hid (digs_at s.data.toList)
  have hnb := dec_nobrk hdg
  have h0i : (0 : Int) < (s.size : Int) := by omega
  have hne : ((s.size : Int) == 0) = false := by rw [beq_eq_false_iff_ne]; omega
  have hc0 : (0 : Int) ≤ (s[0].toNat : Int) := by omega
  have hc1 : (s[0].toNat : Int) ≤ 255 := by have := s[0].toNat_lt; omega
  have e1 : ((s[0].toNat : Int) == 10) = false := by rw [beq_eq_false_iff_ne]; omega
  have e2 : ((s[0].toNat : Int) == 13) = false := by rw [beq_eq_false_iff_ne]; omega
  have HD := Lib.hid hdg
  obtain ⟨T, hT⟩ : ∃ T, T = digs s.data.toList := ⟨_, rfl⟩
  rw [← hT] at HP HD1 HDA
  have HT3 := Lib.hid (show T ≤ 3 by rw [hT]; unfold digs; omega)
  clear hdr hdg hnb hlen hT
  go_enter Tryd.func4, Tryd.ntmps4
  go_wp2_with (first | (go_at_call 9; refine (znew _ a _ he HS.out).mono ?_; rintro e w1 hN; obtain ⟨L, hLs, hown, rfl, hSc, fr⟩ := hN; refine Hid.out ?_) | go_in)
  refine Lib.hid ?_
  have HOWN := Lib.hid hown
  have FR0 := Lib.hid fr
  clear he hLs hown fr
  go_wp2_with (go_at_call 12; refine (zesc w1 L _ hSc).mono ?_; rintro e w2 ⟨rfl, hS2, fr2⟩; refine Hid.out ?_)
  refine Lib.hid ?_
  obtain ⟨_, c1, c2, _, _, _⟩ := hS2.facts
  rw [HP.out.1] at c1
  rw [HP.out.2] at c2
  have FR := Lib.hid (Fr.new FR0.out fr2 HOWN.out)
  clear hSc hS2 fr2
  have hsz1 : ∀ x : UInt8, ByteArray.size ⟨#[x]⟩ = 1 := fun _ => rfl
  go_wp2_with (go_at_call 13; refine (isd_yes _ _ HD).mono ?_; rintro e w' ⟨rfl, rfl⟩; refine Hid.out ?_)
  refine Lib.hid ?_
  go_wp2
  go_loopg [8] 3 (fun g d wr => ∃ k : Nat, 3 - k ≤ g ∧ d = .int .i64 k ∧ 1 ≤ k ∧ k ≤ T ∧ k ≤ 3 ∧ wr = w2)
  case atStart => exact ⟨1, by omega, rfl, Nat.le_refl _, HD1.out, by omega, rfl⟩
  case round =>
    obtain ⟨k, hg, rfl, hk1, hkT, hk3, rfl⟩ := hrel
    have HG := Lib.hid hg
    have HK := Lib.hid (And.intro hk1 hkT)
    have HDK := Lib.hid (HDA.out k hkT)
    have hk3i : (k : Int) ≤ 3 := by omega
    have hk0i : (1 : Int) ≤ (k : Int) := by omega
    clear hg hk1 hkT
    by_cases h3 : k < 3
    · have h3i : (k : Int) < 3 := by omega
      by_cases hlt : k < s.size
      · have hlti : (k : Int) < (s.size : Int) := by omega
        have hkd0 : (0 : Int) ≤ (s[k].toNat : Int) := by omega
        have hkd1 : (s[k].toNat : Int) ≤ 255 := by have := s[k].toNat_lt; omega
        have hkk : ∀ h : k < s.data.toList.length, s.data.toList[k] = s[k] := fun h => by simp; rfl
        cases hdk : onB decI s[k]
        · have HDN := Lib.hid hdk
          have HE := Lib.hid (show k = T by
            have h5 := HK.out.2
            have h6 : ¬ k < T := fun h7 => by
              obtain ⟨_, hh, hx⟩ := HDK.out.1 h7
              rw [hkk hh, hdk] at hx; cases hx
            omega)
          clear hdk hkk
          go_wp2_with (go_at_call 13; refine (isd_no _ _ HDN).mono ?_; rintro e w' ⟨rfl, rfl⟩; refine Hid.out ?_)
          refine Lib.hid ?_
          obtain rfl : k = T := HE.out
          go_wp2
          go_ret
          exact ⟨rfl, FR.out⟩
        · have HDY := Lib.hid hdk
          have HE := Lib.hid (show k < T from HDK.out.2 ⟨h3, by rw [HLEN.out]; exact hlt, by rw [hkk]; exact hdk⟩)
          clear hdk hkk
          go_wp2_with (go_at_call 13; refine (isd_yes _ _ HDY).mono ?_; rintro e w' ⟨rfl, rfl⟩; refine Hid.out ?_)
          refine Lib.hid ?_
          go_wp2
          go_roundg (3 - (k + 1))
          case measure => have := HG.out; omega
          case rel => exact ⟨k + 1, Nat.le_refl _, by go_num, by omega, HE.out, by omega, rfl⟩
      · have hlei : (s.size : Int) ≤ (k : Int) := by omega
        have HE := Lib.hid (show k = T by
          have h5 := HK.out.2
          have h6 : ¬ k < T := fun h7 => by
            obtain ⟨_, hh, _⟩ := HDK.out.1 h7
            rw [HLEN.out] at hh; omega
          omega)
        obtain rfl : k = T := HE.out
        clear HE
        go_wp2
        go_ret
        exact ⟨rfl, FR.out⟩
    · have HE := Lib.hid (show k = T by have := HK.out; have := HT3.out; omega)
      obtain rfl : k = 3 := by omega
      obtain rfl : T = 3 := HE.out.symm
      clear HE
      go_wp2
      go_ret
      exact ⟨rfl, FR.out⟩
theorem ep_yes (w : World) (a : Addr) (s : ByteArray) (he : HasEof w a) (h : s.size ≤ 1048576 ∧ s.size ≤ 65536) :
    Calls Tryd.prog 4 #[.string s] w fun e w' => e = .returned (.bool true) ∧ Fr [] w w' := by
  by_cases h0 : s.size = 0
  · exact ep_nil w a s he h0
  · have h0' : 0 < s.size := by omega
    cases hd : onB decI s[0]
    · by_cases hbr : (s[0].toNat : Int) = 10 ∨ (s[0].toNat : Int) = 13
      · exact ep_brk w a s he h0' h hbr
      · exact ep_other w a s he h0' h hbr hd
    · exact ep_digit w a s he h0' h hd

theorem ep_walk (W : World) (a : Addr) (he : HasEof W a) (s : ByteArray) :
    Calls Tryd.prog 4 #[.string s] W fun e w' => e = .returned (.bool true) ∧ Below W.heap.size W w' := by
  by_cases h : s.size ≤ 1048576 ∧ s.size ≤ 65536
  · exact (ep_yes W a s he h).mono fun _ _ ⟨h1, h2⟩ => ⟨h1, h2.below (Nat.le_refl _) (by simp)⟩
  · exact (ep_no W s h).mono fun _ _ ⟨h1, h2⟩ => ⟨h1, h2 ▸ Below.refl _ _⟩
end Go.Proofs.YtoibhhbhohpljaaDoor
