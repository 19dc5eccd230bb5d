/- The law FnNewScannerNextCountsColumns, walked. -/
import Derived.Test.YtbolfnpocmbbhaaDoorPosIs
namespace Go.Proofs.YtbolfnpocmbbhaaDoor
open Go.RowKit

def isBrk (c : UInt8) : Bool := (c.toNat : Int) == 10 || (c.toNat : Int) == 13
def hasBrk : List UInt8 → Bool
  | [] => false
  | c :: t => isBrk c || hasBrk t
theorem hasBrk_drop {l : List UInt8} (h : hasBrk l = false) : ∀ k, hasBrk (l.drop k) = false := by
  induction l with
  | nil => intro k; simpa using h
  | cons c t ih =>
    intro k
    simp only [hasBrk, Bool.or_eq_false_iff] at h
    cases k with
    | zero => simp [hasBrk, h.1, h.2]
    | succ k => simpa using ih h.2 k

set_option maxHeartbeats 1600000 in
theorem hasLineBreak_any (w : World) (s : ByteArray) (hs : s.size ≤ 1048576) :
    Calls Tryd.prog 15 #[.string s] w fun e w' => e = .returned (.bool (hasBrk s.data.toList)) ∧ w = w' := by
  go_enter Tryd.func15, Tryd.ntmps15
  go_wp2
  go_loop [3] (fun i => ∃ k : Nat, k ≤ s.size ∧ i = .int .i64 k ∧ hasBrk (s.data.toList.drop k) = hasBrk s.data.toList) (fun i => s.size - (intOf i).toNat)
  case atStart => exact ⟨0, Nat.zero_le _, rfl, rfl⟩
  case round =>
    obtain ⟨k, hk, rfl, hb⟩ := hrel
    have HB := Lib.hid hb
    clear hb
    by_cases hlt : k < s.size
    · have hdr := str_drop s k hlt
      have hc0 : (0 : Int) ≤ (s[k].toNat : Int) := by omega
      have hc1 : (s[k].toNat : Int) ≤ 255 := by have := s[k].toNat_lt; omega
      have HD := Lib.hid hdr
      clear hdr
      by_cases h10 : (s[k].toNat : Int) = 10
      · have e1 : ((s[k].toNat : Int) == 10) = true := beq_iff_eq.2 h10
        have HX : Hid (hasBrk s.data.toList = true) := by
          show _ = _
          rw [← HB.out, HD.out]; simp [hasBrk, isBrk, e1]
        clear h10
        go_wp2
        go_ret
        exact ⟨by rw [HX.out]; rfl, rfl⟩
      · by_cases h13 : (s[k].toNat : Int) = 13
        · have e1 : ((s[k].toNat : Int) == 10) = false := beq_eq_false_iff_ne.2 h10
          have e2 : ((s[k].toNat : Int) == 13) = true := beq_iff_eq.2 h13
          have HX : Hid (hasBrk s.data.toList = true) := by
            show _ = _
            rw [← HB.out, HD.out]; simp [hasBrk, isBrk, e2]
          clear h10 h13
          go_wp2
          go_ret
          exact ⟨by rw [HX.out]; rfl, rfl⟩
        · have e1 : ((s[k].toNat : Int) == 10) = false := beq_eq_false_iff_ne.2 h10
          have e2 : ((s[k].toNat : Int) == 13) = false := beq_eq_false_iff_ne.2 h13
          have HX : Hid (hasBrk (s.data.toList.drop (k + 1)) = hasBrk s.data.toList) := by
            show _ = _
            rw [← HB.out, HD.out]; simp [hasBrk, isBrk, e1, e2]
          clear h10 h13
          go_wp2
          go_round
          case rel => exact ⟨k + 1, by omega, by go_num, HX.out⟩
          case measure => simp [intOf]; omega
    · have hdr := str_drop_end s k hlt
      have HX : Hid (hasBrk s.data.toList = false) := by
        show _ = _
        rw [← HB.out, hdr]; rfl
      clear hdr
      go_wp2
      go_ret
      exact ⟨by rw [HX.out]; rfl, rfl⟩

set_option maxHeartbeats 1600000 in
theorem nc_no (w : World) (s src : ByteArray) (h : ¬ (s.size ≤ 1048576 ∧ src.size ≤ 1048576 ∧ s.size + src.size ≤ 1048576)) :
    Calls Tryd.prog 5 #[.string s, .string src] w
      fun e w' => e = .returned (.bool true) ∧ w' = w := by
  by_cases h1 : s.size ≤ 1048576
  · by_cases h2 : src.size ≤ 1048576
    · have h3 : (1048576 : Int) < (s.size : Int) + (src.size : Int) := by omega
      clear h
      go_enter Tryd.func5, Tryd.ntmps5
      go_wp2
      go_ret
      exact ⟨rfl, rfl⟩
    · have h3 : (1048576 : Int) < (src.size : Int) := by omega
      clear h
      go_enter Tryd.func5, Tryd.ntmps5
      go_wp2
      go_ret
      exact ⟨rfl, rfl⟩
  · have h3 : (1048576 : Int) < (s.size : Int) := by omega
    clear h
    go_enter Tryd.func5, Tryd.ntmps5
    go_wp2
    go_ret
    exact ⟨rfl, rfl⟩

set_option maxHeartbeats 3200000 in
theorem nc_brk (w : World) (s src : ByteArray) (h1 : s.size ≤ 1048576) (h2 : src.size ≤ 1048576) (h3 : s.size + src.size ≤ 1048576) (hbr : hasBrk s.data.toList = true) :
    Calls Tryd.prog 5 #[.string s, .string src] w
      fun e w' => e = .returned (.bool true) ∧ w' = w := by
  have h4 : (s.size : Int) + (src.size : Int) ≤ 1048576 := by omega
  go_enter Tryd.func5, Tryd.ntmps5
  go_wp2_with (first | (go_at_call 15; refine (hasLineBreak_any _ s h1).mono ?_; rintro e w1 ⟨rfl, rfl⟩) | go_in)
  go_ret
  exact ⟨rfl, rfl⟩

set_option maxHeartbeats 3200000 in
theorem nc_yes (w : World) (a : Addr) (s src : ByteArray) (he : HasEof w a) (h1 : s.size ≤ 1048576) (h2 : src.size ≤ 1048576) (h3 : s.size + src.size ≤ 1048576) (hbr : hasBrk s.data.toList = false) :
    Calls Tryd.prog 5 #[.string s, .string src] w
      fun e w' => e = .returned (.bool true) ∧ Fr [] w w' := by
  have h4 : (s.size : Int) + (src.size : Int) ≤ 1048576 := by omega
  have b1 : decide ((1048576 : Int) < (s.size : Int)) = false := by rw [decide_eq_false_iff_not]; omega
  have b2 : decide ((1048576 : Int) < (src.size : Int)) = false := by rw [decide_eq_false_iff_not]; omega
  have b3 : decide ((1048576 : Int) < (s.size : Int) + (src.size : Int)) = false := by rw [decide_eq_false_iff_not]; omega
  have HBR := Lib.hid (hasBrk_drop hbr)
  go_enter Tryd.func5, Tryd.ntmps5
  go_wp2_with (first | (go_at_call 15; refine (hasLineBreak_any _ s h1).mono ?_; rintro e w1 ⟨rfl, rfl⟩) | (go_at_call 9; refine (newReader _ s (by omega)).mono ?_; rintro e w1 ⟨rfl, hU, hz, fr⟩; refine Hid.out ?_) | go_in)
  refine Lib.hid ?_
  have he1 := he.fr fr (by simp)
  have hg0 := he.2
  have hne : w.heap.size ≠ 0 := by omega
  go_wp2_with (go_at_call 8; refine (newScanner w1 _ a src _ hU he1 hne).mono ?_; rintro e w2 hN; obtain ⟨L, hLU, hLa, hLs, hS, hR, hD, rfl, hSc, fr2⟩ := hN; refine Hid.out ?_)
  refine Lib.hid ?_
  clear he he1 hU
  have HOWN := Lib.hid (show ∀ k ∈ L.own, w.heap.size ≤ k from Loc.own_new (by omega) (by omega) (by omega) (by omega))
  have FR0 := Lib.hid (fr.trans fr2)
  have HLs := Lib.hid hLs
  clear fr fr2 hLU hLa hLs hS hR hD hg0 hne hz hbr
  go_wp2
  go_loopw [6] (fun i wr => ∃ k : Nat, k ≤ s.size ∧ i = .int .i64 k ∧ Sc wr L ⟨s.data.toList.drop k, 1, k⟩ none ∧ Fr [] w wr) (fun i _ => s.size - (intOf i).toNat)
  case atStart => exact ⟨0, Nat.zero_le _, rfl, hSc, FR0.out⟩
  case round =>
    obtain ⟨k, hk, rfl, hSr, frr⟩ := hrel
    have FRR := Lib.hid frr
    clear frr hSc
    by_cases hlt : k < s.size
    · have hdr := str_drop s k hlt
      have hnb := HBR.out k
      rw [hdr] at hSr hnb
      have hnb' : ¬ ((s[k].toNat : Int) = 10 ∨ (s[k].toNat : Int) = 13) := by
        intro h
        simp only [hasBrk, isBrk, Bool.or_eq_false_iff, beq_eq_false_iff_ne] at hnb
        omega
      have HNB := Lib.hid hnb'
      have hc0 : (0 : Int) ≤ (s[k].toNat : Int) := by omega
      have hc1 : (s[k].toNat : Int) ≤ 255 := by have := s[k].toNat_lt; omega
      clear hdr hnb hnb'
      go_wp2_with (go_at_call 16; refine (next_else wr L _ none _ _ hSr rfl HNB.out).mono ?_; rintro e w3 ⟨rfl, h3', fr3⟩; refine Hid.out ?_)
      refine Lib.hid ?_
      have FR := Lib.hid (FRR.out.new fr3 HOWN.out)
      obtain ⟨c0, c1, c2, _, _, _⟩ := h3'.facts
      rw [HLs.out] at c0
      have H3 := Lib.hid (show Sc w3 L ⟨s.data.toList.drop (k + 1), 1, ((k + 1 : Nat) : Int)⟩ none from h3')
      clear FRR fr3 hSr h3'
      go_wp2_with (go_at_call 12; refine (posIs_yes w3 src 1 ((k : Int) + 1)).mono ?_; rintro e w4 ⟨rfl, fr4⟩; refine Hid.out ?_)
      refine Lib.hid ?_
      go_wp2
      go_roundw
      case rel => exact ⟨k + 1, by omega, by go_num, H3.out.fr fr4, FR.out.trans fr4⟩
      case measure => simp [intOf]; omega
    · have hdr := str_drop_end s k hlt
      rw [hdr] at hSr
      clear hdr
      go_wp2_with (go_at_call 16; refine (next_eof wr L _ none hSr rfl).mono ?_; rintro e w3 ⟨rfl, h3', fr3⟩; refine Hid.out ?_)
      refine Lib.hid ?_
      have FR := Lib.hid (FRR.out.new fr3 HOWN.out)
      obtain ⟨c0, c1, c2, _, _, _⟩ := h3'.facts
      rw [HLs.out] at c0
      clear FRR fr3 hSr h3'
      go_wp2_with (go_at_call 12; refine (posIs_yes w3 src (-1) 0).mono ?_; rintro e w4 ⟨rfl, fr4⟩)
      go_ret
      exact ⟨rfl, FR.out.trans fr4⟩

theorem nc_walk (W : World) (a : Addr) (he : HasEof W a) (s src : ByteArray) :
    Calls Tryd.prog 5 #[.string s, .string src] W fun e w' => e = .returned (.bool true) ∧ Below W.heap.size W w' := by
  by_cases h : s.size ≤ 1048576 ∧ src.size ≤ 1048576 ∧ s.size + src.size ≤ 1048576
  · cases hb : hasBrk s.data.toList
    · exact (nc_yes W a s src he h.1 h.2.1 h.2.2 hb).mono fun _ _ ⟨h1, h2⟩ => ⟨h1, h2.below (Nat.le_refl _) (by simp)⟩
    · exact (nc_brk W s src h.1 h.2.1 h.2.2 hb).mono fun _ _ ⟨h1, h2⟩ => ⟨h1, h2 ▸ Below.refl _ _⟩
  · exact (nc_no W s src h).mono fun _ _ ⟨h1, h2⟩ => ⟨h1, h2 ▸ Below.refl _ _⟩
end Go.Proofs.YtbolfnpocmbbhaaDoor
