/- The law FnReadNextAgreesWithPeek, walked. -/
import Derived.Test.YtbolfnpocmbbhaaDoorPosIs
namespace Go.Proofs.YtbolfnpocmbbhaaDoor
open Go.RowKit

set_option maxHeartbeats 1600000 in
theorem rp_no (w : World) (s src : ByteArray) (h : ¬ (s.size ≤ 1048576 ∧ src.size ≤ 1048576 ∧ s.size + src.size ≤ 1048576)) :
    Calls Tryd.prog 3 #[.string s, .string src] w
      fun e w' => e = .returned (.bool true) ∧ w' = w := by
  by_cases h1 : s.size ≤ 1048576
  · by_cases h2 : src.size ≤ 1048576
    · have h3 : (1048576 : Int) < (s.size : Int) + (src.size : Int) := by omega
      clear h
      go_enter Tryd.func3, Tryd.ntmps3
      go_wp2
      go_ret
      exact ⟨rfl, rfl⟩
    · have h3 : (1048576 : Int) < (src.size : Int) := by omega
      clear h
      go_enter Tryd.func3, Tryd.ntmps3
      go_wp2
      go_ret
      exact ⟨rfl, rfl⟩
  · have h3 : (1048576 : Int) < (s.size : Int) := by omega
    clear h
    go_enter Tryd.func3, Tryd.ntmps3
    go_wp2
    go_ret
    exact ⟨rfl, rfl⟩

set_option maxHeartbeats 3200000 in
theorem rp_yes (w : World) (a : Addr) (s src : ByteArray) (he : HasEof w a) (h1 : s.size ≤ 1048576) (h2 : src.size ≤ 1048576) (h3 : s.size + src.size ≤ 1048576) :
    Calls Tryd.prog 3 #[.string s, .string src] w
      fun e w' => e = .returned (.bool true) ∧ Fr [] w w' := by
  have h4 : (s.size : Int) + (src.size : Int) ≤ 1048576 := by omega
  have b1 : decide ((1048576 : Int) < (s.size : Int)) = false := by rw [decide_eq_false_iff_not]; omega
  have b2 : decide ((1048576 : Int) < (src.size : Int)) = false := by rw [decide_eq_false_iff_not]; omega
  have b3 : decide ((1048576 : Int) < (s.size : Int) + (src.size : Int)) = false := by rw [decide_eq_false_iff_not]; omega
  go_enter Tryd.func3, Tryd.ntmps3
  go_wp2_with (first | (go_at_call 9; refine (newReader _ s (by omega)).mono ?_; rintro e w1 ⟨rfl, hU, hz, fr⟩; refine Hid.out ?_) | go_in)
  refine Lib.hid ?_
  have he1 := he.fr fr (by simp)
  have hg0 := he.2
  have hne : w.heap.size ≠ 0 := by omega
  go_wp2_with (go_at_call 8; refine (newScanner w1 _ a src _ hU he1 hne).mono ?_; rintro e w2 hN; obtain ⟨L, hLU, hLa, hLs, hS, hR, hD, rfl, hSc, fr2⟩ := hN; refine Hid.out ?_)
  refine Lib.hid ?_
  clear he he1 hU
  have HOWN := Lib.hid (show ∀ k ∈ L.own, w.heap.size ≤ k from Loc.own_new (by omega) (by omega) (by omega) (by omega))
  have FR0 := Lib.hid (fr.trans fr2)
  have HLs := Lib.hid hLs
  clear fr fr2 hLU hLa hLs hS hR hD hg0 hne hz
  go_wp2
  go_loopw [6] (fun i wr => ∃ (k : Nat) (lb : Option UInt8), k ≤ s.size ∧ i = .int .i64 k ∧ Sc wr L ⟨s.data.toList.drop k, 1, 0⟩ lb ∧ Fr L.own w2 wr) (fun i _ => s.size - (intOf i).toNat)
  case atStart => exact ⟨0, none, Nat.zero_le _, rfl, hSc, Fr.refl _ _⟩
  case round =>
    obtain ⟨k, lb, hk, rfl, hSr, frr⟩ := hrel
    have FRR := Lib.hid frr
    clear frr hSc
    by_cases hlt : k < s.size
    · have hdr := str_drop s k hlt
      rw [hdr] at hSr
      have hc0 : (0 : Int) ≤ (s[k].toNat : Int) := by omega
      have hc1 : (s[k].toNat : Int) ≤ 255 := by have := s[k].toNat_lt; omega
      clear hdr
      go_wp2_with (go_at_call 10; refine (peek_cons wr L _ lb _ _ hSr rfl).mono ?_; rintro e w3 ⟨rfl, h3', fr3⟩; refine Hid.out ?_)
      refine Lib.hid ?_
      go_wp2_with (go_at_call 10; refine (peek_cons w3 L _ _ _ _ h3' rfl).mono ?_; rintro e w4 ⟨rfl, h4', fr4⟩; refine Hid.out ?_)
      refine Lib.hid ?_
      go_wp2_with (go_at_call 11; refine (zreadNext_cons w4 L _ _ _ _ h4' rfl).mono ?_; rintro e w5 ⟨rfl, h5', fr5⟩; refine Hid.out ?_)
      refine Lib.hid ?_
      have FR := Lib.hid (((FRR.out.trans fr3).trans fr4).trans fr5)
      clear FRR fr3 fr4 fr5 h3' h4' hSr
      go_wp2
      go_roundw
      case rel => exact ⟨k + 1, _, by omega, by go_num, h5', FR.out⟩
      case measure => simp [intOf]; omega
    · have hdr := str_drop_end s k hlt
      rw [hdr] at hSr
      clear hdr
      go_wp2_with (go_at_call 10; refine (peek_nil wr L _ lb hSr rfl).mono ?_; rintro e w3 ⟨rfl, h3', fr3⟩; refine Hid.out ?_)
      refine Lib.hid ?_
      go_wp2_with (go_at_call 11; refine (zreadNext_nil w3 L _ _ h3' rfl).mono ?_; rintro e w4 ⟨rfl, h4', fr4⟩; refine Hid.out ?_)
      refine Lib.hid ?_
      go_wp2_with (go_at_call 10; refine (peek_nil w4 L _ _ h4' rfl).mono ?_; rintro e w5 ⟨rfl, h5', fr5⟩; refine Hid.out ?_)
      refine Lib.hid ?_
      have FR := Lib.hid (((FRR.out.trans fr3).trans fr4).trans fr5)
      clear FRR fr3 fr4 fr5 h3' h4' hSr
      obtain ⟨c0, c1, c2, _, _, _⟩ := h5'.facts
      rw [HLs.out] at c0
      go_wp2_with (go_at_call 12; refine (posIs_yes w5 src 1 0).mono ?_; rintro e w6 ⟨rfl, fr6⟩)
      go_ret
      exact ⟨rfl, (FR0.out.new FR.out HOWN.out).trans fr6⟩

theorem rp_walk (W : World) (a : Addr) (he : HasEof W a) (s src : ByteArray) :
    Calls Tryd.prog 3 #[.string s, .string src] W fun e w' => e = .returned (.bool true) ∧ Below W.heap.size W w' := by
  by_cases h : s.size ≤ 1048576 ∧ src.size ≤ 1048576 ∧ s.size + src.size ≤ 1048576
  · exact (rp_yes W a s src he h.1 h.2.1 h.2.2).mono fun _ _ ⟨h1, h2⟩ => ⟨h1, h2.below (Nat.le_refl _) (by simp)⟩
  · exact (rp_no W s src h).mono fun _ _ ⟨h1, h2⟩ => ⟨h1, h2 ▸ Below.refl _ _⟩
end Go.Proofs.YtbolfnpocmbbhaaDoor
