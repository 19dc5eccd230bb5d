/- The law FnReadNextYieldsBytesThenEOF, walked. -/
import Derived.Test.YtbolfnpocmbbhaaDoorPosIs
namespace Go.Proofs.YtbolfnpocmbbhaaDoor
open Go.RowKit

set_option maxHeartbeats 1600000 in
theorem ry_no (w : World) (s src : ByteArray) (h : ¬ (s.size ≤ 1048576 ∧ src.size ≤ 1048576 ∧ s.size + src.size ≤ 1048576)) :
    Calls Tryd.prog 4 #[.string s, .string src] w
      fun e w' => e = .returned (.bool true) ∧ w' = w := by
  by_cases h1 : s.size ≤ 1048576
  · by_cases h2 : src.size ≤ 1048576
    · have h3 : (1048576 : Int) < (s.size : Int) + (src.size : Int) := by omega
      clear h
      go_enter Tryd.func4, Tryd.ntmps4
      go_wp2
      go_ret
      exact ⟨rfl, rfl⟩
    · have h3 : (1048576 : Int) < (src.size : Int) := by omega
      clear h
      go_enter Tryd.func4, Tryd.ntmps4
      go_wp2
      go_ret
      exact ⟨rfl, rfl⟩
  · have h3 : (1048576 : Int) < (s.size : Int) := by omega
    clear h
    go_enter Tryd.func4, Tryd.ntmps4
    go_wp2
    go_ret
    exact ⟨rfl, rfl⟩

set_option maxHeartbeats 1600000 in
theorem ry_yes (w : World) (a : Addr) (s src : ByteArray) (he : HasEof w a) (h1 : s.size ≤ 1048576) (h2 : src.size ≤ 1048576) (h3 : s.size + src.size ≤ 1048576) :
    Calls Tryd.prog 4 #[.string s, .string src] w
      fun e w' => e = .returned (.bool true) ∧ Fr [] w w' := by
  have h4 : (s.size : Int) + (src.size : Int) ≤ 1048576 := by omega
  have b1 : decide ((1048576 : Int) < (s.size : Int)) = false := by rw [decide_eq_false_iff_not]; omega
  have b2 : decide ((1048576 : Int) < (src.size : Int)) = false := by rw [decide_eq_false_iff_not]; omega
  have b3 : decide ((1048576 : Int) < (s.size : Int) + (src.size : Int)) = false := by rw [decide_eq_false_iff_not]; omega
  go_enter Tryd.func4, Tryd.ntmps4
  go_wp2_with (first | (go_at_call 9; refine (newReader _ s (by omega)).mono ?_; rintro e w1 ⟨rfl, hU, hz, fr⟩; refine Hid.out ?_) | go_in)
  refine Lib.hid ?_
  have he1 := he.fr fr (by simp)
  have hg0 := he.2
  have hne : w.heap.size ≠ 0 := by omega
  go_wp2_with (go_at_call 8; refine (newScanner w1 _ a src _ hU he1 hne).mono ?_; rintro e w2 hN; obtain ⟨L, hLU, hLa, hLs, hS, hR, hD, rfl, hSc, fr2⟩ := hN; refine Hid.out ?_)
  refine Lib.hid ?_
  clear he he1 hU
  have hown : ∀ k ∈ L.own, w.heap.size ≤ k := Loc.own_new (by omega) (by omega) (by omega) (by omega)
  have fr0 := fr.trans fr2
  clear fr fr2 hLU hLa hS hR hD hg0 hne hz
  go_wp2
  go_loopw [6] (fun i wr => ∃ (k : Nat) (lb : Option UInt8), k ≤ s.size ∧ i = .int .i64 k ∧ Sc wr L ⟨s.data.toList.drop k, 1, 0⟩ lb ∧ Fr L.own w2 wr) (fun i _ => s.size - (intOf i).toNat)
  case atStart => exact ⟨0, none, Nat.zero_le _, rfl, hSc, Fr.refl _ _⟩
  case round =>
    obtain ⟨k, lb, hk, rfl, hSr, frr⟩ := hrel
    have HOWN := Lib.hid hown
    have FR0 := Lib.hid fr0
    have FRR := Lib.hid frr
    have HLs := Lib.hid hLs
    clear hown fr0 frr hLs hSc
    by_cases hlt : k < s.size
    · have hdr := str_drop s k hlt
      rw [hdr] at hSr
      have hc0 : (0 : Int) ≤ (s[k].toNat : Int) := by omega
      have hc1 : (s[k].toNat : Int) ≤ 255 := by have := s[k].toNat_lt; omega
      clear hdr
      go_wp2_with (go_at_call 11; refine (zreadNext_cons wr L _ lb _ _ hSr rfl).mono ?_; rintro e w3 ⟨rfl, h3, fr3⟩; refine Hid.out ?_)
      refine Lib.hid ?_
      go_wp2
      go_roundw
      case rel => exact ⟨k + 1, _, by omega, by go_num, h3, FRR.out.trans fr3⟩
      case measure => simp [intOf]; omega
    · have hdr := str_drop_end s k hlt
      rw [hdr] at hSr
      clear hdr
      obtain ⟨wo, rfl⟩ : ∃ wo : World, wo = wr := ⟨_, rfl⟩
      go_wp2
      go_loopw [8] (fun i wr => ∃ (j : Nat) (lb : Option UInt8), j ≤ 3 ∧ i = .int .i64 j ∧ Sc wr L ⟨[], 1, 0⟩ lb ∧ Fr L.own w2 wr) (fun i _ => 3 - (intOf i).toNat)
      case atStart => exact ⟨0, lb, by omega, rfl, hSr, FRR.out⟩
      case round =>
        clear hSr FRR
        obtain ⟨j, lb', hj, rfl, hSr, frr⟩ := hrel
        have FRR := Lib.hid frr
        clear frr
        by_cases hj3 : j < 3
        · go_wp2_with (go_at_call 11; refine (zreadNext_nil wr L _ lb' hSr rfl).mono ?_; rintro e w3 ⟨rfl, h3, fr3⟩; refine Hid.out ?_)
          refine Lib.hid ?_
          go_wp2
          go_roundw
          case rel => exact ⟨j + 1, _, by omega, by go_num, h3, FRR.out.trans fr3⟩
          case measure => simp [intOf]; omega
        · obtain ⟨c0, c1, c2, _, _, _⟩ := hSr.facts
          rw [HLs.out] at c0
          go_wp2_with (go_at_call 12; refine (posIs_yes wr src 1 0).mono ?_; rintro e w4 ⟨rfl, fr4⟩)
          go_ret
          exact ⟨rfl, (FR0.out.new FRR.out HOWN.out).trans fr4⟩

theorem ry_walk (W : World) (a : Addr) (he : HasEof W a) (s src : ByteArray) :
    Calls Tryd.prog 4 #[.string s, .string src] W fun e w' => e = .returned (.bool true) ∧ Below W.heap.size W w' := by
  by_cases h : s.size ≤ 1048576 ∧ src.size ≤ 1048576 ∧ s.size + src.size ≤ 1048576
  · exact (ry_yes W a s src he h.1 h.2.1 h.2.2).mono fun _ _ ⟨h1, h2⟩ => ⟨h1, h2.below (Nat.le_refl _) (by simp)⟩
  · exact (ry_no W s src h).mono fun _ _ ⟨h1, h2⟩ => ⟨h1, h2 ▸ Below.refl _ _⟩
end Go.Proofs.YtbolfnpocmbbhaaDoor
