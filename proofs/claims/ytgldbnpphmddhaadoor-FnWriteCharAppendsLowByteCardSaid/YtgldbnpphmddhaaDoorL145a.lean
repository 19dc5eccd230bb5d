/- The law FnWriteCharAppendsLowByte, walked. -/
import Derived.Test.YtgldbnpphmddhaaDoorCl145
namespace Go.Proofs.YtgldbnpphmddhaaDoor
open Go.RowKit

set_option maxRecDepth 100000 in
set_option maxHeartbeats 1600000 in
theorem low_any (w : World) (c : Int) : Calls Tryd.prog 8 #[.int .i64 c] w fun e w' => e = .returned (.int .i64 (by8 c).toNat) ∧ w = w' := by
  have hb := by8_toNat c
  rw [hb]
  clear hb
  have hcase : (0 ≤ c.tmod 256 ∧ c.tmod 256 ≤ 255 ∧ c % 256 = c.tmod 256) ∨ (c.tmod 256 < 0 ∧ -256 < c.tmod 256 ∧ c % 256 = c.tmod 256 + 256) := by
    by_cases h : 0 ≤ c
    · left
      have h1 := Int.tmod_eq_emod_of_nonneg (b := 256) h
      omega
    · have h1 := Int.tmod_eq_emod_of_nonneg (a := -c) (b := 256) (by omega)
      have h2 : (-c).tmod 256 = -(c.tmod 256) := Int.neg_tmod c 256
      omega
  generalize hr : c.tmod 256 = r at hcase
  rcases hcase with ⟨h1, h2, h3⟩ | ⟨h1, h2, h3⟩
  · rw [h3]
    clear h3
    go_enter Tryd.func8, Tryd.ntmps8
    go_wp2
    go_ret
    exact ⟨rfl, rfl⟩
  · rw [h3]
    clear h3
    go_enter Tryd.func8, Tryd.ntmps8
    go_wp2
    go_ret
    exact ⟨rfl, rfl⟩

set_option maxRecDepth 100000 in
set_option maxHeartbeats 1600000 in
theorem al_no (w : World) (v : Value) (l : List UInt8) (c : Int) (h : Sl w v l) (hn : ¬ l.length ≤ 1048576) :
    Calls Tryd.prog 3 #[v, .int .i64 c] w fun e w' => e = .returned (.bool true) ∧ w' = w := by
  obtain ⟨a, c0, rfl, _⟩ := h
  have hf : (1048576 : Int) < (l.length : Int) := by omega
  clear hn
  go_enter Tryd.func3, Tryd.ntmps3
  go_wp2
  go_ret
  exact ⟨rfl, rfl⟩

set_option maxRecDepth 100000 in
set_option maxHeartbeats 6400000 in
theorem al_yes (w : World) (v : Value) (l : List UInt8) (c : Int) (h : Sl w v l) (hn : l.length ≤ 1048576) :
    Calls Tryd.prog 3 #[v, .int .i64 c] w fun e w' => e = .returned (.bool true) ∧ Below w.heap.size w w' := by
  have HSL := Lib.hid h
  obtain ⟨a, c0, rfl, hc0, _⟩ := h
  have HN := Lib.hid (show l.length ≤ 1099511627776 by omega)
  have HN2 := Lib.hid (show l.length + 1 ≤ 140737488355328 by omega)
  have hni : (l.length : Int) ≤ 1048576 := by omega
  have b1 : decide ((1048576 : Int) < (l.length : Int)) = false := by rw [decide_eq_false_iff_not]; omega
  clear hn
  go_enter Tryd.func3, Tryd.ntmps3
  go_wp2_with (first | (go_at_call 6; refine (clone_any _ _ l HSL.out HN.out).mono ?_; rintro e w1 ⟨v1, rfl, hb1, hl1⟩; refine Hid.out ?_) | go_in)
  refine Lib.hid ?_
  have HS1 := Lib.hid (Sl.of_bs hb1)
  have HB1 := Lib.hid hb1
  have HL1 := Lib.hid hl1
  clear hb1 hl1
  go_wp2_with (go_at_call 6; refine (clone_any _ v1 l HS1.out HN.out).mono ?_; rintro e w2 ⟨v2, rfl, hb2, hl2⟩; refine Hid.out ?_)
  refine Lib.hid ?_
  have HL2 := Lib.hid hl2
  have HB2 := Lib.hid hb2
  clear hl2 hb2
  go_wp2_with (go_at_call 7; refine (zwrite _ w1.heap.size v2 l c HB2.out HL2.out.size HN2.out).mono ?_; rintro e w3 ⟨v3, rfl, hb3, hl3⟩; refine Hid.out ?_)
  refine Lib.hid ?_
  have hl13 := HL2.out.trans hl3
  have hs13 := HS1.out.below hl13
  have HLL := Lib.hid (HL1.out.trans (hl13.mono HL1.out.size))
  have HB3 := Lib.hid hb3
  clear hl3 hl13
  rcases hb3.shape with ⟨_, h0⟩ | ⟨g3, cap3, rfl, hlc3, hcell3⟩
  · exact absurd h0 (by simp)
  have hlen3 : (l ++ [by8 c]).length = l.length + 1 := by simp
  have HC3 := Lib.hid hcell3
  have hlast : w3.cell? ⟨g3, l.length, none⟩ = some (.int .u8 (by8 c).toNat) := by
    rw [HC3.out l.length (by rw [hlen3]; omega)]; simp
  have hcap3 : (l.length : Int) + 1 ≤ (cap3 : Int) := by omega
  rw [hlen3] at *
  have hq0 : (l.length : Int) < (l.length : Int) + 1 := by omega
  have hq1 : l.length < l.length + 1 := by omega
  have hn0 : (0 : Int) ≤ (l.length : Int) := by omega
  have hx0 : (0 : Int) ≤ ((by8 c).toNat : Int) := by omega
  have hx1 : ((by8 c).toNat : Int) ≤ 255 := by have := (by8 c).toNat_lt; omega
  obtain ⟨a1, c1, rfl, hcap1, _, hcell1⟩ := hs13
  have HC1 := Lib.hid hcell1
  clear hb3 hcell3 hcell1 hlc3
  go_wp2
  go_loopg [7] l.length (fun g iv wr => ∃ k m : Nat, l.length - k ≤ g ∧ iv = .int .i64 k ∧ k ≤ l.length ∧ wr = w3.drewN m)
  case atStart => exact ⟨0, 0, by omega, rfl, by omega, rfl⟩
  case round =>
    obtain ⟨k, m, hg, rfl, hk, rfl⟩ := hrel
    have HG := Lib.hid hg
    have hki : (k : Int) ≤ (l.length : Int) := by omega
    clear hg
    by_cases hlt : k < l.length
    · have hlti : (k : Int) < (l.length : Int) := by omega
      have hlt3 : k < l.length + 1 := by omega
      have hlti3 : (k : Int) < (l.length : Int) + 1 := by omega
      obtain ⟨x, hx⟩ : ∃ x, x = l[k] := ⟨_, rfl⟩
      obtain ⟨ad, rfl, hbs, hcl⟩ := HC1.out (by omega)
      have c1 : w3.cell? (ad.add k) = some (.int .u8 x.toNat) := by rw [hx]; exact hcl k hlt
      have c3 : w3.cell? ⟨g3, k, none⟩ = some (.int .u8 x.toNat) := by
        rw [HC3.out k (by simp; omega), hx, List.getElem_append_left hlt]
      clear hx hcl
      go_wp2
      go_quiet (fail)
      go_wp2
      go_roundg (l.length - (k + 1))
      case measure => have := HG.out; omega
      case rel => exact ⟨k + 1, m + nq, Nat.le_refl _, by go_num, by omega, rfl⟩
    · obtain rfl : l.length = k := by omega
      have hwr : IntKind.i64.wrap ((by8 c).toNat : Int) = ((by8 c).toNat : Int) := IntWalk.i64_in _ (by omega)
      go_wp2
      go_quiet ((go_at_call 8; refine (low_any _ _).mono ?_; rintro e w' ⟨rfl, rfl⟩; exact ⟨rfl, _, rfl⟩))
      go_wp2
      go_ret
      exact ⟨rfl, HLL.out.trans ⟨rfl, rfl, rfl, Nat.le_refl _, fun _ _ => rfl⟩⟩

theorem a145_walk (w : World) (v : Value) (l : List UInt8) (c : Int) (h : Sl w v l) :
    Calls Tryd.prog 3 #[v, .int .i64 c] w fun e w' => e = .returned (.bool true) ∧ Below w.heap.size w w' := by
  by_cases hn : l.length ≤ 1048576
  · exact al_yes w v l c h hn
  · exact (al_no w v l c h hn).mono fun e w' ⟨h1, h2⟩ => ⟨h1, by rw [h2]; exact Below.refl _ _⟩
end Go.Proofs.YtgldbnpphmddhaaDoor
