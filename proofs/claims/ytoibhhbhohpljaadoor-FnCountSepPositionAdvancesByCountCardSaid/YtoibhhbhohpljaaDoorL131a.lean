/- The law FnCountSepPositionAdvancesByCount, walked. -/
import Derived.Test.YtoibhhbhohpljaaDoorZ131
import Derived.Deep.LoopGhost
namespace Go.Proofs.YtoibhhbhohpljaaDoor
open Go.RowKit

set_option maxRecDepth 100000 in
set_option maxHeartbeats 1600000 in
theorem cs_no (w : World) (s : ByteArray) (h : ¬ (s.size ≤ 1048576 ∧ s.size ≤ 65536)) :
    Calls Tryd.prog 3 #[.string s] w fun e w' => e = .returned (.bool true) ∧ w' = w := by
  by_cases h0 : s.size ≤ 1048576
  case neg =>
    have hf : (1048576 : Int) < (s.size : Int) := by omega
    clear h h0
    go_enter Tryd.func3, Tryd.ntmps3
    go_wp2
    go_ret
    exact ⟨rfl, rfl⟩
  by_cases h1 : s.size ≤ 65536
  case neg =>
    have hf : (65536 : Int) < (s.size : Int) := by omega
    clear h h1
    go_enter Tryd.func3, Tryd.ntmps3
    go_wp2
    go_ret
    exact ⟨rfl, rfl⟩
  exact absurd ⟨h0, h1⟩ h

set_option maxRecDepth 100000 in
set_option maxHeartbeats 4000000 in
theorem cs_yes (w : World) (a : Addr) (s : ByteArray) (he : HasEof w a) (h : s.size ≤ 1048576 ∧ s.size ≤ 65536) :
    Calls Tryd.prog 3 #[.string s] w fun e w' => e = .returned (.bool true) ∧ Fr [] w w' := by
  obtain ⟨h1, h2⟩ := h
  have b1 : decide ((1048576 : Int) < (s.size : Int)) = false := by rw [decide_eq_false_iff_not]; omega
  have b2 : decide ((65536 : Int) < (s.size : Int)) = false := by rw [decide_eq_false_iff_not]; omega
  have HS := Lib.hid (show s.size ≤ 1099511627776 by omega)
  have hlen : s.data.toList.length = s.size := by rw [Array.length_toList]; rfl
  have HL := Lib.hid (show (⟨s.data.toList, 1, 0⟩ : St).rest.length ≤ 1099511627776 by show s.data.toList.length ≤ _; omega)
  have hp := sep_pos s.data.toList
  have hz := fun (wz : World) (L : Loc) (hS : Sc wz L ⟨s.data.toList, 1, 0⟩ none) => zsep wz L _ 61 hS HL.out
  generalize sepL 61 ⟨s.data.toList, 1, 0⟩ = r at hp hz
  obtain ⟨n, c, st⟩ := r
  obtain ⟨rest, line, col⟩ := st
  obtain ⟨p1, p2, p3, p4⟩ := hp
  simp only at p1 p2 p3 p4 hz
  have hn1 : (1 : Int) ≤ (n : Int) := by omega
  clear hlen p1
  have main : (c = -1 ∧ line = -1 ∧ col = 0) ∨ ((c == -1) = false ∧ c = 10 ∧ line = 2 ∧ col = 0) ∨ ((c == -1) = false ∧ (c == 10) = false ∧ line = 1 ∧ col = n) := by
    by_cases g1 : c = -1
    · exact Or.inl ⟨g1, p2 g1⟩
    · have g1' : (c == -1) = false := by rw [beq_eq_false_iff_ne]; exact g1
      by_cases g2 : c = 10
      · exact Or.inr (Or.inl ⟨g1', g2, p3 g2⟩)
      · exact Or.inr (Or.inr ⟨g1', by rw [beq_eq_false_iff_ne]; exact g2, p4 g1 g2⟩)
  clear p2 p3 p4
  rcases main with ⟨rfl, rfl, rfl⟩ | ⟨e1, rfl, rfl, rfl⟩ | ⟨e1, e2, rfl, rfl⟩
  all_goals
    go_enter Tryd.func3, Tryd.ntmps3
    go_wp2_with (first | (go_at_call 9; refine (znew _ a _ he HS.out).mono ?_; rintro e w1 hN; obtain ⟨L, hLs, hown, rfl, hSc, fr⟩ := hN; refine Hid.out ?_) | go_in)
    refine Lib.hid ?_
    have HOWN := Lib.hid hown
    have FR0 := Lib.hid fr
    clear he hLs hown fr
    go_wp2_with (go_at_call 10; refine (hz w1 L hSc).mono ?_; rintro e w2 ⟨rfl, hS2, fr2⟩; refine Hid.out ?_)
    refine Lib.hid ?_
    obtain ⟨_, c1, c2, _, _, _⟩ := hS2.facts
    have FR := Lib.hid (Fr.new FR0.out fr2 HOWN.out)
    clear hSc hS2 fr2 hz
    go_wp2
    go_ret
    exact ⟨rfl, FR.out⟩

theorem cs_walk (W : World) (a : Addr) (he : HasEof W a) (s : ByteArray) :
    Calls Tryd.prog 3 #[.string s] W fun e w' => e = .returned (.bool true) ∧ Below W.heap.size W w' := by
  by_cases h : s.size ≤ 1048576 ∧ s.size ≤ 65536
  · exact (cs_yes W a s he h).mono fun _ _ ⟨h1, h2⟩ => ⟨h1, h2.below (Nat.le_refl _) (by simp)⟩
  · exact (cs_no W s h).mono fun _ _ ⟨h1, h2⟩ => ⟨h1, h2 ▸ Below.refl _ _⟩
end Go.Proofs.YtoibhhbhohpljaaDoor
