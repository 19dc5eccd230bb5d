/- The law FnWriteCharScriptSpellsBytes, walked. -/
import Derived.Test.YtgldbnpphmddhaaDoorCl145
namespace Go.Proofs.YtgldbnpphmddhaaDoor
open Go.RowKit

theorem and_255 (x : Int) : bits BinOp.and IntKind.i64 x 255 = ((by8 x).toNat : Int) := by
  have e : bits BinOp.and IntKind.i64 x 255 = IntKind.i64.wrap ((BitVec.ofInt 64 x &&& BitVec.ofInt 64 255).toNat : Int) := by
    rfl
  have h2 : (BitVec.ofInt 64 255).toNat = 255 := by decide
  have h3 : (255 : Nat) = 2 ^ 8 - 1 := by decide
  rw [e, BitVec.toNat_and, h2, h3, Nat.and_two_pow_sub_one_eq_mod, BitVec.toNat_ofInt, by8_toNat]
  have h4 : IntKind.i64.wrap (((x % ((2 ^ 64 : Nat) : Int)).toNat % 2 ^ 8 : Nat) : Int) = (((x % ((2 ^ 64 : Nat) : Int)).toNat % 2 ^ 8 : Nat) : Int) := IntWalk.i64_in _ (by omega)
  rw [h4]
  omega

set_option maxRecDepth 100000 in
set_option maxHeartbeats 1600000 in
theorem bl_no (w : World) (v : Value) (l : List Int) (h : Si w v l) (hn : ¬ l.length ≤ 131072) :
    Calls Tryd.prog 4 #[v] w fun e w' => e = .returned (.bool true) ∧ w' = w := by
  obtain ⟨a, c0, rfl, _⟩ := h
  have hf : (131072 : Int) < (l.length : Int) := by omega
  clear hn
  by_cases hg : (1048576 : Int) < (l.length : Int)
  all_goals
    go_enter Tryd.func4, Tryd.ntmps4
    go_wp2
    go_ret
    exact ⟨rfl, rfl⟩

set_option maxRecDepth 100000 in
set_option maxHeartbeats 6400000 in
theorem bl_yes (w : World) (v : Value) (l : List Int) (h : Si w v l) (hn : l.length ≤ 131072) :
    Calls Tryd.prog 4 #[v] w fun e w' => e = .returned (.bool true) ∧ Below w.heap.size w w' := by
  obtain ⟨a, c0, rfl, hc0, hcs⟩ := h
  have HCS := Lib.hid hcs
  have HN := Lib.hid hn
  have hni : (l.length : Int) ≤ 131072 := by omega
  have hnj : (l.length : Int) ≤ 1048576 := by omega
  have b1 : decide ((131072 : Int) < (l.length : Int)) = false := by rw [decide_eq_false_iff_not]; omega
  have b2 : decide ((1048576 : Int) < (l.length : Int)) = false := by rw [decide_eq_false_iff_not]; omega
  clear hn hcs
  go_enter Tryd.func4, Tryd.ntmps4
  go_wp2
  have hb0 : Bs (w.alloc (.cells #[] 5)) w.heap.size (.slice (some ⟨w.heap.size, 0, none⟩) 0 0) [] :=
    ⟨rfl, Or.inr ⟨w.heap.size, 0, #[], rfl, Nat.le_refl _, heap_alloc_new w _, Nat.le_refl _, by decide, rfl, rfl⟩⟩
  have hl0 : Below w.heap.size w (w.alloc (.cells #[] 5)) := (Below.refl _ _).alloc (Nat.le_refl _) _
  have H0 := Lib.hid (And.intro hb0 hl0)
  clear hb0 hl0
  go_loopg [3, 4] l.length (fun g av iv wr => ∃ k : Nat, l.length - k ≤ g ∧ iv = .int .i64 k ∧ k ≤ l.length ∧ Bs wr w.heap.size av ((l.take k).map by8) ∧ Below w.heap.size w wr)
  case atStart => exact ⟨0, by omega, rfl, by omega, H0.out.1, H0.out.2⟩
  case round =>
    clear H0
    obtain ⟨k, hg, rfl, hk, hbk, hbl⟩ := hrel
    have HG := Lib.hid hg
    have hki : (k : Int) ≤ (l.length : Int) := by omega
    clear hg
    by_cases hlt : k < l.length
    · have hlti : (k : Int) < (l.length : Int) := by omega
      obtain ⟨x, hx⟩ : ∃ x, x = l[k] := ⟨_, rfl⟩
      obtain ⟨ad, rfl, hbs, hcl⟩ := HCS.out (by omega)
      have c1 : wr.cell? (ad.add k) = some (.int .i64 x) := by rw [hx]; exact (hbl.cell (p := ad.add k) (by rw [block_add']; exact hbs)).trans (hcl k hlt)
      have hs : (l.take k).map by8 ++ [by8 x] = (l.take (k + 1)).map by8 := by
        rw [List.take_succ_eq_append_getElem hlt, hx, List.map_append]; rfl
      have HS := Lib.hid hs
      have HBK := Lib.hid hbk
      have HBL := Lib.hid hbl
      have HLEN := Lib.hid (show ((l.take k).map by8).length + 1 ≤ 140737488355328 by
        have := HN.out
        rw [List.length_map, List.length_take]; omega)
      clear hx hcl hs hbk hbl
      go_wp2_with (go_at_call 7; refine (zwrite _ w.heap.size _ _ x HBK.out HBL.out.size HLEN.out).mono ?_; rintro e w3 ⟨v3, rfl, hb3, hl3⟩; refine Hid.out ?_)
      refine Lib.hid ?_
      rw [HS.out] at hb3
      have HB3 := Lib.hid hb3
      have HL3 := Lib.hid (HBL.out.trans hl3)
      clear hb3 hl3
      go_wp2
      go_roundg (l.length - (k + 1))
      case measure => have := HG.out; omega
      case rel => exact ⟨k + 1, Nat.le_refl _, by go_num, by omega, HB3.out, HL3.out⟩
    · obtain rfl : l.length = k := by omega
      have hlen : ((l.take l.length).map by8).length = l.length := by simp
      obtain ⟨a3, c3, rfl, hc3, _, hcl3⟩ := Sl.of_bs hbk
      have HC3 := Lib.hid hcl3
      rw [hlen] at hc3 ⊢
      have HBL := Lib.hid hbl
      clear hbl hcl3 hbk
      go_wp2
      go_loopg [5] l.length (fun g iv w4 => ∃ k m : Nat, l.length - k ≤ g ∧ iv = .int .i64 k ∧ k ≤ l.length ∧ w4 = wr.drewN m)
      case atStart => exact ⟨0, 0, by omega, rfl, by omega, rfl⟩
      case round =>
        obtain ⟨k, m, hg, rfl, hk, rfl⟩ := hrel
        have HG := Lib.hid hg
        have hki : (k : Int) ≤ (l.length : Int) := by omega
        clear hg
        by_cases hlt : k < l.length
        · have hlti : (k : Int) < (l.length : Int) := by omega
          obtain ⟨x, hx⟩ : ∃ x, x = l[k] := ⟨_, rfl⟩
          obtain ⟨ad, rfl, hbs, hcl⟩ := HCS.out (by omega)
          obtain ⟨ad3, rfl, hbs3, hcl3⟩ := HC3.out (by rw [hlen]; omega)
          have c1 : wr.cell? (ad.add k) = some (.int .i64 x) := by rw [hx]; exact (HBL.out.cell (p := ad.add k) (by rw [block_add']; exact hbs)).trans (hcl k hlt)
          have c3 : wr.cell? (ad3.add k) = some (.int .u8 (by8 x).toNat) := by
            rw [hcl3 k (by rw [hlen]; exact hlt), hx]; simp
          have hwr : IntKind.i64.wrap ((by8 x).toNat : Int) = ((by8 x).toNat : Int) := IntWalk.i64_in _ (by have := (by8 x).toNat_lt; omega)
          have hand := and_255 x
          clear hx hcl hcl3
          go_wp2
          go_quiet (fail)
          go_wp2
          go_roundg (l.length - (k + 1))
          case measure => have := HG.out; omega
          case rel => exact ⟨k + 1, m + nq, Nat.le_refl _, by go_num, by omega, rfl⟩
        · obtain rfl : l.length = k := by omega
          go_wp2
          go_ret
          exact ⟨rfl, HBL.out.trans ⟨rfl, rfl, rfl, Nat.le_refl _, fun _ _ => rfl⟩⟩

theorem b145_walk (w : World) (v : Value) (l : List Int) (h : Si w v l) :
    Calls Tryd.prog 4 #[v] w fun e w' => e = .returned (.bool true) ∧ Below w.heap.size w w' := by
  by_cases hn : l.length ≤ 131072
  · exact bl_yes w v l h hn
  · exact (bl_no w v l h hn).mono fun e w' ⟨h1, h2⟩ => ⟨h1, by rw [h2]; exact Below.refl _ _⟩
end Go.Proofs.YtgldbnpphmddhaaDoor
