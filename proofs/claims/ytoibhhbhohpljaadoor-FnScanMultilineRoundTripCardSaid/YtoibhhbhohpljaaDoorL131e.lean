/- The law FnScanMultilineRoundTrip, walked. -/
import Derived.Test.YtoibhhbhohpljaaDoorZ131
import Derived.Test.YtoibhhbhohpljaaDoorP131e
import Derived.Test.YtoibhhbhohpljaaDoorBs2
import Derived.Deep.LoopGhost
import Derived.IntWalk
namespace Go.Proofs.YtoibhhbhohpljaaDoor
open Go.RowKit

set_option maxRecDepth 100000 in
set_option maxHeartbeats 1600000 in
theorem rt_n1 (w : World) (d t : ByteArray) (q : Int) (h : (1048576 : Int) < (d.size : Int)) :
    Calls Tryd.prog 7 #[.string d, .int .i64 q, .string t] w fun e w' => e = .returned (.bool true) ∧ w' = w := by
  go_enter Tryd.func7, Tryd.ntmps7
  go_wp2
  go_ret
  exact ⟨rfl, rfl⟩
set_option maxRecDepth 100000 in
set_option maxHeartbeats 1600000 in
theorem rt_n2 (w : World) (d t : ByteArray) (q : Int) (h0 : (d.size : Int) ≤ 1048576) (h : (1048576 : Int) < (t.size : Int)) :
    Calls Tryd.prog 7 #[.string d, .int .i64 q, .string t] w fun e w' => e = .returned (.bool true) ∧ w' = w := by
  go_enter Tryd.func7, Tryd.ntmps7
  go_wp2
  go_ret
  exact ⟨rfl, rfl⟩
set_option maxRecDepth 100000 in
set_option maxHeartbeats 1600000 in
theorem rt_n3 (w : World) (d t : ByteArray) (q : Int) (h0 : (d.size : Int) ≤ 1048576) (h1 : (t.size : Int) ≤ 1048576) (h : (1048576 : Int) < (d.size : Int) + (t.size : Int)) :
    Calls Tryd.prog 7 #[.string d, .int .i64 q, .string t] w fun e w' => e = .returned (.bool true) ∧ w' = w := by
  go_enter Tryd.func7, Tryd.ntmps7
  go_wp2
  go_ret
  exact ⟨rfl, rfl⟩
set_option maxRecDepth 100000 in
set_option maxHeartbeats 1600000 in
theorem rt_n4 (w : World) (d t : ByteArray) (q : Int) (h0 : (d.size : Int) ≤ 1048576) (h1 : (t.size : Int) ≤ 1048576) (h2 : (d.size : Int) + (t.size : Int) ≤ 1048576) (h : (65536 : Int) < (d.size : Int)) :
    Calls Tryd.prog 7 #[.string d, .int .i64 q, .string t] w fun e w' => e = .returned (.bool true) ∧ w' = w := by
  go_enter Tryd.func7, Tryd.ntmps7
  go_wp2
  go_ret
  exact ⟨rfl, rfl⟩
set_option maxRecDepth 100000 in
set_option maxHeartbeats 1600000 in
theorem rt_n5 (w : World) (d t : ByteArray) (q : Int) (h0 : (d.size : Int) ≤ 65536) (h1 : (t.size : Int) ≤ 1048576) (h2 : (d.size : Int) + (t.size : Int) ≤ 1048576) (h : (65536 : Int) < (t.size : Int)) :
    Calls Tryd.prog 7 #[.string d, .int .i64 q, .string t] w fun e w' => e = .returned (.bool true) ∧ w' = w := by
  have d65536 : decide ((65536 : Int) < (d.size : Int)) = false := by rw [decide_eq_false_iff_not]; omega
  go_enter Tryd.func7, Tryd.ntmps7
  go_wp2
  go_ret
  exact ⟨rfl, rfl⟩
set_option maxRecDepth 100000 in
set_option maxHeartbeats 1600000 in
theorem rt_n6 (w : World) (d t : ByteArray) (q : Int) (h0 : (d.size : Int) ≤ 65536) (h1 : (t.size : Int) ≤ 65536) (h : q < 0) :
    Calls Tryd.prog 7 #[.string d, .int .i64 q, .string t] w fun e w' => e = .returned (.bool true) ∧ w' = w := by
  have d65536 : decide ((65536 : Int) < (d.size : Int)) = false := by rw [decide_eq_false_iff_not]; omega
  have t65536 : decide ((65536 : Int) < (t.size : Int)) = false := by rw [decide_eq_false_iff_not]; omega
  go_enter Tryd.func7, Tryd.ntmps7
  go_wp2
  go_ret
  exact ⟨rfl, rfl⟩
set_option maxRecDepth 100000 in
set_option maxHeartbeats 1600000 in
theorem rt_n7 (w : World) (d t : ByteArray) (q : Int) (h0 : (d.size : Int) ≤ 65536) (h1 : (t.size : Int) ≤ 65536) (h : 65536 < q) :
    Calls Tryd.prog 7 #[.string d, .int .i64 q, .string t] w fun e w' => e = .returned (.bool true) ∧ w' = w := by
  have d65536 : decide ((65536 : Int) < (d.size : Int)) = false := by rw [decide_eq_false_iff_not]; omega
  have t65536 : decide ((65536 : Int) < (t.size : Int)) = false := by rw [decide_eq_false_iff_not]; omega
  have q0 : decide (q < 0) = false := by rw [decide_eq_false_iff_not]; omega
  go_enter Tryd.func7, Tryd.ntmps7
  go_wp2
  go_ret
  exact ⟨rfl, rfl⟩
theorem rt_no (w : World) (d t : ByteArray) (q : Int) (h : ¬ (d.size ≤ 65536 ∧ t.size ≤ 65536 ∧ 0 ≤ q ∧ q ≤ 65536)) :
    Calls Tryd.prog 7 #[.string d, .int .i64 q, .string t] w fun e w' => e = .returned (.bool true) ∧ w' = w := by
  by_cases g1 : (d.size : Int) ≤ 1048576
  · by_cases g2 : (t.size : Int) ≤ 1048576
    · by_cases g3 : (d.size : Int) + (t.size : Int) ≤ 1048576
      · by_cases g4 : (d.size : Int) ≤ 65536
        · by_cases g5 : (t.size : Int) ≤ 65536
          · by_cases g6 : q < 0
            · exact rt_n6 w d t q g4 g5 g6
            · by_cases g7 : 65536 < q
              · exact rt_n7 w d t q g4 g5 g7
              · exact absurd ⟨by omega, by omega, by omega, by omega⟩ h
          · exact rt_n5 w d t q g4 g2 g3 (by omega)
        · exact rt_n4 w d t q g1 g2 g3 (by omega)
      · exact rt_n3 w d t q g1 g2 (by omega)
    · exact rt_n2 w d t q g1 (by omega)
  · exact rt_n1 w d t q (by omega)
theorem strEq (w : World) (s : ByteArray) (l : List UInt8) (h : s.data.toList = l) : (⟨l.toArray⟩ : ByteArray) = s := by
  subst h; simp
theorem long_rest (c : Int) (st : St) : (long c st).2.2.rest.length ≤ st.rest.length := by
  have h8 := sepL_rest c st
  unfold long
  split
  · have h7 := (longL_rest (sepL c st).1 (longB (sepL c st).2.2).1 (longB (sepL c st).2.2).2 []).1
    have h9 : (longB (sepL c st).2.2).2.rest.length ≤ (sepL c st).2.2.rest.length := by
      have g1 := rest_next_le (sepL c st).2.2
      have g2 := rest_next_le (sepL c st).2.2.nextS
      unfold longB; split <;> simp only <;> omega
    omega
  · exact h8
theorem nil_lim : Hid (([] : List UInt8).length + 1 ≤ 140737488355328) := by show _ ≤ _; decide
set_option maxRecDepth 100000 in
set_option maxHeartbeats 16000000 in
theorem rt_yes (w : World) (a : Addr) (d t : ByteArray) (k : Nat) (he : HasEof w a) (h1 : d.size ≤ 65536) (h2 : t.size ≤ 65536) (h3 : k ≤ 65536) :
    Calls Tryd.prog 7 #[.string d, .int .i64 k, .string t] w fun e w' => e = .returned (.bool true) ∧ Fr [] w w' := by
  have h1i : (d.size : Int) ≤ 65536 := by omega
  have h2i : (t.size : Int) ≤ 65536 := by omega
  have h3i : (k : Int) ≤ 65536 := by omega
  have q0 : decide ((k : Int) < 0) = false := by rw [decide_eq_false_iff_not]; omega
  have q1 : decide ((65536 : Int) < (k : Int)) = false := by rw [decide_eq_false_iff_not]; omega
  have d65536 : decide ((65536 : Int) < (d.size : Int)) = false := by rw [decide_eq_false_iff_not]; omega
  have t65536 : decide ((65536 : Int) < (t.size : Int)) = false := by rw [decide_eq_false_iff_not]; omega
  have hdl : d.data.toList.length = d.size := by rw [Array.length_toList]; rfl
  have htl : t.data.toList.length = t.size := by rw [Array.length_toList]; rfl
  have HDL := Lib.hid (And.intro hdl htl)
  clear hdl htl
  go_enter Tryd.func7, Tryd.ntmps7
  go_wp2
  go_loopg [7] d.size (fun g iv wr => ∃ i : Nat, d.size - i ≤ g ∧ iv = .int .i64 i ∧ i ≤ d.size ∧ (∀ j (h : j < d.size), j < i → d[j] ≠ 13) ∧ w = wr)
  case atStart => exact ⟨0, by omega, rfl, by omega, fun j _ hj => by omega, rfl⟩
  case round =>
    obtain ⟨i, hg, rfl, hi, hno, rfl⟩ := hrel
    have HG := Lib.hid hg
    have HNO := Lib.hid hno
    clear hg hno
    by_cases hlt : i < d.size
    · have hlti : (i : Int) < (d.size : Int) := by omega
      have hc0 : (0 : Int) ≤ (d[i].toNat : Int) := by omega
      have hc1 : (d[i].toNat : Int) ≤ 255 := by have := d[i].toNat_lt; omega
      by_cases h13 : (d[i].toNat : Int) = 13
      · obtain ⟨e1, e2⟩ := b_yes h13
        clear h13
        go_wp2
        go_ret
        exact ⟨rfl, Fr.refl _ _⟩
      · obtain ⟨e1, e2⟩ := b_no h13
        have HN := Lib.hid (show ∀ j (h : j < d.size), j < i + 1 → d[j] ≠ 13 from fun j hj hj2 => by
          by_cases hji : j = i
          · subst hji; intro e; exact h13 (by rw [e]; rfl)
          · exact HNO.out j hj (by omega))
        clear h13
        go_wp2
        go_roundg (d.size - (i + 1))
        case measure => have := HG.out; omega
        case rel => exact ⟨i + 1, Nat.le_refl _, by go_num, by omega, HN.out, rfl⟩
    · obtain rfl : i = d.size := by omega
      have HCR := Lib.hid (show ∀ b ∈ d.data.toList, b ≠ 13 from fun b hb => by
        obtain ⟨j, hj, rfl⟩ := List.mem_iff_getElem.1 hb
        have hj2 : j < d.size := by rw [HDL.out.1] at hj; exact hj
        have := HNO.out j hj2 hj2
        intro e
        exact this (by rw [← e]; simp; rfl))
      clear HNO HG hlt hi
      go_wp2_with (with_reducible refine wpList_mk0 rfl (.const (.int .i64 0)) (.tmp 46) rfl w.heap.size (k + 2) _ rfl rfl (Lib.hid (by omega)) (by omega) (Nat.le_refl _) ?_)
      intro v1 w1 hb1 hl1
      go_wp2_with (at_builtin; refine wpList_app1 rfl (.tmp 48) (.tmp 49) rfl _ w.heap.size _ [] _ 93 rfl rfl hb1 (Lib.hid rfl) hl1.size nil_lim ?_; intro v2 w2 hb2 hl2; refine Hid.out ?_)
      refine Lib.hid ?_
      have H2 := Lib.hid (And.intro hb2 (hl1.trans hl2))
      clear hb1 hl1 hb2 hl2
      go_wp2
      go_loopg [8, 9] k (fun g v iv wr => ∃ i : Nat, k - i ≤ g ∧ iv = .int .i64 i ∧ i ≤ k ∧ Bs wr w.heap.size v (93 :: List.replicate i 61) ∧ Below w.heap.size w wr)
      case atStart => exact ⟨0, by omega, rfl, by omega, H2.out.1, H2.out.2⟩
      case round =>
        clear H2
        obtain ⟨i, hg, rfl, hi, hb, hl⟩ := hrel
        have HG := Lib.hid hg
        have hle := hl.size
        have HLM := Lib.hid (show (93 :: List.replicate i (61 : UInt8)).length + 1 ≤ 140737488355328 by simp; omega)
        have hii : (i : Int) ≤ (k : Int) := by omega
        clear hg
        by_cases hik : i < k
        · have hiki : (i : Int) < (k : Int) := by omega
          go_wp2_with (at_builtin; refine wpList_app1 rfl (.tmp 56) (.tmp 57) rfl _ w.heap.size _ _ _ 61 rfl rfl hb (Lib.hid rfl) hle HLM ?_; intro v6 w6 hb6 hl6; refine Hid.out ?_)
          refine Lib.hid ?_
          have H6 := Lib.hid (And.intro hb6 (hl.trans hl6))
          clear hb hl hb6 hl6
          go_wp2
          go_roundg (k - (i + 1))
          case measure => have := HG.out; omega
          case rel => exact ⟨i + 1, Nat.le_refl _, by go_num, by omega, by have := H6.out.1; rw [List.cons_append, ← List.replicate_succ'] at this; exact this, H6.out.2⟩
        · obtain rfl : k = i := by omega
          clear hik HG
          go_wp2_with (at_builtin; refine wpList_app1 rfl (.tmp 59) (.tmp 60) rfl _ w.heap.size _ _ _ 93 rfl rfl hb (Lib.hid rfl) hle HLM ?_; intro v7 wc hb7 hl7; refine Hid.out ?_)
          refine Lib.hid ?_
          have hbc : Bs wc w.heap.size v7 (closeL k) := hb7
          have hlc := hl.trans hl7
          clear hb hl hb7 hl7 hle HLM
          obtain ⟨gc, capc, rfl⟩ := hbc.some (by simp [closeL])
          have hcl : (closeL k).length = k + 2 := by simp [closeL]
          have HCL := Lib.hid hcl
          have hcv := hbc.text
          obtain ⟨Y, hY⟩ : ∃ Y : ByteArray, Y = d ++ ⟨(closeL k).toArray⟩ := ⟨_, rfl⟩
          have hYd : Y.data.toList = d.data.toList ++ closeL k := by rw [hY]; simp
          have hYs : Y.size = d.size + k + 2 := by
            have : Y.size = Y.data.toList.length := by rw [Array.length_toList]; rfl
            rw [this, hYd, List.length_append, HDL.out.1, hcl]; omega
          have hadd : ∀ wz : World, (Op.stringOp BinOp.add d ⟨(closeL k).toArray⟩).run Tryd.prog wz = .ok (.string Y) wz := fun wz => by
            rw [hY]; exact run_string_add_sum wz d _ (by show d.size + (closeL k).toArray.size ≤ _; rw [List.size_toArray, hcl]; omega)
          have hfind := fun (wz : World) => find_any wz Y 0 k (by omega) (by omega) (by omega)
          rw [hYd] at hfind
          have HFI := Lib.hid (show ∀ wz : World, Calls Tryd.prog 21 #[.string Y, .int .i64 0, .int .i64 k] wz fun e w' => e = .returned (.int .i64 (findI k (d.data.toList ++ closeL k) 0)) ∧ wz = w' from hfind)
          have HBC := Lib.hid hbc
          have HLC := Lib.hid hlc
          clear hfind hbc hlc hYd hYs hY hcl
          by_cases hfc : findI k (d.data.toList ++ closeL k) 0 = d.size
          case neg =>
            have e1 : (findI k (d.data.toList ++ closeL k) 0 != (d.size : Int)) = true := by rw [bne_iff_ne]; exact hfc
            clear hfc
            go_wp2_with (go_at_call 21; refine (HFI.out _).mono ?_; rintro e w5 ⟨rfl, rfl⟩)
            go_ret
            exact ⟨rfl, Fr.of_below HLC.out⟩
          case pos =>
            have e1 : (findI k (d.data.toList ++ closeL k) 0 != (d.size : Int)) = false := by simp [hfc]
            have HFC := Lib.hid (show findC k (d.data.toList ++ closeL k) = some d.data.toList.length by
              unfold findI at hfc
              rw [List.drop_zero] at hfc
              cases hz : findC k (d.data.toList ++ closeL k) with
              | none => rw [hz] at hfc; simp only at hfc; omega
              | some j => rw [hz] at hfc; simp only at hfc; rw [HDL.out.1]; congr 1; omega)
            clear hfc
            go_wp2_with (first | (go_at_call 21; refine (HFI.out _).mono ?_; rintro e w5 ⟨rfl, rfl⟩) | (with_reducible refine wpList_mk0 rfl (.const (.int .i64 0)) (.tmp 79) rfl wc.heap.size (d.size + t.size + 2 * k + 4) _ rfl rfl (Lib.hid (by omega)) (by omega) (Nat.le_refl _) ?_))
            intro v1 w1 hb1 hl1
            have H2 := Lib.hid (And.intro hb1 hl1)
            clear hb1 hl1 hcv hadd
            go_wp2
            go_loopg [10, 11] k (fun g v iv wr => ∃ i : Nat, k - i ≤ g ∧ iv = .int .i64 i ∧ i ≤ k ∧ Bs wr wc.heap.size v (List.replicate i 61) ∧ Below wc.heap.size wc wr)
            case atStart => exact ⟨0, by omega, rfl, by omega, H2.out.1, H2.out.2⟩
            case round =>
              clear H2
              obtain ⟨i, hg, rfl, hi, hb, hl⟩ := hrel
              have HG := Lib.hid hg
              have hle := hl.size
              have HLM := Lib.hid (show (List.replicate i (61 : UInt8)).length + 1 ≤ 140737488355328 by simp; omega)
              have hii : (i : Int) ≤ (k : Int) := by omega
              clear hg
              by_cases hik : i < k
              · have hiki : (i : Int) < (k : Int) := by omega
                go_wp2_with (at_builtin; refine wpList_app1 rfl (.tmp 86) (.tmp 87) rfl _ wc.heap.size _ _ _ 61 rfl rfl hb (Lib.hid rfl) hle HLM ?_; intro v6 w6 hb6 hl6; refine Hid.out ?_)
                refine Lib.hid ?_
                have H6 := Lib.hid (And.intro hb6 (hl.trans hl6))
                clear hb hl hb6 hl6
                go_wp2
                go_roundg (k - (i + 1))
                case measure => have := HG.out; omega
                case rel => exact ⟨i + 1, Nat.le_refl _, by go_num, by omega, by have := H6.out.1; rw [← List.replicate_succ'] at this; exact this, H6.out.2⟩
              · obtain rfl : k = i := by omega
                clear hik HG HLM
                have HL2 := Lib.hid (show (List.replicate k (61 : UInt8)).length + 2 ≤ 140737488355328 by simp; omega)
                have HL3 := Lib.hid (show (List.replicate k (61 : UInt8) ++ [91, 10]).length + d.size ≤ 140737488355328 by simp; omega)
                go_wp2_with (at_builtin; refine wpList_app2 rfl (.tmp 89) (.tmp 90) rfl _ wc.heap.size _ _ _ _ 91 10 rfl rfl hb (Lib.hid rfl) (Lib.hid rfl) hle HL2 ?_; intro v3 w3 hb3 hl3; refine Hid.out ?_)
                refine Lib.hid ?_
                have hl3' := hl.trans hl3
                clear hb hl hl3 hle
                go_wp2_with (at_builtin; refine wpList_apps rfl (.tmp 92) (.tmp 93) rfl wc.heap.size _ _ d rfl rfl hb3 hl3'.size HL3 ?_; intro v4 w4 hb4 hl4; refine Hid.out ?_)
                refine Lib.hid ?_
                have hl4' := hl3'.trans hl4
                have hbc4 := (HBC.out.below hl4').cells
                have HL4 := Lib.hid (show (List.replicate k (61 : UInt8) ++ [91, 10] ++ d.data.toList).length + (closeL k).length ≤ 140737488355328 by have := HDL.out.1; have := HCL.out; simp only [List.length_append, List.length_replicate, List.length_cons, List.length_nil]; omega)
                have HBC4 := Lib.hid hbc4
                clear hb3 hl3' hl4 hbc4
                go_wp2_with (at_builtin; refine wpList_appv rfl (.tmp 95) (.tmp 96) rfl wc.heap.size _ _ (closeL k) ⟨gc, 0, none⟩ (closeL k).length capc rfl rfl rfl HBC4.out hb4 hl4'.size HL4.out ?_; intro v5 w5 hb5 hl5; refine Hid.out ?_)
                refine Lib.hid ?_
                have hl5' := hl4'.trans hl5
                have HL5 := Lib.hid (show (List.replicate k (61 : UInt8) ++ [91, 10] ++ d.data.toList ++ closeL k).length + t.size ≤ 140737488355328 by have := HDL.out.1; have := HCL.out; simp only [List.length_append, List.length_replicate, List.length_cons, List.length_nil]; omega)
                clear hb4 hl4' hl5
                go_wp2_with (at_builtin; refine wpList_apps rfl (.tmp 98) (.tmp 99) rfl wc.heap.size _ _ t rfl rfl hb5 hl5'.size HL5 ?_; intro v6 w6 hb6 hl6; refine Hid.out ?_)
                refine Lib.hid ?_
                have hl8 := HLC.out.trans ((hl5'.trans hl6).mono HLC.out.size)
                clear hb5 hl5' hl6
                obtain ⟨X, hX⟩ : ∃ X, X = List.replicate k (61 : UInt8) ++ [91, 10] ++ d.data.toList ++ closeL k ++ t.data.toList := ⟨_, rfl⟩
                rw [← hX] at hb6
                have HXE := Lib.hid hX
                obtain ⟨g7, cap7, rfl⟩ := hb6.some (by rw [hX]; simp)
                have hXl : X.length ≤ 400000 := by
                  rw [hX]; have := HDL.out; have := HCL.out; simp only [List.length_append, List.length_replicate, List.length_cons, List.length_nil]; omega
                have HXL := Lib.hid hXl
                clear hX hXl
                have hcv := hb6.text
                have he8 := he.fr (Fr.of_below (own := []) hl8) (by simp)
                have HNS := Lib.hid (show (⟨X.toArray⟩ : ByteArray).size ≤ 1099511627776 by show X.toArray.size ≤ _; have := HXL.out; simp; omega)
                have FR8 := Lib.hid (Fr.of_below (own := []) hl8)
                clear he hb6 hl8
                go_wp2_with (go_at_call 9; refine (znew _ a _ he8 HNS.out).mono ?_; rintro e w9 hN; obtain ⟨L, hLs, hown, rfl, hSc, fr9⟩ := hN; refine Hid.out ?_)
                refine Lib.hid ?_
                have hSc2 : Sc w9 L ⟨X, 1, 0⟩ none := hSc
                obtain ⟨s1, hs1, hs2⟩ := round_trip k d.data.toList t.data.toList HCR.out HFC.out X HXE.out
                have hXr : (⟨X, 1, 0⟩ : St).nextS.rest.length ≤ X.length := rest_next_le ⟨X, 1, 0⟩
                have hz := fun (wz : World) (hS : Sc wz L (⟨X, 1, 0⟩ : St).nextS none) => zmulti wz L _ (⟨X, 1, 0⟩ : St).nextC hS (by have := HXL.out; omega)
                rw [hs1] at hz
                have hz2 : ∀ wz : World, Sc wz L (⟨X, 1, 0⟩ : St).nextS none → Calls Tryd.prog 20 #[.pointer (some ⟨L.S, 0, none⟩), .int .i64 (⟨X, 1, 0⟩ : St).nextC] wz fun e w' => e = .returned (.tuple #[.string d, .nilIface]) ∧ Sc w' L s1 none ∧ Fr L.own wz w' := by
                  intro wz hS
                  refine (hz wz hS).mono fun e w' ⟨er, he, hr, hs, hf⟩ => ⟨?_, hs, hf⟩
                  rcases hr with ⟨_, rfl⟩ | ⟨hr, _⟩
                  · rw [he, strEq wz d _ rfl]
                  · cases hr
                have hs1l : s1.rest.length ≤ X.length := by
                  have hlr := long_rest (⟨X, 1, 0⟩ : St).nextC (⟨X, 1, 0⟩ : St).nextS
                  rw [hs1] at hlr
                  exact Nat.le_trans hlr hXr
                have HXL2 := Lib.hid hs1l
                have HXL3 := Lib.hid (show X.length ≤ 1099511627776 by have := HXL.out; omega)
                have HTS := Lib.hid (show t.size ≤ 1099511627776 by omega)
                have HSTR := Lib.hid hs2
                have FR9 := Lib.hid (FR8.out.trans fr9)
                have HOWN := Lib.hid (show ∀ k ∈ L.own, w.heap.size ≤ k from fun k hk => Nat.le_trans FR8.out.size (hown k hk))
                have HZ2 := Lib.hid hz2
                have hnx := next_any w9 L _ none hSc2
                generalize (⟨X, 1, 0⟩ : St).nextC = ch1 at HZ2 hnx
                generalize (⟨X, 1, 0⟩ : St).nextS = st1 at HZ2 hnx
                clear hs1 hs2 hSc hSc2 hLs hown fr9 he8 hcv hz hz2 hXr hs1l
                go_wp2_with (first | (go_at_call 19; refine hnx.mono ?_; rintro e w10 ⟨rfl, hS10, fr10⟩) | (go_at_call 20; refine (HZ2.out _ hS10).mono ?_; rintro e w11 ⟨rfl, hS11, fr11⟩; refine Hid.out ?_))
                refine Lib.hid ?_
                have FR11 := Lib.hid (Fr.new (Fr.new FR9.out fr10 HOWN.out) fr11 HOWN.out)
                clear hnx fr10 fr11 hS10
                go_wp2_with (first | (go_at_call 16; refine (rest_any _ L s1 none X.length hS11 HXL2.out HXL3.out).mono ?_; rintro e w12 ⟨rfl, fr12⟩) | (go_at_call 17; refine (norm_any _ t HTS.out).mono ?_; rintro e w13 ⟨rfl, fr13⟩; refine Hid.out ?_))
                refine Lib.hid ?_
                have FR13 := Lib.hid ((Fr.new FR11.out fr12 HOWN.out).trans fr13)
                rw [HSTR.out]
                clear fr12 fr13 hS11
                go_wp2
                go_ret
                exact ⟨rfl, FR13.out⟩
theorem rt_walk (W : World) (a : Addr) (he : HasEof W a) (d t : ByteArray) (q : Int) :
    Calls Tryd.prog 7 #[.string d, .int .i64 q, .string t] W fun e w' => e = .returned (.bool true) ∧ Below W.heap.size W w' := by
  by_cases h : d.size ≤ 65536 ∧ t.size ≤ 65536 ∧ 0 ≤ q ∧ q ≤ 65536
  · obtain ⟨k, rfl⟩ : ∃ k : Nat, q = k := ⟨q.toNat, by omega⟩
    exact (rt_yes W a d t k he h.1 h.2.1 (by omega)).mono fun _ _ ⟨h1, h2⟩ => ⟨h1, h2.below (Nat.le_refl _) (by simp)⟩
  · exact (rt_no W d t q h).mono fun _ _ ⟨h1, h2⟩ => ⟨h1, h2 ▸ Below.refl _ _⟩
end Go.Proofs.YtoibhhbhohpljaaDoor
