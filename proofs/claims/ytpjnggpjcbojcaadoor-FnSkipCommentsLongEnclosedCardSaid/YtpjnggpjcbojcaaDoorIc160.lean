/- b4IndexClose, b4LongComment, walked. -/
import Derived.Test.YtpjnggpjcbojcaaDoorFc
import Derived.Test.YtpjnggpjcbojcaaDoorZ160
import Derived.Test.YtpjnggpjcbojcaaDoorBit
import Derived.Test.YtpjnggpjcbojcaaDoorBs2
import Derived.Deep.LoopGhost
import Derived.IntWalk
namespace Go.Proofs.YtpjnggpjcbojcaaDoor
open Go.RowKit

set_option maxRecDepth 100000 in
set_option maxHeartbeats 6400000 in
theorem ic_any (w : World) (u : ByteArray) (i0 k : Nat) (hi0 : i0 ≤ u.size) (hu : u.size ≤ 1099511627776) (hk : k ≤ 1099511627776) :
    Calls Tryd.prog 9 #[.string u, .int .i64 i0, .int .i64 k] w
      fun e w' => e = .returned (.int .i64 (findI k u.data.toList i0)) ∧ w = w' := by
  have hui : (u.size : Int) ≤ 1099511627776 := by omega
  have hki : (k : Int) ≤ 1099511627776 := by omega
  have hlen : u.data.toList.length = u.size := by rw [Array.length_toList]; rfl
  have HLEN := Lib.hid hlen
  clear hlen
  go_enter Tryd.func9, Tryd.ntmps9
  go_wp2
  go_loopg [7] (u.size - i0) (fun g p wr => ∃ i : Nat, u.size - i ≤ g ∧ p = .int .i64 i ∧ i ≤ u.size ∧ findI k u.data.toList i = findI k u.data.toList i0 ∧ w = wr)
  case atStart => exact ⟨i0, Nat.le_refl _, rfl, hi0, rfl, rfl⟩
  case round =>
    obtain ⟨i, hg, rfl, hi, hfi, rfl⟩ := hrel
    have HG := Lib.hid hg
    have HFI := Lib.hid hfi
    clear hg hfi
    by_cases hlt : i < u.size
    · have hc0 : (0 : Int) ≤ (u[i].toNat : Int) := by omega
      have hc1 : (u[i].toNat : Int) ≤ 255 := by have := u[i].toNat_lt; omega
      have hii : (i : Int) < (u.size : Int) := by omega
      have hget : ∀ h : i < u.data.toList.length, u.data.toList[i] = u[i] := fun h => by simp; rfl
      have hll : i < u.data.toList.length := by rw [HLEN.out]; exact hlt
      by_cases h93 : (u[i].toNat : Int) = 93
      · obtain ⟨e1, e2⟩ := b_yes h93
        have h93' : u.data.toList[i] = 93 := by rw [hget]; exact UInt8.toNat_inj.1 (by show u[i].toNat = 93; omega)
        obtain ⟨g1, g2, g3, g4, g5⟩ := skip_eqs (k := k) hll h93'
        obtain ⟨r, hr⟩ : ∃ r, r = eqRun (u.data.toList.drop (i + 1)) := ⟨_, rfl⟩
        rw [← hr] at g1 g2 g3 g4 g5
        rw [HLEN.out] at g1
        have HX := Lib.hid (And.intro g2 (And.intro g3 (And.intro g4 g5)))
        have g1i : (i : Int) + 1 + (r : Int) ≤ (u.size : Int) := by omega
        clear g2 g3 g4 g5 hr h93 h93' hget
        go_wp2
        go_loopg [8] r (fun gg jv wr => ∃ m j : Nat, r - j ≤ gg ∧ jv = .int .i64 m ∧ m = i + 1 + j ∧ j ≤ r ∧ w = wr)
        case atStart => exact ⟨i + 1, 0, by omega, by go_num, rfl, by omega, rfl⟩
        case round =>
          obtain ⟨m, j, hg2, rfl, hm, hjr, rfl⟩ := hrel
          have HG2 := Lib.hid hg2
          have HM := Lib.hid hm
          have hm1 : i + 1 ≤ m := by omega
          have hm2 : m ≤ u.size := by omega
          clear hg2 hm
          have hmi : (m : Int) ≤ 1099511627776 := by omega
          by_cases hin : m < u.size
          · have hini : (m : Int) < (u.size : Int) := by omega
            have hd0 : (0 : Int) ≤ (u[m].toNat : Int) := by omega
            have hd1 : (u[m].toNat : Int) ≤ 255 := by have := u[m].toNat_lt; omega
            by_cases h61 : (u[m].toNat : Int) = 61
            · have hjr2 : j < r := by
                rcases Nat.lt_or_ge j r with h | h
                · exact h
                · exfalso
                  have e : j = r := by omega
                  subst e
                  exact HX.out.2.1 u[m] (by rw [← HM.out]; exact by_at u m hin) (UInt8.toNat_inj.1 (by show u[m].toNat = 61; omega))
              obtain ⟨e3, e4⟩ := b_yes h61
              clear h61
              go_wp2
              go_roundg (r - (j + 1))
              case measure => have := HG2.out; omega
              case rel => exact ⟨m + 1, j + 1, Nat.le_refl _, by go_num, by have := HM.out; omega, by omega, rfl⟩
            · have e : j = r := by
                rcases Nat.lt_or_ge j r with h | h
                · exfalso
                  have h5 := HX.out.1 j h
                  rw [← HM.out, by_at u m hin] at h5
                  have h6 : u[m] = 61 := by simpa using h5
                  exact h61 (by rw [h6]; rfl)
                · omega
              subst e
              obtain ⟨e3, e4⟩ := b_no h61
              have hmk : (m : Int) - (i : Int) - 1 = (j : Int) := by have := HM.out; omega
              clear h61 HG2
              by_cases hjk : j = k
              · subst hjk
                have e5 : ((j : Int) == (j : Int)) = true := by rw [beq_iff_eq]
                by_cases hcl : (u[m].toNat : Int) = 93
                · obtain ⟨e6, e7⟩ := b_yes hcl
                  have HE := Lib.hid (show findI j u.data.toList i0 = i by
                    rw [← HFI.out]
                    exact HX.out.2.2.1 ⟨rfl, by rw [← HM.out, by_at u m hin, show u[m] = 93 from UInt8.toNat_inj.1 (by show u[m].toNat = 93; omega)]⟩)
                  clear hcl HX
                  go_wp2
                  go_ret
                  rw [HE.out]
                  exact ⟨rfl, rfl⟩
                · obtain ⟨e6, e7⟩ := b_no hcl
                  have HE := Lib.hid (show findI j u.data.toList m = findI j u.data.toList i0 by
                    rw [← HFI.out, HM.out]
                    refine (HX.out.2.2.2 (fun h => ?_)).symm
                    have h5 := h.2
                    rw [← HM.out, by_at u m hin] at h5
                    have h6 : u[m] = 93 := by simpa using h5
                    exact hcl (by rw [h6]; rfl))
                  clear hcl HX
                  go_wp2
                  go_roundg (u.size - m)
                  case measure => have := HG.out; omega
                  case rel => exact ⟨m, Nat.le_refl _, rfl, by omega, HE.out, rfl⟩
              · have e5 : ((j : Int) == (k : Int)) = false := by rw [beq_eq_false_iff_ne]; omega
                have HE := Lib.hid (show findI k u.data.toList m = findI k u.data.toList i0 by
                  rw [← HFI.out, HM.out]
                  exact (HX.out.2.2.2 (fun h => hjk h.1)).symm)
                clear HX
                go_wp2
                go_roundg (u.size - m)
                case measure => have := HG.out; omega
                case rel => exact ⟨m, Nat.le_refl _, rfl, by omega, HE.out, rfl⟩
          · have e : j = r := by
              have := HM.out
              rcases Nat.lt_or_ge j r with h | h
              · omega
              · omega
            subst e
            have hini : (u.size : Int) ≤ (m : Int) := by omega
            have hmk : (m : Int) - (i : Int) - 1 = (j : Int) := by have := HM.out; omega
            have HE := Lib.hid (show findI k u.data.toList m = findI k u.data.toList i0 by
              rw [← HFI.out, HM.out]
              refine (HX.out.2.2.2 (fun h => ?_)).symm
              have h5 := h.2
              rw [← HM.out, List.getElem?_eq_none (by rw [HLEN.out]; omega)] at h5
              cases h5)
            clear HX HG2
            by_cases hjk : j = k
            · subst hjk
              have e5 : ((j : Int) == (j : Int)) = true := by rw [beq_iff_eq]
              go_wp2
              go_roundg (u.size - m)
              case measure => have := HG.out; omega
              case rel => exact ⟨m, Nat.le_refl _, rfl, by omega, HE.out, rfl⟩
            · have e5 : ((j : Int) == (k : Int)) = false := by rw [beq_eq_false_iff_ne]; omega
              go_wp2
              go_roundg (u.size - m)
              case measure => have := HG.out; omega
              case rel => exact ⟨m, Nat.le_refl _, rfl, by omega, HE.out, rfl⟩
      · obtain ⟨e1, e2⟩ := b_no h93
        have HE := Lib.hid (show findI k u.data.toList (i + 1) = findI k u.data.toList i0 by
          rw [← HFI.out]
          refine (findI_next hll (fun h => h93 ?_)).symm
          have h5 := h.1
          rw [hget] at h5
          rw [h5]; rfl)
        clear h93 hget
        go_wp2
        go_roundg (u.size - (i + 1))
        case measure => have := HG.out; omega
        case rel => exact ⟨i + 1, Nat.le_refl _, by go_num, by omega, HE.out, rfl⟩
    · obtain rfl : i = u.size := by omega
      have HE := Lib.hid (show findI k u.data.toList i0 = -1 by rw [← HFI.out]; exact findI_end (by rw [HLEN.out]; exact Nat.le_refl _))
      go_wp2
      go_ret
      rw [HE.out]
      exact ⟨rfl, rfl⟩

/-- A long comment's text behind its dashes. -/
def longText (k : Nat) (b t : List UInt8) : List UInt8 := 91 :: (List.replicate k 61 ++ 91 :: (b ++ 93 :: (List.replicate k 61 ++ 93 :: t)))
theorem nil_lim : Hid (([] : List UInt8).length + 1 ≤ 140737488355328) := by show _ ≤ _; decide

set_option maxRecDepth 100000 in
set_option maxHeartbeats 6400000 in
theorem lc_any (w : World) (k : Nat) (b t : ByteArray) (hk : k ≤ 65536) (hb : b.size ≤ 1048576) (ht : t.size ≤ 1048576) :
    Calls Tryd.prog 8 #[.int .i64 k, .string b, .string t] w
      fun e w' => e = .returned (.string ⟨(longText k b.data.toList t.data.toList).toArray⟩) ∧ Fr [] w w' := by
  have hki : (k : Int) ≤ 65536 := by omega
  have hbi : (b.size : Int) ≤ 1048576 := by omega
  have hti : (t.size : Int) ≤ 1048576 := by omega
  have hbl : b.data.toList.length = b.size := by rw [Array.length_toList]; rfl
  go_enter Tryd.func8, Tryd.ntmps8
  go_wp2_with (with_reducible refine wpList_mk0 rfl (.const (.int .i64 0)) (.tmp 18) rfl w.heap.size (2 * k + 4 + b.size + t.size) _ rfl rfl (Lib.hid (by omega)) (by omega) (Nat.le_refl _) ?_)
  intro v1 w1 hb1 hl1
  go_wp2_with (at_builtin; refine wpList_app1 rfl (.tmp 20) (.tmp 21) rfl _ w.heap.size _ [] _ 91 rfl rfl hb1 (Lib.hid rfl) hl1.size nil_lim ?_; intro v2 w2 hb2 hl2; refine Hid.out ?_)
  refine Lib.hid ?_
  have H2 := Lib.hid (And.intro hb2 (hl1.trans hl2))
  clear hb1 hl1 hb2 hl2
  go_wp2
  go_loopg [7, 8] k (fun g v iv wr => ∃ i : Nat, k - i ≤ g ∧ iv = .int .i64 i ∧ i ≤ k ∧ Bs wr w.heap.size v (91 :: List.replicate i 61) ∧ Below w.heap.size w wr)
  case atStart => exact ⟨0, by omega, rfl, by omega, H2.out.1, H2.out.2⟩
  case round =>
    clear H2
    obtain ⟨i, hg, rfl, hi, hb, hl⟩ := hrel
    have HG := Lib.hid hg
    have hle := hl.size
    have HLM := Lib.hid (show (91 :: List.replicate i (61 : UInt8)).length + 1 ≤ 140737488355328 by simp; omega)
    have hii : (i : Int) ≤ (k : Int) := by omega
    clear hg
    by_cases hik : i < k
    · have hiki : (i : Int) < (k : Int) := by omega
      go_wp2_with (at_builtin; refine wpList_app1 rfl (.tmp 28) (.tmp 29) rfl _ w.heap.size _ _ _ 61 rfl rfl hb (Lib.hid rfl) hle HLM ?_; intro v6 w6 hb6 hl6; refine Hid.out ?_)
      refine Lib.hid ?_
      have H6 := Lib.hid (And.intro hb6 (hl.trans hl6))
      clear hb hl hb6 hl6
      go_wp2
      go_roundg (k - (i + 1))
      case measure => have := HG.out; omega
      case rel => exact ⟨i + 1, Nat.le_refl _, by go_num, by omega, by have := H6.out.1; rw [List.cons_append, ← List.replicate_succ'] at this; exact this, H6.out.2⟩
    · obtain rfl : k = i := by omega
      clear hik HG
      go_wp2_with (at_builtin; refine wpList_app1 rfl (.tmp 31) (.tmp 32) rfl _ w.heap.size _ _ _ 91 rfl rfl hb (Lib.hid rfl) hle HLM ?_; intro v7 w7 hb7 hl7; refine Hid.out ?_)
      refine Lib.hid ?_
      have hl7' := hl.trans hl7
      have HL7 := Lib.hid (show ((91 :: List.replicate k (61 : UInt8)) ++ [91]).length + b.size ≤ 140737488355328 by simp; omega)
      clear hb hl hl7 hle HLM
      go_wp2_with (at_builtin; refine wpList_apps rfl (.tmp 34) (.tmp 35) rfl w.heap.size _ _ b rfl rfl hb7 hl7'.size HL7 ?_; intro v8 w8 hb8 hl8; refine Hid.out ?_)
      refine Lib.hid ?_
      have hl8' := hl7'.trans hl8
      have HL8 := Lib.hid (show ((91 :: List.replicate k (61 : UInt8)) ++ [91] ++ b.data.toList).length + 1 ≤ 140737488355328 by simp; omega)
      clear hb7 hl7' hl8 HL7
      go_wp2_with (at_builtin; refine wpList_app1 rfl (.tmp 37) (.tmp 38) rfl _ w.heap.size _ _ _ 93 rfl rfl hb8 (Lib.hid rfl) hl8'.size HL8 ?_; intro v9 w9 hb9 hl9; refine Hid.out ?_)
      refine Lib.hid ?_
      obtain ⟨pre, hpre⟩ : ∃ pre, pre = (91 :: List.replicate k (61 : UInt8)) ++ [91] ++ b.data.toList ++ [93] := ⟨_, rfl⟩
      rw [← hpre] at hb9
      have hpl : pre.length = k + b.size + 3 := by rw [hpre]; simp; omega
      have H9 := Lib.hid (And.intro hb9 (hl8'.trans hl9))
      have HPRE := Lib.hid hpre
      clear hb8 hl8' hb9 hl9 HL8 hpre
      go_wp2
      go_loopg [7, 9] k (fun g v iv wr => ∃ i : Nat, k - i ≤ g ∧ iv = .int .i64 i ∧ i ≤ k ∧ Bs wr w.heap.size v (pre ++ List.replicate i 61) ∧ Below w.heap.size w wr)
      case atStart => exact ⟨0, by omega, rfl, by omega, by simpa using H9.out.1, H9.out.2⟩
      case round =>
        clear H9
        obtain ⟨i, hg, rfl, hi, hb, hl⟩ := hrel
        have HG := Lib.hid hg
        have hle := hl.size
        have HLM := Lib.hid (show (pre ++ List.replicate i (61 : UInt8)).length + 1 ≤ 140737488355328 by simp; omega)
        have hii : (i : Int) ≤ (k : Int) := by omega
        clear hg
        by_cases hik : i < k
        · have hiki : (i : Int) < (k : Int) := by omega
          go_wp2_with (at_builtin; refine wpList_app1 rfl (.tmp 45) (.tmp 46) rfl _ w.heap.size _ _ _ 61 rfl rfl hb (Lib.hid rfl) hle HLM ?_; intro v6 w6 hb6 hl6; refine Hid.out ?_)
          refine Lib.hid ?_
          have H6 := Lib.hid (And.intro hb6 (hl.trans hl6))
          clear hb hl hb6 hl6
          go_wp2
          go_roundg (k - (i + 1))
          case measure => have := HG.out; omega
          case rel => exact ⟨i + 1, Nat.le_refl _, by go_num, by omega, by have := H6.out.1; rw [List.append_assoc, ← List.replicate_succ'] at this; exact this, H6.out.2⟩
        · obtain rfl : k = i := by omega
          clear hik HG
          go_wp2_with (at_builtin; refine wpList_app1 rfl (.tmp 48) (.tmp 49) rfl _ w.heap.size _ _ _ 93 rfl rfl hb (Lib.hid rfl) hle HLM ?_; intro v7 w7 hb7 hl7; refine Hid.out ?_)
          refine Lib.hid ?_
          have hl7' := hl.trans hl7
          have HL7 := Lib.hid (show ((pre ++ List.replicate k (61 : UInt8)) ++ [93]).length + t.size ≤ 140737488355328 by simp; omega)
          clear hb hl hl7 hle HLM
          go_wp2_with (at_builtin; refine wpList_apps rfl (.tmp 51) (.tmp 52) rfl w.heap.size _ _ t rfl rfl hb7 hl7'.size HL7 ?_; intro v8 w8 hb8 hl8; refine Hid.out ?_)
          refine Lib.hid ?_
          have htx := hb8.text
          have HF := Lib.hid (Fr.of_below (own := []) (hl7'.trans hl8))
          have HE := Lib.hid (show (pre ++ List.replicate k (61 : UInt8)) ++ [93] ++ t.data.toList = longText k b.data.toList t.data.toList by rw [HPRE.out]; simp [longText])
          rw [HE.out] at htx
          clear hb7 hl7' hb8 hl8 HL7
          go_wp2
          go_ret
          exact ⟨rfl, HF.out⟩
end Go.Proofs.YtpjnggpjcbojcaaDoor
