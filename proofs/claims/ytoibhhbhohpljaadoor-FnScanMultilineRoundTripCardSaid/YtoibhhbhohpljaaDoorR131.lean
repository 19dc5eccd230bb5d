/- zzRestB5, zzNormB5, zzIsDigitB5, walked. -/
import Derived.Test.YtoibhhbhohpljaaDoorBs
import Derived.Test.YtoibhhbhohpljaaDoorP131
import Derived.Deep.LoopGhost
namespace Go.Proofs.YtoibhhbhohpljaaDoor
open Go.RowKit

theorem b_no {a b : Int} (h : a ≠ b) : (a == b) = false ∧ (a != b) = true := ⟨beq_eq_false_iff_ne.2 h, bne_iff_ne.2 h⟩
theorem b_yes {a b : Int} (h : a = b) : (a == b) = true ∧ (a != b) = false := ⟨beq_iff_eq.2 h, by simp [h]⟩

set_option maxRecDepth 100000 in
set_option maxHeartbeats 3200000 in
theorem rest_any (w : World) (L : Loc) (st : St) (lb : Option UInt8) (n : Nat) (h : Sc w L st lb) (hn : st.rest.length ≤ n) (hn2 : n ≤ 1099511627776) :
    Calls Tryd.prog 16 #[.pointer (some ⟨L.S, 0, none⟩), .int .i64 n] w
      fun e w' => e = .returned (.string ⟨(stream st.rest).toArray⟩) ∧ Fr L.own w w' := by
  have HN := Lib.hid hn
  have hni : (n : Int) ≤ 1099511627776 := by omega
  have hn0 : (0 : Int) ≤ (n : Int) := by omega
  clear hn
  go_enter Tryd.func16, Tryd.ntmps16
  go_wp2_with (with_reducible refine wpList_mk0 rfl (.const (.int .i64 0)) (.tmp 8) rfl w.heap.size n _ rfl rfl (Lib.hid rfl) (by omega) (Nat.le_refl _) ?_)
  intro v1 w1 hb1 hl1
  have hA1 := Ao.start h hb1 hl1
  clear h hb1 hl1
  go_wp2
  go_loopg [5, 6] (n + 1) (fun g v i wr => ∃ (k : Nat) (sp : St) (acc : List UInt8), n + 1 - k ≤ g ∧ i = .int .i64 k ∧ k + sp.rest.length ≤ n ∧ Ao w L w.heap.size wr sp v acc ∧ acc.length ≤ k ∧ acc ++ stream sp.rest = stream st.rest)
  case atStart => exact ⟨0, st, [], by omega, rfl, by have := HN.out; omega, hA1, Nat.le_refl _, rfl⟩
  case round =>
    clear hA1 HN
    obtain ⟨k, sp, acc, hg, rfl, hk, hA, hal, hacc⟩ := hrel
    have HG := Lib.hid hg
    have HACC := Lib.hid hacc
    have HK := Lib.hid hk
    clear hg hacc
    have hki : (k : Int) ≤ (n : Int) := by omega
    by_cases hr : sp.rest = []
    · have hc : sp.nextC < 0 := St.nextC_neg.2 hr
      have HF := Lib.hid (show acc = stream st.rest by rw [← HACC.out, hr, stream_nil, List.append_nil])
      clear hr hk
      go_wp2_with (go_at_call 19; refine (next_ao hA).mono ?_; rintro e w5 ⟨rfl, h5⟩; refine Hid.out ?_)
      refine Lib.hid ?_
      have hcv := h5.bs.text
      clear hA
      go_wp2
      go_ret
      exact ⟨by rw [← HF.out]; rfl, h5.done⟩
    · have hc : 0 ≤ sp.nextC := by
        have := sp.nextC_lo
        have : ¬ sp.nextC < 0 := fun e => hr (St.nextC_neg.1 e)
        omega
      have hc2 := sp.nextC_hi
      have hl := (St.nextS_len hr).1
      have HF := Lib.hid (show (acc ++ [by8 sp.nextC]) ++ stream sp.nextS.rest = stream st.rest by rw [← HACC.out, stream_next hr, List.append_assoc]; rfl)
      have HK2 := Lib.hid (show k + 1 + sp.nextS.rest.length ≤ n by omega)
      have HX := Lib.hid (show sp.nextC = ((by8 sp.nextC).toNat : Int) by rw [by8_toNat]; omega)
      have HLM := Lib.hid (show acc.length + 1 ≤ 140737488355328 by omega)
      have HAL := Lib.hid (show acc.length ≤ k from hal)
      clear hr hk hl hal
      go_wp2_with (first | (go_at_call 19; refine (next_ao hA).mono ?_; rintro e w5 ⟨rfl, h5⟩) | (at_builtin; refine wpList_app1 rfl (.tmp 19) (.tmp 22) rfl _ w.heap.size _ acc _ (by8 sp.nextC) rfl rfl h5.bs HX h5.le HLM ?_; intro v6 w6 hb6 hl6; refine Hid.out ?_))
      refine Lib.hid ?_
      have H6 := Lib.hid (h5.wrote hb6 hl6)
      clear hA h5 hb6 hl6
      go_wp2
      go_roundg (n + 1 - (k + 1))
      case measure => have := HG.out; have := HK.out; omega
      case rel => exact ⟨k + 1, sp.nextS, acc ++ [by8 sp.nextC], Nat.le_refl _, by go_num, HK2.out, H6.out, by have := HAL.out; simp; omega, HF.out⟩

set_option maxRecDepth 100000 in
set_option maxHeartbeats 6400000 in
/-- The raw text's stream. -/
theorem norm_any (w : World) (s : ByteArray) (hs : s.size ≤ 1099511627776) :
    Calls Tryd.prog 17 #[.string s] w
      fun e w' => e = .returned (.string ⟨(stream s.data.toList).toArray⟩) ∧ Fr [] w w' := by
  have hs2 : (s.size : Int) ≤ 1099511627776 := by omega
  have hsl : s.data.toList.length = s.size := by rw [Array.length_toList]; rfl
  have HSL := Lib.hid hsl
  clear hsl
  go_enter Tryd.func17, Tryd.ntmps17
  go_wp2_with (with_reducible refine wpList_mk0 rfl (.const (.int .i64 0)) (.tmp 7) rfl w.heap.size s.size _ rfl rfl (Lib.hid rfl) (by omega) (Nat.le_refl _) ?_)
  intro v1 w1 hb1 hl1
  have H1 := Lib.hid (And.intro hb1 hl1)
  clear hb1 hl1
  go_wp2
  go_loopg [3, 4] s.size (fun g v i wr => ∃ (j : Nat) (acc : List UInt8), s.size - j ≤ g ∧ i = .int .i64 j ∧ j ≤ s.size ∧ acc.length ≤ j ∧ Bs wr w.heap.size v acc ∧ Below w.heap.size w wr ∧ acc ++ stream (s.data.toList.drop j) = stream s.data.toList)
  case atStart => exact ⟨0, [], by omega, rfl, by omega, by simp, H1.out.1, H1.out.2, rfl⟩
  case round =>
    clear H1
    obtain ⟨j, acc, hg, rfl, hj, hal, hb, hl, hacc⟩ := hrel
    have HG := Lib.hid hg
    have HACC := Lib.hid hacc
    have HAL := Lib.hid hal
    have HLM := Lib.hid (show acc.length + 1 ≤ 140737488355328 by omega)
    have hle := hl.size
    clear hg hacc hal
    by_cases hlt : j < s.size
    · have hdr := str_drop s j hlt
      have hc0 : (0 : Int) ≤ (s[j].toNat : Int) := by omega
      have hc1 : (s[j].toNat : Int) ≤ 255 := by have := s[j].toNat_lt; omega
      have hne : s.data.toList.drop j ≠ [] := by rw [hdr]; simp
      have hst := stream_cons hne
      rw [List.drop_drop] at hst
      by_cases hbr : (s[j].toNat : Int) = 10 ∨ (s[j].toNat : Int) = 13
      · have hnc : nc (s.data.toList.drop j) = 10 := by rw [hdr]; exact St.nextC_brk (line := 0) (col := 0) hbr
        have hea : eat (s.data.toList.drop j) = if pair s[j].toNat (hd (s.data.toList.drop (j + 1))) then 2 else 1 := by rw [hdr]; simp only [eat, if_pos hbr]
        rw [hnc] at hst
        clear hnc hne
        by_cases hl2 : j + 1 < s.size
        · have hl2i : (j : Int) + 1 < (s.size : Int) := by omega
          have hdr2 := str_drop s (j + 1) hl2
          have hd0 : (0 : Int) ≤ (s[j + 1].toNat : Int) := by omega
          have hd1 : (s[j + 1].toNat : Int) ≤ 255 := by have := s[j + 1].toNat_lt; omega
          have hp1 : eat (s.data.toList.drop j) = if pair s[j].toNat s[j + 1].toNat then 2 else 1 := by rw [hea, hdr2]; rfl
          clear hea hdr2 hdr
          by_cases hq : (s[j + 1].toNat : Int) = (s[j].toNat : Int)
          · have hpf : pair s[j].toNat s[j + 1].toNat = false := by rw [hq]; simp only [pair]; rcases hbr with h | h <;> simp [h]
            have HST := Lib.hid (show stream (s.data.toList.drop j) = 10 :: stream (s.data.toList.drop (j + 1)) by rw [hst, hp1, hpf]; rfl)
            obtain ⟨e7, e8⟩ := b_yes hq
            clear hst hp1 hpf hq
            rcases hbr with h1 | h1
            · obtain ⟨e1, e2⟩ := b_yes h1
              clear h1
              go_wp2_with (at_builtin; refine wpList_app1 rfl (.tmp 53) (.tmp 54) rfl _ w.heap.size _ acc _ 10 rfl rfl hb (Lib.hid rfl) hle HLM ?_; intro v6 w6 hb6 hl6; refine Hid.out ?_)
              refine Lib.hid ?_
              have H6 := Lib.hid (And.intro hb6 (hl.trans hl6))
              clear hb hl hb6 hl6
              go_wp2
              go_roundg (s.size - (j + 1))
              case measure => have := HG.out; omega
              case rel => exact ⟨j + 1, acc ++ [10], Nat.le_refl _, by go_num, by omega, by have := HAL.out; simp; omega, H6.out.1, H6.out.2, by rw [← HACC.out, HST.out, List.append_assoc]; rfl⟩
            · obtain ⟨e1, e2⟩ := b_no (show (s[j].toNat : Int) ≠ 10 by omega)
              obtain ⟨e3, e4⟩ := b_yes h1
              clear h1
              go_wp2_with (at_builtin; refine wpList_app1 rfl (.tmp 53) (.tmp 54) rfl _ w.heap.size _ acc _ 10 rfl rfl hb (Lib.hid rfl) hle HLM ?_; intro v6 w6 hb6 hl6; refine Hid.out ?_)
              refine Lib.hid ?_
              have H6 := Lib.hid (And.intro hb6 (hl.trans hl6))
              clear hb hl hb6 hl6
              go_wp2
              go_roundg (s.size - (j + 1))
              case measure => have := HG.out; omega
              case rel => exact ⟨j + 1, acc ++ [10], Nat.le_refl _, by go_num, by omega, by have := HAL.out; simp; omega, H6.out.1, H6.out.2, by rw [← HACC.out, HST.out, List.append_assoc]; rfl⟩
          · obtain ⟨e7, e8⟩ := b_no hq
            by_cases hz : (s[j + 1].toNat : Int) = 10 ∨ (s[j + 1].toNat : Int) = 13
            · have hpf : pair s[j].toNat s[j + 1].toNat = true := by
                simp only [pair]
                rcases hbr with h | h <;> rcases hz with h2 | h2 <;> first | (exfalso; omega) | simp [h, h2]
              have HST := Lib.hid (show stream (s.data.toList.drop j) = 10 :: stream (s.data.toList.drop (j + 2)) by rw [hst, hp1, hpf]; rfl)
              clear hst hp1 hpf
              rcases hbr with h1 | h1
              · obtain ⟨e1, e2⟩ := b_yes h1
                obtain ⟨e9, e10⟩ := b_no (show (s[j + 1].toNat : Int) ≠ 10 by omega)
                obtain ⟨e11, e12⟩ := b_yes (show (s[j + 1].toNat : Int) = 13 by omega)
                clear h1 hq hz
                go_wp2_with (at_builtin; refine wpList_app1 rfl (.tmp 53) (.tmp 54) rfl _ w.heap.size _ acc _ 10 rfl rfl hb (Lib.hid rfl) hle HLM ?_; intro v6 w6 hb6 hl6; refine Hid.out ?_)
                refine Lib.hid ?_
                have H6 := Lib.hid (And.intro hb6 (hl.trans hl6))
                clear hb hl hb6 hl6
                go_wp2
                go_roundg (s.size - (j + 2))
                case measure => have := HG.out; omega
                case rel => exact ⟨j + 2, acc ++ [10], Nat.le_refl _, by go_num, by omega, by have := HAL.out; simp; omega, H6.out.1, H6.out.2, by rw [← HACC.out, HST.out, List.append_assoc]; rfl⟩
              · obtain ⟨e1, e2⟩ := b_no (show (s[j].toNat : Int) ≠ 10 by omega)
                obtain ⟨e3, e4⟩ := b_yes h1
                obtain ⟨e9, e10⟩ := b_yes (show (s[j + 1].toNat : Int) = 10 by omega)
                clear h1 hq hz
                go_wp2_with (at_builtin; refine wpList_app1 rfl (.tmp 53) (.tmp 54) rfl _ w.heap.size _ acc _ 10 rfl rfl hb (Lib.hid rfl) hle HLM ?_; intro v6 w6 hb6 hl6; refine Hid.out ?_)
                refine Lib.hid ?_
                have H6 := Lib.hid (And.intro hb6 (hl.trans hl6))
                clear hb hl hb6 hl6
                go_wp2
                go_roundg (s.size - (j + 2))
                case measure => have := HG.out; omega
                case rel => exact ⟨j + 2, acc ++ [10], Nat.le_refl _, by go_num, by omega, by have := HAL.out; simp; omega, H6.out.1, H6.out.2, by rw [← HACC.out, HST.out, List.append_assoc]; rfl⟩
            · have hpf : pair s[j].toNat s[j + 1].toNat = false := by
                obtain ⟨e9, _⟩ := b_no (show (s[j + 1].toNat : Int) ≠ 10 by omega)
                obtain ⟨e10, _⟩ := b_no (show (s[j + 1].toNat : Int) ≠ 13 by omega)
                simp only [pair, e9, e10, Bool.and_false, Bool.or_false]
              have HST := Lib.hid (show stream (s.data.toList.drop j) = 10 :: stream (s.data.toList.drop (j + 1)) by rw [hst, hp1, hpf]; rfl)
              obtain ⟨e9, e10⟩ := b_no (show (s[j + 1].toNat : Int) ≠ 10 by omega)
              obtain ⟨e11, e12⟩ := b_no (show (s[j + 1].toNat : Int) ≠ 13 by omega)
              clear hst hp1 hpf hq hz
              rcases hbr with h1 | h1
              · obtain ⟨e1, e2⟩ := b_yes h1
                clear h1
                go_wp2_with (at_builtin; refine wpList_app1 rfl (.tmp 53) (.tmp 54) rfl _ w.heap.size _ acc _ 10 rfl rfl hb (Lib.hid rfl) hle HLM ?_; intro v6 w6 hb6 hl6; refine Hid.out ?_)
                refine Lib.hid ?_
                have H6 := Lib.hid (And.intro hb6 (hl.trans hl6))
                clear hb hl hb6 hl6
                go_wp2
                go_roundg (s.size - (j + 1))
                case measure => have := HG.out; omega
                case rel => exact ⟨j + 1, acc ++ [10], Nat.le_refl _, by go_num, by omega, by have := HAL.out; simp; omega, H6.out.1, H6.out.2, by rw [← HACC.out, HST.out, List.append_assoc]; rfl⟩
              · obtain ⟨e1, e2⟩ := b_no (show (s[j].toNat : Int) ≠ 10 by omega)
                obtain ⟨e3, e4⟩ := b_yes h1
                clear h1
                go_wp2_with (at_builtin; refine wpList_app1 rfl (.tmp 53) (.tmp 54) rfl _ w.heap.size _ acc _ 10 rfl rfl hb (Lib.hid rfl) hle HLM ?_; intro v6 w6 hb6 hl6; refine Hid.out ?_)
                refine Lib.hid ?_
                have H6 := Lib.hid (And.intro hb6 (hl.trans hl6))
                clear hb hl hb6 hl6
                go_wp2
                go_roundg (s.size - (j + 1))
                case measure => have := HG.out; omega
                case rel => exact ⟨j + 1, acc ++ [10], Nat.le_refl _, by go_num, by omega, by have := HAL.out; simp; omega, H6.out.1, H6.out.2, by rw [← HACC.out, HST.out, List.append_assoc]; rfl⟩
        · have hl2i : (s.size : Int) ≤ (j : Int) + 1 := by omega
          have HST := Lib.hid (show stream (s.data.toList.drop j) = 10 :: stream (s.data.toList.drop (j + 1)) by
            rw [hst, hea, str_drop_end s (j + 1) hl2, if_neg (by simp [pair, hd]), str_drop_end s (j + 1) hl2]; rfl)
          clear hst hea hdr
          rcases hbr with h1 | h1
          · obtain ⟨e1, e2⟩ := b_yes h1
            clear h1
            go_wp2_with (at_builtin; refine wpList_app1 rfl (.tmp 53) (.tmp 54) rfl _ w.heap.size _ acc _ 10 rfl rfl hb (Lib.hid rfl) hle HLM ?_; intro v6 w6 hb6 hl6; refine Hid.out ?_)
            refine Lib.hid ?_
            have H6 := Lib.hid (And.intro hb6 (hl.trans hl6))
            clear hb hl hb6 hl6
            go_wp2
            go_roundg (s.size - (j + 1))
            case measure => have := HG.out; omega
            case rel => exact ⟨j + 1, acc ++ [10], Nat.le_refl _, by go_num, by omega, by have := HAL.out; simp; omega, H6.out.1, H6.out.2, by rw [← HACC.out, HST.out, List.append_assoc]; rfl⟩
          · obtain ⟨e1, e2⟩ := b_no (show (s[j].toNat : Int) ≠ 10 by omega)
            obtain ⟨e3, e4⟩ := b_yes h1
            clear h1
            go_wp2_with (at_builtin; refine wpList_app1 rfl (.tmp 53) (.tmp 54) rfl _ w.heap.size _ acc _ 10 rfl rfl hb (Lib.hid rfl) hle HLM ?_; intro v6 w6 hb6 hl6; refine Hid.out ?_)
            refine Lib.hid ?_
            have H6 := Lib.hid (And.intro hb6 (hl.trans hl6))
            clear hb hl hb6 hl6
            go_wp2
            go_roundg (s.size - (j + 1))
            case measure => have := HG.out; omega
            case rel => exact ⟨j + 1, acc ++ [10], Nat.le_refl _, by go_num, by omega, by have := HAL.out; simp; omega, H6.out.1, H6.out.2, by rw [← HACC.out, HST.out, List.append_assoc]; rfl⟩
      · obtain ⟨e1, e2⟩ := b_no (show (s[j].toNat : Int) ≠ 10 by omega)
        obtain ⟨e3, e4⟩ := b_no (show (s[j].toNat : Int) ≠ 13 by omega)
        have HST := Lib.hid (show stream (s.data.toList.drop j) = s[j] :: stream (s.data.toList.drop (j + 1)) by rw [hdr]; exact stream_plain hbr)
        clear hst hdr hne hbr
        go_wp2_with (at_builtin; refine wpList_app1 rfl (.tmp 56) (.tmp 58) rfl _ w.heap.size _ acc _ s[j] rfl rfl hb (Lib.hid rfl) hle HLM ?_; intro v6 w6 hb6 hl6; refine Hid.out ?_)
        refine Lib.hid ?_
        have H6 := Lib.hid (And.intro hb6 (hl.trans hl6))
        clear hb hl hb6 hl6
        go_wp2
        go_roundg (s.size - (j + 1))
        case measure => have := HG.out; omega
        case rel => exact ⟨j + 1, acc ++ [s[j]], Nat.le_refl _, by go_num, by omega, by have := HAL.out; simp; omega, H6.out.1, H6.out.2, by rw [← HACC.out, HST.out, List.append_assoc]; rfl⟩
    · have HF := Lib.hid (show acc = stream s.data.toList by rw [← HACC.out, str_drop_end s j hlt, stream_nil, List.append_nil])
      have hcv := hb.text
      have hle2 : (s.size : Int) ≤ (j : Int) := by omega
      go_wp2
      go_ret
      exact ⟨by rw [← HF.out]; rfl, Fr.of_below hl⟩
end Go.Proofs.YtoibhhbhohpljaaDoor
