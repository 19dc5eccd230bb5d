/- The law FnScanStringInvertsEscapedEncoding, walked. -/
import Derived.Test.YtoibhhbhohpljaaDoorZ131
import Derived.Test.YtoibhhbhohpljaaDoorBs2
import Derived.Deep.LoopGhost
namespace Go.Proofs.YtoibhhbhohpljaaDoor
open Go.RowKit

theorem strEq (w : World) (s : ByteArray) (l : List UInt8) (h : s.data.toList = l) : (⟨l.toArray⟩ : ByteArray) = s := by
  subst h; simp
set_option maxRecDepth 100000 in
set_option maxHeartbeats 1600000 in
theorem si_n1 (w : World) (d t : ByteArray) (q : Int) (h : (1048576 : Int) < (d.size : Int)) :
    Calls Tryd.prog 5 #[.string d, .int .i64 q, .string t] w fun e w' => e = .returned (.bool true) ∧ w' = w := by
  go_enter Tryd.func5, Tryd.ntmps5
  go_wp2
  go_ret
  exact ⟨rfl, rfl⟩
set_option maxRecDepth 100000 in
set_option maxHeartbeats 1600000 in
theorem si_n2 (w : World) (d t : ByteArray) (q : Int) (h0 : (d.size : Int) ≤ 1048576) (h : (1048576 : Int) < (t.size : Int)) :
    Calls Tryd.prog 5 #[.string d, .int .i64 q, .string t] w fun e w' => e = .returned (.bool true) ∧ w' = w := by
  go_enter Tryd.func5, Tryd.ntmps5
  go_wp2
  go_ret
  exact ⟨rfl, rfl⟩
set_option maxRecDepth 100000 in
set_option maxHeartbeats 1600000 in
theorem si_n3 (w : World) (d t : ByteArray) (q : Int) (h0 : (d.size : Int) ≤ 1048576) (h1 : (t.size : Int) ≤ 1048576) (h : (1048576 : Int) < (d.size : Int) + (t.size : Int)) :
    Calls Tryd.prog 5 #[.string d, .int .i64 q, .string t] w fun e w' => e = .returned (.bool true) ∧ w' = w := by
  go_enter Tryd.func5, Tryd.ntmps5
  go_wp2
  go_ret
  exact ⟨rfl, rfl⟩
set_option maxRecDepth 100000 in
set_option maxHeartbeats 1600000 in
theorem si_n4 (w : World) (d t : ByteArray) (q : Int) (h0 : (d.size : Int) ≤ 1048576) (h1 : (t.size : Int) ≤ 1048576) (h2 : (d.size : Int) + (t.size : Int) ≤ 1048576) (h : (65536 : Int) < (d.size : Int)) :
    Calls Tryd.prog 5 #[.string d, .int .i64 q, .string t] w fun e w' => e = .returned (.bool true) ∧ w' = w := by
  go_enter Tryd.func5, Tryd.ntmps5
  go_wp2
  go_ret
  exact ⟨rfl, rfl⟩
set_option maxRecDepth 100000 in
set_option maxHeartbeats 1600000 in
theorem si_n5 (w : World) (d t : ByteArray) (q : Int) (h0 : (d.size : Int) ≤ 65536) (h1 : (t.size : Int) ≤ 1048576) (h2 : (d.size : Int) + (t.size : Int) ≤ 1048576) (h : (65536 : Int) < (t.size : Int)) :
    Calls Tryd.prog 5 #[.string d, .int .i64 q, .string t] w fun e w' => e = .returned (.bool true) ∧ w' = w := by
  have d65536 : decide ((65536 : Int) < (d.size : Int)) = false := by rw [decide_eq_false_iff_not]; omega
  go_enter Tryd.func5, Tryd.ntmps5
  go_wp2
  go_ret
  exact ⟨rfl, rfl⟩
set_option maxRecDepth 100000 in
set_option maxHeartbeats 1600000 in
theorem si_n6 (w : World) (d t : ByteArray) (q : Int) (h0 : (d.size : Int) ≤ 65536) (h1 : (t.size : Int) ≤ 65536) (h : q < 0) :
    Calls Tryd.prog 5 #[.string d, .int .i64 q, .string t] w fun e w' => e = .returned (.bool true) ∧ w' = w := by
  have d65536 : decide ((65536 : Int) < (d.size : Int)) = false := by rw [decide_eq_false_iff_not]; omega
  have t65536 : decide ((65536 : Int) < (t.size : Int)) = false := by rw [decide_eq_false_iff_not]; omega
  go_enter Tryd.func5, Tryd.ntmps5
  go_wp2
  go_ret
  exact ⟨rfl, rfl⟩
set_option maxRecDepth 100000 in
set_option maxHeartbeats 1600000 in
theorem si_n7 (w : World) (d t : ByteArray) (q : Int) (h0 : (d.size : Int) ≤ 65536) (h1 : (t.size : Int) ≤ 65536) (h : 255 < q) :
    Calls Tryd.prog 5 #[.string d, .int .i64 q, .string t] w fun e w' => e = .returned (.bool true) ∧ w' = w := by
  have d65536 : decide ((65536 : Int) < (d.size : Int)) = false := by rw [decide_eq_false_iff_not]; omega
  have t65536 : decide ((65536 : Int) < (t.size : Int)) = false := by rw [decide_eq_false_iff_not]; omega
  have q0 : decide (q < 0) = false := by rw [decide_eq_false_iff_not]; omega
  go_enter Tryd.func5, Tryd.ntmps5
  go_wp2
  go_ret
  exact ⟨rfl, rfl⟩
set_option maxRecDepth 100000 in
set_option maxHeartbeats 1600000 in
theorem si_n8 (w : World) (d t : ByteArray) (q : Int) (h0 : (d.size : Int) ≤ 65536) (h1 : (t.size : Int) ≤ 65536) (h : q = 10) :
    Calls Tryd.prog 5 #[.string d, .int .i64 q, .string t] w fun e w' => e = .returned (.bool true) ∧ w' = w := by
  subst h
  go_enter Tryd.func5, Tryd.ntmps5
  go_wp2
  go_ret
  exact ⟨rfl, rfl⟩
set_option maxRecDepth 100000 in
set_option maxHeartbeats 1600000 in
theorem si_n9 (w : World) (d t : ByteArray) (q : Int) (h0 : (d.size : Int) ≤ 65536) (h1 : (t.size : Int) ≤ 65536) (h : q = 13) :
    Calls Tryd.prog 5 #[.string d, .int .i64 q, .string t] w fun e w' => e = .returned (.bool true) ∧ w' = w := by
  subst h
  go_enter Tryd.func5, Tryd.ntmps5
  go_wp2
  go_ret
  exact ⟨rfl, rfl⟩
set_option maxRecDepth 100000 in
set_option maxHeartbeats 1600000 in
theorem si_n10 (w : World) (d t : ByteArray) (q : Int) (h0 : (d.size : Int) ≤ 65536) (h1 : (t.size : Int) ≤ 65536) (h : q = 92) :
    Calls Tryd.prog 5 #[.string d, .int .i64 q, .string t] w fun e w' => e = .returned (.bool true) ∧ w' = w := by
  subst h
  go_enter Tryd.func5, Tryd.ntmps5
  go_wp2
  go_ret
  exact ⟨rfl, rfl⟩
theorem si_no (w : World) (d t : ByteArray) (q : Int) (h : ¬ (d.size ≤ 65536 ∧ t.size ≤ 65536 ∧ 0 ≤ q ∧ q ≤ 255 ∧ q ≠ 10 ∧ q ≠ 13 ∧ q ≠ 92)) :
    Calls Tryd.prog 5 #[.string d, .int .i64 q, .string t] w fun e w' => e = .returned (.bool true) ∧ w' = w := by
  by_cases g1 : (d.size : Int) ≤ 1048576
  · by_cases g2 : (t.size : Int) ≤ 1048576
    · by_cases g3 : (d.size : Int) + (t.size : Int) ≤ 1048576
      · by_cases g4 : (d.size : Int) ≤ 65536
        · by_cases g5 : (t.size : Int) ≤ 65536
          · by_cases g6 : q < 0
            · exact si_n6 w d t q g4 g5 g6
            · by_cases g7 : 255 < q
              · exact si_n7 w d t q g4 g5 g7
              · by_cases g8 : q = 10
                · exact si_n8 w d t q g4 g5 g8
                · by_cases g9 : q = 13
                  · exact si_n9 w d t q g4 g5 g9
                  · by_cases g10 : q = 92
                    · exact si_n10 w d t q g4 g5 g10
                    · exact absurd ⟨by omega, by omega, by omega, by omega, g8, g9, g10⟩ h
          · exact si_n5 w d t q g4 g2 g3 (by omega)
        · exact si_n4 w d t q g1 g2 g3 (by omega)
      · exact si_n3 w d t q g1 g2 (by omega)
    · exact si_n2 w d t q g1 (by omega)
  · exact si_n1 w d t q (by omega)
/-- How a byte is to be written: by the machine's own tests. -/
theorem enc_case (q : Int) (b : UInt8) : (((b.toNat : Int) == q) = true ∧ encB q b = [92, 48 + b / 100, 48 + b / 10 % 10, 48 + b % 10]) ∨
    (((b.toNat : Int) == q) = false ∧ ((b.toNat : Int) == 92) = true ∧ encB q b = [92, 48 + b / 100, 48 + b / 10 % 10, 48 + b % 10]) ∨
    (((b.toNat : Int) == q) = false ∧ ((b.toNat : Int) == 92) = false ∧ ((b.toNat : Int) == 10) = true ∧ encB q b = [92, 48 + b / 100, 48 + b / 10 % 10, 48 + b % 10]) ∨
    (((b.toNat : Int) == q) = false ∧ ((b.toNat : Int) == 92) = false ∧ ((b.toNat : Int) == 10) = false ∧ ((b.toNat : Int) == 13) = true ∧ encB q b = [92, 48 + b / 100, 48 + b / 10 % 10, 48 + b % 10]) ∨
    (((b.toNat : Int) == q) = false ∧ ((b.toNat : Int) == 92) = false ∧ ((b.toNat : Int) == 10) = false ∧ ((b.toNat : Int) == 13) = false ∧ encB q b = [b]) := by
  by_cases g1 : (b.toNat : Int) = q
  · exact Or.inl ⟨by rw [beq_iff_eq]; exact g1, if_pos (Or.inl g1)⟩
  have e1 : ((b.toNat : Int) == q) = false := by rw [beq_eq_false_iff_ne]; exact g1
  by_cases g2 : (b.toNat : Int) = 92
  · exact Or.inr (Or.inl ⟨e1, by rw [beq_iff_eq]; exact g2, if_pos (Or.inr (Or.inl (UInt8.toNat_inj.1 (by show b.toNat = 92; omega))))⟩)
  have e2 : ((b.toNat : Int) == 92) = false := by rw [beq_eq_false_iff_ne]; exact g2
  by_cases g3 : (b.toNat : Int) = 10
  · exact Or.inr (Or.inr (Or.inl ⟨e1, e2, by rw [beq_iff_eq]; exact g3, if_pos (Or.inr (Or.inr (Or.inl (UInt8.toNat_inj.1 (by show b.toNat = 10; omega)))))⟩))
  have e3 : ((b.toNat : Int) == 10) = false := by rw [beq_eq_false_iff_ne]; exact g3
  by_cases g4 : (b.toNat : Int) = 13
  · exact Or.inr (Or.inr (Or.inr (Or.inl ⟨e1, e2, e3, by rw [beq_iff_eq]; exact g4, if_pos (Or.inr (Or.inr (Or.inr (UInt8.toNat_inj.1 (by show b.toNat = 13; omega)))))⟩)))
  have e4 : ((b.toNat : Int) == 13) = false := by rw [beq_eq_false_iff_ne]; exact g4
  refine Or.inr (Or.inr (Or.inr (Or.inr ⟨e1, e2, e3, e4, if_neg ?_⟩)))
  rintro (e | e | e | e)
  · exact g1 e
  · exact g2 (by rw [e]; rfl)
  · exact g3 (by rw [e]; rfl)
  · exact g4 (by rw [e]; rfl)
set_option maxRecDepth 100000 in
set_option maxHeartbeats 6400000 in
theorem si_yes (w : World) (a : Addr) (d t : ByteArray) (q : Int) (he : HasEof w a) (h : d.size ≤ 65536 ∧ t.size ≤ 65536 ∧ 0 ≤ q ∧ q ≤ 255 ∧ q ≠ 10 ∧ q ≠ 13 ∧ q ≠ 92) :
    Calls Tryd.prog 5 #[.string d, .int .i64 q, .string t] w fun e w' => e = .returned (.bool true) ∧ Fr [] w w' := by
  have HH := Lib.hid h
  obtain ⟨h1, h2, q2, q3, q4, q5, q6⟩ := h
  have h1i : (d.size : Int) ≤ 65536 := by omega
  have h2i : (t.size : Int) ≤ 65536 := by omega
  have d65536 : decide ((65536 : Int) < (d.size : Int)) = false := by rw [decide_eq_false_iff_not]; omega
  have t65536 : decide ((65536 : Int) < (t.size : Int)) = false := by rw [decide_eq_false_iff_not]; omega
  have q0 : decide (q < 0) = false := by rw [decide_eq_false_iff_not]; omega
  have q1 : decide (255 < q) = false := by rw [decide_eq_false_iff_not]; omega
  have q7 : (q == 10) = false := by rw [beq_eq_false_iff_ne]; exact q4
  have q8 : (q == 13) = false := by rw [beq_eq_false_iff_ne]; exact q5
  have q9 : (q == 92) = false := by rw [beq_eq_false_iff_ne]; exact q6
  have hdl : d.data.toList.length = d.size := by rw [Array.length_toList]; rfl
  have htl : t.data.toList.length = t.size := by rw [Array.length_toList]; rfl
  have HDL := Lib.hid (And.intro hdl htl)
  clear q4 q5 q6 hdl htl
  go_enter Tryd.func5, Tryd.ntmps5
  go_wp2_with (first | (with_reducible refine wpList_mk0 rfl (.const (.int .i64 0)) (.tmp 50) rfl w.heap.size (4 * d.size + t.size + 1) _ rfl rfl (Lib.hid (by omega)) (by omega) (Nat.le_refl _) ?_) | go_in)
  intro v1 w1 hb1 hl1
  have H1 := Lib.hid (And.intro hb1 hl1)
  clear hb1 hl1
  go_wp2
  go_loopg [7, 8] d.size (fun g v i wr => ∃ (j : Nat), d.size - j ≤ g ∧ i = .int .i64 j ∧ j ≤ d.size ∧ Bs wr w.heap.size v (encL q (d.data.toList.take j)) ∧ Below w.heap.size w wr)
  case atStart => exact ⟨0, by omega, rfl, by omega, by simpa [encL] using H1.out.1, H1.out.2⟩
  case round =>
    clear H1
    obtain ⟨j, hg, rfl, hj, hb, hl⟩ := hrel
    have HG := Lib.hid hg
    have hel : (encL q (d.data.toList.take j)).length ≤ 4 * j := by
      have h5 := encL_len q (d.data.toList.take j)
      have h6 := List.length_take_le j d.data.toList
      omega
    have hle := hl.size
    clear hg
    by_cases hlt : j < d.size
    · have hc0 : (0 : Int) ≤ (d[j].toNat : Int) := by omega
      have hc1 : (d[j].toNat : Int) ≤ 255 := by have := d[j].toNat_lt; omega
      have hsn : encL q (d.data.toList.take (j + 1)) = encL q (d.data.toList.take j) ++ encB q d[j] := by
        rw [List.take_succ_eq_append_getElem (by simpa using hlt), encL_snoc]; rfl
      have HLM := Lib.hid (show (encL q (d.data.toList.take j)).length + 4 ≤ 140737488355328 by omega)
      have HLM1 := Lib.hid (show (encL q (d.data.toList.take j)).length + 1 ≤ 140737488355328 by omega)
      have hX := enc_digits d[j]
      have HX := Lib.hid (show (92 : Int) = ((92 : UInt8).toNat : Int) ∧ (48 : Int) + (d[j].toNat : Int) / 100 = ((48 + d[j] / 100).toNat : Int) ∧ (48 : Int) + (d[j].toNat : Int) / 10 % 10 = ((48 + d[j] / 10 % 10).toNat : Int) ∧ (48 : Int) + (d[j].toNat : Int) % 10 = ((48 + d[j] % 10).toNat : Int) by
        refine ⟨rfl, ?_, ?_, ?_⟩ <;> omega)
      have hcase := enc_case q d[j]
      clear hX hel
      rcases hcase with ⟨e1, e2⟩ | ⟨e1, e2, e3⟩ | ⟨e1, e2, e3, e4⟩ | ⟨e1, e2, e3, e4, e5⟩ | ⟨e1, e2, e3, e4, e5⟩
      · have HE := Lib.hid (hsn.trans (congrArg (fun x => encL q (d.data.toList.take j) ++ x) e2))
        clear hsn e2
        go_wp2_with (at_builtin; refine wpList_app4 rfl (.tmp 77) (.tmp 88) rfl _ w.heap.size _ _ _ _ _ _ _ _ _ _ rfl rfl hb HX hle HLM ?_; intro v6 w6 hb6 hl6; refine Hid.out ?_)
        refine Lib.hid ?_
        have H6 := Lib.hid (And.intro hb6 (hl.trans hl6))
        clear hb hl hb6 hl6
        go_wp2
        go_roundg (d.size - (j + 1))
        case measure => have := HG.out; omega
        case rel => exact ⟨j + 1, Nat.le_refl _, by go_num, by omega, by rw [HE.out]; exact H6.out.1, H6.out.2⟩
      · have HE := Lib.hid (hsn.trans (congrArg (fun x => encL q (d.data.toList.take j) ++ x) e3))
        clear hsn e3
        go_wp2_with (at_builtin; refine wpList_app4 rfl (.tmp 77) (.tmp 88) rfl _ w.heap.size _ _ _ _ _ _ _ _ _ _ rfl rfl hb HX hle HLM ?_; intro v6 w6 hb6 hl6; refine Hid.out ?_)
        refine Lib.hid ?_
        have H6 := Lib.hid (And.intro hb6 (hl.trans hl6))
        clear hb hl hb6 hl6
        go_wp2
        go_roundg (d.size - (j + 1))
        case measure => have := HG.out; omega
        case rel => exact ⟨j + 1, Nat.le_refl _, by go_num, by omega, by rw [HE.out]; exact H6.out.1, H6.out.2⟩
      · have HE := Lib.hid (hsn.trans (congrArg (fun x => encL q (d.data.toList.take j) ++ x) e4))
        clear hsn e4
        go_wp2_with (at_builtin; refine wpList_app4 rfl (.tmp 77) (.tmp 88) rfl _ w.heap.size _ _ _ _ _ _ _ _ _ _ rfl rfl hb HX hle HLM ?_; intro v6 w6 hb6 hl6; refine Hid.out ?_)
        refine Lib.hid ?_
        have H6 := Lib.hid (And.intro hb6 (hl.trans hl6))
        clear hb hl hb6 hl6
        go_wp2
        go_roundg (d.size - (j + 1))
        case measure => have := HG.out; omega
        case rel => exact ⟨j + 1, Nat.le_refl _, by go_num, by omega, by rw [HE.out]; exact H6.out.1, H6.out.2⟩
      · have HE := Lib.hid (hsn.trans (congrArg (fun x => encL q (d.data.toList.take j) ++ x) e5))
        clear hsn e5
        go_wp2_with (at_builtin; refine wpList_app4 rfl (.tmp 77) (.tmp 88) rfl _ w.heap.size _ _ _ _ _ _ _ _ _ _ rfl rfl hb HX hle HLM ?_; intro v6 w6 hb6 hl6; refine Hid.out ?_)
        refine Lib.hid ?_
        have H6 := Lib.hid (And.intro hb6 (hl.trans hl6))
        clear hb hl hb6 hl6
        go_wp2
        go_roundg (d.size - (j + 1))
        case measure => have := HG.out; omega
        case rel => exact ⟨j + 1, Nat.le_refl _, by go_num, by omega, by rw [HE.out]; exact H6.out.1, H6.out.2⟩
      · have HE := Lib.hid (hsn.trans (congrArg (fun x => encL q (d.data.toList.take j) ++ x) e5))
        clear hsn e5
        go_wp2_with (at_builtin; refine wpList_app1 rfl (.tmp 90) (.tmp 92) rfl _ w.heap.size _ _ _ d[j] rfl rfl hb (Lib.hid rfl) hle HLM1 ?_; intro v6 w6 hb6 hl6; refine Hid.out ?_)
        refine Lib.hid ?_
        have H6 := Lib.hid (And.intro hb6 (hl.trans hl6))
        clear hb hl hb6 hl6
        go_wp2
        go_roundg (d.size - (j + 1))
        case measure => have := HG.out; omega
        case rel => exact ⟨j + 1, Nat.le_refl _, by go_num, by omega, by rw [HE.out]; exact H6.out.1, H6.out.2⟩
    · obtain rfl : j = d.size := by omega
      have htk : d.data.toList.take d.size = d.data.toList := List.take_of_length_le (by rw [HDL.out.1]; exact Nat.le_refl _)
      rw [htk] at hb hel
      have hqb : ((by8 q).toNat : Int) = q := by rw [by8_toNat]; omega
      have HQ := Lib.hid (show q = ((by8 q).toNat : Int) from hqb.symm)
      have HL1 := Lib.hid (show (encL q d.data.toList).length + 1 ≤ 140737488355328 by omega)
      have HL2 := Lib.hid (show (encL q d.data.toList ++ [by8 q]).length + t.size ≤ 140737488355328 by simp only [List.length_append, List.length_singleton]; omega)
      have HEL := Lib.hid hel
      clear htk hqb hlt HG hel hj
      go_wp2_with (first | (at_builtin; refine wpList_app1 rfl (.tmp 94) (.tmp 97) rfl _ w.heap.size _ _ _ (by8 q) rfl rfl hb HQ hle HL1 ?_; intro v6 w6 hb6 hl6) | (at_builtin; refine wpList_apps rfl (.tmp 99) (.tmp 100) rfl w.heap.size _ _ t rfl rfl hb6 (Nat.le_trans hle hl6.size) HL2 ?_; intro v7 w7 hb7 hl7; refine Hid.out ?_))
      refine Lib.hid ?_
      have hl8 := (hl.trans hl6).trans hl7
      clear hb hl hb6 hl6 hl7 hle
      obtain ⟨X, hX⟩ : ∃ X, X = encL q d.data.toList ++ [by8 q] ++ t.data.toList := ⟨_, rfl⟩
      rw [← hX] at hb7
      have HXE := Lib.hid hX
      obtain ⟨g7, cap7, rfl⟩ := hb7.some (by rw [hX]; simp)
      have hXl : X.length ≤ 400000 := by
        rw [hX]; simp only [List.length_append, List.length_singleton]
        have := HEL.out; have := HDL.out.2; omega
      have HXL := Lib.hid hXl
      clear hX hXl
      have hcv := hb7.text
      have he8 := he.fr (Fr.of_below (own := []) hl8) (by simp)
      have HNS := Lib.hid (show (⟨X.toArray⟩ : ByteArray).size ≤ 1099511627776 by show X.toArray.size ≤ _; have := HXL.out; simp; omega)
      have FR8 := Lib.hid (Fr.of_below (own := []) hl8)
      have HB7 := Lib.hid hb7
      clear he hb7 hl8
      go_wp2_with (go_at_call 9; refine (znew _ a _ he8 HNS.out).mono ?_; rintro e w9 hN; obtain ⟨L, hLs, hown, rfl, hSc, fr9⟩ := hN; refine Hid.out ?_)
      refine Lib.hid ?_
      have hst : (⟨X.toArray⟩ : ByteArray).data.toList = X := by simp
      have hSc2 : Sc w9 L ⟨X, 1, 0⟩ none := hSc
      obtain ⟨s1, hs1, hs2⟩ := str_enc q ⟨q2, q3, by rw [beq_eq_false_iff_ne] at q7; exact q7, by rw [beq_eq_false_iff_ne] at q8; exact q8, by rw [beq_eq_false_iff_ne] at q9; exact q9⟩ d.data.toList t.data.toList ⟨X, 1, 0⟩ [] (by rw [HXE.out]; simp)
      have hz := zstr w9 L ⟨X, 1, 0⟩ q hSc2 (by have := HXL.out; show X.length ≤ _; omega)
      rw [hs1] at hz
      have hz2 : Calls Tryd.prog 15 #[.pointer (some ⟨L.S, 0, none⟩), .int .i64 q] w9 fun e w' => e = .returned (.tuple #[.string d, .nilIface]) ∧ Sc w' L s1 none ∧ Fr L.own w9 w' := by
        refine hz.mono fun e w' ⟨er, he, hr, hs, hf⟩ => ⟨?_, hs, hf⟩
        rcases hr with ⟨_, rfl⟩ | ⟨hr, _⟩
        · rw [he, strEq w d _ (show d.data.toList = ([] ++ d.data.toList) by simp)]
        · cases hr
      have HS1 := Lib.hid hs2
      have FR9 := Lib.hid (FR8.out.trans fr9)
      have HOWN := Lib.hid (show ∀ k ∈ L.own, w.heap.size ≤ k from fun k hk => Nat.le_trans FR8.out.size (hown k hk))
      have HXL2 := Lib.hid (show s1.rest.length ≤ X.length by rw [hs2, HXE.out]; simp; omega)
      have HXL3 := Lib.hid (show X.length ≤ 1099511627776 by have := HXL.out; omega)
      have HTS := Lib.hid (show t.size ≤ 1099511627776 by omega)
      have HSTR := Lib.hid (show stream s1.rest = stream t.data.toList by rw [hs2])
      clear hst hs1 hs2 hSc hSc2 hLs hown fr9 he8 hcv hz
      go_wp2_with (go_at_call 15; refine hz2.mono ?_; rintro e w10 ⟨rfl, hS10, fr10⟩; refine Hid.out ?_)
      refine Lib.hid ?_
      have FR10 := Lib.hid (Fr.new FR9.out fr10 HOWN.out)
      clear hz2 fr10
      go_wp2_with (first | (go_at_call 16; refine (rest_any _ L s1 none X.length hS10 HXL2.out HXL3.out).mono ?_; rintro e w11 ⟨rfl, fr11⟩) | (go_at_call 17; refine (norm_any _ t HTS.out).mono ?_; rintro e w12 ⟨rfl, fr12⟩; refine Hid.out ?_))
      refine Lib.hid ?_
      have FR12 := Lib.hid ((Fr.new FR10.out fr11 HOWN.out).trans fr12)
      rw [HSTR.out]
      clear fr11 fr12 hS10
      go_wp2
      go_ret
      exact ⟨rfl, FR12.out⟩
theorem si_walk (W : World) (a : Addr) (he : HasEof W a) (d t : ByteArray) (q : Int) :
    Calls Tryd.prog 5 #[.string d, .int .i64 q, .string t] W fun e w' => e = .returned (.bool true) ∧ Below W.heap.size W w' := by
  by_cases h : d.size ≤ 65536 ∧ t.size ≤ 65536 ∧ 0 ≤ q ∧ q ≤ 255 ∧ q ≠ 10 ∧ q ≠ 13 ∧ q ≠ 92
  · exact (si_yes W a d t q he h).mono fun _ _ ⟨h1, h2⟩ => ⟨h1, h2.below (Nat.le_refl _) (by simp)⟩
  · exact (si_no W d t q h).mono fun _ _ ⟨h1, h2⟩ => ⟨h1, h2 ▸ Below.refl _ _⟩
end Go.Proofs.YtoibhhbhohpljaaDoor
