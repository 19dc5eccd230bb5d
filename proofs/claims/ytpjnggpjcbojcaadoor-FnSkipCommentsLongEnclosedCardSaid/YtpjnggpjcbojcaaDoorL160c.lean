/- The law FnSkipCommentsLongEnclosed, walked. -/
import Derived.Test.YtpjnggpjcbojcaaDoorZr160
import Derived.Test.YtpjnggpjcbojcaaDoorIc160
import Derived.Test.YtpjnggpjcbojcaaDoorP160
namespace Go.Proofs.YtpjnggpjcbojcaaDoor
open Go.RowKit

set_option maxRecDepth 100000 in
set_option maxHeartbeats 1600000 in
theorem sk_n1 (w : World) (q : Int) (b t : ByteArray) (h : (1048576 : Int) < (b.size : Int)) :
    Calls Tryd.prog 3 #[.int .i64 q, .string b, .string t] w fun e w' => e = .returned (.bool true) ∧ w' = w := by
  go_enter Tryd.func3, Tryd.ntmps3
  go_wp2
  go_ret
  exact ⟨rfl, rfl⟩
set_option maxRecDepth 100000 in
set_option maxHeartbeats 1600000 in
theorem sk_n2 (w : World) (q : Int) (b t : ByteArray) (h0 : (b.size : Int) ≤ 1048576) (h : (1048576 : Int) < (t.size : Int)) :
    Calls Tryd.prog 3 #[.int .i64 q, .string b, .string t] w fun e w' => e = .returned (.bool true) ∧ w' = w := by
  go_enter Tryd.func3, Tryd.ntmps3
  go_wp2
  go_ret
  exact ⟨rfl, rfl⟩
set_option maxRecDepth 100000 in
set_option maxHeartbeats 1600000 in
theorem sk_n3 (w : World) (q : Int) (b t : ByteArray) (h0 : (b.size : Int) ≤ 1048576) (h1 : (t.size : Int) ≤ 1048576) (h : (1048576 : Int) < (b.size : Int) + (t.size : Int)) :
    Calls Tryd.prog 3 #[.int .i64 q, .string b, .string t] w fun e w' => e = .returned (.bool true) ∧ w' = w := by
  go_enter Tryd.func3, Tryd.ntmps3
  go_wp2
  go_ret
  exact ⟨rfl, rfl⟩
set_option maxRecDepth 100000 in
set_option maxHeartbeats 1600000 in
theorem sk_n4 (w : World) (q : Int) (b t : ByteArray) (h0 : (b.size : Int) ≤ 1048576) (h1 : (t.size : Int) ≤ 1048576) (h2 : (b.size : Int) + (t.size : Int) ≤ 1048576) (h : (524288 : Int) < (b.size : Int)) :
    Calls Tryd.prog 3 #[.int .i64 q, .string b, .string t] w fun e w' => e = .returned (.bool true) ∧ w' = w := by
  go_enter Tryd.func3, Tryd.ntmps3
  go_wp2
  go_ret
  exact ⟨rfl, rfl⟩
set_option maxRecDepth 100000 in
set_option maxHeartbeats 1600000 in
theorem sk_n5 (w : World) (q : Int) (b t : ByteArray) (h0 : (b.size : Int) ≤ 524288) (h1 : (t.size : Int) ≤ 1048576) (h2 : (b.size : Int) + (t.size : Int) ≤ 1048576) (h : (524288 : Int) < (t.size : Int)) :
    Calls Tryd.prog 3 #[.int .i64 q, .string b, .string t] w fun e w' => e = .returned (.bool true) ∧ w' = w := by
  have d1 : decide ((524288 : Int) < (b.size : Int)) = false := by rw [decide_eq_false_iff_not]; omega
  go_enter Tryd.func3, Tryd.ntmps3
  go_wp2
  go_ret
  exact ⟨rfl, rfl⟩
set_option maxRecDepth 100000 in
set_option maxHeartbeats 1600000 in
theorem sk_n6 (w : World) (q : Int) (b t : ByteArray) (h0 : (b.size : Int) ≤ 524288) (h1 : (t.size : Int) ≤ 524288) (h : q < 0) :
    Calls Tryd.prog 3 #[.int .i64 q, .string b, .string t] w fun e w' => e = .returned (.bool true) ∧ w' = w := by
  have d1 : decide ((524288 : Int) < (b.size : Int)) = false := by rw [decide_eq_false_iff_not]; omega
  have d2 : decide ((524288 : Int) < (t.size : Int)) = false := by rw [decide_eq_false_iff_not]; omega
  go_enter Tryd.func3, Tryd.ntmps3
  go_wp2
  go_ret
  exact ⟨rfl, rfl⟩
set_option maxRecDepth 100000 in
set_option maxHeartbeats 1600000 in
theorem sk_n7 (w : World) (q : Int) (b t : ByteArray) (h0 : (b.size : Int) ≤ 524288) (h1 : (t.size : Int) ≤ 524288) (h : 65536 < q) :
    Calls Tryd.prog 3 #[.int .i64 q, .string b, .string t] w fun e w' => e = .returned (.bool true) ∧ w' = w := by
  have d1 : decide ((524288 : Int) < (b.size : Int)) = false := by rw [decide_eq_false_iff_not]; omega
  have d2 : decide ((524288 : Int) < (t.size : Int)) = false := by rw [decide_eq_false_iff_not]; omega
  have d3 : decide (q < 0) = false := by rw [decide_eq_false_iff_not]; omega
  go_enter Tryd.func3, Tryd.ntmps3
  go_wp2
  go_ret
  exact ⟨rfl, rfl⟩
theorem sk_no (w : World) (q : Int) (b t : ByteArray) (h : ¬ ((b.size : Int) ≤ 524288 ∧ (t.size : Int) ≤ 524288 ∧ 0 ≤ q ∧ q ≤ 65536)) :
    Calls Tryd.prog 3 #[.int .i64 q, .string b, .string t] w fun e w' => e = .returned (.bool true) ∧ w' = w := by
  by_cases g1 : (b.size : Int) ≤ 1048576
  · by_cases g2 : (t.size : Int) ≤ 1048576
    · by_cases g3 : (b.size : Int) + (t.size : Int) ≤ 1048576
      · by_cases g4 : (b.size : Int) ≤ 524288
        · by_cases g5 : (t.size : Int) ≤ 524288
          · by_cases g6 : q < 0
            · exact sk_n6 w q b t g4 g5 g6
            · by_cases g7 : 65536 < q
              · exact sk_n7 w q b t g4 g5 g7
              · exact absurd ⟨g4, g5, by omega, by omega⟩ h
          · exact sk_n5 w q b t g4 g2 g3 (by omega)
        · exact sk_n4 w q b t g1 g2 g3 (by omega)
      · exact sk_n3 w q b t g1 g2 (by omega)
    · exact sk_n2 w q b t g1 (by omega)
  · exact sk_n1 w q b t (by omega)

set_option maxRecDepth 100000 in
set_option maxHeartbeats 6400000 in
theorem sk_yes (w : World) (a : Addr) (k : Nat) (b t : ByteArray) (he : HasEof w a) (h1 : (b.size : Int) ≤ 524288) (h2 : (t.size : Int) ≤ 524288) (h3 : k ≤ 65536) :
    Calls Tryd.prog 3 #[.int .i64 k, .string b, .string t] w fun e w' => e = .returned (.bool true) ∧ Fr [] w w' := by
  have d1 : decide ((524288 : Int) < (b.size : Int)) = false := by rw [decide_eq_false_iff_not]; omega
  have d2 : decide ((524288 : Int) < (t.size : Int)) = false := by rw [decide_eq_false_iff_not]; omega
  have d3 : decide ((k : Int) < 0) = false := by rw [decide_eq_false_iff_not]; omega
  have d4 : decide ((65536 : Int) < (k : Int)) = false := by rw [decide_eq_false_iff_not]; omega
  have hki : (k : Int) ≤ 65536 := by omega
  have hbl : b.data.toList.length = b.size := by rw [Array.length_toList]; rfl
  have htl : t.data.toList.length = t.size := by rw [Array.length_toList]; rfl
  obtain ⟨X, hX⟩ : ∃ X : ByteArray, X = ⟨(longText k b.data.toList t.data.toList).toArray⟩ := ⟨_, rfl⟩
  have hXd : X.data.toList = longTextP k b.data.toList t.data.toList := by rw [hX]; rfl
  have hXs : X.size = 2 * k + 4 + b.size + t.size := by
    rw [show X.size = X.data.toList.length by rw [Array.length_toList]; rfl, hXd]
    simp [longTextP, hbl, htl]; omega
  have hlc := fun wz : World => lc_any wz k b t h3 (by omega) (by omega)
  rw [← hX] at hlc
  have hic := fun wz : World => ic_any wz X (k + 2) k (by omega) (by omega) (by omega)
  rw [hXd] at hic
  have e2 : ((k + 2 : Nat) : Int) = (k : Int) + 2 := by omega
  rw [e2] at hic
  have henc := enclosed k b.data.toList t.data.toList
  obtain ⟨J, hJ⟩ : ∃ J, J = findI k (longTextP k b.data.toList t.data.toList) (k + 2) := ⟨_, rfl⟩
  rw [← hJ] at hic henc
  have HXS := Lib.hid (show X.size ≤ 1099511627776 by omega)
  have HLC := Lib.hid hlc
  have HIC := Lib.hid hic
  by_cases hq : J = (k : Int) + 2 + (b.size : Int)
  · have hb : (J != (k : Int) + 2 + (b.size : Int)) = false := by simp [hq]
    have hen := henc (by rw [hq, hbl]; omega)
    have hcm : ∀ (wz : World) (L : Loc), Sc wz L ⟨X.data.toList, 1, 0⟩ none → Calls Tryd.prog 11 #[.pointer (some ⟨L.S, 0, none⟩), .int .i64 45] wz
        fun e w' => e = .returned .nilIface ∧ (∃ s2 : St, s2.rest = t.data.toList ∧ Sc w' L s2 none) ∧ Fr L.own wz w' := fun wz L hS => by
      have h := zcom wz L _ 45 hS (by show X.data.toList.length ≤ _; rw [show X.data.toList.length = X.size by rw [Array.length_toList]; rfl]; omega)
      rw [hXd] at h
      refine h.mono fun e w' ⟨er, he, hr, hs, f⟩ => ?_
      rcases hr with ⟨_, rfl⟩ | ⟨hr, _⟩
      · exact ⟨he, ⟨_, hen.2, hs⟩, f⟩
      · rw [hen.1] at hr; cases hr
    have hrs : ∀ (wz : World) (L : Loc) (s2 : St), s2.rest = t.data.toList → Sc wz L s2 none → Calls Tryd.prog 12 #[.pointer (some ⟨L.S, 0, none⟩)] wz fun e w' => e = .returned (.string t) ∧ Fr L.own wz w' := fun wz L s2 hs2 hS => by
      have h := zrest wz L s2 none hS (by rw [hs2, htl]; omega)
      rw [hs2] at h
      have e : (⟨t.data.toList.toArray⟩ : ByteArray) = t := by simp
      rw [e] at h; exact h
    have hTT : (t.toList == t.toList) = true := by rw [beq_iff_eq]
    have HCM := Lib.hid (And.intro hcm hrs)
    clear hlc hic henc hJ hX hXd hXs hbl htl hq hen hcm hrs e2
    go_enter Tryd.func3, Tryd.ntmps3
    go_wp2_with (first | (go_at_call 8; refine (HLC.out _).mono ?_; rintro e w1 ⟨rfl, f1⟩; refine Hid.out ?_) | go_in)
    refine Lib.hid ?_
    have F1 := Lib.hid f1
    have he1 := he.fr f1 (by simp)
    clear f1
    go_wp2_with (first | (go_at_call 9; refine (HIC.out _).mono ?_; rintro e w2 ⟨rfl, rfl⟩) | (go_at_call 10; refine (znew _ a _ he1 HXS.out).mono ?_; rintro e w3 hN; obtain ⟨L, hLs, hown, rfl, hSc, fr, he2⟩ := hN; refine Hid.out ?_))
    refine Lib.hid ?_
    have HOWN := Lib.hid (show ∀ x ∈ L.own, w.heap.size ≤ x from fun x hx => Nat.le_trans F1.out.size (hown x hx))
    have F3 := Lib.hid (F1.out.trans fr)
    clear hLs hown fr he1 he2 F1
    go_wp2_with (go_at_call 11; refine (HCM.out.1 _ L hSc).mono ?_; rintro e w4 ⟨rfl, ⟨s2, hs2, hS4⟩, f4⟩; refine Hid.out ?_)
    refine Lib.hid ?_
    have F4 := Lib.hid (Fr.new F3.out f4 HOWN.out)
    have HS2 := Lib.hid hs2
    clear hSc f4 F3 hs2
    go_wp2_with (go_at_call 12; refine (HCM.out.2 _ L s2 HS2.out hS4).mono ?_; rintro e w5 ⟨rfl, f5⟩; refine Hid.out ?_)
    refine Lib.hid ?_
    have F5 := Lib.hid (Fr.new F4.out f5 HOWN.out)
    clear hS4 f5
    go_wp2
    go_ret
    exact ⟨rfl, F5.out⟩
  · have hb : (J != (k : Int) + 2 + (b.size : Int)) = true := by rw [bne_iff_ne]; exact hq
    clear hlc hic henc hJ hX hXd hXs hbl htl hq e2
    go_enter Tryd.func3, Tryd.ntmps3
    go_wp2_with (first | (go_at_call 8; refine (HLC.out _).mono ?_; rintro e w1 ⟨rfl, f1⟩; refine Hid.out ?_) | go_in)
    refine Lib.hid ?_
    go_wp2_with (go_at_call 9; refine (HIC.out _).mono ?_; rintro e w2 ⟨rfl, rfl⟩)
    go_ret
    exact ⟨rfl, f1⟩
theorem sk_walk (W : World) (a : Addr) (he : HasEof W a) (q : Int) (b t : ByteArray) :
    Calls Tryd.prog 3 #[.int .i64 q, .string b, .string t] W fun e w' => e = .returned (.bool true) ∧ Below W.heap.size W w' := by
  by_cases h : (b.size : Int) ≤ 524288 ∧ (t.size : Int) ≤ 524288 ∧ 0 ≤ q ∧ q ≤ 65536
  · obtain ⟨k, rfl⟩ : ∃ k : Nat, q = (k : Int) := ⟨q.toNat, by omega⟩
    exact (sk_yes W a k b t he h.1 h.2.1 (by omega)).mono fun _ _ ⟨h1, h2⟩ => ⟨h1, h2.below (Nat.le_refl _) (by simp)⟩
  · exact (sk_no W q b t h).mono fun _ _ ⟨h1, h2⟩ => ⟨h1, h2 ▸ Below.refl _ _⟩
end Go.Proofs.YtpjnggpjcbojcaaDoor
