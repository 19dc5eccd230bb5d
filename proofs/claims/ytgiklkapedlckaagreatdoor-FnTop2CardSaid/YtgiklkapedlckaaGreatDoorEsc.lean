/- scanEscape, walked. -/
import Derived.Test.YtgiklkapedlckaaGreatDoorWr
import Derived.Test.YtgiklkapedlckaaGreatDoorBs
import Derived.Test.YtgiklkapedlckaaGreatDoorCls
import Derived.Test.YtgiklkapedlckaaGreatDoorP131
import Derived.Deep.LoopGhost
import Derived.Lib.AtoiErrMem
namespace Go.Proofs.YtgiklkapedlckaaGreatDoor
open Go.RowKit

def digL : Nat → Int → St → Int × St
  | 0, v, st => (v, st)
  | n + 1, v, st => if decI (hd st.rest) = true then digL n (v * 10 + (st.nextC - 48)) st.nextS else (v, st)
theorem esc_dig {st : St} (h : decI st.nextC = true) : esc st = (by8 (digL 2 (st.nextC - 48) st.nextS).1, (digL 2 (st.nextC - 48) st.nextS).2) := by
  unfold esc
  rw [if_pos h]
  by_cases h1 : decI (hd st.nextS.rest) = true
  · rw [if_pos h1]
    simp only [digL, dig1, if_pos h1]
  · rw [if_neg h1, digL, if_neg h1]
def dval (ds : List UInt8) : Int := ds.foldl (fun a d => a * 10 + ((d.toNat : Int) - 48)) 0
theorem dval_snoc (ds : List UInt8) (d : UInt8) : dval (ds ++ [d]) = dval ds * 10 + ((d.toNat : Int) - 48) := by simp [dval]
theorem dec_rng {d : UInt8} (h : onB decI d = true) : 48 ≤ d.toNat ∧ d.toNat ≤ 57 := by
  simp only [onB, decI, Bool.and_eq_true, decide_eq_true_eq] at h
  omega
theorem pm_step (M a : Nat) (c : UInt8) (r : List UInt8) (h : onB decI c = true) (h1 : a < 1844674407370955162) (h2 : a * 10 + (c.toNat - 48) ≤ M) : Lib.parseUintM M a (c :: r) = Lib.parseUintM M (a * 10 + (c.toNat - 48)) r := by
  have hc := dec_rng h
  rw [Lib.parseUintM, if_pos ⟨hc.1, hc.2⟩, if_neg (by omega), if_neg (by omega)]
theorem parse_pos (ds : List UInt8) (c : UInt8) (r : List UInt8) (hds : ds = c :: r) (hc : onB decI c = true) (u : Nat) (hu : u < 2147483648) (h : Lib.parseUintM 4294967295 0 ds = .ok u) : Lib.parseIntB 32 ds = .ok (u : Int) := by
  subst hds
  have hr := dec_rng hc
  have n43 : ¬ (c.toNat = 43 ∨ c.toNat = 45) := by omega
  have n45 : ¬ c.toNat = 45 := by omega
  have hb : Lib.parseUintB 32 (c :: r) = .ok u := by
    unfold Lib.parseUintB
    rw [if_neg (by simp)]
    exact h
  unfold Lib.parseIntB
  simp only [if_neg n43, hb]
  rw [if_neg (by show ¬ (¬ c.toNat = 45 ∧ 2147483648 ≤ u); omega), if_neg (by omega), if_neg n45]
theorem parse_digits (ds : List UInt8) (h0 : ds ≠ []) (h3 : ds.length ≤ 3) (h : ∀ d ∈ ds, onB decI d = true) : Lib.parseIntB 32 ds = .ok (dval ds) := by
  match ds, h0, h3, h with
  | [a], _, _, h =>
    have ha := h a (by simp)
    have ra := dec_rng ha
    rw [parse_pos [a] a [] rfl ha (0 * 10 + (a.toNat - 48)) (by omega) (by rw [pm_step _ _ _ _ ha (by omega) (by omega)]; rfl)]
    congr 1; simp only [dval, List.foldl]; omega
  | [a, b], _, _, h =>
    have ha := h a (by simp)
    have hb := h b (by simp)
    have ra := dec_rng ha
    have rb := dec_rng hb
    rw [parse_pos [a, b] a [b] rfl ha ((0 * 10 + (a.toNat - 48)) * 10 + (b.toNat - 48)) (by omega) (by rw [pm_step _ _ _ _ ha (by omega) (by omega), pm_step _ _ _ _ hb (by omega) (by omega)]; rfl)]
    congr 1; simp only [dval, List.foldl]; omega
  | [a, b, c], _, _, h =>
    have ha := h a (by simp)
    have hb := h b (by simp)
    have hc := h c (by simp)
    have ra := dec_rng ha
    have rb := dec_rng hb
    have rc := dec_rng hc
    rw [parse_pos [a, b, c] a [b, c] rfl ha (((0 * 10 + (a.toNat - 48)) * 10 + (b.toNat - 48)) * 10 + (c.toNat - 48)) (by omega) (by rw [pm_step _ _ _ _ ha (by omega) (by omega), pm_step _ _ _ _ hb (by omega) (by omega), pm_step _ _ _ _ hc (by omega) (by omega)]; rfl)]
    congr 1; simp only [dval, List.foldl]; omega
theorem dval_rng (ds : List UInt8) (h3 : ds.length ≤ 3) (h : ∀ d ∈ ds, onB decI d = true) : 0 ≤ dval ds ∧ dval ds ≤ 999 := by
  match ds, h3, h with
  | [], _, _ => exact ⟨Int.le_refl _, by decide⟩
  | [a], _, h =>
    have ra := dec_rng (h a (by simp))
    simp only [dval, List.foldl]; omega
  | [a, b], _, h =>
    have ra := dec_rng (h a (by simp))
    have rb := dec_rng (h b (by simp))
    simp only [dval, List.foldl]; omega
  | [a, b, c], _, h =>
    have ra := dec_rng (h a (by simp))
    have rb := dec_rng (h b (by simp))
    have rc := dec_rng (h c (by simp))
    simp only [dval, List.foldl]; omega
theorem parseInt_digits (w : World) (ds : List UInt8) (h0 : ds ≠ []) (h3 : ds.length ≤ 3) (h : ∀ d ∈ ds, onB decI d = true) :
    Calls Tryz.prog 50 #[.string ⟨ds.toArray⟩, .int .i64 10, .int .i64 32] w fun e w' => e = .returned (.tuple #[.int .i64 (dval ds), .nilIface]) ∧ Fr [] w w' := by
  refine (Any.strconv_ParseInt_10_at32_ok Tryz.lays174 ⟨ds.toArray⟩ (by show ds.toArray.size ≤ _; simp; omega) (dval ds) (parse_digits ds h0 h3 h) w).mono fun e w' ⟨he, hw⟩ => ⟨he, ?_⟩
  rcases hw with rfl | ⟨t, rfl⟩
  · exact Fr.refl _ _
  · exact Fr.of_below (Lib.bytesWorld_below _ _ _)

/-- What scanEscape leaves. -/
def EscIs (W0 : World) (L : Loc) (B b : Nat) (st : St) (l : List UInt8) (e : Ending) (w' : World) : Prop := e = .returned .nilIface ∧ At W0 L B b w' (esc st).2 (l ++ [(esc st).1])
section
variable {W0 w : World} {L : Loc} {B b : Nat} {st : St} {l : List UInt8}
set_option maxRecDepth 100000 in
set_option maxHeartbeats 1600000 in
theorem esc_k97 (h : At W0 L B b w st l) (q : Int) (hlim : l.length + 1 ≤ 140737488355328) (hc : st.nextC = 97) :
    Calls Tryz.prog 42 #[.pointer (some ⟨L.S, 0, none⟩), .int .i64 q, .pointer (some ⟨b, 0, none⟩)] w (EscIs W0 L B b st l) := by
  have HE := Lib.hid (show esc st = (7, st.nextS) by unfold esc; rw [hc, if_neg (by decide)]; rfl)
  have hnx := next_at h
  rw [hc] at hnx
  clear hc h
  have HL := Lib.hid hlim
  clear hlim
  go_enter Tryz.func42, Tryz.ntmps42
  go_wp2_with (first | (go_at_call 18; refine hnx.mono ?_; rintro e w1 ⟨rfl, h1⟩) | (go_at_call 44; refine (writeByte_at h1 7 HL.out).mono ?_; rintro e w2 ⟨rfl, h2⟩))
  go_ret
  unfold EscIs
  rw [HE.out]
  exact ⟨rfl, h2⟩
set_option maxRecDepth 100000 in
set_option maxHeartbeats 1600000 in
theorem esc_k98 (h : At W0 L B b w st l) (q : Int) (hlim : l.length + 1 ≤ 140737488355328) (hc : st.nextC = 98) :
    Calls Tryz.prog 42 #[.pointer (some ⟨L.S, 0, none⟩), .int .i64 q, .pointer (some ⟨b, 0, none⟩)] w (EscIs W0 L B b st l) := by
  have HE := Lib.hid (show esc st = (8, st.nextS) by unfold esc; rw [hc, if_neg (by decide)]; rfl)
  have hnx := next_at h
  rw [hc] at hnx
  clear hc h
  have HL := Lib.hid hlim
  clear hlim
  go_enter Tryz.func42, Tryz.ntmps42
  go_wp2_with (first | (go_at_call 18; refine hnx.mono ?_; rintro e w1 ⟨rfl, h1⟩) | (go_at_call 44; refine (writeByte_at h1 8 HL.out).mono ?_; rintro e w2 ⟨rfl, h2⟩))
  go_ret
  unfold EscIs
  rw [HE.out]
  exact ⟨rfl, h2⟩
set_option maxRecDepth 100000 in
set_option maxHeartbeats 1600000 in
theorem esc_k102 (h : At W0 L B b w st l) (q : Int) (hlim : l.length + 1 ≤ 140737488355328) (hc : st.nextC = 102) :
    Calls Tryz.prog 42 #[.pointer (some ⟨L.S, 0, none⟩), .int .i64 q, .pointer (some ⟨b, 0, none⟩)] w (EscIs W0 L B b st l) := by
  have HE := Lib.hid (show esc st = (12, st.nextS) by unfold esc; rw [hc, if_neg (by decide)]; rfl)
  have hnx := next_at h
  rw [hc] at hnx
  clear hc h
  have HL := Lib.hid hlim
  clear hlim
  go_enter Tryz.func42, Tryz.ntmps42
  go_wp2_with (first | (go_at_call 18; refine hnx.mono ?_; rintro e w1 ⟨rfl, h1⟩) | (go_at_call 44; refine (writeByte_at h1 12 HL.out).mono ?_; rintro e w2 ⟨rfl, h2⟩))
  go_ret
  unfold EscIs
  rw [HE.out]
  exact ⟨rfl, h2⟩
set_option maxRecDepth 100000 in
set_option maxHeartbeats 1600000 in
theorem esc_k110 (h : At W0 L B b w st l) (q : Int) (hlim : l.length + 1 ≤ 140737488355328) (hc : st.nextC = 110) :
    Calls Tryz.prog 42 #[.pointer (some ⟨L.S, 0, none⟩), .int .i64 q, .pointer (some ⟨b, 0, none⟩)] w (EscIs W0 L B b st l) := by
  have HE := Lib.hid (show esc st = (10, st.nextS) by unfold esc; rw [hc, if_neg (by decide)]; rfl)
  have hnx := next_at h
  rw [hc] at hnx
  clear hc h
  have HL := Lib.hid hlim
  clear hlim
  go_enter Tryz.func42, Tryz.ntmps42
  go_wp2_with (first | (go_at_call 18; refine hnx.mono ?_; rintro e w1 ⟨rfl, h1⟩) | (go_at_call 44; refine (writeByte_at h1 10 HL.out).mono ?_; rintro e w2 ⟨rfl, h2⟩))
  go_ret
  unfold EscIs
  rw [HE.out]
  exact ⟨rfl, h2⟩
set_option maxRecDepth 100000 in
set_option maxHeartbeats 1600000 in
theorem esc_k114 (h : At W0 L B b w st l) (q : Int) (hlim : l.length + 1 ≤ 140737488355328) (hc : st.nextC = 114) :
    Calls Tryz.prog 42 #[.pointer (some ⟨L.S, 0, none⟩), .int .i64 q, .pointer (some ⟨b, 0, none⟩)] w (EscIs W0 L B b st l) := by
  have HE := Lib.hid (show esc st = (13, st.nextS) by unfold esc; rw [hc, if_neg (by decide)]; rfl)
  have hnx := next_at h
  rw [hc] at hnx
  clear hc h
  have HL := Lib.hid hlim
  clear hlim
  go_enter Tryz.func42, Tryz.ntmps42
  go_wp2_with (first | (go_at_call 18; refine hnx.mono ?_; rintro e w1 ⟨rfl, h1⟩) | (go_at_call 44; refine (writeByte_at h1 13 HL.out).mono ?_; rintro e w2 ⟨rfl, h2⟩))
  go_ret
  unfold EscIs
  rw [HE.out]
  exact ⟨rfl, h2⟩
set_option maxRecDepth 100000 in
set_option maxHeartbeats 1600000 in
theorem esc_k116 (h : At W0 L B b w st l) (q : Int) (hlim : l.length + 1 ≤ 140737488355328) (hc : st.nextC = 116) :
    Calls Tryz.prog 42 #[.pointer (some ⟨L.S, 0, none⟩), .int .i64 q, .pointer (some ⟨b, 0, none⟩)] w (EscIs W0 L B b st l) := by
  have HE := Lib.hid (show esc st = (9, st.nextS) by unfold esc; rw [hc, if_neg (by decide)]; rfl)
  have hnx := next_at h
  rw [hc] at hnx
  clear hc h
  have HL := Lib.hid hlim
  clear hlim
  go_enter Tryz.func42, Tryz.ntmps42
  go_wp2_with (first | (go_at_call 18; refine hnx.mono ?_; rintro e w1 ⟨rfl, h1⟩) | (go_at_call 44; refine (writeByte_at h1 9 HL.out).mono ?_; rintro e w2 ⟨rfl, h2⟩))
  go_ret
  unfold EscIs
  rw [HE.out]
  exact ⟨rfl, h2⟩
set_option maxRecDepth 100000 in
set_option maxHeartbeats 1600000 in
theorem esc_k118 (h : At W0 L B b w st l) (q : Int) (hlim : l.length + 1 ≤ 140737488355328) (hc : st.nextC = 118) :
    Calls Tryz.prog 42 #[.pointer (some ⟨L.S, 0, none⟩), .int .i64 q, .pointer (some ⟨b, 0, none⟩)] w (EscIs W0 L B b st l) := by
  have HE := Lib.hid (show esc st = (11, st.nextS) by unfold esc; rw [hc, if_neg (by decide)]; rfl)
  have hnx := next_at h
  rw [hc] at hnx
  clear hc h
  have HL := Lib.hid hlim
  clear hlim
  go_enter Tryz.func42, Tryz.ntmps42
  go_wp2_with (first | (go_at_call 18; refine hnx.mono ?_; rintro e w1 ⟨rfl, h1⟩) | (go_at_call 44; refine (writeByte_at h1 11 HL.out).mono ?_; rintro e w2 ⟨rfl, h2⟩))
  go_ret
  unfold EscIs
  rw [HE.out]
  exact ⟨rfl, h2⟩
set_option maxRecDepth 100000 in
set_option maxHeartbeats 1600000 in
theorem esc_k92 (h : At W0 L B b w st l) (q : Int) (hlim : l.length + 1 ≤ 140737488355328) (hc : st.nextC = 92) :
    Calls Tryz.prog 42 #[.pointer (some ⟨L.S, 0, none⟩), .int .i64 q, .pointer (some ⟨b, 0, none⟩)] w (EscIs W0 L B b st l) := by
  have HE := Lib.hid (show esc st = (92, st.nextS) by unfold esc; rw [hc, if_neg (by decide)]; rfl)
  have hnx := next_at h
  rw [hc] at hnx
  clear hc h
  have HL := Lib.hid hlim
  clear hlim
  go_enter Tryz.func42, Tryz.ntmps42
  go_wp2_with (first | (go_at_call 18; refine hnx.mono ?_; rintro e w1 ⟨rfl, h1⟩) | (go_at_call 44; refine (writeByte_at h1 92 HL.out).mono ?_; rintro e w2 ⟨rfl, h2⟩))
  go_ret
  unfold EscIs
  rw [HE.out]
  exact ⟨rfl, h2⟩
set_option maxRecDepth 100000 in
set_option maxHeartbeats 1600000 in
theorem esc_k34 (h : At W0 L B b w st l) (q : Int) (hlim : l.length + 1 ≤ 140737488355328) (hc : st.nextC = 34) :
    Calls Tryz.prog 42 #[.pointer (some ⟨L.S, 0, none⟩), .int .i64 q, .pointer (some ⟨b, 0, none⟩)] w (EscIs W0 L B b st l) := by
  have HE := Lib.hid (show esc st = (34, st.nextS) by unfold esc; rw [hc, if_neg (by decide)]; rfl)
  have hnx := next_at h
  rw [hc] at hnx
  clear hc h
  have HL := Lib.hid hlim
  clear hlim
  go_enter Tryz.func42, Tryz.ntmps42
  go_wp2_with (first | (go_at_call 18; refine hnx.mono ?_; rintro e w1 ⟨rfl, h1⟩) | (go_at_call 44; refine (writeByte_at h1 34 HL.out).mono ?_; rintro e w2 ⟨rfl, h2⟩))
  go_ret
  unfold EscIs
  rw [HE.out]
  exact ⟨rfl, h2⟩
set_option maxRecDepth 100000 in
set_option maxHeartbeats 1600000 in
theorem esc_k39 (h : At W0 L B b w st l) (q : Int) (hlim : l.length + 1 ≤ 140737488355328) (hc : st.nextC = 39) :
    Calls Tryz.prog 42 #[.pointer (some ⟨L.S, 0, none⟩), .int .i64 q, .pointer (some ⟨b, 0, none⟩)] w (EscIs W0 L B b st l) := by
  have HE := Lib.hid (show esc st = (39, st.nextS) by unfold esc; rw [hc, if_neg (by decide)]; rfl)
  have hnx := next_at h
  rw [hc] at hnx
  clear hc h
  have HL := Lib.hid hlim
  clear hlim
  go_enter Tryz.func42, Tryz.ntmps42
  go_wp2_with (first | (go_at_call 18; refine hnx.mono ?_; rintro e w1 ⟨rfl, h1⟩) | (go_at_call 44; refine (writeByte_at h1 39 HL.out).mono ?_; rintro e w2 ⟨rfl, h2⟩))
  go_ret
  unfold EscIs
  rw [HE.out]
  exact ⟨rfl, h2⟩
set_option maxRecDepth 100000 in
set_option maxHeartbeats 1600000 in
theorem esc_k10 (h : At W0 L B b w st l) (q : Int) (hlim : l.length + 1 ≤ 140737488355328) (hc : st.nextC = 10) :
    Calls Tryz.prog 42 #[.pointer (some ⟨L.S, 0, none⟩), .int .i64 q, .pointer (some ⟨b, 0, none⟩)] w (EscIs W0 L B b st l) := by
  have HE := Lib.hid (show esc st = (10, st.nextS) by unfold esc; rw [hc, if_neg (by decide)]; rfl)
  have hnx := next_at h
  rw [hc] at hnx
  clear hc h
  have HL := Lib.hid hlim
  clear hlim
  go_enter Tryz.func42, Tryz.ntmps42
  go_wp2_with (first | (go_at_call 18; refine hnx.mono ?_; rintro e w1 ⟨rfl, h1⟩) | (go_at_call 44; refine (writeByte_at h1 10 HL.out).mono ?_; rintro e w2 ⟨rfl, h2⟩))
  go_ret
  unfold EscIs
  rw [HE.out]
  exact ⟨rfl, h2⟩
set_option maxRecDepth 100000 in
set_option maxHeartbeats 1600000 in
theorem esc_lo (h : At W0 L B b w st l) (q : Int) (hlim : l.length + 1 ≤ 140737488355328) (hk : ∀ k ∈ ([97, 98, 102, 110, 114, 116, 118, 92, 34, 39, 10, 13] : List Int), st.nextC ≠ k) (h0 : st.nextC < 48) :
    Calls Tryz.prog 42 #[.pointer (some ⟨L.S, 0, none⟩), .int .i64 q, .pointer (some ⟨b, 0, none⟩)] w (EscIs W0 L B b st l) := by
  have HE := Lib.hid (show esc st = (by8 st.nextC, st.nextS) by
    unfold esc
    rw [if_neg (by simp [decI]; omega)]
    unfold escTab
    rw [if_neg (hk 97 (by simp)), if_neg (hk 98 (by simp)), if_neg (hk 102 (by simp)), if_neg (hk 110 (by simp)), if_neg (hk 114 (by simp)), if_neg (hk 116 (by simp)), if_neg (hk 118 (by simp))])
  have e97 : (st.nextC == 97) = false := by rw [beq_eq_false_iff_ne]; exact hk 97 (by simp)
  have e98 : (st.nextC == 98) = false := by rw [beq_eq_false_iff_ne]; exact hk 98 (by simp)
  have e102 : (st.nextC == 102) = false := by rw [beq_eq_false_iff_ne]; exact hk 102 (by simp)
  have e110 : (st.nextC == 110) = false := by rw [beq_eq_false_iff_ne]; exact hk 110 (by simp)
  have e114 : (st.nextC == 114) = false := by rw [beq_eq_false_iff_ne]; exact hk 114 (by simp)
  have e116 : (st.nextC == 116) = false := by rw [beq_eq_false_iff_ne]; exact hk 116 (by simp)
  have e118 : (st.nextC == 118) = false := by rw [beq_eq_false_iff_ne]; exact hk 118 (by simp)
  have e92 : (st.nextC == 92) = false := by rw [beq_eq_false_iff_ne]; exact hk 92 (by simp)
  have e34 : (st.nextC == 34) = false := by rw [beq_eq_false_iff_ne]; exact hk 34 (by simp)
  have e39 : (st.nextC == 39) = false := by rw [beq_eq_false_iff_ne]; exact hk 39 (by simp)
  have e10 : (st.nextC == 10) = false := by rw [beq_eq_false_iff_ne]; exact hk 10 (by simp)
  have e13 : (st.nextC == 13) = false := by rw [beq_eq_false_iff_ne]; exact hk 13 (by simp)
  clear hk
  have HL := Lib.hid hlim
  clear hlim
  go_enter Tryz.func42, Tryz.ntmps42
  go_wp2_with (first | (go_at_call 18; refine (next_at h).mono ?_; rintro e w1 ⟨rfl, h1⟩) | (go_at_call 22; refine (writeChar_at h1 _ HL.out).mono ?_; rintro e w2 ⟨rfl, h2⟩))
  go_ret
  unfold EscIs
  rw [HE.out]
  exact ⟨rfl, h2⟩
set_option maxRecDepth 100000 in
set_option maxHeartbeats 1600000 in
theorem esc_hi (h : At W0 L B b w st l) (q : Int) (hlim : l.length + 1 ≤ 140737488355328) (hk : ∀ k ∈ ([97, 98, 102, 110, 114, 116, 118, 92, 34, 39, 10, 13] : List Int), st.nextC ≠ k) (h0 : 57 < st.nextC) :
    Calls Tryz.prog 42 #[.pointer (some ⟨L.S, 0, none⟩), .int .i64 q, .pointer (some ⟨b, 0, none⟩)] w (EscIs W0 L B b st l) := by
  have HE := Lib.hid (show esc st = (by8 st.nextC, st.nextS) by
    unfold esc
    rw [if_neg (by simp [decI]; omega)]
    unfold escTab
    rw [if_neg (hk 97 (by simp)), if_neg (hk 98 (by simp)), if_neg (hk 102 (by simp)), if_neg (hk 110 (by simp)), if_neg (hk 114 (by simp)), if_neg (hk 116 (by simp)), if_neg (hk 118 (by simp))])
  have e97 : (st.nextC == 97) = false := by rw [beq_eq_false_iff_ne]; exact hk 97 (by simp)
  have e98 : (st.nextC == 98) = false := by rw [beq_eq_false_iff_ne]; exact hk 98 (by simp)
  have e102 : (st.nextC == 102) = false := by rw [beq_eq_false_iff_ne]; exact hk 102 (by simp)
  have e110 : (st.nextC == 110) = false := by rw [beq_eq_false_iff_ne]; exact hk 110 (by simp)
  have e114 : (st.nextC == 114) = false := by rw [beq_eq_false_iff_ne]; exact hk 114 (by simp)
  have e116 : (st.nextC == 116) = false := by rw [beq_eq_false_iff_ne]; exact hk 116 (by simp)
  have e118 : (st.nextC == 118) = false := by rw [beq_eq_false_iff_ne]; exact hk 118 (by simp)
  have e92 : (st.nextC == 92) = false := by rw [beq_eq_false_iff_ne]; exact hk 92 (by simp)
  have e34 : (st.nextC == 34) = false := by rw [beq_eq_false_iff_ne]; exact hk 34 (by simp)
  have e39 : (st.nextC == 39) = false := by rw [beq_eq_false_iff_ne]; exact hk 39 (by simp)
  have e10 : (st.nextC == 10) = false := by rw [beq_eq_false_iff_ne]; exact hk 10 (by simp)
  have e13 : (st.nextC == 13) = false := by rw [beq_eq_false_iff_ne]; exact hk 13 (by simp)
  clear hk
  have HL := Lib.hid hlim
  clear hlim
  go_enter Tryz.func42, Tryz.ntmps42
  go_wp2_with (first | (go_at_call 18; refine (next_at h).mono ?_; rintro e w1 ⟨rfl, h1⟩) | (go_at_call 22; refine (writeChar_at h1 _ HL.out).mono ?_; rintro e w2 ⟨rfl, h2⟩))
  go_ret
  unfold EscIs
  rw [HE.out]
  exact ⟨rfl, h2⟩
set_option maxRecDepth 100000 in
set_option maxHeartbeats 6400000 in
theorem esc_digits (h : At W0 L B b w st l) (q : Int) (hlim : l.length + 1 ≤ 140737488355328) (hd0 : decI st.nextC = true) :
    Calls Tryz.prog 42 #[.pointer (some ⟨L.S, 0, none⟩), .int .i64 q, .pointer (some ⟨b, 0, none⟩)] w (EscIs W0 L B b st l) := by
  have HE := Lib.hid (esc_dig hd0)
  obtain ⟨c, hc, hcd⟩ : ∃ c : UInt8, st.nextC = c.toNat ∧ onB decI c = true := by
    have h1 := hd0
    simp only [decI, Bool.and_eq_true, decide_eq_true_eq] at h1
    refine ⟨by8 st.nextC, by rw [by8_toNat]; omega, ?_⟩
    unfold onB
    rw [by8_toNat, show st.nextC % 256 = st.nextC by omega]; exact hd0
  have hnx := next_at h
  rw [hc] at hnx HE
  clear h hd0 hc
  have hr := dec_rng hcd
  have r0 : (48 : Int) ≤ (c.toNat : Int) := by omega
  have r1 : (c.toNat : Int) ≤ 57 := by omega
  have e97 : ((c.toNat : Int) == 97) = false := by rw [beq_eq_false_iff_ne]; omega
  have e98 : ((c.toNat : Int) == 98) = false := by rw [beq_eq_false_iff_ne]; omega
  have e102 : ((c.toNat : Int) == 102) = false := by rw [beq_eq_false_iff_ne]; omega
  have e110 : ((c.toNat : Int) == 110) = false := by rw [beq_eq_false_iff_ne]; omega
  have e114 : ((c.toNat : Int) == 114) = false := by rw [beq_eq_false_iff_ne]; omega
  have e116 : ((c.toNat : Int) == 116) = false := by rw [beq_eq_false_iff_ne]; omega
  have e118 : ((c.toNat : Int) == 118) = false := by rw [beq_eq_false_iff_ne]; omega
  have e92 : ((c.toNat : Int) == 92) = false := by rw [beq_eq_false_iff_ne]; omega
  have e34 : ((c.toNat : Int) == 34) = false := by rw [beq_eq_false_iff_ne]; omega
  have e39 : ((c.toNat : Int) == 39) = false := by rw [beq_eq_false_iff_ne]; omega
  have e10 : ((c.toNat : Int) == 10) = false := by rw [beq_eq_false_iff_ne]; omega
  have e13 : ((c.toNat : Int) == 13) = false := by rw [beq_eq_false_iff_ne]; omega
  have HR := Lib.hid hr
  have HCD := Lib.hid hcd
  have HL := Lib.hid hlim
  clear hr hcd hlim
  go_enter Tryz.func42, Tryz.ntmps42
  go_wp2_with (go_at_call 18; refine hnx.mono ?_; rintro e w1 ⟨rfl, h1⟩; refine Hid.out ?_)
  refine Lib.hid ?_
  clear hnx
  generalize st.nextS = s1 at h1 HE
  generalize hE : digL 2 ((c.toNat : Int) - 48) s1 = E at HE
  have hstart : Ao w1 L w1.heap.size (w1.alloc (.cells #[.int .u8 c.toNat] 5)) s1 (.slice (some ⟨w1.heap.size, 0, none⟩) 1 1) [c] :=
    Ao.start h1.sc (Bs.one w1 c.toNat c rfl) ((Below.refl _ _).alloc (Nat.le_refl _) _)
  have HS := Lib.hid (And.intro hstart hE)
  clear hstart hE
  go_wp2
  go_loopg [7, 8] 2 (fun n v i wr => ∃ (k : Nat) (sp : St) (ds : List UInt8), 2 - k ≤ n ∧ k ≤ 2 ∧ i = .int .i64 k ∧ Ao w1 L w1.heap.size wr sp v ds ∧ ds.length = k + 1 ∧ (∀ d ∈ ds, onB decI d = true) ∧ digL (2 - k) (dval ds) sp = E)
  case atStart => exact ⟨0, s1, [c], by omega, by omega, rfl, HS.out.1, rfl, by intro d hd; rw [List.mem_singleton.1 hd]; exact HCD.out, by rw [← HS.out.2]; congr 1; simp [dval]⟩
  case round =>
    clear HS
    obtain ⟨k, sp, ds, hn, hk, rfl, hA, hlen, hds, hE⟩ := hrel
    have HN := Lib.hid hn
    have HDS := Lib.hid (show ds ≠ [] ∧ ds.length ≤ 3 ∧ ∀ d ∈ ds, onB decI d = true from ⟨fun e => by rw [e] at hlen; simp at hlen, by omega, hds⟩)
    have HEE := Lib.hid hE
    have HLEN := Lib.hid hlen
    clear hn hds hE hlen
    have hki : (k : Int) ≤ 2 := by omega
    by_cases hk2 : k < 2
    · have hk2i : (k : Int) < 2 := by omega
      cases hdg : decI (Go.Proofs.YtgiklkapedlckaaGreatDoor.hd sp.rest)
      · have HD := Lib.hid hdg
        have HV := Lib.hid (show (dval ds, sp) = E by
          rw [← HEE.out]
          obtain ⟨m, hm⟩ : ∃ m, 2 - k = m + 1 := ⟨1 - k, by omega⟩
          rw [hm]; simp only [digL, hdg]; rfl)
        clear hdg
        go_wp2_with (first | (go_at_call 16; refine (peek_ao hA).mono ?_; rintro e w5 ⟨rfl, h5⟩) | (go_at_call 14; refine (isDecimal_no _ _ HD).mono ?_; rintro e w6 ⟨rfl, rfl⟩; refine Hid.out ?_))
        refine Lib.hid ?_
        clear hA
        have hcv := h5.bs.text
        have HAT := Lib.hid (h1.scan h5.sc h5.done)
        clear h5 h1
        go_wp2_with (first | (go_at_call 50; refine (parseInt_digits _ ds HDS.out.1 HDS.out.2.1 HDS.out.2.2).mono ?_; rintro e w7 ⟨rfl, f7⟩) | (go_at_call 22; refine (writeChar_at (HAT.out.fr f7) _ HL.out).mono ?_; rintro e w8 ⟨rfl, h8⟩))
        go_ret
        unfold EscIs
        rw [HE.out, ← HV.out]
        exact ⟨rfl, h8⟩
      · have HD := Lib.hid hdg
        obtain ⟨d, t, hrest, hdd, hnb⟩ := cls_dec.cons hdg
        have hnC : sp.nextC = d.toNat := by
          obtain ⟨r0, l0, c0⟩ := sp
          obtain rfl : r0 = d :: t := hrest
          exact St.nextC_else hnb
        have HV := Lib.hid (show digL (2 - (k + 1)) (dval (ds ++ [d])) sp.nextS = E by
          rw [← HEE.out]
          obtain ⟨m, hm⟩ : ∃ m, 2 - k = m + 1 := ⟨1 - k, by omega⟩
          rw [hm, show 2 - (k + 1) = m by omega]
          simp only [digL, hdg, if_true]
          rw [dval_snoc, hnC])
        have hnx2 := fun (wz : World) (vz : Value) (hz : Ao w1 L w1.heap.size wz sp vz ds) => next_ao hz
        rw [hnC] at hnx2
        have HDD := Lib.hid hdd
        have hd0 : (0 : Int) ≤ (d.toNat : Int) := by omega
        have hd1 : (d.toNat : Int) ≤ 255 := by have := d.toNat_lt; omega
        have HLM := Lib.hid (show ds.length + 1 ≤ 140737488355328 by have := HLEN.out; omega)
        clear hdg hdd hnb hnC hrest
        go_wp2_with (first | (go_at_call 16; refine (peek_ao hA).mono ?_; rintro e w5 ⟨rfl, h5⟩) | (go_at_call 14; refine (isDecimal_yes _ _ HD).mono ?_; rintro e w6 ⟨rfl, rfl⟩) | (go_at_call 18; refine (hnx2 _ _ h5).mono ?_; rintro e w7 ⟨rfl, h7⟩) | (at_builtin; (refine wpList_app1 rfl (.tmp 32) (.tmp 36) rfl _ w1.heap.size _ ds _ d rfl rfl h7.bs (Lib.hid rfl) h7.le HLM ?_; intro v8 w8 hb8 hl8; refine Hid.out ?_)))
        refine Lib.hid ?_
        have H8 := Lib.hid (h7.wrote hb8 hl8)
        clear hA h5 h7 hb8 hl8 hnx2
        go_wp2
        go_roundg (2 - (k + 1))
        case measure => have := HN.out; omega
        case rel => exact ⟨k + 1, sp.nextS, ds ++ [d], Nat.le_refl _, by omega, by go_num, H8.out, by have := HLEN.out; simp; omega, by intro x hx; rcases List.mem_append.1 hx with hx | hx; exact HDS.out.2.2 x hx; rw [List.mem_singleton.1 hx]; exact HDD.out, HV.out⟩
    · obtain rfl : k = 2 := by omega
      have HV := Lib.hid (show (dval ds, sp) = E from HEE.out)
      have hcv := hA.bs.text
      have HAT := Lib.hid (h1.scan hA.sc hA.done)
      clear hA h1
      go_wp2_with (first | (go_at_call 50; refine (parseInt_digits _ ds HDS.out.1 HDS.out.2.1 HDS.out.2.2).mono ?_; rintro e w7 ⟨rfl, f7⟩) | (go_at_call 22; refine (writeChar_at (HAT.out.fr f7) _ HL.out).mono ?_; rintro e w8 ⟨rfl, h8⟩))
      go_ret
      unfold EscIs
      rw [HE.out, ← HV.out]
      exact ⟨rfl, h8⟩
/-- scanEscape. -/
theorem esc_at (h : At W0 L B b w st l) (q : Int) (hlim : l.length + 1 ≤ 140737488355328) :
    Calls Tryz.prog 42 #[.pointer (some ⟨L.S, 0, none⟩), .int .i64 q, .pointer (some ⟨b, 0, none⟩)] w (EscIs W0 L B b st l) := by
  cases hd : decI st.nextC
  · by_cases hk : ∀ k ∈ ([97, 98, 102, 110, 114, 116, 118, 92, 34, 39, 10, 13] : List Int), st.nextC ≠ k
    · simp only [decI, Bool.and_eq_false_iff, decide_eq_false_iff_not] at hd
      rcases hd with hd | hd
      · exact esc_lo h q hlim hk (by omega)
      · exact esc_hi h q hlim hk (by omega)
    · have hk' : st.nextC = 97 ∨ st.nextC = 98 ∨ st.nextC = 102 ∨ st.nextC = 110 ∨ st.nextC = 114 ∨ st.nextC = 116 ∨ st.nextC = 118 ∨ st.nextC = 92 ∨ st.nextC = 34 ∨ st.nextC = 39 ∨ st.nextC = 10 ∨ st.nextC = 13 := by
        simp only [List.mem_cons, List.not_mem_nil, or_false, forall_eq_or_imp, forall_eq] at hk
        omega
      rcases hk' with hk' | hk' | hk' | hk' | hk' | hk' | hk' | hk' | hk' | hk' | hk' | hk'
      · exact esc_k97 h q hlim hk'
      · exact esc_k98 h q hlim hk'
      · exact esc_k102 h q hlim hk'
      · exact esc_k110 h q hlim hk'
      · exact esc_k114 h q hlim hk'
      · exact esc_k116 h q hlim hk'
      · exact esc_k118 h q hlim hk'
      · exact esc_k92 h q hlim hk'
      · exact esc_k34 h q hlim hk'
      · exact esc_k39 h q hlim hk'
      · exact esc_k10 h q hlim hk'
      · exact absurd hk' st.nextC_cr
  · exact esc_digits h q hlim hd
end
end Go.Proofs.YtgiklkapedlckaaGreatDoor
