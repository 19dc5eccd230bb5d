/- zzb3Rest, walked; the law of two masks, in plain Lean. -/
import Derived.Test.YthlnkoelijlfeaaDoorTwo39
namespace Go.Proofs.YthlnkoelijlfeaaDoor
open Go.RowKit

/-- How many characters Next still yields. -/
def cntF : Nat → St → Nat
  | 0, _ => 0
  | n + 1, st => if st.rest = [] then 0 else cntF n st.nextS + 1
def St.cnt (st : St) : Nat := cntF st.rest.length st
theorem cntF_fuel : ∀ (n k : Nat) (st : St), st.rest.length ≤ n → st.rest.length ≤ k → cntF n st = cntF k st := by
  intro n
  induction n with
  | zero =>
    intro k st hn _
    have hr : st.rest = [] := List.eq_nil_of_length_eq_zero (by omega)
    cases k with
    | zero => rfl
    | succ k => simp [cntF, hr]
  | succ n ih =>
    intro k st hn hk
    cases k with
    | zero =>
      have hr : st.rest = [] := List.eq_nil_of_length_eq_zero (by omega)
      simp [cntF, hr]
    | succ k =>
      simp only [cntF]
      split
      · rfl
      · rename_i h
        have := (St.nextS_len h).1
        rw [ih k st.nextS (by omega) (by omega)]
theorem cnt_nil {st : St} (h : st.rest = []) : st.cnt = 0 := by
  unfold St.cnt; rw [h]; rfl
theorem cnt_more {st : St} (h : st.rest ≠ []) : st.cnt = st.nextS.cnt + 1 := by
  have hl := (St.nextS_len h).1
  unfold St.cnt
  obtain ⟨k, hk⟩ : ∃ k, st.rest.length = k + 1 := ⟨st.rest.length - 1, by omega⟩
  rw [hk]
  simp only [cntF, if_neg h]
  rw [cntF_fuel k _ st.nextS (by omega) (Nat.le_refl _)]
theorem nextS_nil {st : St} (h : st.rest = []) : st.nextS.rest = [] := by rw [St.nextS_eof h]
theorem cnt_next (st : St) : st.nextS.cnt ≤ st.cnt := by
  by_cases h : st.rest = []
  · rw [cnt_nil h, cnt_nil (nextS_nil h)]; exact Nat.le_refl _
  · rw [cnt_more h]; omega
theorem cnt_len (st : St) : st.cnt ≤ st.rest.length := by
  generalize hn : st.rest.length = n
  induction n using Nat.strongRecOn generalizing st with
  | _ n ih =>
    by_cases h : st.rest = []
    · rw [cnt_nil h]; omega
    · have hl := (St.nextS_len h).1
      have := ih _ (by omega) st.nextS rfl
      rw [cnt_more h]; omega
theorem cnt_skip (m : Int) (st : St) : (st.skip m).2.cnt ≤ st.cnt := by
  generalize hn : st.rest.length = n
  induction n using Nat.strongRecOn generalizing st with
  | _ n ih =>
    cases h : inM m st.nextC
    · rw [skip_stop h]; exact cnt_next st
    · have hl := (St.nextS_len (rest_of_inM h)).1
      rw [skip_more h]
      exact Nat.le_trans (ih _ (by omega) st.nextS rfl) (cnt_next st)
theorem len_skip (m : Int) (st : St) : (st.skip m).2.rest.length ≤ st.rest.length := by
  generalize hn : st.rest.length = n
  induction n using Nat.strongRecOn generalizing st with
  | _ n ih =>
    cases h : inM m st.nextC
    · rw [skip_stop h]
      by_cases h2 : st.rest = []
      · show st.nextS.rest.length ≤ n
        rw [nextS_nil h2]; exact Nat.zero_le _
      · have := (St.nextS_len h2).1
        show st.nextS.rest.length ≤ n
        omega
    · have hl := (St.nextS_len (rest_of_inM h)).1
      rw [skip_more h]
      exact Nat.le_trans (ih _ (by omega) st.nextS rfl) (by omega)
theorem skip_char (m : Int) (st : St) : -1 ≤ (st.skip m).1 ∧ (st.skip m).1 ≤ 255 := by
  generalize hn : st.rest.length = n
  induction n using Nat.strongRecOn generalizing st with
  | _ n ih =>
    cases h : inM m st.nextC
    · rw [skip_stop h]; exact ⟨st.nextC_lo, st.nextC_hi⟩
    · have hl := (St.nextS_len (rest_of_inM h)).1
      rw [skip_more h]
      exact ih _ (by omega) st.nextS rfl
/-- A wider set: the same place, where the narrow skip's character lies outside the wide set too. -/
theorem skip_same {n w : Int} (hs : ∀ c, -1 ≤ c → c ≤ 255 → inM n c = true → inM w c = true) (st : St) (h : inM w (st.skip n).1 = false) : st.skip w = st.skip n := by
  generalize hl : st.rest.length = k
  induction k using Nat.strongRecOn generalizing st with
  | _ k ih =>
    cases hc : inM n st.nextC
    · rw [skip_stop hc] at h ⊢
      exact skip_stop h
    · have hl2 := (St.nextS_len (rest_of_inM hc)).1
      rw [skip_more hc] at h ⊢
      rw [skip_more (hs _ st.nextC_lo st.nextC_hi hc)]
      exact ih _ (by omega) st.nextS h rfl
theorem skip_far {n w : Int} (hs : ∀ c, -1 ≤ c → c ≤ 255 → inM n c = true → inM w c = true) (st : St) : (st.skip w).2.cnt ≤ (st.skip n).2.cnt := by
  generalize hl : st.rest.length = k
  induction k using Nat.strongRecOn generalizing st with
  | _ k ih =>
    cases hc : inM n st.nextC
    · rw [skip_stop hc]
      cases hw : inM w st.nextC
      · rw [skip_stop hw]; exact Nat.le_refl _
      · rw [skip_more hw]; exact cnt_skip w st.nextS
    · have hl2 := (St.nextS_len (rest_of_inM hc)).1
      rw [skip_more hc, skip_more (hs _ st.nextC_lo st.nextC_hi hc)]
      exact ih _ (by omega) st.nextS rfl
theorem ofInt_toNat64 (x : BitVec 64) : BitVec.ofInt 64 (x.toNat : Int) = x := by
  rw [BitVec.ofInt_natCast, BitVec.ofNat_toNat, BitVec.setWidth_eq]
theorem inM_sub (a b c : Int) (h0 : -1 ≤ c) (h1 : c ≤ 255) (h : inM (bits BinOp.and IntKind.i64 a b) c = true) : inM a c = true := by
  by_cases h2 : c = -1 ∨ 64 ≤ c
  · rw [inM_out _ c (by omega)] at h; cases h
  · rw [inM_bit _ c (by omega) (by omega)] at h ⊢
    have e : bitM (bits BinOp.and IntKind.i64 a b) c.toNat = (BitVec.ofInt 64 a &&& BitVec.ofInt 64 b).getLsbD c.toNat := by
      unfold bitM
      congr 1
      show BitVec.ofInt 64 (IntKind.i64.wrap ((BitVec.ofInt 64 a &&& BitVec.ofInt 64 b).toNat : Int)) = _
      have hw : ∀ x : Int, IntKind.i64.wrap x = wrap64 x := fun x => by rw [IntKind.wrap_i64]; unfold wrap64; omega
      rw [hw, ofInt_wrap64]
      exact ofInt_toNat64 _
    rw [e, BitVec.getLsbD_and] at h
    simp only [Bool.and_eq_true] at h
    exact h.1
set_option maxHeartbeats 1600000 in
theorem rest_any (w : World) (L : Loc) (st : St) (lb : Option UInt8) (B : Nat) (hB : B ≤ 1048576) (hb : st.rest.length ≤ B) (h : Sc w L st lb) :
    Calls Tryd.prog 23 #[.pointer (some ⟨L.S, 0, none⟩), .int .i64 B] w
      fun e w' => e = .returned (.int .i64 st.cnt) ∧ (∃ sn, Sc w' L sn none) ∧ Fr L.own w w' := by
  have h' := h.weak
  go_enter Tryd.func23, Tryd.ntmps23
  go_wp2
  go_loopw [5, 6] (fun c n wr => ∃ (k : Nat) (sp : St), c = .int .i64 k ∧ n = .int .i64 k ∧ Sc wr L sp none ∧ sp.rest.length + k ≤ B ∧ sp.cnt + k = st.cnt ∧ Fr L.own w wr) (fun _ n _ => B + 1 - (intOf n).toNat)
  case atStart => exact ⟨0, st, rfl, rfl, h', by omega, rfl, Fr.refl _ _⟩
  case round =>
    clear h h' hb
    obtain ⟨k, sp, rfl, rfl, hSr, hk, hcn, frr⟩ := hrel
    have FRR := Lib.hid frr
    have hk2 : (k : Int) ≤ (B : Int) := by omega
    clear frr
    by_cases hn : sp.rest = []
    · have hcn2 : Hid (k = st.cnt) := by
        show _ = _
        rw [cnt_nil hn] at hcn; omega
      have hq := next_eof wr L sp none hSr hn
      clear hn hk hcn
      go_wp2_with (go_at_call 20; refine hq.mono ?_; rintro e w5 ⟨rfl, h5, fr5⟩; refine Hid.out ?_)
      refine Lib.hid ?_
      go_wp2
      go_ret
      exact ⟨by first | rfl | (rw [hcn2.out]; rfl), ⟨_, h5⟩, FRR.out.trans fr5⟩
    · have hl := (St.nextS_len hn).1
      have hc : ¬ sp.nextC < 0 := fun h => hn (St.nextC_neg.1 h)
      have hc2 : 0 ≤ sp.nextC := by omega
      have hcn2 : Hid (sp.nextS.cnt + (k + 1) = st.cnt) := by
        show _ = _
        rw [cnt_more hn] at hcn; omega
      clear hn hcn
      go_wp2_with (go_at_call 20; refine (next_any _ L sp none hSr).mono ?_; rintro e w5 ⟨rfl, h5, fr5⟩; refine Hid.out ?_)
      refine Lib.hid ?_
      go_wp2
      go_roundw
      case rel => exact ⟨k + 1, sp.nextS, by go_num, by go_num, h5, by omega, hcn2.out, FRR.out.trans fr5⟩
      case measure => simp [intOf]; omega
end Go.Proofs.YthlnkoelijlfeaaDoor
