/- The model's functions against Next, in the scanner's own words; the other small functions of the law package. -/
import Derived.Test.YtnaklkhdmmbjjaaDoorM39
import Derived.Deep.LoopGhost
namespace Go.Proofs.YtnaklkhdmmbjjaaDoor
open Go.RowKit

theorem step_st (w : World) (s : ByteArray) (i : Nat) (st : St) (hst : Hid (st.rest = s.data.toList.drop i)) (hi : i ≤ s.size) (hs : s.size ≤ 1048576) :
    Calls Tryd.prog 7 #[.string s, .int .i64 i] w
      fun e w' => e = .returned (.tuple #[.int .i64 st.nextC, .int .i64 (i + eat st.rest : Nat)]) ∧ w = w' := by
  have h := step_any w s i hi hs
  rw [← hst.out] at h
  exact h
/-- The model's place behind a step. -/
theorem step_rest {s : ByteArray} {i : Nat} {st : St} (hst : st.rest = s.data.toList.drop i) : st.nextS.rest = s.data.toList.drop (i + eat st.rest) := by
  rw [nextS_eat, hst, List.drop_drop]
theorem step_le {s : ByteArray} {i : Nat} {st : St} (hst : st.rest = s.data.toList.drop i) (hi : i ≤ s.size) : i + eat st.rest ≤ s.size := by
  have h := eat_le st.rest
  have hlen : s.data.toList.length = s.size := by rw [Array.length_toList]; rfl
  have : st.rest.length = s.size - i := by rw [hst, List.length_drop, hlen]
  omega

theorem nextS_line (st : St) : st.nextS.line = if st.nextC < 0 then -1 else if st.nextC = 10 then st.line + 1 else st.line := by
  obtain ⟨rest, line, col⟩ := st
  cases rest with
  | nil => rfl
  | cons c t =>
    by_cases h : (c.toNat : Int) = 10 ∨ (c.toNat : Int) = 13
    · rw [St.nextS_brk h, St.nextC_brk h, St.newline_pos (by omega)]; rfl
    · rw [St.nextS_else h, St.nextC_else h, if_neg (by omega), if_neg (by omega)]
theorem nextS_col (st : St) : st.nextS.col = if st.nextC < 0 then 0 else if st.nextC = 10 then 0 else st.col + 1 := by
  obtain ⟨rest, line, col⟩ := st
  cases rest with
  | nil => rfl
  | cons c t =>
    by_cases h : (c.toNat : Int) = 10 ∨ (c.toNat : Int) = 13
    · rw [St.nextS_brk h, St.nextC_brk h, St.newline_pos (by omega)]; rfl
    · rw [St.nextS_else h, St.nextC_else h, if_neg (by omega), if_neg (by omega)]

set_option maxHeartbeats 1600000 in
theorem adv_any (w : World) (c l k : Int) (hl : -1 ≤ l ∧ l ≤ 2305843009213693951) (hk : 0 ≤ k ∧ k ≤ 2305843009213693952) :
    Calls Tryd.prog 11 #[.int .i64 c, .int .i64 l, .int .i64 k] w
      fun e w' => e = .returned (.tuple #[.int .i64 (if c < 0 then -1 else if c = 10 then l + 1 else l), .int .i64 (if c < 0 then 0 else if c = 10 then 0 else k + 1)]) ∧ w = w' := by
  obtain ⟨l0, l1⟩ := hl
  obtain ⟨k0, k1⟩ := hk
  by_cases h : c < 0
  · rw [if_pos h, if_pos h]
    go_enter Tryd.func11, Tryd.ntmps11
    go_wp2
    go_ret2
    exact ⟨rfl, rfl⟩
  · rw [if_neg h, if_neg h]
    by_cases h2 : c = 10
    · rw [if_pos h2, if_pos h2]
      obtain ⟨e1, e2⟩ := b_yes h2
      clear h2
      go_enter Tryd.func11, Tryd.ntmps11
      go_wp2
      go_ret2
      exact ⟨rfl, rfl⟩
    · rw [if_neg h2, if_neg h2]
      obtain ⟨e1, e2⟩ := b_no h2
      clear h2
      go_enter Tryd.func11, Tryd.ntmps11
      go_wp2
      go_ret2
      exact ⟨rfl, rfl⟩
theorem St.Bd.adv {st : St} (h : st.Bd) : (-1 ≤ st.line ∧ st.line ≤ 2305843009213693951) ∧ (0 ≤ st.col ∧ st.col ≤ 2305843009213693952) := by
  have h1 := h.l0
  have h2 := h.c0
  have h3 := h.top
  omega
theorem adv_st (w : World) (st : St) (h : st.Bd) :
    Calls Tryd.prog 11 #[.int .i64 st.nextC, .int .i64 st.line, .int .i64 st.col] w
      fun e w' => e = .returned (.tuple #[.int .i64 st.nextS.line, .int .i64 st.nextS.col]) ∧ w = w' := by
  have h1 := adv_any w st.nextC st.line st.col h.adv.1 h.adv.2
  rw [← nextS_line, ← nextS_col] at h1
  exact h1

set_option maxHeartbeats 1600000 in
theorem raw_any (w : World) (s : ByteArray) (i : Nat) (_hs : s.size ≤ 1048576) (hi : i ≤ 9007199254740992) :
    Calls Tryd.prog 8 #[.string s, .int .i64 i] w
      fun e w' => e = .returned (.int .i64 (hd (s.data.toList.drop i))) ∧ w = w' := by
  have hi0 : (0 : Int) ≤ (i : Int) := by omega
  by_cases hlt : i < s.size
  · have hlti : (i : Int) < (s.size : Int) := by omega
    rw [str_drop s i hlt]
    simp only [hd]
    have hc0 : (0 : Int) ≤ (s[i].toNat : Int) := by omega
    have hc1 : (s[i].toNat : Int) ≤ 255 := by have := s[i].toNat_lt; omega
    go_enter Tryd.func8, Tryd.ntmps8
    go_wp2
    go_ret
    exact ⟨rfl, rfl⟩
  · have hlti : (s.size : Int) ≤ (i : Int) := by omega
    rw [str_drop_end s i hlt]
    simp only [hd]
    go_enter Tryd.func8, Tryd.ntmps8
    go_wp2
    go_ret
    exact ⟨rfl, rfl⟩
theorem raw_st (w : World) (s : ByteArray) (i : Nat) (st : St) (hst : Hid (st.rest = s.data.toList.drop i)) (hs : s.size ≤ 1048576) (hi : i ≤ 9007199254740992) :
    Calls Tryd.prog 8 #[.string s, .int .i64 i] w
      fun e w' => e = .returned (.int .i64 (hd st.rest)) ∧ w = w' := by
  have h := raw_any w s i hs hi
  rw [← hst.out] at h
  exact h

/-- ZZnewScannerString. -/
def NewZ (w : World) (src : ByteArray) (l : List UInt8) (e : Ending) (w' : World) : Prop :=
  ∃ L : Loc, L.src = src ∧ (∀ k ∈ L.own, w.heap.size ≤ k) ∧ (∀ k ∈ L.own, k < w'.heap.size) ∧ e = .returned (.pointer (some ⟨L.S, 0, none⟩)) ∧ Sc w' L ⟨l, 1, 0⟩ none ∧ Fr [] w w' ∧ HasEof w' L.a
set_option maxHeartbeats 1600000 in
theorem znew (w : World) (a : Addr) (s src : ByteArray) (he : HasEof w a) (hs : s.size ≤ 1048576) :
    Calls Tryd.prog 5 #[.string s, .string src] w (NewZ w src s.data.toList) := by
  have hg0 := he.2
  have hne : w.heap.size ≠ 0 := by omega
  go_enter Tryd.func5, Tryd.ntmps5
  go_wp2_with (go_at_call 13; refine (newReader _ s (by omega)).mono ?_; rintro e w1 ⟨rfl, hU, hz, fr⟩; refine Hid.out ?_)
  refine Lib.hid ?_
  have he1 := he.fr fr (by simp)
  go_wp2_with (go_at_call 12; refine (newScanner w1 _ a src _ hU he1 hne).mono ?_; rintro e w2 hN; obtain ⟨L, hLU, hLa, hLs, hS, hR, hD, rfl, hSc, fr2⟩ := hN)
  go_ret
  exact ⟨L, hLs, Loc.own_new (by omega) (by omega) (by omega) (by omega), fun k hk => hSc.lt k (by simp [Loc.own] at hk ⊢; omega), rfl, hSc, fr.trans fr2, hSc.rd.eof⟩
end Go.Proofs.YtnaklkhdmmbjjaaDoor
