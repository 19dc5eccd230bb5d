/- bufio.Reader: readErr, ReadByte, UnreadByte, walked. -/
import Derived.Test.YtgiklkapedlckaaGreatDoorReadB
import Derived.Deep.CutBlock
namespace Go.Proofs.YtgiklkapedlckaaGreatDoor
open Go.RowKit

/-- What a bufio.Reader's methods may write. -/
def Loc.rown (L : Loc) : List Nat := [L.R, L.D, L.U]

theorem drop_cons' (bs : List UInt8) (wn k : Nat) (c : UInt8) (hk : k < wn) (hb : bs[k]? = some c) : (bs.take wn).drop k = c :: (bs.take wn).drop (k + 1) := by
  have h1 : k < (bs.take wn).length := by
    have := (List.getElem?_eq_some_iff.1 hb).1
    simp; omega
  have h2 : (bs.take wn)[k] = c := by
    have := (List.getElem?_eq_some_iff.1 hb).2
    simp [this]
  rw [List.drop_eq_getElem_cons h1, h2]

theorem first_of {bs l2 t : List UInt8} {wn r : Nat} {c : UInt8} (h : c :: t = (bs.take wn).drop r ++ l2) (hr : r < wn) (hw : wn ≤ bs.length) : bs[r]? = some c ∧ t = (bs.take wn).drop (r + 1) ++ l2 := by
  have hb : bs[r]? = some bs[r] := List.getElem?_eq_getElem (by omega)
  rw [drop_cons' bs wn r _ hr hb, List.cons_append, List.cons.injEq] at h
  exact ⟨by rw [hb, h.1], h.2⟩

theorem readErr_eof (w : World) (L : Loc) (r wn : Nat) (bs : List UInt8) (lastB lastR : Int) (l2 : List UInt8) (h : RdAt w L r wn bs (eofV L.a) lastB lastR l2) :
    Calls Tryz.prog 59 #[.pointer (some ⟨L.R, 0, none⟩)] w
      fun e w' => e = .returned (eofV L.a) ∧ RdAt w' L r wn bs .nilIface lastB lastR l2 ∧ Fr L.rown w w' := by
  obtain ⟨_, _, _, _, c4, _, _, _, _, f4, _⟩ := h.facts
  unfold eofV at c4
  unfold eofV
  go_enter Tryz.func59, Tryz.ntmps59
  go_wp2
  go_ret
  exact ⟨rfl, h.set_err _, (Fr.refl _ _).setCell (by simp [Loc.rown]) _⟩

set_option maxRecDepth 100000 in
set_option maxHeartbeats 1600000 in
/-- UnreadByte puts the byte back. -/
theorem unread (w : World) (L : Loc) (t : List UInt8) (c : UInt8) (h : Rd w L t (some c)) :
    Calls Tryz.prog 40 #[.pointer (some ⟨L.R, 0, none⟩)] w
      fun e w' => e = .returned .nilIface ∧ Rd w' L (c :: t) none ∧ Fr L.rown w w' := by
  obtain ⟨r, wn, bs, lastB, lastR, l2, h, hr, hw, hl, hlb⟩ := h
  obtain ⟨rfl, hr0, hbc⟩ := hlb c rfl
  obtain ⟨k, rfl⟩ : ∃ k, r = k + 1 := ⟨r - 1, by omega⟩
  have hbk : bs[k]? = some c := by simpa using hbc
  have hk : (k : Int) < 4096 := by omega
  have hc0 : (0 : Int) ≤ (c.toNat : Int) := by omega
  have hc1 : (c.toNat : Int) ≤ 255 := by have := c.toNat_lt; omega
  have hcn : ((c.toNat : Int) < 0) = False := by simp
  have hcw : IntKind.u8.wrap (c.toNat : Int) = (c.toNat : Int) := wraps_u8 _ (by omega) (by omega)
  have hz : ((k : Int) + 1 == 0) = false := by rw [beq_eq_false_iff_ne]; omega
  have HL := Lib.hid hl
  clear hl hlb hbc
  obtain ⟨c0, _, c2, c3, _, c5, _, f2, _, _, f5, f6⟩ := h.facts
  go_enter Tryz.func40, Tryz.ntmps40
  go_wp2
  have h1 := h.set_r k
  have fr1 : Fr L.rown w (w.setCell ⟨L.R, 2, none⟩ (.int .i64 k)) := (Fr.refl _ _).setCell (by simp [Loc.rown]) _
  generalize w.setCell ⟨L.R, 2, none⟩ (.int .i64 k) = w1 at h1 fr1 ⊢
  clear c0 c2 c3 c5 f2 f5 f6 h
  obtain ⟨c0, _, c2, c3, _, c5, _⟩ := h1.facts
  go_still_tail 14, (by kernel_rfl)
  change wpList _ _ _ _ _ w1.drew
  have h2 := h1.drew
  have fr2 := fr1.drew
  generalize w1.drew = w2 at h2 fr2 ⊢
  clear c0 c2 c3 c5 h1 fr1
  obtain ⟨_, _, _, _, _, c5, c6, _, _, _, f5, f6⟩ := h2.facts
  have n1 := h2.ok.rd
  have n2 := h2.ok.rd.symm
  have fD := h2.bD.free k
  have cD := h2.bD.cell k c hbk
  go_wp2
  go_ret
  have h3 := ((h2.setD k c).set_lastB (-1)).set_lastR (-1)
  have hbs : bs.set k c = bs := by
    apply List.ext_getElem?
    intro i
    rw [List.getElem?_set]
    split
    · rename_i e; subst e; rw [hbk]; simp; have := (List.getElem?_eq_some_iff.1 hbk).1; omega
    · rfl
  rw [hbs] at h3
  refine ⟨rfl, ⟨k, wn, bs, -1, -1, l2, h3, by omega, hw, ?_, fun c hc => by cases hc⟩, ((fr2.setCell (by simp [Loc.rown]) _).setCell (by simp [Loc.rown]) _).setCell (by simp [Loc.rown]) _⟩
  rw [HL.out, drop_cons' bs wn k c (by omega) hbk, List.cons_append]

set_option maxRecDepth 100000 in
set_option maxHeartbeats 1600000 in
/-- ReadByte at the end. -/
theorem readByte_nil (w : World) (L : Loc) (lb : Option UInt8) (h : Rd w L [] lb) :
    Calls Tryz.prog 49 #[.pointer (some ⟨L.R, 0, none⟩)] w
      fun e w' => e = .returned (.tuple #[.int .u8 0, eofV L.a]) ∧ Rd w' L [] none ∧ Fr L.rown w w' := by
  obtain ⟨r, wn, bs, lastB, lastR, l2, h, hr, hw, hl, hlb⟩ := h
  have hl' := hl.symm
  rw [List.append_eq_nil_iff] at hl'
  obtain ⟨h1, rfl⟩ := hl'
  have hD := h.lD
  have hrw : r = wn := by
    have := congrArg List.length h1
    simp at this; omega
  subst hrw
  clear hl hlb h1
  obtain ⟨_, _, c2, c3, c4, _, _, _, _, _, _, f6⟩ := h.facts
  go_enter Tryz.func49, Tryz.ntmps49
  go_wp2
  have h1 := h.set_lastR (-1)
  have fr1 : Fr L.rown w (w.setCell ⟨L.R, 6, none⟩ (.int .i64 (-1))) := (Fr.refl _ _).setCell (by simp [Loc.rown]) _
  generalize w.setCell ⟨L.R, 6, none⟩ (.int .i64 (-1)) = w1 at h1 fr1 ⊢
  clear c2 c3 c4 f6 h
  obtain ⟨_, _, c2, c3, c4, _⟩ := h1.facts
  refine wp_loop_rounds 2 ?_
  rw [rounds_succ]
  go_wp2
  go_quiet (fail)
  have h2 := h1.drewN nq
  have fr2 := fr1.drewN nq
  generalize w1.drewN nq = w2 at h2 fr2 ⊢
  clear c2 c3 c4 h1 fr1
  obtain ⟨_, _, c2, c3, c4, _⟩ := h2.facts
  go_wp2_with (go_at_call 60; refine (fill_eof w2 L r bs lastB (-1) h2 hw).mono ?_; rintro e w' ⟨rfl, h3, fr3⟩; refine Hid.out ?_)
  refine Lib.hid ?_
  rename_i w' h3 fr3
  clear c2 c3 c4
  obtain ⟨_, _, c2, c3, c4, _⟩ := h3.facts
  have fr4 := fr2.trans (fr3.mono (by simp [Loc.rown]))
  clear fr2 fr3 h2
  go_wp2
  rw [rounds_succ]
  go_wp2
  go_quiet (fail)
  have h5 := h3.drewN nq
  have fr5 := fr4.drewN nq
  generalize w'.drewN nq = w5 at h5 fr5 ⊢
  clear c2 c3 c4 h3 fr4
  obtain ⟨_, _, c2, c3, c4, _⟩ := h5.facts
  unfold eofV at c4
  go_wp2_with (go_at_call 59; refine (readErr_eof w5 L 0 0 bs lastB (-1) [] h5).mono ?_; rintro e w' ⟨rfl, h6, fr6⟩)
  go_ret2
  exact ⟨rfl, ⟨0, 0, bs, lastB, -1, [], h6, Nat.le_refl _, by decide, by simp, fun c hc => by cases hc⟩, fr5.trans fr6⟩

set_option maxRecDepth 100000 in
set_option maxHeartbeats 3200000 in
/-- ReadByte where something is left. -/
theorem readByte_cons (w : World) (L : Loc) (lb : Option UInt8) (c : UInt8) (t : List UInt8) (h : Rd w L (c :: t) lb) :
    Calls Tryz.prog 49 #[.pointer (some ⟨L.R, 0, none⟩)] w
      fun e w' => e = .returned (.tuple #[.int .u8 c.toNat, .nilIface]) ∧ Rd w' L t (some c) ∧ Fr L.rown w w' := by
  obtain ⟨r, wn, bs, lastB, lastR, l2, h, hr, hw, hl, hlb⟩ := h
  have hc0 : (0 : Int) ≤ (c.toNat : Int) := by omega
  have hc1 : (c.toNat : Int) ≤ 255 := by have := c.toNat_lt; omega
  have HL := Lib.hid hl
  clear hl hlb
  obtain ⟨_, _, c2, c3, c4, _, _, _, _, _, _, f6⟩ := h.facts
  go_enter Tryz.func49, Tryz.ntmps49
  go_upto_block 0 with fail
  have h1 := h.set_lastR (-1)
  have fr1 : Fr L.rown w (w.setCell ⟨L.R, 6, none⟩ (.int .i64 (-1))) := (Fr.refl _ _).setCell (by simp [Loc.rown]) _
  generalize w.setCell ⟨L.R, 6, none⟩ (.int .i64 (-1)) = w1 at h1 fr1 ⊢
  clear c2 c3 c4 f6 h
  obtain ⟨_, _, c2, c3, c4, _⟩ := h1.facts
  go_cut [] (fun wx => ∃ r wn bs lastB l2, RdAt wx L r wn bs .nilIface lastB (-1) l2 ∧ r < wn ∧ wn ≤ 4096 ∧ c :: t = (bs.take wn).drop r ++ l2 ∧ Fr L.rown w wx)
  case first =>
    by_cases hlt : r < wn
    · have hb : ((r : Int) == (wn : Int)) = false := by rw [beq_eq_false_iff_ne]; omega
      go_wp2
      refine wp_loop_rounds 1 ?_
      rw [rounds_succ]
      go_wp2
      go_quiet (fail)
      go_wp2
      go_meet
      exact ⟨r, wn, bs, lastB, l2, h1.drewN _, hlt, hw, HL.out, fr1.drewN _⟩
    · obtain rfl : r = wn := by omega
      have hl := HL.out
      have hD := h1.lD
      rw [List.drop_eq_nil_of_le (by simp; omega), List.nil_append] at hl
      obtain ⟨n, hn⟩ : ∃ n, n = min 4096 l2.length := ⟨_, rfl⟩
      have hn0 : 0 < n := by rw [hn, ← hl]; simp; omega
      have hn4 : n ≤ 4096 := by omega
      have hb : ((0 : Int) == (n : Int)) = false := by rw [beq_eq_false_iff_ne]; omega
      have hne : l2 ≠ [] := by rw [← hl]; simp
      have HN := Lib.hid hn
      have HL2 := Lib.hid hl
      clear hn hl HL hn0 hD
      go_wp2
      refine wp_loop_rounds 2 ?_
      rw [rounds_succ]
      go_wp2
      go_quiet (fail)
      have h2 := h1.drewN nq
      have fr2 := fr1.drewN nq
      generalize w1.drewN nq = w2 at h2 fr2 ⊢
      clear c2 c3 c4 h1 fr1
      obtain ⟨_, _, c2, c3, c4, _⟩ := h2.facts
      go_wp2_with (go_at_call 60; refine (fill_some w2 L r bs lastB (-1) l2 h2 hw hne n HN).mono ?_; rintro e w' ⟨rfl, h3, fr3⟩; refine Hid.out ?_)
      refine Lib.hid ?_
      rename_i w' h3 fr3
      clear c2 c3 c4
      obtain ⟨_, _, c2, c3, c4, _⟩ := h3.facts
      have fr4 := fr2.trans (fr3.mono (by simp [Loc.rown]))
      clear fr2 fr3 h2
      go_wp2
      rw [rounds_succ]
      go_wp2
      go_quiet (fail)
      go_wp2
      go_meet
      refine ⟨0, n, l2.take 4096 ++ bs.drop n, lastB, l2.drop 4096, h3.drewN _, by have := HN.out; have := List.length_pos_iff.2 hne; omega, hn4, ?_, fr4.drewN _⟩
      have hn := HN.out
      rw [HL2.out, List.drop_zero]
      rw [List.take_append_of_le_length (by simp; omega), List.take_take]
      rcases Nat.le_total 4096 l2.length with h | h
      · rw [hn, Nat.min_eq_left h, Nat.min_self, List.take_append_drop]
      · rw [hn, Nat.min_eq_right h, Nat.min_eq_left h, List.take_of_length_le (Nat.le_refl _), List.drop_eq_nil_of_le h, List.append_nil]
  case rest =>
    clear h1 fr1 c2 c3 c4 HL hw
    obtain ⟨r', wn', bs', lastB', l2', h2, hlt, hw, hl, fr2⟩ := hcut
    obtain ⟨hbc, ht⟩ := first_of hl hlt (by rw [h2.lD]; exact hw)
    have HT := Lib.hid ht
    clear ht hl
    have hr4 : (r' : Int) < 4096 := by omega
    obtain ⟨c0, _, c2, c3, _, c5, _, f2, _, _, f5, _⟩ := h2.facts
    have cD := h2.bD.cell r' c hbc
    go_wp2
    go_quiet (fail)
    have h3 := h2.drewN nq
    have fr3 := fr2.drewN nq
    generalize wc.drewN nq = w3 at h3 fr3 ⊢
    clear c0 c2 c3 c5 f2 f5 cD h2 fr2
    obtain ⟨_, _, c2, _, _, c5, _, f2, _, _, f5, _⟩ := h3.facts
    go_wp2
    go_ret2
    refine ⟨rfl, ⟨r' + 1, wn', bs', c.toNat, -1, l2', (h3.set_r (r' + 1)).set_lastB c.toNat, hlt, hw, HT.out, ?_⟩, (fr3.setCell (by simp [Loc.rown]) _).setCell (by simp [Loc.rown]) _⟩
    intro d hd
    cases hd
    exact ⟨rfl, by omega, by simpa using hbc⟩
end Go.Proofs.YtgiklkapedlckaaGreatDoor
