/- The scanner's readNext, Peek, Newline, Next, walked once each. -/
import Derived.Test.YtgiklkapedlckaaGreatDoorReadC
import Derived.Test.YtgiklkapedlckaaGreatDoorSt
import Derived.LaidEql
namespace Go.Proofs.YtgiklkapedlckaaGreatDoor
open Go.RowKit

/-- The scanner in memory. -/
structure Sc (w : World) (L : Loc) (st : St) (lb : Option UInt8) : Prop where
  bS : Blk w L.S [.string L.src, .int .i64 st.line, .int .i64 st.col, .pointer (some ⟨L.R, 0, none⟩)]
  rd : Rd w L st.rest lb
  bd : st.Bd

theorem Sc.ok {w : World} {L : Loc} {st : St} {lb : Option UInt8} (h : Sc w L st lb) : L.Ok := h.rd.ok
theorem Sc.weak {w : World} {L : Loc} {st : St} {lb : Option UInt8} (h : Sc w L st lb) : Sc w L st none := ⟨h.bS, h.rd.weak, h.bd⟩
theorem Sc.keep {w w' : World} {L : Loc} {st : St} {lb : Option UInt8} (h : Sc w L st lb)
    (hs : w.heap.size ≤ w'.heap.size) (hb : ∀ k ∈ [1, L.M, L.S, L.R, L.D, L.U], w'.heap[k]? = w.heap[k]?) : Sc w' L st lb :=
  ⟨h.bS.of_block (hb _ (by simp)), h.rd.keep hs (fun k hk => hb k (by simp at hk ⊢; omega)), h.bd⟩
theorem Loc.Ok.s_rown {L : Loc} (h : L.Ok) : L.S ∉ L.rown := by simp [Loc.rown, h.sr, h.sd, h.su]
theorem Loc.rown_own {L : Loc} : ∀ k ∈ L.rown, k ∈ L.own := by
  intro k hk
  simp only [Loc.rown, Loc.own, List.mem_cons, List.not_mem_nil, or_false] at hk ⊢
  exact Or.inr hk
theorem Rd.setS {w : World} {L : Loc} {l : List UInt8} {lb : Option UInt8} (h : Rd w L l lb) (j : Nat) (v : Value) : Rd (w.setCell ⟨L.S, j, none⟩ v) L l lb := by
  have ok := h.ok
  refine h.keep (by simp [World.setCell]) (fun k hk => Below.heap_setCell _ _ _ _ (fun e => ?_))
  have e' : k = L.S := e
  subst e'
  simp [ok.gs, ok.sr, ok.sd, ok.su, ok.sm] at hk
theorem Rd.eof {w : World} {L : Loc} {l : List UInt8} {lb : Option UInt8} (h : Rd w L l lb) : HasEof w L.a := by
  obtain ⟨r, wn, bs, x, y, l2, h1, h2⟩ := h
  exact h1.eof
/-- Behind a call of the reader's own. -/
theorem Sc.after {w w' : World} {L : Loc} {st st' : St} {lb lb' : Option UInt8} (h : Sc w L st lb) (hr : Rd w' L st'.rest lb') (f : Fr L.rown w w') (hl : st'.line = st.line) (hc : st'.col = st.col) (hb : st'.Bd) : Sc w' L st' lb' :=
  ⟨by rw [hl, hc]; exact f.blk h.bS h.ok.s_rown, hr, hb⟩

/-- What a walk reads and may write. -/
theorem Sc.facts {w : World} {L : Loc} {st : St} {lb : Option UInt8} (h : Sc w L st lb) :
    w.cell? ⟨L.S, 0, none⟩ = some (.string L.src) ∧ w.cell? ⟨L.S, 1, none⟩ = some (.int .i64 st.line) ∧ w.cell? ⟨L.S, 2, none⟩ = some (.int .i64 st.col) ∧ w.cell? ⟨L.S, 3, none⟩ = some (.pointer (some ⟨L.R, 0, none⟩)) ∧
    w.frozen? ⟨L.S, 1, none⟩ = false ∧ w.frozen? ⟨L.S, 2, none⟩ = false :=
  ⟨h.bS.cell 0 _ rfl, h.bS.cell 1 _ rfl, h.bS.cell 2 _ rfl, h.bS.cell 3 _ rfl, h.bS.free 1, h.bS.free 2⟩

theorem info_some {P : Program} {t : TypeId} {b : Bool} (h : (P.info? t).map (·.comparable) = some b) : ∃ i, P.info? t = some i ∧ i.comparable = b := by
  cases hq : P.info? t with
  | none => simp [hq] at h
  | some i => exact ⟨i, rfl, by simpa [hq] using h⟩
theorem eof_eq (w : World) (a : Addr) : (binOp .eql 39 (.iface 135 (.pointer (some a))) (.iface 135 (.pointer (some a)))).run Tryz.prog w = .ok (.bool true) w := by
  obtain ⟨i, hi, hc⟩ := info_some (P := Tryz.prog) (t := 135) (b := true) (by kernel_rfl)
  obtain ⟨j, hj, _⟩ := info_some (P := Tryz.prog) (t := 137) (b := true) (by kernel_rfl)
  exact run_eql_iface_ptr_same w a Tryz.underlying39 Tryz.underlying135 hi hc hj
theorem nil_eof (w : World) (a : Addr) : (binOp .eql 39 .nilIface (.iface 135 (.pointer (some a)))).run Tryz.prog w = .ok (.bool false) w :=
  run_eql_iface_nil_left w _ _ Tryz.underlying39

set_option maxRecDepth 100000 in
set_option maxHeartbeats 1600000 in
/-- readNext at the end. -/
theorem readNext_nil (w : World) (L : Loc) (st : St) (lb : Option UInt8) (h : Sc w L st lb) (hl : st.rest = []) :
    Calls Tryz.prog 39 #[.pointer (some ⟨L.S, 0, none⟩)] w
      fun e w' => e = .returned (.int .i64 (-1)) ∧ Sc w' L st none ∧ Fr L.own w w' := by
  obtain ⟨rest, line, col⟩ := st
  obtain rfl : rest = [] := hl
  obtain ⟨_, _, _, c3, _, _⟩ := h.facts
  go_enter Tryz.func39, Tryz.ntmps39
  go_wp2_with (go_at_call 49; refine (readByte_nil w L lb h.rd).mono ?_; rintro e w' ⟨rfl, hr, fr⟩; refine Hid.out ?_)
  refine Lib.hid ?_
  have h' : Sc w' L ⟨[], line, col⟩ none := h.after hr fr rfl rfl h.bd
  have ce := hr.eof.1
  unfold eofV at ce ⊢
  have hq := eof_eq w' L.a
  go_wp2
  go_ret
  exact ⟨rfl, h', fr.mono Loc.rown_own⟩

set_option maxRecDepth 100000 in
set_option maxHeartbeats 1600000 in
/-- readNext where something is left. -/
theorem readNext_cons (w : World) (L : Loc) (st : St) (lb : Option UInt8) (c : UInt8) (t : List UInt8) (h : Sc w L st lb) (hl : st.rest = c :: t) :
    Calls Tryz.prog 39 #[.pointer (some ⟨L.S, 0, none⟩)] w
      fun e w' => e = .returned (.int .i64 c.toNat) ∧ Sc w' L ⟨t, st.line, st.col⟩ (some c) ∧ Fr L.own w w' := by
  obtain ⟨rest, line, col⟩ := st
  obtain rfl : rest = c :: t := hl
  obtain ⟨_, _, _, c3, _, _⟩ := h.facts
  have hc0 : (0 : Int) ≤ (c.toNat : Int) := by omega
  have hc1 : (c.toNat : Int) ≤ 255 := by have := c.toNat_lt; omega
  go_enter Tryz.func39, Tryz.ntmps39
  go_wp2_with (go_at_call 49; refine (readByte_cons w L lb c t h.rd).mono ?_; rintro e w' ⟨rfl, hr, fr⟩; refine Hid.out ?_)
  refine Lib.hid ?_
  have h' : Sc w' L ⟨t, line, col⟩ (some c) := h.after hr fr rfl rfl h.bd.tl
  have ce := hr.eof.1
  unfold eofV at ce
  have hq := nil_eof w' L.a
  go_wp2
  go_ret
  exact ⟨rfl, h', fr.mono Loc.rown_own⟩

/-- readNext, whatever is left. -/
theorem readNext_any (w : World) (L : Loc) (st : St) (lb : Option UInt8) (h : Sc w L st lb) :
    Calls Tryz.prog 39 #[.pointer (some ⟨L.S, 0, none⟩)] w
      fun e w' => e = .returned (.int .i64 (hd st.rest)) ∧ Sc w' L ⟨tl st.rest, st.line, st.col⟩ (fst? st.rest) ∧ Fr L.own w w' := by
  obtain ⟨rest, line, col⟩ := st
  cases rest with
  | nil => exact readNext_nil w L _ lb h rfl
  | cons c t => exact readNext_cons w L _ lb c t h rfl

set_option maxRecDepth 100000 in
set_option maxHeartbeats 1600000 in
/-- Peek shows the next byte and leaves all as it is. -/
theorem peek_any (w : World) (L : Loc) (st : St) (lb : Option UInt8) (h : Sc w L st lb) :
    Calls Tryz.prog 16 #[.pointer (some ⟨L.S, 0, none⟩)] w
      fun e w' => e = .returned (.int .i64 (hd st.rest)) ∧ Sc w' L st none ∧ Fr L.own w w' := by
  obtain ⟨rest, line, col⟩ := st
  cases rest with
  | nil =>
    go_enter Tryz.func16, Tryz.ntmps16
    go_wp2_with (go_at_call 39; refine (readNext_nil w L _ lb h rfl).mono ?_; rintro e w' ⟨rfl, h', fr⟩)
    go_ret
    exact ⟨rfl, h', fr⟩
  | cons c t =>
    have hc0 : (0 : Int) ≤ (c.toNat : Int) := by omega
    have hne : ((c.toNat : Int) != -1) = true := by rw [bne_iff_ne]; omega
    have hne' : ((c.toNat : Int) == -1) = false := by rw [beq_eq_false_iff_ne]; omega
    go_enter Tryz.func16, Tryz.ntmps16
    go_wp2_with (go_at_call 39; refine (readNext_cons w L _ lb c t h rfl).mono ?_; rintro e w' ⟨rfl, h', fr⟩; refine Hid.out ?_)
    refine Lib.hid ?_
    obtain ⟨_, _, _, c3, _, _⟩ := h'.facts
    go_wp2_with (go_at_call 40; refine (unread w' L t c h'.rd).mono ?_; rintro e w'' ⟨rfl, hr, fr2⟩)
    go_ret
    exact ⟨rfl, h'.after hr fr2 rfl rfl h.bd, fr.trans (fr2.mono Loc.rown_own)⟩
end Go.Proofs.YtgiklkapedlckaaGreatDoor
