/- bytes.NewReader, bufio.NewReaderSize, parse.NewScanner, walked. -/
import Derived.Test.YtgiklkapedlckaaGreatDoorScan2
namespace Go.Proofs.YtgiklkapedlckaaGreatDoor
open Go.RowKit

theorem size_alloc (w : World) (o : Obj) : (w.alloc o).heap.size = w.heap.size + 1 := by simp

/-- bytes.NewReader. -/
theorem newReader (w : World) (M : Nat) (v : Value) (l : List UInt8) (hm : Sm w M v l) (hl : l.length ≤ 1099511627776) :
    Calls Tryz.prog 5 #[v] w
      fun e w' => e = .returned (.pointer (some ⟨w.heap.size, 0, none⟩)) ∧ Src w' w.heap.size M l ∧ w'.heap.size = w.heap.size + 1 ∧ Fr [] w w' := by
  have hm2 := hm
  obtain ⟨hM, a, c, rfl, hlc, hcell⟩ := hm2
  clear hcell
  go_enter Tryz.func5, Tryz.ntmps5
  go_wp2
  go_ret
  exact ⟨rfl, ⟨_, l, 0, -1, Blk.new _ _ _, hm.of_block (Below.heap_alloc _ _ _ hM) (by simp), Nat.zero_le _, hl, rfl⟩, size_alloc _ _, (Fr.refl _ _).alloc _⟩

theorem made_byt {w : World} {base g n : Nat} (h : w.ownsRow base 5 1 (.slice (some ⟨g, 0, none⟩) n n) n (madeCells #[.int .u8 0] n).toList) : Byt w g (List.replicate n 0) := by
  obtain ⟨_, h⟩ := h
  rcases h with ⟨h, _⟩ | ⟨g', cap, cur, hv, _, hh, _, _, hc, ht⟩
  · cases h
  · cases hv
    refine ⟨5, ?_⟩
    rw [hh]
    have e : cur.toList = (List.replicate n (0 : UInt8)).map u8v := by
      rw [List.take_of_length_le (by rw [Array.length_toList]; omega)] at ht
      rw [ht]
      apply List.ext_getElem
      · simp [size_madeCells]
      · intro i h1 h2
        simp [madeCells, u8v, Nat.mod_one]
    rw [← e]

set_option maxRecDepth 100000 in
set_option maxHeartbeats 1600000 in
/-- (*bufio.Reader).reset. -/
theorem reset_any (w : World) (R : Nat) (p u : Addr) (n c : Nat) (ty : TypeId) (a b d e f g k : Value) (h : Blk w R [a, b, d, e, f, g, k]) :
    Calls Tryz.prog 36 #[.pointer (some ⟨R, 0, none⟩), .slice (some p) n c, .iface ty (.pointer (some u))] w
      fun en w' => en = .returned (.tuple #[]) ∧ Blk w' R [.slice (some p) n c, .iface ty (.pointer (some u)), .int .i64 0, .int .i64 0, .nilIface, .int .i64 (-1), .int .i64 (-1)] ∧ Fr [R] w w' := by
  have c0 := h.cell 0 _ rfl
  have c1 := h.cell 1 _ rfl
  have c2 := h.cell 2 _ rfl
  have c3 := h.cell 3 _ rfl
  have c4 := h.cell 4 _ rfl
  have c5 := h.cell 5 _ rfl
  have c6 := h.cell 6 _ rfl
  have f0 := h.free 0
  have f1 := h.free 1
  have f2 := h.free 2
  have f3 := h.free 3
  have f4 := h.free 4
  have f5 := h.free 5
  have f6 := h.free 6
  go_enter Tryz.func36, Tryz.ntmps36
  go_wp2
  refine bodyPost_end (results_none rfl _ _ _) rfl ⟨rfl, ?_, ?_⟩
  · exact ((((((h.set 0 _).set 1 _).set 2 _).set 3 _).set 4 _).set 5 _).set 6 _
  · exact ((((((((Fr.refl _ _).setCell (by simp) _).setCell (by simp) _).setCell (by simp) _).setCell (by simp) _).setCell (by simp) _).setCell (by simp) _).setCell (by simp) _)

/-- A *bytes.Reader is no *bufio.Reader. -/
theorem no_bufio (u : Addr) (wx : World) : (Instr.typeAssert (.iface 33 (.pointer (some u))) 50 51 true).run Tryz.prog wx = .ok (.tuple #[.pointer none, .bool false]) wx := by kernel_rfl

set_option maxRecDepth 100000 in
set_option maxHeartbeats 1600000 in
/-- bufio.NewReaderSize at 4096. -/
theorem newReaderSize (w : World) (U : Nat) :
    Calls Tryz.prog 8 #[.iface 33 (.pointer (some ⟨U, 0, none⟩)), .int .i64 4096] w
      fun e w' => e = .returned (.pointer (some ⟨w.heap.size, 0, none⟩)) ∧
        Blk w' w.heap.size [.slice (some ⟨w.heap.size + 1, 0, none⟩) 4096 4096, .iface 33 (.pointer (some ⟨U, 0, none⟩)), .int .i64 0, .int .i64 0, .nilIface, .int .i64 (-1), .int .i64 (-1)] ∧
        Byt w' (w.heap.size + 1) (List.replicate 4096 0) ∧ Fr [] w w' := by
  go_enter Tryz.func8, Tryz.ntmps8
  have hta := no_bufio
  obtain ⟨i0, hi, hz0, hz1, hz2⟩ := info_parts (show (Tryz.prog.info? 5).map (fun i => (i.zero, i.size, i.bytes)) = some (some (.int .u8 0), 1, 1) by kernel_rfl)
  go_wp2_with (with_reducible refine wpList_make_full _ rfl (.tmp 27) (.tmp 27) 22 rfl (w.heap.size + 1) 5 i0 (.int .u8 0) 1 Tryz.underlying22 hi hz0 hz1 .i64 .i64 4096 4096 4096 rfl rfl rfl rfl (by rw [hz2]; decide) (by decide) (by simp) ?_)
  intro w1 hown hgr
  have hD := made_byt hown
  have hR : Blk w1 w.heap.size [.slice none 0 0, .nilIface, .int .i64 0, .int .i64 0, .nilIface, .int .i64 0, .int .i64 0] :=
    (Blk.new w #[.slice none 0 0, .nilIface, .int .i64 0, .int .i64 0, .nilIface, .int .i64 0, .int .i64 0] 83).of_block (hgr.block _ (by simp) (by simp))
  have fr1 : Fr [] w w1 := ((Fr.refl [] w).alloc _).trans ⟨hgr.os, hgr.tape, hgr.output, hgr.size, fun k hk _ => hgr.block k hk (by simp)⟩
  have H := Lib.hid (And.intro hD (And.intro hR fr1))
  have hRg := hR.lt
  clear hown hgr hD hR fr1 hi hz0 hz1 hz2 hta
  go_wp2_with (go_at_call 36; refine (reset_any w1 w.heap.size ⟨w.heap.size + 1, 0, none⟩ ⟨U, 0, none⟩ 4096 4096 33 _ _ _ _ _ _ _ H.out.2.1).mono ?_; rintro e w' ⟨rfl, hb, fr⟩)
  go_ret
  obtain ⟨hD, hR, fr1⟩ := H.out
  refine ⟨rfl, hb, fr.byt hD (by simp), ?_⟩
  exact ⟨fr.os.trans fr1.os, fr.tape.trans fr1.tape, fr.output.trans fr1.output, Nat.le_trans fr1.size fr.size, fun k hk _ => (fr.block k (Nat.lt_of_lt_of_le hk fr1.size) (by simp; omega)).trans (fr1.block k hk (by simp))⟩

/-- A fresh scanner over the text l. -/
def NewSc (w : World) (U M : Nat) (a : Addr) (src : ByteArray) (l : List UInt8) (e : Ending) (w' : World) : Prop :=
  ∃ L : Loc, L.U = U ∧ L.M = M ∧ L.a = a ∧ L.src = src ∧ w.heap.size ≤ L.S ∧ w.heap.size ≤ L.R ∧ w.heap.size ≤ L.D ∧ e = .returned (.pointer (some ⟨L.S, 0, none⟩)) ∧ Sc w' L ⟨l, 1, 0⟩ none ∧ Fr [] w w'

set_option maxRecDepth 100000 in
set_option maxHeartbeats 1600000 in
/-- parse.NewScanner. -/
theorem newScanner (w : World) (U : Nat) (a : Addr) (src : ByteArray) (l : List UInt8) (M : Nat) (hU : Src w U M l) (he : HasEof w a) (hUg : U ≠ 1) (hUM : U ≠ M) :
    Calls Tryz.prog 4 #[.iface 33 (.pointer (some ⟨U, 0, none⟩)), .string src] w (NewSc w U M a src l) := by
  go_enter Tryz.func4, Tryz.ntmps4
  go_wp2_with (go_at_call 8; refine (newReaderSize w U).mono ?_; rintro e w' ⟨rfl, hb, hD, fr⟩)
  go_ret
  have hUl := hU.lt
  have hMl := hU.ltM
  have hgl := he.2
  have hRl := hb.lt
  have hDl := hD.lt
  have fr2 : Fr [] w (w'.alloc (.cells #[.string src, .int .i64 1, .int .i64 0, .pointer (some ⟨w.heap.size, 0, none⟩)] 54)) := fr.alloc _
  refine ⟨⟨w'.heap.size, w.heap.size, w.heap.size + 1, U, M, a, src⟩, rfl, rfl, rfl, rfl, fr.size, Nat.le_refl _, by simp, rfl, ⟨Blk.new _ _ _, ?_, ?_⟩, fr2⟩
  · refine ⟨0, 0, List.replicate 4096 0, -1, -1, l, ⟨hb.alloc _, ?_, List.length_replicate .., hU.of_block (fr2.block _ hUl (by simp)) (fr2.block _ hMl (by simp)) fr2.size, he.fr fr2 (by simp), ?_⟩, Nat.le_refl _, by decide, by rw [List.take_zero]; rfl, fun c hc => by cases hc⟩
    · exact hD.of_block (Below.heap_alloc _ _ _ hDl)
    · constructor <;> simp only [ne_eq] <;> omega
  · obtain ⟨v, all, i, pr, _, hm, hi, hs, hl⟩ := hU
    have : l.length ≤ all.length := by
      rw [hl]; simp
    exact ⟨by show (-1 : Int) ≤ 1; omega, Int.le_refl 0, by show (1 : Int) + 0 + (l.length : Nat) ≤ 2305843009213693951; omega⟩
end Go.Proofs.YtgiklkapedlckaaGreatDoor
