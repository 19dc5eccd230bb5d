/- What the rows' list gives: io.EOF holds a pointer. Token lists against Scan's model; what stands at the end. No program in sight. A byte slice of the call's own as a walk reads it; zzCloneBytes of n005_77, walked. Lex over a scanner whose next token is no error; its export of n005_77; ZZnewLexer. Walked. zzModelTokens of n005_77, walked. Lex against the token of the model. The law FnLexAgreesWithTokenModelAndStaysAtEnd, walked. -/
import Derived.Test.YtnmpeipccpgkpaaGreatDoorRd
import Derived.Stop.LaidErr
import Derived.ProofKit
import Derived.LaidMore
import Derived.LaidSub
import Derived.Test.YtnmpeipccpgkpaaGreatDoorP77
import Derived.Test.YtnmpeipccpgkpaaGreatDoorOpen
import Derived.Test.YtnmpeipccpgkpaaGreatDoorBs2
import Derived.Deep.LoopGhost
import Derived.IntWalk
import Derived.Lib.SliceRun
import Derived.Deep.DeepCutAuto
import Derived.Test.YtnmpeipccpgkpaaGreatDoorSwC
import Derived.BigRegion
import Derived.Test.YtnmpeipccpgkpaaGreatDoorZj77
namespace Go.Proofs.YtnmpeipccpgkpaaGreatDoor
open Go.RowKit

theorem gEof : Tryz.prog.globalNamed "io.EOF" = some 1 := by kernel_rfl
theorem gEofType : (Tryz.prog.globals[1]?).map (·.type) = some 77 := by kernel_rfl
theorem cellsErr : Tryz.prog.cellsOf 152 = 1 := by kernel_rfl
theorem cellsStr : Tryz.prog.cellsOf 9 = 1 := by kernel_rfl
theorem starErr : "*" ++ "errors.errorString" = "*errors.errorString" := by decide
theorem rowErr (u : TypeId) (h : Tryz.prog.typeName? 3 u = some "*errors.errorString") : u = 150 :=
  typeName_ptr_named (nm := "errors.errorString") (by rw [starErr]; kernel_rfl) (by kernel_rfl) (by decide) u (by rw [starErr]; exact h)

theorem eof_of_laid {W : World} {r : List (String × DataW Unit)} (hr : (((("io.EOF", Rows.laid_io_EOF) :: r : List (String × DataW Unit)).all fun x => x.snd.handleName?.isNone)) = true) (h : laidMetH Tryz.prog (("io.EOF", Rows.laid_io_EOF) :: r) W) : ∃ a, HasEof W a := by
  rw [MakeChecks.laidMetH_plain _ _ _ hr] at h
  obtain ⟨a, s, hv, -, -, -⟩ := laid_sentinel h gEof gEofType Tryz.underlying77 rowErr Tryz.underlying150 Tryz.underlying152 rfl rfl Tryz.underlying9 cellsErr cellsStr
  have hc := World.var?_cell gEof hv 0
  refine ⟨a, by simpa [eofV] using hc, ?_⟩
  rcases Nat.lt_or_ge 1 W.heap.size with h' | h'
  · exact h'
  · simp [World.cell?, Array.getElem?_eq_none h'] at hc
/-- The same, wherever io.EOF stands in the list. -/
theorem eof_of_list {W : World} {l : List (String × DataW Unit)} (hf : l.filter (fun x => x.1 == "io.EOF") = [("io.EOF", Rows.laid_io_EOF)]) (h : laidMetH Tryz.prog l W) : ∃ a, HasEof W a := by
  have h1 := laidMetH.filter (fun x => x.1 == "io.EOF") h
  rw [hf] at h1
  exact eof_of_laid (r := []) rfl h1
end Go.Proofs.YtnmpeipccpgkpaaGreatDoor

namespace Go.Proofs.YtnmpeipccpgkpaaGreatDoor

theorem tok_lo (c : Int) (st : St) (hc : -1 ≤ c) : -1 ≤ (tokL c st).2.1 := by
  have hk := kw_ge (by8 c :: st.run identI)
  refine tok_cases c st (fun r => -1 ≤ r.2.1) ?_ ?_ ?_ ?_ ?_ ?_ ?_ ?_ ?_ ?_
  · show (-1 : Int) ≤ kw (by8 c :: st.run identI); omega
  · show (-1 : Int) ≤ 57376; decide
  · intro _; show (-1 : Int) ≤ -1; decide
  · show (-1 : Int) ≤ 57377; decide
  · show (-1 : Int) ≤ 57377; decide
  · intro _; exact hc
  · intro k t s _ ht
    unfold two
    split
    · show (-1 : Int) ≤ t; omega
    · exact hc
  · show (-1 : Int) ≤ 57369; decide
  · show (-1 : Int) ≤ 0; decide
  · refine dot_cases st (fun r => -1 ≤ r.2.1) ?_ ?_ ?_ ?_
    · show (-1 : Int) ≤ 57376; decide
    · show (-1 : Int) ≤ 57373; decide
    · show (-1 : Int) ≤ 57372; decide
    · show (-1 : Int) ≤ 46; decide
theorem scan_lo (p : Int) (st : St) : -1 ≤ (scanL p st).typ := by
  generalize hn : st.rest.length = n
  induction n using Nat.strongRecOn generalizing st with
  | _ n ih =>
    have hl := lead_rest st
    by_cases hc : (lead st).1 = 45 ∧ hd (lead st).2.2.rest = 45
    · cases hk : (comment (lead st).2.2.nextC (lead st).2.2.nextS).1
      · rw [scanL_bad hc hk]; show (-1 : Int) ≤ 45; decide
      · have g1 := hl.2.1 (by omega)
        have g2 := comment_rest (lead st).2.2.nextC (lead st).2.2.nextS
        have g3 := rest_next_le (lead st).2.2
        rw [scanL_again hc hk]
        exact ih _ (by omega) _ rfl
    · rw [scanL_tok hc]; exact tok_lo _ _ hl.2.2.1
/-- Behind the end there is nothing. -/
theorem scan_eof {p : Int} {st : St} (hok : (scanL p st).ok = true) (ht : (scanL p st).typ = -1) : (scanL p st).st.rest = [] := by
  obtain ⟨s, h1, h2, h3, h4, h5, h6⟩ := scan_at p st
  have e1 := (h6 hok).1.2 ht
  have e2 : s.rest = [] := St.nextC_neg.1 (by omega)
  have e3 : s.nextS.rest = [] := by rw [St.nextS_eof e2]
  have e4 := reach_len h4
  rw [e3] at e4
  exact List.eq_nil_of_length_eq_zero (by simpa using e4)
theorem skip_eof {st : St} (h : st.rest = []) : st.skip mk1 = (-1, ⟨[], -1, 0⟩) := by
  have e : inM mk1 st.nextC = false := by rw [St.nextC_eof h, in_mk1 (by decide) (by decide)]; decide
  rw [skip_stop e, St.nextC_eof h, St.nextS_eof h]
/-- At the end a scan finds the end. -/
theorem scan_again {p : Int} {st : St} (h : st.rest = []) : (scanL p st).ok = true ∧ (scanL p st).typ = -1 ∧ (scanL p st).st.rest = [] := by
  have hl : lead st = (-1, false, ⟨[], -1, 0⟩) := by
    unfold lead
    rw [skip_eof h, if_neg (by decide)]
  have ht : tokL (-1) ⟨[], -1, 0⟩ = (true, -1, [], ⟨[], -1, 0⟩) := by
    unfold tokL
    rw [if_neg (by decide), if_neg (by decide), if_pos rfl]
  rw [scanL_tok (by rw [hl]; decide), hl]
  simp only
  rw [ht]
  exact ⟨rfl, rfl, rfl⟩

/-- The tokens from a state to the end. -/
inductive Chain : St → List Res → Prop
  | last {st : St} : (scanL 0 st).ok = true → (scanL 0 st).typ = -1 → Chain st [scanL 0 st]
  | more {st : St} {ts : List Res} : (scanL 0 st).ok = true → (scanL 0 st).typ ≠ -1 → Chain (scanL 0 st).st ts → Chain st (scanL 0 st :: ts)
/-- The tokens from a state to another one. -/
inductive Part (s : St) : List Res → St → Prop
  | nil : Part s [] s
  | snoc {ts : List Res} {st : St} : Part s ts st → (scanL 0 st).ok = true → (scanL 0 st).typ ≠ -1 → Part s (ts ++ [scanL 0 st]) (scanL 0 st).st
theorem Part.chain {s st : St} {ts us : List Res} (h : Part s ts st) (k : Chain st us) : Chain s (ts ++ us) := by
  induction h generalizing us with
  | nil => exact k
  | snoc _ h1 h2 ih =>
    rw [List.append_assoc]
    exact ih (.more h1 h2 k)
/-- The first of them, and what comes behind it. -/
theorem Chain.head {st : St} {ts : List Res} (h : Chain st ts) : ∃ us, ts = scanL 0 st :: us ∧ (scanL 0 st).ok = true ∧ (((scanL 0 st).typ = -1 ∧ us = []) ∨ ((scanL 0 st).typ ≠ -1 ∧ Chain (scanL 0 st).st us)) := by
  cases h with
  | last h1 h2 => exact ⟨[], rfl, h1, Or.inl ⟨h2, rfl⟩⟩
  | more h1 h2 h3 => exact ⟨_, rfl, h1, Or.inr ⟨h2, h3⟩⟩
theorem Chain.ne {st : St} (h : Chain st []) : False := by cases h
end Go.Proofs.YtnmpeipccpgkpaaGreatDoor

namespace Go.Proofs.YtnmpeipccpgkpaaGreatDoor
open Go.RowKit

theorem byte_set (l : List UInt8) (k : Nat) (c : UInt8) : (Lib.byteCells l).set k (.int .u8 c.toNat) = Lib.byteCells (l.set k c) := by simp [Lib.byteCells, List.map_set]

theorem Bs.mono {w : World} {B B' : Nat} {v : Value} {l : List UInt8} (h : Bs w B v l) (hB : B' ≤ B) : Bs w B' v l := by
  refine ⟨h.1, ?_⟩
  rcases h.2 with h0 | ⟨g, cap, cur, h1, h2, h3⟩
  · exact Or.inl h0
  · exact Or.inr ⟨g, cap, cur, h1, Nat.le_trans hB h2, h3⟩
/-- As a walk reads it: nil, or a row with its cells. -/
theorem Bs.shape {w : World} {B : Nat} {v : Value} {l : List UInt8} (h : Bs w B v l) : (v = .slice none 0 0 ∧ l = []) ∨ ∃ g cap, v = .slice (Option.some ⟨g, 0, none⟩) l.length cap ∧ l.length ≤ cap ∧ ∀ i (hi : i < l.length), w.cell? ⟨g, i, none⟩ = Option.some (.int .u8 l[i].toNat) := by
  rcases h.2 with ⟨h0, hn⟩ | ⟨g, cap, cur, h1, h2, h3, h4, h5, h6, h7⟩
  · exact Or.inl ⟨h0, List.eq_nil_of_length_eq_zero hn⟩
  · refine Or.inr ⟨g, cap, h1, h4, fun i hi => ?_⟩
    have := Lib.cells_of_row h3 (l.length * 1) i (.int .u8 l[i].toNat) (by rw [h7]; simp [Lib.byteCells, hi])
    rw [Lib.addr_add, Nat.zero_add] at this
    exact this
/-- A store into the row. -/
theorem Bs.set {w : World} {B g n cap k : Nat} {l : List UInt8} (h : Bs w B (.slice (Option.some ⟨g, 0, none⟩) n cap) l) (c : UInt8) :
    Bs (w.setCell ⟨g, k, none⟩ (.int .u8 c.toNat)) B (.slice (Option.some ⟨g, 0, none⟩) n cap) (l.set k c) := by
  refine ⟨by rw [List.length_set, Lib.byteCells_length, List.length_set, Nat.mul_one], ?_⟩
  rcases h.2 with ⟨h0, _⟩ | ⟨g', cap', cur, h1, h2, h3, h4, h5, h6, h7⟩
  · cases h0
  · cases h1
    refine Or.inr ⟨g, cap, cur.setIfInBounds k (.int .u8 c.toNat), by rw [List.length_set], h2, Lib.heap_setCell_same (i := k) h3 _, by rw [List.length_set]; exact h4, h5, by simpa using h6, ?_⟩
    rw [Array.toList_setIfInBounds, List.length_set, Nat.mul_one, List.take_set, ← byte_set]
    rw [Nat.mul_one] at h7
    rw [h7]
theorem Bs.frozen {w : World} {B g n cap : Nat} {l : List UInt8} (h : Bs w B (.slice (Option.some ⟨g, 0, none⟩) n cap) l) (k : Nat) : w.frozen? ⟨g, k, none⟩ = false ∧ B ≤ g ∧ g < w.heap.size := by
  rcases h.2 with ⟨h0, _⟩ | ⟨g', cap', cur, h1, h2, h3, h4, h5, h6, h7⟩
  · cases h0
  · cases h1
    exact ⟨Lib.frozen_of_heap h3 k, h2, Lib.lt_of_heap h3⟩

theorem Sl.of_bs {w : World} {B : Nat} {v : Value} {l : List UInt8} (h : Bs w B v l) : Sl w v l := by
  rcases h.shape with ⟨rfl, rfl⟩ | ⟨g, cap, rfl, hc, hcell⟩
  · exact ⟨none, 0, rfl, Nat.le_refl _, ⟨fun _ => rfl, fun h => absurd h (by simp)⟩⟩
  · exact ⟨some ⟨g, 0, none⟩, cap, rfl, hc, ⟨(fun h => by cases h), fun _ => ⟨⟨g, 0, none⟩, rfl, (h.frozen 0).2.2, fun i hi => by rw [add_flat]; exact hcell i hi⟩⟩⟩

set_option maxRecDepth 100000 in
set_option maxHeartbeats 3200000 in
/-- zzCloneBytes. -/
theorem clone_any (w : World) (v : Value) (l : List UInt8) (h : Sl w v l) (hl : l.length ≤ 1099511627776) :
    Calls Tryz.prog 6 #[v] w fun e w' => ∃ v', e = .returned v' ∧ Bs w' w.heap.size v' l ∧ Below w.heap.size w w' := by
  obtain ⟨a, c, rfl, hlc, hn, hcell⟩ := h
  have q22 : ∀ (w : World) (a : Option Addr) (n c n' c' : Nat), (binOp .eql 22 (.slice a n c) (.slice none n' c')).run Tryz.prog w = .ok (.bool a.isNone) w := fun w a n c n' c' => Lib.run_eql_slice_nil w _ _ a n c n' c' Tryz.underlying22
  cases a with
  | none =>
    have hc0 := hn rfl
    have hl0 : l = [] := List.eq_nil_of_length_eq_zero (by omega)
    subst hl0
    go_enter Tryz.func6, Tryz.ntmps6
    go_wp2
    go_ret
    exact ⟨_, rfl, World.ownsRow_nil _ _ _ _, Below.refl _ _⟩
  | some ad =>
    obtain ⟨i0, hi, hz0, hz1, hz2⟩ := info_parts info_u8
    have HCELL := Lib.hid hcell
    have hli : (l.length : Int) ≤ 1099511627776 := by omega
    obtain ⟨n, hnl⟩ : ∃ n, n = l.length := ⟨_, rfl⟩
    rw [← hnl]
    rw [← hnl] at hli hlc
    have HNL := Lib.hid hnl
    clear hcell hn hnl
    go_enter Tryz.func6, Tryz.ntmps6
    go_wp2_with (with_reducible refine wpList_make_full _ rfl (.tmp 8) (.tmp 8) 22 rfl w.heap.size 5 i0 (.int .u8 0) 1 Tryz.underlying22 hi hz0 hz1 .i64 .i64 _ _ n rfl rfl rfl rfl (by rw [hz2]; omega) (by unfold maxLen; omega) (Nat.le_refl _) ?_)
    intro w1 hown hgr
    have hb0 : Bs w1 w.heap.size (.slice (some ⟨w.heap.size, 0, none⟩) n n) (List.replicate n 0) := by
      unfold Bs
      rw [List.length_replicate]
      have e : (madeCells #[Value.int IntKind.u8 0] n).toList = Lib.byteCells (List.replicate n 0) := by
        apply List.ext_getElem
        · simp [size_madeCells, Lib.byteCells]
        · intro i h1 h2
          simp [madeCells, Lib.byteCells, Nat.mod_one]
      rw [← e]; exact hown
    have hl1 : Below w.heap.size w w1 := ⟨hgr.os, hgr.tape, hgr.output, hgr.size, fun k hk => hgr.block k hk (by simp)⟩
    have H1 := Lib.hid (And.intro hb0 hl1)
    clear hown hgr hb0 hl1 hi hz0 hz1 hz2
    go_wp2
    go_loopg [4] n (fun g iv wr => ∃ j : Nat, n - j ≤ g ∧ iv = .int .i64 j ∧ j ≤ n ∧ Bs wr w.heap.size (.slice (some ⟨w.heap.size, 0, none⟩) n n) (l.take j ++ List.replicate (n - j) 0) ∧ Below w.heap.size w wr)
    case atStart => exact ⟨0, by omega, rfl, by omega, by simpa using H1.out.1, H1.out.2⟩
    case round =>
      clear H1
      obtain ⟨j, hg, rfl, hj, hb, hbl⟩ := hrel
      have HG := Lib.hid hg
      have hji : (j : Int) ≤ (n : Int) := by omega
      clear hg
      by_cases hlt : j < n
      · have hjn : j < l.length := by rw [← HNL.out]; exact hlt
        have hlti : (j : Int) < (n : Int) := by omega
        obtain ⟨ad', hab, hbs, hcl⟩ := HCELL.out (by omega)
        obtain rfl : ad = ad' := Option.some.inj hab
        obtain ⟨x, hx⟩ : ∃ x, x = l[j] := ⟨_, rfl⟩
        have hc1 : wr.cell? (ad.add j) = some (.int .u8 x.toNat) := by rw [hx]; exact (hbl.cell (p := ad.add j) (by rw [block_add']; exact hbs)).trans (hcl j hjn)
        have hf1 := (hb.frozen j).1
        have hset := hb.set (k := j) x
        have hget : ∃ u, wr.cell? ⟨w.heap.size, j, none⟩ = some u := by
          rcases hb.shape with ⟨h0, _⟩ | ⟨g, cap, h1, _, h3⟩
          · cases h0
          · have hg : w.heap.size = g := by
              simp only [Value.slice.injEq, Option.some.injEq, Addr.mk.injEq] at h1
              exact h1.1.1
            subst hg
            have hlen : (l.take j ++ List.replicate (n - j) (0 : UInt8)).length = n := by simp; omega
            exact ⟨_, h3 j (by rw [hlen]; exact hlt)⟩
        have hstep : (l.take j ++ List.replicate (n - j) (0 : UInt8)).set j x = l.take (j + 1) ++ List.replicate (n - (j + 1)) 0 := by
          obtain ⟨m, hm⟩ : ∃ m, n - j = m + 1 := ⟨n - j - 1, by omega⟩
          have hlt2 : (l.take j).length = j := by simp; omega
          rw [hm, show n - (j + 1) = m by omega, List.replicate_succ, List.set_append_right _ _ (by omega), hlt2, Nat.sub_self, List.set_cons_zero, hx, List.take_succ_eq_append_getElem hjn, List.append_assoc]
          rfl
        rw [hstep] at hset
        have HSET := Lib.hid hset
        have hbl2 := hbl.setCell (p := ⟨w.heap.size, j, none⟩) (Nat.le_refl _) (.int .u8 x.toNat)
        have HBL := Lib.hid hbl2
        obtain ⟨u, hu⟩ := hget
        clear hset hstep hx hb hcl hab hbs hbl2
        go_wp2
        go_roundg (n - (j + 1))
        case measure => have := HG.out; omega
        case rel => exact ⟨j + 1, Nat.le_refl _, by go_num, by omega, HSET.out, HBL.out⟩
      · obtain rfl : n = j := by omega
        have HF := Lib.hid (show Bs wr w.heap.size (.slice (some ⟨w.heap.size, 0, none⟩) n n) l by
          have h5 := hb
          rw [Nat.sub_self, List.replicate_zero, List.append_nil, List.take_of_length_le (by rw [HNL.out]; exact Nat.le_refl _)] at h5; exact h5)
        clear hb
        go_wp2
        go_ret
        exact ⟨_, rfl, HF.out, hbl⟩

/-- The same slice, as a reader over it sees it. -/
theorem Sm.of_bs {w : World} {B G : Nat} {v : Value} {l : List UInt8} (h : Bs w B v l) (hG : G < w.heap.size) : ∃ M, Sm w M v l ∧ (M = G ∨ B ≤ M) := by
  rcases h.shape with ⟨rfl, rfl⟩ | ⟨g, cap, rfl, hc, hcell⟩
  · exact ⟨G, ⟨hG, none, 0, rfl, Nat.le_refl _, fun h => absurd h (by simp)⟩, Or.inl rfl⟩
  · have hf := h.frozen 0
    exact ⟨g, ⟨hf.2.2, some ⟨g, 0, none⟩, cap, rfl, hc, fun _ => ⟨⟨g, 0, none⟩, rfl, rfl, fun i hi => by rw [add_flat]; exact hcell i hi⟩⟩, Or.inr hf.2.1⟩
end Go.Proofs.YtnmpeipccpgkpaaGreatDoor

namespace Go.Proofs.YtnmpeipccpgkpaaGreatDoor
open Go.RowKit

/-- A lexer's cells. -/
def lexT (L : Loc) (pnl : Bool) (typ : Int) (nm str src : ByteArray) (line col prev : Int) : List Value := [.pointer (some ⟨L.S, 0, none⟩), .slice none 0 0, .bool pnl, .int .i64 typ, .string nm, .string str, .string src, .int .i64 line, .int .i64 col, .int .i64 prev]
theorem HasTok.fr {w w' : World} (h : HasTok w) (f : Fr [] w w') : HasTok w' := h.of_block (f.block _ h.1 (by simp)) f.size
theorem HasTok.fr2 {w w' : World} {own : List Nat} (h : HasTok w) (f : Fr own w w') (ho : 0 ∉ own) : HasTok w' := h.of_block (f.block _ h.1 ho) f.size
theorem ErrIs.yes {er : Value} (h : ErrIs true er) : er = .nilIface := by
  rcases h with ⟨-, h⟩ | ⟨h, -⟩
  · exact h
  · cases h

/-- A fresh lexer over the text l. -/
def NewLx (w : World) (M : Nat) (src : ByteArray) (l : List UInt8) (e : Ending) (w' : World) : Prop :=
  ∃ (L : Loc) (lx : Nat), L.src = src ∧ L.M = M ∧ (∀ k ∈ L.own, w.heap.size ≤ k) ∧ w.heap.size ≤ lx ∧ lx ∉ L.all ∧ e = .returned (.pointer (some ⟨lx, 0, none⟩)) ∧ Sc w' L ⟨l, 1, 0⟩ none ∧ Blk w' lx (lexT L false 0 ⟨#[]⟩ ⟨#[]⟩ ⟨#[]⟩ 0 0 57358) ∧ Fr [] w w'
set_option maxRecDepth 100000 in
set_option maxHeartbeats 1600000 in
theorem znewL (w : World) (a : Addr) (v : Value) (l : List UInt8) (M : Nat) (s : ByteArray) (hm : Sm w M v l) (hl : l.length ≤ 1099511627776) (he : HasEof w a) :
    Calls Tryz.prog 8 #[v, .string s] w (NewLx w M s l) := by
  have hg0 := he.2
  have hM := hm.1
  have hne : w.heap.size ≠ 1 := by omega
  have HM := Lib.hid hm
  have HL := Lib.hid hl
  clear hm hl
  go_enter Tryz.func8, Tryz.ntmps8
  go_wp2_with (go_at_call 13; refine (newReader _ M _ l HM.out HL.out).mono ?_; rintro e w1 ⟨rfl, hU, hz, fr⟩; refine Hid.out ?_)
  refine Lib.hid ?_
  have he1 := he.fr fr (by simp)
  go_wp2_with (go_at_call 12; refine (newScanner w1 _ a _ _ M hU he1 hne (by omega)).mono ?_; rintro e w2 hN; obtain ⟨L, hLU, hLM, hLa, hLs, hS, hR, hD, rfl, hSc, fr2⟩ := hN)
  go_ret
  refine ⟨L, w2.heap.size, hLs, hLM, Loc.own_new (by omega) (by omega) (by omega) (by omega), Nat.le_trans fr.size fr2.size, fun hm => Nat.lt_irrefl _ (hSc.lt _ hm), rfl, hSc.fr ((Fr.refl [] w2).alloc _), Blk.new w2 (lexT L false 0 ⟨#[]⟩ ⟨#[]⟩ ⟨#[]⟩ 0 0 57358).toArray _, (fr.trans fr2).alloc _⟩

/-- A semantic value's cells, its token being t. -/
def yyT (t : List Value) : List Value := .int .i64 0 :: (t ++ [.slice none 0 0, .nilIface, .pointer none, .pointer none, .slice none 0 0, .nilIface, .slice none 0 0, .pointer none, .string ⟨#[]⟩, .slice none 0 0, .pointer none])

/-- What Lex answers. -/
def LexIs (w : World) (L : Loc) (lx lb : Nat) (pn : Bool) (typ0 : Int) (nm0 s0 src0 : ByteArray) (li0 co0 : Int) (R : Res) (e : Ending) (w' : World) : Prop :=
  Sc w' L R.st none ∧ Fr (lb :: lx :: L.own) w w' ∧
  ((R.typ = -1 ∧ e = .returned (.int .i64 0) ∧ Blk w' lx (lexT L R.pnl typ0 nm0 s0 src0 li0 co0 typ0) ∧ Blk w' lb (yyT (tkCells 0 ⟨#[]⟩ ⟨#[]⟩ ⟨#[]⟩ 0 0))) ∨
   (R.typ ≠ -1 ∧ ∃ nm : ByteArray, e = .returned (.int .i64 R.typ) ∧ Blk w' lx (lexT L R.pnl R.typ nm ⟨R.str.toArray⟩ L.src R.line R.col typ0) ∧ Blk w' lb (yyT (tkCells R.typ nm ⟨R.str.toArray⟩ L.src R.line R.col))))
set_option maxRecDepth 100000 in
set_option maxHeartbeats 6400000 in
theorem lex_any (w : World) (L : Loc) (st : St) (lx lb : Nat) (pn : Bool) (typ0 : Int) (nm0 s0 src0 : ByteArray) (li0 co0 prev0 : Int) (h : Sc w L st none) (hLx : Blk w lx (lexT L pn typ0 nm0 s0 src0 li0 co0 prev0)) (hLb : Blk w lb (yyT (tkCells 0 ⟨#[]⟩ ⟨#[]⟩ ⟨#[]⟩ 0 0)))
    (ax : lx ∉ L.all) (hbx : lb ∉ lx :: L.all) (ht : HasTok w) (hnt : 0 ∉ lx :: L.own) (hl : st.rest.length ≤ 1099511627776) (hok : (scanL typ0 st).ok = true) :
    Calls Tryz.prog 14 #[.pointer (some ⟨lx, 0, none⟩), .pointer (some ⟨lb, 0, none⟩)] w (LexIs w L lx lb pn typ0 nm0 s0 src0 li0 co0 (scanL typ0 st)) := by
  have f1 : Fr [lx] w (w.setCell ⟨lx, 9, none⟩ (.int .i64 typ0)) := (Fr.refl _ w).setCell (by simp) _
  have hx1 : Blk (w.setCell ⟨lx, 9, none⟩ (.int .i64 typ0)) lx (lexT L pn typ0 nm0 s0 src0 li0 co0 typ0) := hLx.set 9 (.int .i64 typ0)
  have hs1 : Sc (w.setCell ⟨lx, 9, none⟩ (.int .i64 typ0)) L st none := h.keep f1.size (fun k hk => f1.block k (h.lt k hk) (by simp only [List.mem_singleton]; exact fun e => ax (by rw [← e]; exact hk)))
  have hb1 := f1.blk hLb (by simp only [List.mem_singleton]; exact fun e => hbx (by rw [e]; simp))
  have ht1 := ht.fr2 f1 (by simp only [List.mem_singleton]; exact fun e => hnt (by rw [e]; simp))
  have hsc := scan_any _ L st lx _ typ0 hs1 hx1 rfl ax ht1 hnt hl
  have hlo := scan_lo typ0 st
  rw [hok] at hsc
  have H1 := Lib.hid (And.intro hsc (And.intro hx1 (And.intro hb1 (And.intro f1 (And.intro ax hbx)))))
  have c0 := hLx.cell 0 _ rfl
  have c3 := hLx.cell 3 _ rfl
  have c9 := hLx.cell 9 _ rfl
  have f9 := hLx.free 9
  clear h hLx hLb ax hbx ht hnt hl hsc hx1 hs1 hb1 ht1 f1
  obtain ⟨R, hR⟩ : ∃ R, R = scanL typ0 st := ⟨_, rfl⟩
  rw [← hR] at H1 hlo ⊢
  have HOK := Lib.hid (show R.ok = true by rw [hR]; exact hok)
  clear hR hok
  go_enter Tryz.func14, Tryz.ntmps14
  go_upto_region 2 with fail
  have d0 : (w.setCell ⟨lx, 9, none⟩ (.int .i64 typ0)).cell? ⟨lx, 0, none⟩ = some (.pointer (some ⟨L.S, 0, none⟩)) := H1.out.2.1.cell 0 _ rfl
  generalize w.setCell ⟨lx, 9, none⟩ (.int .i64 typ0) = w1 at H1 d0 ⊢
  clear c0 c3 c9 f9
  go_wp2_with (go_at_call 23; refine (H1.out.1).mono ?_; rintro e w2 ⟨er, typ, nm, str, rfl, her, hk, hS, hBl, f⟩; obtain rfl := her.yes; obtain ⟨rfl, rfl⟩ := hk rfl; unfold tkCells; refine Hid.out ?_)
  refine Lib.hid ?_
  obtain ⟨_, hx1, hb1, f1, ax, hbx⟩ := H1.out
  have hbx2 : lb ∉ lx :: L.own := fun hm => hbx (by
    rcases List.mem_cons.1 hm with e | e
    · simp [e]
    · simp [Loc.own_all _ e])
  have hb2 := f.blk hb1 hbx2
  have hx2 : Blk w2 lx (lexT L R.pnl typ0 nm0 s0 src0 li0 co0 typ0) := hBl
  have T6 : Fr [] w2 (w2.alloc (.cells #[.int .i64 R.typ, .string nm, .string ⟨R.str.toArray⟩, .string L.src, .int .i64 R.line, .int .i64 R.col] 35)) := (Fr.refl _ w2).alloc _
  have hT : Blk (w2.alloc (.cells #[.int .i64 R.typ, .string nm, .string ⟨R.str.toArray⟩, .string L.src, .int .i64 R.line, .int .i64 R.col] 35)) w2.heap.size (tkCells R.typ nm ⟨R.str.toArray⟩ L.src R.line R.col) := Blk.new w2 _ _
  have hx3 := T6.blk hx2 (by simp)
  have hb3 := T6.blk hb2 (by simp)
  have hs3 := hS.fr T6
  have f3 : Fr (lb :: lx :: L.own) w (w2.alloc (.cells #[.int .i64 R.typ, .string nm, .string ⟨R.str.toArray⟩, .string L.src, .int .i64 R.line, .int .i64 R.col] 35)) :=
    ((f1.mono (by simp)).trans (f.mono (fun k hk => by simp only [List.mem_cons] at hk ⊢; exact Or.inr hk))).trans (T6.mono (by simp))
  have hne : w2.heap.size ≠ lb ∧ w2.heap.size ≠ lx := ⟨by have := hb2.lt; omega, by have := hx2.lt; omega⟩
  have hne2 : lb ≠ lx := fun e => hbx (by rw [e]; simp)
  have hall : ∀ k ∈ L.all, k < w2.heap.size ∧ k ≠ lb ∧ k ≠ lx := fun k hk => ⟨hS.lt k hk, fun e => hbx (by rw [← e]; simp [hk]), fun e => ax (by rw [← e]; exact hk)⟩
  clear hx1 hb1 f1 hbx2 hb2 hx2 f hBl H1 d0 hk her T6 hS ax hbx
  by_cases htyp : R.typ = -1
  · have t1 : decide (R.typ < 0) = true := by rw [decide_eq_true_eq]; omega
    have HF := Lib.hid (And.intro hs3 (And.intro f3 (And.intro hx3 (And.intro hb3 htyp))))
    clear hT hx3 hb3 hs3 f3 hall htyp hlo
    go_wp2
    go_ret
    exact ⟨HF.out.1, HF.out.2.1, Or.inl ⟨HF.out.2.2.2.2, rfl, HF.out.2.2.1, HF.out.2.2.2.1⟩⟩
  · have t1 : decide (R.typ < 0) = false := by rw [decide_eq_false_iff_not]; omega
    go_upto_region 7 with fail
    obtain ⟨tb, htb⟩ : ∃ tb, tb = w2.heap.size := ⟨_, rfl⟩
    rw [← htb] at hT hne hall ⊢
    clear htb
    generalize w2.alloc (.cells #[.int .i64 R.typ, .string nm, .string ⟨R.str.toArray⟩, .string L.src, .int .i64 R.line, .int .i64 R.col] 35) = w3 at hT hx3 hb3 hs3 f3 ⊢
    have HF := Lib.hid (And.intro hs3 (And.intro f3 (And.intro hx3 (And.intro hb3 (And.intro hT (And.intro hne (And.intro hne2 (And.intro hall htyp))))))))
    clear hs3 f3 hall htyp hlo hne hne2
    unfold tkCells at hT
    have a0 := hT.cell 0 _ rfl
    have a1 := hT.cell 1 _ rfl
    have a2 := hT.cell 2 _ rfl
    have a3 := hT.cell 3 _ rfl
    have a4 := hT.cell 4 _ rfl
    have a5 := hT.cell 5 _ rfl
    have b1 := hb3.cell 1 _ rfl
    have b2 := hb3.cell 2 _ rfl
    have b3 := hb3.cell 3 _ rfl
    have b4 := hb3.cell 4 _ rfl
    have b5 := hb3.cell 5 _ rfl
    have b6 := hb3.cell 6 _ rfl
    have g1 := hb3.free 1
    have g2 := hb3.free 2
    have g3 := hb3.free 3
    have g4 := hb3.free 4
    have g5 := hb3.free 5
    have g6 := hb3.free 6
    have hb3x := hb3
    have HB3 := Lib.hid hb3x
    clear hT hx3 hb3 hb3x
    go_upto_region 8 with fail
    have f4 : Fr [lb] w3 ((((((w3.setCell ⟨lb, 1, none⟩ (.int .i64 R.typ)).setCell ⟨lb, 2, none⟩ (.string nm)).setCell ⟨lb, 3, none⟩ (.string ⟨R.str.toArray⟩)).setCell ⟨lb, 4, none⟩ (.string L.src)).setCell ⟨lb, 5, none⟩ (.int .i64 R.line)).setCell ⟨lb, 6, none⟩ (.int .i64 R.col)) := ((((((Fr.refl _ _).setCell (by simp) _).setCell (by simp) _).setCell (by simp) _).setCell (by simp) _).setCell (by simp) _).setCell (by simp) _
    have hb3x := HB3.out
    have q4 := ((((((hb3x.set 1 (.int .i64 R.typ)).set 2 (.string nm)).set 3 (.string ⟨R.str.toArray⟩)).set 4 (.string L.src)).set 5 (.int .i64 R.line)).set 6 (.int .i64 R.col))
    generalize ((((((w3.setCell ⟨lb, 1, none⟩ (.int .i64 R.typ)).setCell ⟨lb, 2, none⟩ (.string nm)).setCell ⟨lb, 3, none⟩ (.string ⟨R.str.toArray⟩)).setCell ⟨lb, 4, none⟩ (.string L.src)).setCell ⟨lb, 5, none⟩ (.int .i64 R.line)).setCell ⟨lb, 6, none⟩ (.int .i64 R.col)) = w4 at f4 q4 ⊢
    clear b1 b2 b3 b4 b5 b6 g1 g2 g3 g4 g5 g6 a0 a1 a2 a3 a4 a5
    have H4 := Lib.hid (show Sc w4 L R.st none ∧ Fr (lb :: lx :: L.own) w w4 ∧ Blk w4 lx (lexT L R.pnl typ0 nm0 s0 src0 li0 co0 typ0) ∧ Blk w4 lb (yyT (tkCells R.typ nm ⟨R.str.toArray⟩ L.src R.line R.col)) ∧ Blk w4 tb (tkCells R.typ nm ⟨R.str.toArray⟩ L.src R.line R.col) from by
      obtain ⟨e1, e2, e3, e4, e5, e6, e7, e8, e9⟩ := HF.out
      refine ⟨e1.keep f4.size (fun k hk => f4.block k (e1.lt k hk) (by have := (e8 k hk).2.1; simp only [List.mem_singleton]; exact this)), e2.trans (f4.mono (by simp)), f4.blk e3 (by simp only [List.mem_singleton]; exact fun e => e7 e.symm), q4, f4.blk e5 (by simp only [List.mem_singleton]; exact e6.1)⟩)
    have hx4 := H4.out.2.2.1
    have hT4 := H4.out.2.2.2.2
    unfold tkCells at hT4
    have a0 := hT4.cell 0 _ rfl
    have a1 := hT4.cell 1 _ rfl
    have a2 := hT4.cell 2 _ rfl
    have a3 := hT4.cell 3 _ rfl
    have a4 := hT4.cell 4 _ rfl
    have a5 := hT4.cell 5 _ rfl
    have b1 := hx4.cell 3 _ rfl
    have b2 := hx4.cell 4 _ rfl
    have b3 := hx4.cell 5 _ rfl
    have b4 := hx4.cell 6 _ rfl
    have b5 := hx4.cell 7 _ rfl
    have b6 := hx4.cell 8 _ rfl
    have g1 := hx4.free 3
    have g2 := hx4.free 4
    have g3 := hx4.free 5
    have g4 := hx4.free 6
    have g5 := hx4.free 7
    have g6 := hx4.free 8
    clear hT4 hx4 f4 q4
    go_upto_region 9 with fail
    have f5 : Fr [lx] w4 ((((((w4.setCell ⟨lx, 3, none⟩ (.int .i64 R.typ)).setCell ⟨lx, 4, none⟩ (.string nm)).setCell ⟨lx, 5, none⟩ (.string ⟨R.str.toArray⟩)).setCell ⟨lx, 6, none⟩ (.string L.src)).setCell ⟨lx, 7, none⟩ (.int .i64 R.line)).setCell ⟨lx, 8, none⟩ (.int .i64 R.col)) := ((((((Fr.refl _ _).setCell (by simp) _).setCell (by simp) _).setCell (by simp) _).setCell (by simp) _).setCell (by simp) _).setCell (by simp) _
    have hx4x := H4.out.2.2.1
    have q5 := ((((((hx4x.set 3 (.int .i64 R.typ)).set 4 (.string nm)).set 5 (.string ⟨R.str.toArray⟩)).set 6 (.string L.src)).set 7 (.int .i64 R.line)).set 8 (.int .i64 R.col))
    generalize ((((((w4.setCell ⟨lx, 3, none⟩ (.int .i64 R.typ)).setCell ⟨lx, 4, none⟩ (.string nm)).setCell ⟨lx, 5, none⟩ (.string ⟨R.str.toArray⟩)).setCell ⟨lx, 6, none⟩ (.string L.src)).setCell ⟨lx, 7, none⟩ (.int .i64 R.line)).setCell ⟨lx, 8, none⟩ (.int .i64 R.col)) = w5 at f5 q5 ⊢
    clear b1 b2 b3 b4 b5 b6 g1 g2 g3 g4 g5 g6 a0 a1 a2 a3 a4 a5
    have H5 := Lib.hid (show Sc w5 L R.st none ∧ Fr (lb :: lx :: L.own) w w5 ∧ Blk w5 lx (lexT L R.pnl R.typ nm ⟨R.str.toArray⟩ L.src R.line R.col typ0) ∧ Blk w5 lb (yyT (tkCells R.typ nm ⟨R.str.toArray⟩ L.src R.line R.col)) ∧ Blk w5 tb (tkCells R.typ nm ⟨R.str.toArray⟩ L.src R.line R.col) from by
      obtain ⟨e1, e2, e3, e4, e5⟩ := H4.out
      obtain ⟨-, -, -, -, -, e6, e7, e8, e9⟩ := HF.out
      refine ⟨e1.keep f5.size (fun k hk => f5.block k (e1.lt k hk) (by have := (e8 k hk).2.2; simp only [List.mem_singleton]; exact this)), e2.trans (f5.mono (by simp)), q5, f5.blk e4 (by simp only [List.mem_singleton]; exact e7), f5.blk e5 (by simp only [List.mem_singleton]; exact e6.2)⟩)
    have hT5 := H5.out.2.2.2.2
    unfold tkCells at hT5
    have a0 := hT5.cell 0 _ rfl
    clear hT5 f5 q5
    go_wp2
    go_ret
    exact ⟨H5.out.1, H5.out.2.1, Or.inr ⟨HF.out.2.2.2.2.2.2.2.2, nm, rfl, H5.out.2.2.1, H5.out.2.2.2.1⟩⟩

theorem Fr.drop {own : List Nat} {w w1 w2 : World} {lb : Nat} (fA : Fr [] w w1) (f : Fr (lb :: own) w1 w2) (h : w.heap.size ≤ lb) : Fr own w w2 :=
  ⟨f.os.trans fA.os, f.tape.trans fA.tape, f.output.trans fA.output, Nat.le_trans fA.size f.size, fun k hk ho => (f.block k (Nat.lt_of_lt_of_le hk fA.size) (fun hm => by
    rcases List.mem_cons.1 hm with e | e
    · omega
    · exact ho e)).trans (fA.block k hk (by simp))⟩
theorem Fr.past2 {own : List Nat} {w w2 w3 : World} {rb : Nat} (f : Fr own w w2) (f3 : Fr [rb] w2 w3) (h : w.heap.size ≤ rb) : Fr own w w3 :=
  ⟨f3.os.trans f.os, f3.tape.trans f.tape, f3.output.trans f.output, Nat.le_trans f.size f3.size, fun k hk ho => (f3.block k (Nat.lt_of_lt_of_le hk f.size) (by simp only [List.mem_singleton]; omega)).trans (f.block k hk ho)⟩
/-- The zero token. -/
def tk0 : List Value := tkCells 0 ⟨#[]⟩ ⟨#[]⟩ ⟨#[]⟩ 0 0
/-- What the export answers: Lex's answer and the token it handed out. -/
def ZLexIs (w : World) (L : Loc) (lx : Nat) (typ0 : Int) (nm0 s0 src0 : ByteArray) (li0 co0 : Int) (R : Res) (e : Ending) (w' : World) : Prop :=
  Sc w' L R.st none ∧ Fr (lx :: L.own) w w' ∧
  ((R.typ = -1 ∧ e = .returned (.tuple #[.int .i64 0, .agg #[.int .i64 0, .string ⟨#[]⟩, .string ⟨#[]⟩, .string ⟨#[]⟩, .int .i64 0, .int .i64 0]]) ∧ Blk w' lx (lexT L R.pnl typ0 nm0 s0 src0 li0 co0 typ0)) ∨
   (R.typ ≠ -1 ∧ ∃ nm : ByteArray, e = .returned (.tuple #[.int .i64 R.typ, .agg #[.int .i64 R.typ, .string nm, .string ⟨R.str.toArray⟩, .string L.src, .int .i64 R.line, .int .i64 R.col]]) ∧ Blk w' lx (lexT L R.pnl R.typ nm ⟨R.str.toArray⟩ L.src R.line R.col typ0)))
theorem results_tmp_cell {fn : Func} {p u : Tmp} {ty : TypeId} (h : fn.results = #[.tmp u, .cell p ty]) (tmps : Array Value) (P : Program) (w : World) :
    (results fn tmps).run P w = ((asAddr (tmps.getD p undef)).run P w).andThen fun a w₁ => ((loadVar ty a).run P w₁).andThen fun v w₂ => .ok (.tuple #[tmps.getD u undef, v]) w₂ := by
  simp only [results, h]
  simp [Sem.run_bind, Result.andThen]
set_option maxRecDepth 100000 in
set_option maxHeartbeats 6400000 in
theorem zlex_any (w : World) (L : Loc) (st : St) (lx : Nat) (pn : Bool) (typ0 : Int) (nm0 s0 src0 : ByteArray) (li0 co0 prev0 : Int) (h : Sc w L st none) (hLx : Blk w lx (lexT L pn typ0 nm0 s0 src0 li0 co0 prev0))
    (ax : lx ∉ L.all) (ht : HasTok w) (hnt : 0 ∉ lx :: L.own) (hl : st.rest.length ≤ 1099511627776) (hok : (scanL typ0 st).ok = true) :
    Calls Tryz.prog 9 #[.pointer (some ⟨lx, 0, none⟩)] w (ZLexIs w L lx typ0 nm0 s0 src0 li0 co0 (scanL typ0 st)) := by
  have H := Lib.hid (And.intro h (And.intro hLx (And.intro ax (And.intro ht (And.intro hnt (And.intro hl hok))))))
  clear h hLx ax ht hnt hl hok
  go_enter Tryz.func9, Tryz.ntmps9
  go_upto_region 2 with fail
  have fA : Fr [] w ((w.alloc (.cells #[.int .i64 0, .string ⟨#[]⟩, .string ⟨#[]⟩, .string ⟨#[]⟩, .int .i64 0, .int .i64 0] 35)).alloc (.cells #[.int .i64 0, .int .i64 0, .string ⟨#[]⟩, .string ⟨#[]⟩, .string ⟨#[]⟩, .int .i64 0, .int .i64 0, .slice none 0 0, .nilIface, .pointer none, .pointer none, .slice none 0 0, .nilIface, .slice none 0 0, .pointer none, .string ⟨#[]⟩, .slice none 0 0, .pointer none] 61)) := ((Fr.refl _ w).alloc _).alloc _
  have hr : Blk ((w.alloc (.cells #[.int .i64 0, .string ⟨#[]⟩, .string ⟨#[]⟩, .string ⟨#[]⟩, .int .i64 0, .int .i64 0] 35)).alloc (.cells #[.int .i64 0, .int .i64 0, .string ⟨#[]⟩, .string ⟨#[]⟩, .string ⟨#[]⟩, .int .i64 0, .int .i64 0, .slice none 0 0, .nilIface, .pointer none, .pointer none, .slice none 0 0, .nilIface, .slice none 0 0, .pointer none, .string ⟨#[]⟩, .slice none 0 0, .pointer none] 61)) w.heap.size tk0 := (Blk.new w _ _).alloc _
  have hb : Blk ((w.alloc (.cells #[.int .i64 0, .string ⟨#[]⟩, .string ⟨#[]⟩, .string ⟨#[]⟩, .int .i64 0, .int .i64 0] 35)).alloc (.cells #[.int .i64 0, .int .i64 0, .string ⟨#[]⟩, .string ⟨#[]⟩, .string ⟨#[]⟩, .int .i64 0, .int .i64 0, .slice none 0 0, .nilIface, .pointer none, .pointer none, .slice none 0 0, .nilIface, .slice none 0 0, .pointer none, .string ⟨#[]⟩, .slice none 0 0, .pointer none] 61)) (w.heap.size + 1) (yyT tk0) := by
    have h5 := Blk.new (w.alloc (.cells #[.int .i64 0, .string ⟨#[]⟩, .string ⟨#[]⟩, .string ⟨#[]⟩, .int .i64 0, .int .i64 0] 35)) (yyT tk0).toArray 61
    rw [size_alloc] at h5
    exact h5
  obtain ⟨rb, hrb⟩ : ∃ rb, rb = w.heap.size := ⟨_, rfl⟩
  rw [← hrb] at hr hb ⊢
  obtain ⟨lb, hlb⟩ : ∃ lb, lb = rb + 1 := ⟨_, rfl⟩
  rw [← hlb] at hb ⊢
  generalize (w.alloc (.cells #[.int .i64 0, .string ⟨#[]⟩, .string ⟨#[]⟩, .string ⟨#[]⟩, .int .i64 0, .int .i64 0] 35)).alloc (.cells #[.int .i64 0, .int .i64 0, .string ⟨#[]⟩, .string ⟨#[]⟩, .string ⟨#[]⟩, .int .i64 0, .int .i64 0, .slice none 0 0, .nilIface, .pointer none, .pointer none, .slice none 0 0, .nilIface, .slice none 0 0, .pointer none, .string ⟨#[]⟩, .slice none 0 0, .pointer none] 61) = w1 at fA hr hb ⊢
  obtain ⟨h, hLx, ax, ht, hnt, hl, hok⟩ := H.out
  have hlt : ∀ k ∈ lx :: L.all, k < w.heap.size := fun k hk => by
    rcases List.mem_cons.1 hk with e | e
    · rw [e]; exact hLx.lt
    · exact h.lt k e
  have hlex := lex_any w1 L st lx lb pn typ0 nm0 s0 src0 li0 co0 prev0 (h.fr fA) (fA.blk hLx (by simp)) hb ax (fun hm => by have := hlt _ hm; omega) (ht.fr fA) hnt hl hok
  have hrn : rb ∉ lb :: lx :: L.own := fun hm => by
    rcases List.mem_cons.1 hm with e | e
    · omega
    · have := hlt rb (by
        rcases List.mem_cons.1 e with e2 | e2
        · simp [e2]
        · simp [Loc.own_all _ e2])
      omega
  have HH := Lib.hid (And.intro hlex (And.intro hr (And.intro hrn (And.intro fA (And.intro hrb (And.intro hlb hlt))))))
  clear h hLx ax ht hnt hl hok hlt hlex hrn hr hb fA hrb hlb H
  obtain ⟨R, hR⟩ : ∃ R, R = scanL typ0 st := ⟨_, rfl⟩
  rw [← hR] at HH ⊢
  have HRS := Lib.hid hR
  clear hR
  by_cases htyp : R.typ = -1
  · have hl1 : Calls Tryz.prog 14 #[.pointer (some ⟨lx, 0, none⟩), .pointer (some ⟨lb, 0, none⟩)] w1 (fun e w' => e = .returned (.int .i64 0) ∧ Sc w' L R.st none ∧ Fr (lb :: lx :: L.own) w1 w' ∧ Blk w' lx (lexT L R.pnl typ0 nm0 s0 src0 li0 co0 typ0) ∧ Blk w' lb (yyT (tkCells 0 ⟨#[]⟩ ⟨#[]⟩ ⟨#[]⟩ 0 0))) := HH.out.1.mono (fun e w' ⟨q1, q2, q3⟩ => by
      rcases q3 with ⟨_, rfl, c1, c2⟩ | ⟨c1, _⟩
      · exact ⟨rfl, q1, q2, c1, c2⟩
      · exact absurd htyp c1)
    have HL1 := Lib.hid (And.intro hl1 htyp)
    clear hl1 htyp
    go_wp2_with (go_at_call 14; refine (HL1.out.1).mono ?_; rintro e w2 ⟨rfl, hS, f, hx, hb⟩; refine Hid.out ?_)
    refine Lib.hid ?_
    have hr := f.blk HH.out.2.1 HH.out.2.2.1
    have HR := Lib.hid hr
    unfold tk0 tkCells at hr
    unfold yyT tkCells at hb
    have a0 := hr.cell 0 _ rfl
    have g0 := hr.free 0
    have b0 := hb.cell 1 _ rfl
    have a1 := hr.cell 1 _ rfl
    have g1 := hr.free 1
    have b1 := hb.cell 2 _ rfl
    have a2 := hr.cell 2 _ rfl
    have g2 := hr.free 2
    have b2 := hb.cell 3 _ rfl
    have a3 := hr.cell 3 _ rfl
    have g3 := hr.free 3
    have b3 := hb.cell 4 _ rfl
    have a4 := hr.cell 4 _ rfl
    have g4 := hr.free 4
    have b4 := hb.cell 5 _ rfl
    have a5 := hr.cell 5 _ rfl
    have g5 := hr.free 5
    have b5 := hb.cell 6 _ rfl
    have HF := Lib.hid (And.intro hS (And.intro f (And.intro hx hb)))
    clear hS f hx hb hr
    go_wp2
    go_region
    have f3 : Fr [rb] w2 ((((((w2.setCell ⟨rb, 0, none⟩ (.int .i64 0)).setCell ⟨rb, 1, none⟩ (.string ⟨#[]⟩)).setCell ⟨rb, 2, none⟩ (.string ⟨#[]⟩)).setCell ⟨rb, 3, none⟩ (.string ⟨#[]⟩)).setCell ⟨rb, 4, none⟩ (.int .i64 0)).setCell ⟨rb, 5, none⟩ (.int .i64 0)) := ((((((Fr.refl _ _).setCell (by simp) _).setCell (by simp) _).setCell (by simp) _).setCell (by simp) _).setCell (by simp) _).setCell (by simp) _
    have q3 := ((((((HR.out.set 0 (.int .i64 0)).set 1 (.string ⟨#[]⟩)).set 2 (.string ⟨#[]⟩)).set 3 (.string ⟨#[]⟩)).set 4 (.int .i64 0)).set 5 (.int .i64 0))
    generalize ((((((w2.setCell ⟨rb, 0, none⟩ (.int .i64 0)).setCell ⟨rb, 1, none⟩ (.string ⟨#[]⟩)).setCell ⟨rb, 2, none⟩ (.string ⟨#[]⟩)).setCell ⟨rb, 3, none⟩ (.string ⟨#[]⟩)).setCell ⟨rb, 4, none⟩ (.int .i64 0)).setCell ⟨rb, 5, none⟩ (.int .i64 0)) = w3 at f3 q3 ⊢
    clear a0 a1 a2 a3 a4 a5 b0 b1 b2 b3 b4 b5 g0 g1 g2 g3 g4 g5
    have f4 : Fr [] w3 w3.drew := (Fr.refl _ _).drew
    have q4 := f4.blk q3 (by simp)
    have HQ := Lib.hid (And.intro f3 (And.intro f4 q4))
    clear f3 f4 q3 q4
    generalize w3.drew = w4 at HQ ⊢
    go_wp2
    obtain ⟨f3, f4, q4⟩ := HQ.out
    obtain ⟨hS, f, hx, hb⟩ := HF.out
    obtain ⟨-, -, hrn, fA, hrb, hlb, hlt⟩ := HH.out
    refine bodyPost_ret (v := .tuple #[.int .i64 0, .agg #[.int .i64 0, .string ⟨#[]⟩, .string ⟨#[]⟩, .string ⟨#[]⟩, .int .i64 0, .int .i64 0]]) ?_ rfl ?_
    · clear hrb hlb
      rw [results_tmp_cell rfl]
      have c0 := q4.cell 0 _ rfl
      have c1 := q4.cell 1 _ rfl
      have c2 := q4.cell 2 _ rfl
      have c3 := q4.cell 3 _ rfl
      have c4 := q4.cell 4 _ rfl
      have c5 := q4.cell 5 _ rfl
      go_simp
    · rw [← HRS.out]
      have hrx : ∀ k ∈ lx :: L.all, k ≠ rb := fun k hk => by have := hlt k hk; omega
      refine ⟨(hS.keep f3.size (fun k hk => f3.block k (hS.lt k hk) (by simp only [List.mem_singleton]; exact hrx k (List.mem_cons_of_mem _ hk)))).fr f4, ((Fr.past2 (Fr.drop fA f (by omega)) f3 (by omega)).trans (f4.mono (by simp))), Or.inl ⟨HL1.out.2, rfl, f4.blk (f3.blk hx (by simp only [List.mem_singleton]; exact hrx lx (by simp))) (by simp)⟩⟩
  · have hl1 : Calls Tryz.prog 14 #[.pointer (some ⟨lx, 0, none⟩), .pointer (some ⟨lb, 0, none⟩)] w1 (fun e w' => e = .returned (.int .i64 R.typ) ∧ Sc w' L R.st none ∧ Fr (lb :: lx :: L.own) w1 w' ∧ ∃ nm : ByteArray, Blk w' lx (lexT L R.pnl R.typ nm ⟨R.str.toArray⟩ L.src R.line R.col typ0) ∧ Blk w' lb (yyT (tkCells R.typ nm ⟨R.str.toArray⟩ L.src R.line R.col))) := HH.out.1.mono (fun e w' ⟨q1, q2, q3⟩ => by
      rcases q3 with ⟨c1, _⟩ | ⟨_, nm, rfl, c1, c2⟩
      · exact absurd c1 htyp
      · exact ⟨rfl, q1, q2, nm, c1, c2⟩)
    have HL1 := Lib.hid (And.intro hl1 htyp)
    clear hl1 htyp
    go_wp2_with (go_at_call 14; refine (HL1.out.1).mono ?_; rintro e w2 ⟨rfl, hS, f, nm, hx, hb⟩; refine Hid.out ?_)
    refine Lib.hid ?_
    have hr := f.blk HH.out.2.1 HH.out.2.2.1
    have HR := Lib.hid hr
    unfold tk0 tkCells at hr
    unfold yyT tkCells at hb
    have a0 := hr.cell 0 _ rfl
    have g0 := hr.free 0
    have b0 := hb.cell 1 _ rfl
    have a1 := hr.cell 1 _ rfl
    have g1 := hr.free 1
    have b1 := hb.cell 2 _ rfl
    have a2 := hr.cell 2 _ rfl
    have g2 := hr.free 2
    have b2 := hb.cell 3 _ rfl
    have a3 := hr.cell 3 _ rfl
    have g3 := hr.free 3
    have b3 := hb.cell 4 _ rfl
    have a4 := hr.cell 4 _ rfl
    have g4 := hr.free 4
    have b4 := hb.cell 5 _ rfl
    have a5 := hr.cell 5 _ rfl
    have g5 := hr.free 5
    have b5 := hb.cell 6 _ rfl
    have HF := Lib.hid (And.intro hS (And.intro f (And.intro hx hb)))
    clear hS f hx hb hr
    go_wp2
    go_region
    have f3 : Fr [rb] w2 ((((((w2.setCell ⟨rb, 0, none⟩ (.int .i64 R.typ)).setCell ⟨rb, 1, none⟩ (.string nm)).setCell ⟨rb, 2, none⟩ (.string ⟨R.str.toArray⟩)).setCell ⟨rb, 3, none⟩ (.string L.src)).setCell ⟨rb, 4, none⟩ (.int .i64 R.line)).setCell ⟨rb, 5, none⟩ (.int .i64 R.col)) := ((((((Fr.refl _ _).setCell (by simp) _).setCell (by simp) _).setCell (by simp) _).setCell (by simp) _).setCell (by simp) _).setCell (by simp) _
    have q3 := ((((((HR.out.set 0 (.int .i64 R.typ)).set 1 (.string nm)).set 2 (.string ⟨R.str.toArray⟩)).set 3 (.string L.src)).set 4 (.int .i64 R.line)).set 5 (.int .i64 R.col))
    generalize ((((((w2.setCell ⟨rb, 0, none⟩ (.int .i64 R.typ)).setCell ⟨rb, 1, none⟩ (.string nm)).setCell ⟨rb, 2, none⟩ (.string ⟨R.str.toArray⟩)).setCell ⟨rb, 3, none⟩ (.string L.src)).setCell ⟨rb, 4, none⟩ (.int .i64 R.line)).setCell ⟨rb, 5, none⟩ (.int .i64 R.col)) = w3 at f3 q3 ⊢
    clear a0 a1 a2 a3 a4 a5 b0 b1 b2 b3 b4 b5 g0 g1 g2 g3 g4 g5
    have f4 : Fr [] w3 w3.drew := (Fr.refl _ _).drew
    have q4 := f4.blk q3 (by simp)
    have HQ := Lib.hid (And.intro f3 (And.intro f4 q4))
    clear f3 f4 q3 q4
    generalize w3.drew = w4 at HQ ⊢
    go_wp2
    obtain ⟨f3, f4, q4⟩ := HQ.out
    obtain ⟨hS, f, hx, hb⟩ := HF.out
    obtain ⟨-, -, hrn, fA, hrb, hlb, hlt⟩ := HH.out
    refine bodyPost_ret (v := .tuple #[.int .i64 R.typ, .agg #[.int .i64 R.typ, .string nm, .string ⟨R.str.toArray⟩, .string L.src, .int .i64 R.line, .int .i64 R.col]]) ?_ rfl ?_
    · clear hrb hlb
      rw [results_tmp_cell rfl]
      have c0 := q4.cell 0 _ rfl
      have c1 := q4.cell 1 _ rfl
      have c2 := q4.cell 2 _ rfl
      have c3 := q4.cell 3 _ rfl
      have c4 := q4.cell 4 _ rfl
      have c5 := q4.cell 5 _ rfl
      go_simp
    · rw [← HRS.out]
      have hrx : ∀ k ∈ lx :: L.all, k ≠ rb := fun k hk => by have := hlt k hk; omega
      refine ⟨(hS.keep f3.size (fun k hk => f3.block k (hS.lt k hk) (by simp only [List.mem_singleton]; exact hrx k (List.mem_cons_of_mem _ hk)))).fr f4, ((Fr.past2 (Fr.drop fA f (by omega)) f3 (by omega)).trans (f4.mono (by simp))), Or.inr ⟨HL1.out.2, nm, rfl, f4.blk (f3.blk hx (by simp only [List.mem_singleton]; exact hrx lx (by simp))) (by simp)⟩⟩
end Go.Proofs.YtnmpeipccpgkpaaGreatDoor

namespace Go.Proofs.YtnmpeipccpgkpaaGreatDoor
open Go.RowKit

/-- A token's six cells. -/
def zt (r : Res) : List Value := zcells r.typ ⟨r.str.toArray⟩ r.line r.col r.nl 0
def tcells : List Res → List Value
  | [] => []
  | r :: ts => zt r ++ tcells ts
theorem tcells_len (ts : List Res) : (tcells ts).length = ts.length * 6 := by
  induction ts with
  | nil => rfl
  | cons r ts ih =>
    show (zt r ++ tcells ts).length = (ts.length + 1) * 6
    rw [List.length_append, ih]
    show 6 + ts.length * 6 = _
    omega
theorem tcells_snoc (ts : List Res) (r : Res) : tcells ts ++ zt r = tcells (ts ++ [r]) := by
  induction ts with
  | nil => show [] ++ zt r = zt r ++ []; rw [List.append_nil]; rfl
  | cons q ts ih =>
    show (zt q ++ tcells ts) ++ zt r = zt q ++ tcells (ts ++ [r])
    rw [List.append_assoc, ih]
theorem tcells_at (ts : List Res) (k : Nat) (r : Res) (h : ts[k]? = some r) (j : Nat) (hj : j < 6) : (tcells ts)[k * 6 + j]? = (zt r)[j]? := by
  induction ts generalizing k with
  | nil => simp at h
  | cons q ts ih =>
    show (zt q ++ tcells ts)[k * 6 + j]? = _
    have hl : (zt q).length = 6 := rfl
    cases k with
    | zero =>
      obtain rfl : q = r := by simpa using h
      rw [List.getElem?_append_left (by omega), Nat.zero_mul, Nat.zero_add]
    | succ k =>
      rw [List.getElem?_append_right (by omega), hl, show (k + 1) * 6 + j - 6 = k * 6 + j by omega]
      exact ih k (by simpa using h)
/-- The slice v of the call's own (its row from B on) holds the tokens ts. -/
def Ts (w : World) (B : Nat) (v : Value) (ts : List Res) : Prop := w.ownsRow B 31 6 v ts.length (tcells ts)
theorem Ts.fr {w w' : World} {B : Nat} {v : Value} {ts : List Res} (h : Ts w B v ts) {own : List Nat} (f : Fr own w w') (ho : ∀ k ∈ own, k < B ∨ w.heap.size ≤ k) : Ts w' B v ts := by
  refine ⟨h.1, ?_⟩
  rcases h.2 with h0 | ⟨g, cap, cur, h1, h2, h3, h4⟩
  · exact Or.inl h0
  · have hg := Lib.lt_of_heap h3
    exact Or.inr ⟨g, cap, cur, h1, h2, (f.block g hg (fun hm => by have := ho g hm; omega)).trans h3, h4⟩
theorem Ts.mono {w : World} {B B' : Nat} {v : Value} {ts : List Res} (h : Ts w B v ts) (hB : B' ≤ B) : Ts w B' v ts := by
  refine ⟨h.1, ?_⟩
  rcases h.2 with h0 | ⟨g, cap, cur, h1, h2, h3⟩
  · exact Or.inl h0
  · exact Or.inr ⟨g, cap, cur, h1, Nat.le_trans hB h2, h3⟩
theorem Ts.lt {w : World} {B : Nat} {v : Value} {ts : List Res} (h : Ts w B v ts) (k : Nat) (hk : v.ownBlock = some k) : k < w.heap.size := by
  rcases h.2 with ⟨h0, _⟩ | ⟨g, cap, cur, h1, _, h3, _⟩
  · rw [h0] at hk; simp [Value.ownBlock] at hk
  · rw [h1] at hk
    have : g = k := by simpa [Value.ownBlock] using hk
    rw [← this]; exact Lib.lt_of_heap h3
theorem Ts.own {w : World} {B : Nat} {v : Value} {ts : List Res} (h : Ts w B v ts) (k : Nat) (hk : v.ownBlock = some k) : B ≤ k := by
  rcases h.2 with ⟨h0, _⟩ | ⟨g, cap, cur, h1, h2, _⟩
  · rw [h0] at hk; simp [Value.ownBlock] at hk
  · rw [h1] at hk
    have : g = k := by simpa [Value.ownBlock] using hk
    omega
/-- As a walk reads it. -/
theorem Ts.shape {w : World} {B : Nat} {v : Value} {ts : List Res} (h : Ts w B v ts) (hne : ts ≠ []) : ∃ g cap, v = .slice (some ⟨g, 0, none⟩) ts.length cap ∧ B ≤ g ∧ g < w.heap.size ∧ ts.length ≤ cap ∧
    ∀ k r, ts[k]? = some r → ∀ j u, (zt r)[j]? = some u → w.cell? ⟨g, k * 6 + j, none⟩ = some u := by
  rcases h.2 with ⟨_, hn⟩ | ⟨g, cap, cur, h1, h2, h3, h4, h5, h6, h7⟩
  · exact absurd (List.eq_nil_of_length_eq_zero hn) hne
  · refine ⟨g, cap, h1, h2, Lib.lt_of_heap h3, h4, fun k r hk j u hu => ?_⟩
    have hj : j < 6 := by
      rcases Nat.lt_or_ge j 6 with h8 | h8
      · exact h8
      · rw [List.getElem?_eq_none (by exact h8)] at hu; cases hu
    have := Lib.cells_of_row h3 (ts.length * 6) (k * 6 + j) u (by rw [h7, tcells_at ts k r hk j hj]; exact hu)
    rw [Lib.addr_add, Nat.zero_add] at this
    exact this
theorem info_zt : (Tryz.prog.info? 31).map (fun i => (i.zero, i.size, i.bytes)) = some (some (.agg #[.int .i64 0, .string ⟨#[]⟩, .int .i64 0, .int .i64 0, .bool false, .int .i64 0]), 6, 56) := by kernel_rfl
/-- 'make([]zzTok, 0, n)'. -/
theorem wpList_mkT {w : World} {ops : Array Oper} {rest : List Oper} {o : Oper} {a : Act} {Q : Exit → Act → World → Prop} (hgd : o.guard = none) (s x : Operand)
    (ho : o.op = Op.makeSlice 25 s x) (hs : a.eval s = .int .i64 0) (hx : a.eval x = .int .i64 16)
    (h : ∀ v w', Ts w' w.heap.size v [] → Below w.heap.size w w' → wpList Tryz.prog ops Q rest (a.put o.dst v) w') : wpList Tryz.prog ops Q (o :: rest) a w := by
  obtain ⟨i0, hi, hz0, hz1, hz2⟩ := info_parts info_zt
  refine wpList_make_own w hgd s x 25 ho w.heap.size 31 i0 _ 6 Tryz.underlying25 hi hz0 hz1 .i64 .i64 16 16 hs hx rfl (by rw [hz2]; decide) (by decide) (Nat.le_refl _) ?_
  intro w' hown hgr
  exact h _ w' hown ⟨hgr.os, hgr.tape, hgr.output, hgr.size, fun k hk => hgr.block k hk (by simp)⟩
/-- 'v = append(v, t)', t laid in a block of its own. -/
theorem wpList_appT {w : World} {ops : Array Oper} {rest : List Oper} {o : Oper} {a : Act} {Q : Exit → Act → World → Prop} (hgd : o.guard = none) (s x : Operand)
    (ho : o.op = .call { callee := .builtin .append, args := #[s, x], argTypes := #[25, 25] }) (T : TypeId) (B : Nat) (v : Value) (ts : List Res) (cs : List Value) (r : Res)
    (hs : a.eval s = v) (hx : a.eval x = .slice (some ⟨w.heap.size, 0, none⟩) 1 1) (hB : Ts w B v ts) (hX : Hid (cs = zt r)) (hle : B ≤ w.heap.size) (hlim : Hid (ts.length + 1 ≤ 1099511627776))
    (h : ∀ v' w', Ts w' B v' (ts ++ [r]) → Below B w w' → (∀ k, k < w.heap.size → v.ownBlock ≠ some k → w'.heap[k]? = w.heap[k]?) → wpList Tryz.prog ops Q rest (a.put o.dst v') w') : wpList Tryz.prog ops Q (o :: rest) a (w.alloc (.cells cs.toArray T)) := by
  obtain ⟨i0, hi, hz0, hz1, hz2⟩ := info_parts info_zt
  have hlim := hlim.out
  obtain rfl := hX.out
  have hBelow : Below B w (w.alloc (.cells (zt r).toArray T)) := (Below.refl _ _).alloc hle _
  refine wpList_append_own _ hgd s x 25 ho B 31 i0 _ 6 56 Tryz.underlying25 hi hz0 hz1 hz2 rfl (by decide) v ts.length (tcells ts) hs (World.ownsRow.alloc hB _) ⟨w.heap.size, 0, none⟩ 1 1 (zt r) hx rfl ?_ ?_ ?_ ?_ ?_ ?_
  · intro j u hj
    rw [Lib.addr_add, Nat.zero_add]
    exact (Lib.cell_of_heap (heap_alloc_new w (.cells (zt r).toArray T)) j).trans (by simpa using hj)
  · intro u hu
    simp only [zt, zcells, List.mem_cons, List.not_mem_nil, or_false] at hu
    rcases hu with rfl | rfl | rfl | rfl | rfl | rfl <;> rfl
  · unfold maxLen; omega
  · omega
  · rw [size_alloc]; omega
  · intro v' w' hown hgr _
    refine h v' w' ?_ (hBelow.grown hgr (by rw [size_alloc]; omega) (fun k hk => hB.own k hk)) (fun k hk hv => (hgr.block k (by rw [size_alloc]; omega) hv.symm).trans (Below.heap_alloc _ _ _ hk))
    rw [tcells_snoc] at hown
    unfold Ts
    rw [List.length_append]
    exact hown

theorem Rf.start {w : World} {M : Nat} {v : Value} {all : List UInt8} (hm : Sm w M v all) (hal : all.length ≤ 65536) (T : TypeId) :
    Rf (w.alloc (.cells #[v, .int .i64 0, .int .i64 1, .int .i64 0] T)) w.heap.size M v all ⟨all, 1, 0⟩ := by
  have f : Fr [] w (w.alloc (.cells #[v, .int .i64 0, .int .i64 1, .int .i64 0] T)) := (Fr.refl _ w).alloc _
  refine ⟨0, Blk.new w _ _, hm.of_block (f.block _ hm.1 (by simp)) f.size, Nat.zero_le _, by omega, rfl, ⟨?_, Int.le_refl 0, ?_⟩, fun e => by have := hm.1; omega⟩
  · show (-1 : Int) ≤ 1; omega
  · show (1 : Int) + 0 + (all.length : Nat) ≤ 2305843009213693951; omega

/-- What zzModelTokens answers. -/
def MTok (w : World) (all : List UInt8) (e : Ending) (w' : World) : Prop :=
  ∃ (v' : Value) (ok : Bool), e = .returned (.tuple #[v', .bool ok]) ∧ Fr [] w w' ∧ (ok = true → ∃ ts, Ts w' w.heap.size v' ts ∧ Chain ⟨all, 1, 0⟩ ts ∧ ts.length ≤ all.length + 2)
set_option maxRecDepth 100000 in
set_option maxHeartbeats 12800000 in
theorem mtok_any (w : World) (v : Value) (all : List UInt8) (M : Nat) (hm : Sm w M v all) (hal : all.length ≤ 65536) :
    Calls Tryz.prog 7 #[v] w (MTok w all) := by
  have hm2 := hm
  obtain ⟨hM, a, c, rfl, hlc, -⟩ := hm2
  have hli : (all.length : Int) ≤ 65536 := by omega
  have hl0 : (0 : Int) ≤ (all.length : Int) := by omega
  have HM := Lib.hid (And.intro hm (And.intro hM (And.intro hal hlc)))
  clear hm hM hal hlc
  go_enter Tryz.func7, Tryz.ntmps7
  go_upto_region 2 with fail
  have hrf := Rf.start HM.out.1 HM.out.2.2.1 44
  have fr0 : Fr [] w (w.alloc (.cells #[.slice a all.length c, .int .i64 0, .int .i64 1, .int .i64 0] 44)) := (Fr.refl _ w).alloc _
  obtain ⟨R, hR⟩ : ∃ R, R = w.heap.size := ⟨_, rfl⟩
  have hsz : (w.alloc (.cells #[.slice a all.length c, .int .i64 0, .int .i64 1, .int .i64 0] 44)).heap.size = R + 1 := by rw [hR, size_alloc]
  rw [← hR] at hrf ⊢
  have HRW := Lib.hid hR
  clear hR
  generalize w.alloc (.cells #[.slice a all.length c, .int .i64 0, .int .i64 1, .int .i64 0] 44) = w1 at hrf fr0 hsz ⊢
  have H1 := Lib.hid (And.intro hrf (And.intro fr0 hsz))
  clear hrf fr0 hsz
  go_wp2_with (with_reducible refine wpList_mkT rfl (.const (.int .i64 0)) (.const (.int .i64 16)) rfl rfl rfl ?_)
  intro v1 w2 hts hbl
  have H2 := Lib.hid (show Rf w2 R M (.slice a all.length c) all ⟨all, 1, 0⟩ ∧ Ts w2 (R + 1) v1 [] ∧ R + 1 ≤ w2.heap.size ∧ Fr [] w w2 from by
    obtain ⟨q1, q2, q3⟩ := H1.out
    have hMw := HM.out.2.1
    have hRw := HRW.out
    refine ⟨q1.bl hbl (by omega) (by omega), by rw [← q3]; exact hts, by rw [← q3]; exact hbl.size, q2.trans (Fr.of_below hbl)⟩)
  clear hts hbl H1
  go_wp2
  go_loopg [5, 6] (all.length + 2) (fun g ov kv wr => ∃ (ts : List Res) (st : St) (k : Nat), all.length + 2 - k ≤ g ∧ kv = .int .i64 k ∧ Rf wr R M (.slice a all.length c) all st ∧ Ts wr (R + 1) ov ts ∧ R + 1 ≤ wr.heap.size ∧ Part ⟨all, 1, 0⟩ ts st ∧ Fr [] w wr ∧ ts.length = k ∧ k ≤ all.length + 2)
  case atStart => exact ⟨[], ⟨all, 1, 0⟩, 0, Nat.le_refl _, rfl, H2.out.1, H2.out.2.1, H2.out.2.2.1, .nil, H2.out.2.2.2, rfl, by omega⟩
  case round =>
    clear H2
    obtain ⟨ts, st, k, hg, rfl, hrf, hts, hle, hpt, hfr, hlen, hk⟩ := hrel
    have hki : (k : Int) ≤ (all.length : Int) + 2 := by omega
    have HG := Lib.hid (And.intro hg (And.intro hlen (And.intro hk hpt)))
    have HTS := Lib.hid (And.intro hts (And.intro hle hfr))
    have HLM := Lib.hid (show ts.length + 1 ≤ 1099511627776 by have := HM.out.2.2.1; omega)
    clear hg hlen hk hpt hts hle hfr
    by_cases hlt : k ≤ all.length + 1
    · have hlti : (k : Int) ≤ (all.length : Int) + 1 := by omega
      have d1 : decide ((k : Int) ≤ (all.length : Int) + 1) = true := by rw [decide_eq_true_eq]; exact hlti
      go_wp2_with (go_at_call 11; refine (zscan_any wr R M _ all st hrf).mono ?_; rintro e w5 ⟨typ, str, line, col, nl, sta, rfl, f5, h0⟩; unfold zcells; refine Hid.out ?_)
      refine Lib.hid ?_
      have HF := Lib.hid (show Ts w5 (R + 1) u5 ts ∧ R + 1 ≤ w5.heap.size ∧ Fr [] w w5 from by
        obtain ⟨q1, q2, q3⟩ := HTS.out
        exact ⟨q1.fr f5 (by simp), Nat.le_trans q2 f5.size, Fr.new q3 f5 (by have := HRW.out; simp; omega)⟩)
      have H0 := Lib.hid h0
      clear h0 f5 hrf HTS
      by_cases hs : sta = 0
      · subst hs
        obtain ⟨g1, g2, g3, g4, g5, g6, g7⟩ := H0.out rfl
        obtain ⟨r, hr⟩ : ∃ r, r = scanL 0 st := ⟨_, rfl⟩
        rw [← hr] at g1 g2 g3 g4 g5 g6 g7
        subst g2 g3 g4 g5 g6
        have HR := Lib.hid (And.intro hr (And.intro g1 g7))
        clear hr g1 g7 H0
        go_upto_region 9 with fail
        have hT : Blk (w5.alloc (.cells #[.int .i64 r.typ, .string ⟨r.str.toArray⟩, .int .i64 r.line, .int .i64 r.col, .bool r.nl, .int .i64 0] 31)) w5.heap.size (zt r) := Blk.new w5 _ _
        have fa : Fr [] w5 (w5.alloc (.cells #[.int .i64 r.typ, .string ⟨r.str.toArray⟩, .int .i64 r.line, .int .i64 r.col, .bool r.nl, .int .i64 0] 31)) := (Fr.refl _ w5).alloc _
        have HFA := Lib.hid (show Rf (w5.alloc (.cells #[.int .i64 r.typ, .string ⟨r.str.toArray⟩, .int .i64 r.line, .int .i64 r.col, .bool r.nl, .int .i64 0] 31)) R M (.slice a all.length c) all r.st ∧ R + 1 ≤ w5.heap.size ∧ Fr [] w (w5.alloc (.cells #[.int .i64 r.typ, .string ⟨r.str.toArray⟩, .int .i64 r.line, .int .i64 r.col, .bool r.nl, .int .i64 0] 31)) from
          ⟨HR.out.2.2.fr fa (by simp) (by simp), HF.out.2.1, HF.out.2.2.trans fa⟩)
        have hts6 := HF.out.1.fr fa (by simp)
        have hle6 := Nat.le_trans HF.out.2.1 fa.size
        have HOB := Lib.hid (show u5.ownBlock ≠ some w5.heap.size from fun e => Nat.lt_irrefl _ (HF.out.1.lt _ e))
        obtain ⟨tb, htb⟩ : ∃ tb, tb = w5.heap.size := ⟨_, rfl⟩
        rw [← htb] at hT HOB ⊢
        have HTB := Lib.hid (show R + 1 ≤ tb by rw [htb]; exact HF.out.2.1)
        clear htb fa HF
        generalize w5.alloc (.cells #[.int .i64 r.typ, .string ⟨r.str.toArray⟩, .int .i64 r.line, .int .i64 r.col, .bool r.nl, .int .i64 0] 31) = w6 at hT HFA hts6 hle6 ⊢
        have HT := Lib.hid hT
        unfold zt zcells at hT
        have a0 := hT.cell 0 _ rfl
        have a1 := hT.cell 1 _ rfl
        have a2 := hT.cell 2 _ rfl
        have a3 := hT.cell 3 _ rfl
        have a4 := hT.cell 4 _ rfl
        have a5 := hT.cell 5 _ rfl
        clear hT
        go_wp2_with (at_builtin; refine wpList_appT rfl (.tmp 24) (.tmp 26) rfl _ (R + 1) _ ts _ r rfl rfl hts6 (Lib.hid rfl) hle6 HLM ?_; intro v7 w7 hts7 hl7 hk7; refine Hid.out ?_)
        refine Lib.hid ?_
        obtain ⟨hrf6, -, fr6⟩ := HFA.out
        have hMw := HM.out.2.1
        have hRw := HRW.out
        have H7 := Lib.hid (show Rf w7 R M (.slice a all.length c) all r.st ∧ Ts w7 (R + 1) v7 (ts ++ [r]) ∧ R + 1 ≤ w7.heap.size ∧ Fr [] w w7 from
          ⟨hrf6.bl hl7 (by omega) (by omega), hts7, Nat.le_trans hle6 hl7.size, ⟨hl7.os.trans fr6.os, hl7.tape.trans fr6.tape, hl7.output.trans fr6.output, Nat.le_trans fr6.size hl7.size, fun j hj ho => (hl7.block j (by omega)).trans (fr6.block j hj ho)⟩⟩)
        have hT7 := HT.out.of_block (hk7 tb HT.out.lt HOB.out)
        unfold zt zcells at hT7
        have HP := Lib.hid HG.out.2.2.2
        clear a0 a1 a2 a3 a4 a5 hts6 hle6 hts7 hl7 hk7 hrf6 fr6 HFA
        have a0 := hT7.cell 0 _ rfl
        clear hT7
        obtain ⟨hr, g1, -⟩ := HR.out
        by_cases ht : r.typ = -1
        · have t1 : (r.typ == -1) = true := by rw [beq_iff_eq]; exact ht
          have HE := Lib.hid (show Chain ⟨all, 1, 0⟩ (ts ++ [r]) by
            rw [hr] at g1 ht ⊢
            exact HP.out.chain (.last g1 ht))
          clear hr g1 ht HR
          go_wp2
          go_ret2
          exact ⟨_, _, rfl, H7.out.2.2.2, fun _ => ⟨ts ++ [r], H7.out.2.1.mono (by omega), HE.out, by have := HG.out.2.1; rw [List.length_append]; simp only [List.length_cons, List.length_nil]; omega⟩⟩
        · have t1 : (r.typ == -1) = false := by rw [beq_eq_false_iff_ne]; exact ht
          have HE := Lib.hid (show Part ⟨all, 1, 0⟩ (ts ++ [r]) r.st by
            rw [hr] at g1 ht ⊢
            exact HP.out.snoc g1 ht)
          clear hr g1 ht HR
          go_wp2
          go_roundg (all.length + 2 - (k + 1))
          case measure => have := HG.out.1; omega
          case rel => exact ⟨ts ++ [r], r.st, k + 1, Nat.le_refl _, by go_num, H7.out.1, H7.out.2.1, H7.out.2.2.1, HE.out, H7.out.2.2.2, by have := HG.out.2.1; rw [List.length_append]; simp only [List.length_cons, List.length_nil]; omega, by omega⟩
      · have t1 : (sta != 0) = true := by rw [bne_iff_ne]; exact hs
        have t2 : (sta == 0) = false := by rw [beq_eq_false_iff_ne]; exact hs
        clear hs H0
        go_wp2
        go_ret2
        exact ⟨_, _, rfl, HF.out.2.2.alloc _, fun e => by cases e⟩
    · have d1 : decide ((k : Int) ≤ (all.length : Int) + 1) = false := by rw [decide_eq_false_iff_not]; omega
      go_wp2
      go_ret2
      exact ⟨_, _, rfl, HTS.out.2.2, fun e => by cases e⟩
end Go.Proofs.YtnmpeipccpgkpaaGreatDoor

namespace Go.Proofs.YtnmpeipccpgkpaaGreatDoor
open Go.RowKit

/-- What the export of Lex answers, r being the model's token. -/
def ZLx (w : World) (L : Loc) (lx : Nat) (t0 : Int) (s0 : ByteArray) (li0 co0 : Int) (r : Res) (e : Ending) (w' : World) : Prop :=
  ∃ (q a : Int) (b c d : ByteArray) (f g : Int) (t1 : Int) (nm1 s1 src1 : ByteArray) (li1 co1 : Int),
    e = .returned (.tuple #[.int .i64 q, .agg #[.int .i64 a, .string b, .string c, .string d, .int .i64 f, .int .i64 g]]) ∧ Sc w' L r.st none ∧ Fr (lx :: L.own) w w' ∧
    Blk w' lx (lexT L (decide (r.typ = 40 ∧ t0 = 41) && r.nl) t1 nm1 s1 src1 li1 co1 t0) ∧
    (r.typ ≠ -1 → t1 = r.typ ∧ q = r.typ ∧ a = r.typ ∧ c = ⟨r.str.toArray⟩ ∧ f = r.line ∧ g = r.col ∧ s1 = ⟨r.str.toArray⟩ ∧ li1 = r.line ∧ co1 = r.col) ∧
    (r.typ = -1 → q = 0 ∧ t1 = t0 ∧ s1 = s0 ∧ li1 = li0 ∧ co1 = co0)
theorem zlx (w : World) (L : Loc) (st : St) (lx : Nat) (pn : Bool) (t0 : Int) (nm0 s0 src0 : ByteArray) (li0 co0 prev0 : Int) (h : Sc w L st none) (hLx : Blk w lx (lexT L pn t0 nm0 s0 src0 li0 co0 prev0))
    (ax : lx ∉ L.all) (ht : HasTok w) (hnt : 0 ∉ lx :: L.own) (hl : st.rest.length ≤ 1099511627776) (hok : (scanL 0 st).ok = true) :
    Calls Tryz.prog 9 #[.pointer (some ⟨lx, 0, none⟩)] w (ZLx w L lx t0 s0 li0 co0 (scanL 0 st)) := by
  obtain ⟨p1, p2, p3, p4, p5, p6, p7⟩ := scan_prev t0 0 st
  have p8 := scan_pnl t0 0 st hok
  refine (zlex_any w L st lx pn t0 nm0 s0 src0 li0 co0 prev0 h hLx ax ht hnt hl (p1.trans hok)).mono ?_
  rintro e w' ⟨hS, f, hc⟩
  rw [p2, p3, p4, p5, p8] at hc
  rw [p7] at hS
  rcases hc with ⟨hc, rfl, hb⟩ | ⟨hc, nm, rfl, hb⟩
  · exact ⟨_, _, _, _, _, _, _, _, _, _, _, _, _, rfl, hS, f, hb, fun e => absurd hc e, fun _ => ⟨rfl, rfl, rfl, rfl, rfl⟩⟩
  · exact ⟨_, _, _, _, _, _, _, _, _, _, _, _, _, rfl, hS, f, hb, fun _ => ⟨rfl, rfl, rfl, rfl, rfl, rfl, rfl, rfl, rfl⟩, fun e => absurd e hc⟩
theorem scan_rest (p : Int) (st : St) : (scanL p st).st.rest.length ≤ st.rest.length := by
  obtain ⟨s, h1, h2, h3, h4, h5, h6⟩ := scan_at p st
  exact Nat.le_trans (reach_len h4) (Nat.le_trans (rest_next_le s) (reach_len h1))
theorem Ts.keep {w w' : World} {B g n cap : Nat} {ts : List Res} (h : Ts w B (.slice (some ⟨g, 0, none⟩) n cap) ts) (e : w'.heap[g]? = w.heap[g]?) : Ts w' B (.slice (some ⟨g, 0, none⟩) n cap) ts := by
  refine ⟨h.1, ?_⟩
  rcases h.2 with ⟨h0, _⟩ | ⟨g', cap', cur, h1, h2, h3, h4⟩
  · cases h0
  · simp only [Value.slice.injEq, Option.some.injEq, Addr.mk.injEq] at h1
    obtain ⟨⟨rfl, -⟩, h5, rfl⟩ := h1
    exact Or.inr ⟨g, cap, cur, by rw [h5], h2, e.trans h3, h4⟩
/-- A fresh lexer's world. -/
structure LxW (w0 : World) (L : Loc) (lx : Nat) : Prop where
  own : ∀ k ∈ L.own, w0.heap.size ≤ k
  lxn : w0.heap.size ≤ lx
  ax : lx ∉ L.all
theorem LxW.tok {w0 : World} {L : Loc} {lx : Nat} (h : LxW w0 L lx) (ht : HasTok w0) : 0 ∉ lx :: L.own := fun hm => by
  have h5 := ht.1
  have h6 := h.lxn
  rcases List.mem_cons.1 hm with h7 | h7
  · omega
  · have := h.own _ h7; omega
theorem LxW.new {w0 : World} {L : Loc} {lx : Nat} (h : LxW w0 L lx) {n : Nat} (hn : n ≤ w0.heap.size) : ∀ j ∈ lx :: L.own, n ≤ j := fun j hj => by
  rcases List.mem_cons.1 hj with h7 | h7
  · rw [h7]; exact Nat.le_trans hn h.lxn
  · exact Nat.le_trans hn (h.own _ h7)
end Go.Proofs.YtnmpeipccpgkpaaGreatDoor

namespace Go.Proofs.YtnmpeipccpgkpaaGreatDoor
open Go.RowKit

set_option maxRecDepth 100000 in
set_option maxHeartbeats 12800000 in
theorem zzb_c (w : World) (v : Value) (l : List UInt8) (h : Sl w v l) :
    Calls Tryz.prog 10 #[v] w fun e w' => e = .returned (.bool (decide (l.length ≤ 1048576))) ∧ w = w' := by
  obtain ⟨a, c0, rfl, _⟩ := h
  by_cases h1 : l.length ≤ 1048576
  · have h1i : (l.length : Int) ≤ 1048576 := by omega
    rw [decide_eq_true h1]
    clear h1
    go_enter Tryz.func10, Tryz.ntmps10
    go_wp2
    go_ret
    exact ⟨rfl, rfl⟩
  · have h1i : (1048576 : Int) < (l.length : Int) := by omega
    rw [decide_eq_false h1]
    clear h1
    go_enter Tryz.func10, Tryz.ntmps10
    go_wp2
    go_ret
    exact ⟨rfl, rfl⟩
set_option maxRecDepth 100000 in
set_option maxHeartbeats 12800000 in
theorem lc_n0 (w : World) (v : Value) (h : Calls Tryz.prog 10 #[v] w fun e w' => e = .returned (.bool false) ∧ w = w') :
    Calls Tryz.prog 4 #[v] w fun e w' => e = .returned (.bool true) ∧ w = w' := by
  have H := Lib.hid h
  clear h
  go_enter Tryz.func4, Tryz.ntmps4
  go_wp2_with (go_at_call 10; refine (H.out).mono ?_; rintro e w1 ⟨rfl, rfl⟩)
  go_ret
  exact ⟨rfl, rfl⟩
set_option maxRecDepth 100000 in
set_option maxHeartbeats 12800000 in
theorem lc_n1 (w : World) (a : Option Addr) (n c : Nat) (h : Calls Tryz.prog 10 #[.slice a n c] w fun e w' => e = .returned (.bool true) ∧ w = w') (hn : (65536 : Int) < (n : Int)) :
    Calls Tryz.prog 4 #[.slice a n c] w fun e w' => e = .returned (.bool true) ∧ w = w' := by
  have H := Lib.hid h
  clear h
  go_enter Tryz.func4, Tryz.ntmps4
  go_wp2_with (go_at_call 10; refine (H.out).mono ?_; rintro e w1 ⟨rfl, rfl⟩)
  go_ret
  exact ⟨rfl, rfl⟩
set_option maxRecDepth 100000 in
set_option maxHeartbeats 12800000 in
theorem lc_yes (w : World) (a : Addr) (v : Value) (l : List UInt8) (h : Sl w v l) (he : HasEof w a) (ht : HasTok w) (h1 : l.length ≤ 65536) :
    Calls Tryz.prog 4 #[v] w fun e w' => e = .returned (.bool true) ∧ Fr [] w w' := by
  have hz := zzb_c w v l h
  rw [decide_eq_true (show l.length ≤ 1048576 by omega)] at hz
  have hcl := clone_any w v l h (by omega)
  obtain ⟨a0, c0, rfl, -⟩ := h
  have b1 : decide ((65536 : Int) < (l.length : Int)) = false := by rw [decide_eq_false_iff_not]; omega
  have hli : (l.length : Int) ≤ 65536 := by omega
  have HZ := Lib.hid (And.intro hz (And.intro hcl (And.intro h1 (And.intro he ht))))
  clear hz hcl h1 he ht
  go_enter Tryz.func4, Tryz.ntmps4
  go_wp2_with (first | (go_at_call 10; refine (HZ.out.1).mono ?_; rintro e w1 ⟨rfl, rfl⟩) | (go_at_call 6; refine (HZ.out.2.1).mono ?_; rintro e w1 ⟨v1, rfl, hb1, bl1⟩; obtain ⟨M, ⟨hM, a1, c1, rfl, hlc1, hcell1⟩, hMc⟩ := Sm.of_bs hb1 (G := 1) (Nat.lt_of_lt_of_le HZ.out.2.2.2.1.2 bl1.size); refine Hid.out ?_))
  refine Lib.hid ?_
  have HSM := Lib.hid (show Sm w1 M (.slice a1 l.length c1) l from ⟨hM, a1, c1, rfl, hlc1, hcell1⟩)
  have FR1 := Lib.hid (Fr.of_below (own := []) bl1)
  clear hb1 bl1 hM hcell1 hMc hlc1
  have HMT := Lib.hid (mtok_any w1 _ l M HSM.out HZ.out.2.2.1)
  have HM2 := Lib.hid HSM.out.1
  go_wp2_with (go_at_call 7; refine (HMT.out).mono ?_; rintro e w2 ⟨tv, ok, rfl, f2, hts⟩; refine Hid.out ?_)
  refine Lib.hid ?_
  have FR2 := Lib.hid (FR1.out.trans f2)
  have HSM2 := Lib.hid (HSM.out.of_block (f2.block _ HM2.out (by simp)) f2.size)
  have HTS := Lib.hid hts
  clear f2 hts HMT HSM HM2
  cases ok
  · clear HTS HSM2
    go_wp2
    go_ret
    exact ⟨rfl, FR2.out⟩
  obtain ⟨ts, hts, hch, hln⟩ := HTS.out rfl
  have hnil : ts ≠ [] := fun e => by rw [e] at hch; exact hch.ne
  have HTS1 := Lib.hid hts
  obtain ⟨g, cap, rfl, hg1, hg2, hcap, -⟩ := hts.shape hnil
  obtain ⟨n, hn⟩ : ∃ n, n = ts.length := ⟨_, rfl⟩
  rw [← hn] at HTS1 hcap ⊢
  have hni : (n : Int) ≤ 65538 := by omega
  have HCH := Lib.hid (And.intro hch (And.intro hn (And.intro hnil (And.intro hg1 hg2))))
  clear hts hch hln hnil HTS hg1 hg2 hn
  go_wp2_with (go_at_call 8; refine (znewL w2 a _ l M _ HSM2.out (by have := HZ.out.2.2.1; omega) (HZ.out.2.2.2.1.fr FR2.out (by simp))).mono ?_; rintro e w3 hNx; obtain ⟨L, lx, q1, q2, q3, q4, q5, rfl, q7, q8, q9⟩ := hNx; refine Hid.out ?_)
  refine Lib.hid ?_
  have FR3 := Lib.hid (FR2.out.trans q9)
  have LW := Lib.hid (show LxW w2 L lx from ⟨q3, q4, q5⟩)
  have HS := Lib.hid (And.intro q7 (And.intro q8 (HTS1.out.fr q9 (by simp))))
  have HSZ := Lib.hid q9.size
  have HTK := Lib.hid (LW.out.tok (HZ.out.2.2.2.2.fr FR2.out))
  clear q1 q2 q3 q4 q5 q7 q8 q9 HSM2 HTS1
  go_wp2
  go_loopg [6] n (fun gk kv wr => ∃ (k : Nat) (st : St) (us : List Res) (pn : Bool) (pv : Int) (nm s0 src0 : ByteArray) (li co p0 : Int), n - k ≤ gk ∧ kv = .int .i64 k ∧ ts.drop k = us ∧ Chain st us ∧ ((k = 0 ∧ pv = 0) ∨ ∃ (k1 : Nat) (r1 : Res), k = k1 + 1 ∧ ts[k1]? = some r1 ∧ pv = r1.typ) ∧ Sc wr L st none ∧ Blk wr lx (lexT L pn pv nm s0 src0 li co p0) ∧ Ts wr w1.heap.size (.slice (some ⟨g, 0, none⟩) n cap) ts ∧ Fr [] w wr ∧ st.rest.length ≤ l.length ∧ w2.heap.size ≤ wr.heap.size ∧ k ≤ n)
  case atStart => exact ⟨0, ⟨l, 1, 0⟩, ts, false, 0, _, _, _, _, _, _, by omega, rfl, rfl, HCH.out.1, Or.inl ⟨rfl, rfl⟩, HS.out.1, HS.out.2.1, HS.out.2.2, FR3.out, Nat.le_refl _, HSZ.out, by omega⟩
  case round =>
    clear HS FR3
    obtain ⟨k, st, us, pn, pv, nm, s0, src0, li, co, p0, hg, rfl, hdr, hch, hpv, hSc, hLx, hts, hfr, hrl, hsz, hk⟩ := hrel
    have hki : (k : Int) ≤ (n : Int) := by omega
    have HG := Lib.hid hg
    have HPV := Lib.hid hpv
    clear hg hpv
    have hlt : k < n := by
      rcases Nat.lt_or_ge k n with h8 | h8
      · exact h8
      · exfalso
        rw [List.drop_eq_nil_of_le (by rw [← HCH.out.2.1]; exact h8)] at hdr
        rw [← hdr] at hch
        exact hch.ne
    have hlti : (k : Int) < (n : Int) := by omega
    obtain ⟨us2, hu, hok, hnx⟩ := hch.head
    have hz0 := fun (w4 : World) (hS : Sc w4 L st none) (hX : Blk w4 lx (lexT L pn pv nm s0 src0 li co p0)) (hT : HasTok w4) => zlx w4 L st lx pn pv nm s0 src0 li co p0 hS hX LW.out.ax hT HTK.out (by have := HZ.out.2.2.1; omega) hok
    have hrs := scan_rest 0 st
    have heof := fun e => scan_eof (p := 0) (st := st) hok e
    obtain ⟨r, hr⟩ : ∃ r, r = scanL 0 st := ⟨_, rfl⟩
    rw [← hr] at hu hok hnx hz0 hrs heof
    have hkr : ts[k]? = some r := by
      have h8 : (ts.drop k)[0]? = some r := by rw [hdr, hu]; rfl
      rw [List.getElem?_drop] at h8
      exact h8
    have hdr2 : ts.drop (k + 1) = us2 := by rw [← List.tail_drop, hdr, hu]; rfl
    obtain ⟨g1, cap1, e1, -, -, -, hcell⟩ := hts.shape HCH.out.2.2.1
    simp only [Value.slice.injEq, Option.some.injEq, Addr.mk.injEq] at e1
    obtain ⟨⟨rfl, -⟩, -, rfl⟩ := e1
    have x0 : wr.cell? ⟨g, k * 6, none⟩ = some (.int .i64 r.typ) := hcell k r hkr 0 _ rfl
    have x1 := hcell k r hkr 1 _ rfl
    have x2 := hcell k r hkr 2 _ rfl
    have x3 := hcell k r hkr 3 _ rfl
    have x4 := hcell k r hkr 4 _ rfl
    have x5 := hcell k r hkr 5 _ rfl
    have HR := Lib.hid (And.intro hSc (And.intro hLx (And.intro hts (And.intro hfr (And.intro hsz (And.intro (Nat.le_trans hrs hrl) (And.intro hdr2 (And.intro hnx (And.intro hz0 (And.intro hkr heof))))))))))
    clear hSc hLx hts hfr hsz hrs hrl hdr2 hnx hz0 hkr hdr hch hu hok hr hcell
    go_upto_region 14 with fail
    have fa : Fr [] wr (wr.alloc (.cells #[.int .i64 r.typ, .string ⟨r.str.toArray⟩, .int .i64 r.line, .int .i64 r.col, .bool r.nl, .int .i64 0] 31)) := (Fr.refl _ wr).alloc _
    have hW : Blk (wr.alloc (.cells #[.int .i64 r.typ, .string ⟨r.str.toArray⟩, .int .i64 r.line, .int .i64 r.col, .bool r.nl, .int .i64 0] 31)) wr.heap.size (zt r) := Blk.new wr _ _
    obtain ⟨wb, hwb⟩ : ∃ wb, wb = wr.heap.size := ⟨_, rfl⟩
    rw [← hwb] at hW ⊢
    have HWB := Lib.hid hwb
    clear hwb x0 x1 x2 x3 x4 x5
    generalize wr.alloc (.cells #[.int .i64 r.typ, .string ⟨r.str.toArray⟩, .int .i64 r.line, .int .i64 r.col, .bool r.nl, .int .i64 0] 31) = w4 at fa hW ⊢
    have H4 := Lib.hid (And.intro fa hW)
    have HZX := Lib.hid (HR.out.2.2.2.2.2.2.2.2.1 w4 (HR.out.1.fr fa) (fa.blk HR.out.2.1 (by simp)) (HZ.out.2.2.2.2.fr (HR.out.2.2.2.1.trans fa)))
    clear fa hW
    go_wp2_with (go_at_call 9; refine (HZX.out).mono ?_; rintro e w5 ⟨q, a', b', c', d', f', g', t1, nm1, s1, src1, li1, co1, rfl, hS5, f5, hB5, h5a, h5b⟩; refine Hid.out ?_)
    refine Lib.hid ?_
    have hbn : wb ∉ lx :: L.own := fun hm => by
      rcases List.mem_cons.1 hm with e9 | e9
      · have := HR.out.2.1.lt; have := HWB.out; omega
      · have := HR.out.1.lt _ (Loc.own_all _ e9); have := HWB.out; omega
    have hgn : g ∉ lx :: L.own := fun hm => by
      have := LW.out.new (Nat.le_refl _) g hm
      have := HCH.out.2.2.2.2
      omega
    have hW5 := f5.blk H4.out.2 hbn
    have H5 := Lib.hid (And.intro hS5 (And.intro hB5 (And.intro (HR.out.2.2.1.keep ((f5.block g (Nat.lt_of_lt_of_le (Nat.lt_of_lt_of_le HCH.out.2.2.2.2 HR.out.2.2.2.2.1) H4.out.1.size) hgn).trans (H4.out.1.block g (Nat.lt_of_lt_of_le HCH.out.2.2.2.2 HR.out.2.2.2.2.1) (by simp)))) (And.intro (Fr.new (HR.out.2.2.2.1.trans H4.out.1) f5 (LW.out.new FR2.out.size)) (And.intro (Nat.le_trans HR.out.2.2.2.2.1 (Nat.le_trans H4.out.1.size f5.size)) (And.intro h5a h5b))))))
    by_cases hty : r.typ = -1
    · obtain ⟨rfl, i1, i2, i3, i4⟩ := h5b hty
      obtain rfl := i1.symm
      obtain rfl := i2.symm
      obtain rfl := i3.symm
      obtain rfl := i4.symm
      have HEOF := Lib.hid (show r.st.rest = [] by
        have := HR.out.2.2.2.2.2.2.2.2.2.2
        exact this hty)
      go_upto_region 15 with fail
      have fk : Fr [] w5 (w5.alloc (.cells #[.int .i64 a', .string b', .string c', .string d', .int .i64 f', .int .i64 g'] 35)) := (Fr.refl _ w5).alloc _
      have hK : Blk (w5.alloc (.cells #[.int .i64 a', .string b', .string c', .string d', .int .i64 f', .int .i64 g'] 35)) w5.heap.size [.int .i64 a', .string b', .string c', .string d', .int .i64 f', .int .i64 g'] := Blk.new w5 _ _
      obtain ⟨kb, hkb⟩ : ∃ kb, kb = w5.heap.size := ⟨_, rfl⟩
      rw [← hkb] at hK ⊢
      clear hkb
      generalize w5.alloc (.cells #[.int .i64 a', .string b', .string c', .string d', .int .i64 f', .int .i64 g'] 35) = w6 at fk hK ⊢
      have hW6 := fk.blk hW5 (by simp)
      have hx6 := fk.blk hB5 (by simp)
      have hts6 := H5.out.2.2.1.fr fk (by simp)
      have HK := Lib.hid (And.intro fk (And.intro hx6 (And.intro hts6 h5b)))
      have k0 := hK.cell 0 _ rfl
      have k2 := hK.cell 2 _ rfl
      have k4 := hK.cell 4 _ rfl
      have k5 := hK.cell 5 _ rfl
      unfold zt zcells at hW6
      have y0 := hW6.cell 0 _ rfl
      have y1 := hW6.cell 1 _ rfl
      have y2 := hW6.cell 2 _ rfl
      have y3 := hW6.cell 3 _ rfl
      have z3 := hx6.cell 3 _ rfl
      have z5 := hx6.cell 5 _ rfl
      have z7 := hx6.cell 7 _ rfl
      have z8 := hx6.cell 8 _ rfl
      have z9 := hx6.cell 9 _ rfl
      clear hK hW6 hW5 hS5 f5 hB5 h5a h5b hbn hgn fk HZX
      have t1 : (r.typ == -1) = true := by rw [beq_iff_eq]; exact hty
      clear hty
      rcases HPV.out with ⟨hk0, hp0⟩ | ⟨k1, r1, hk1, hr1, hp1⟩
      · have d0 : decide (0 < (k : Int)) = false := by rw [decide_eq_false_iff_not]; omega
        have d0n : decide (0 < k) = false := by rw [decide_eq_false_iff_not]; omega
        have d0m : ¬ 0 < k := by omega
        have d1 : (pv != 0) = false := by rw [bne_eq_false_iff_eq]; exact hp0
        clear hx6 hts6 hk0 hp0
        go_wp2
        go_loopg [15] 3 (fun gj jv wz => ∃ (j : Nat) (st2 : St) (pn2 : Bool) (nm2 src2 : ByteArray) (pp : Int), 3 - j ≤ gj ∧ jv = .int .i64 j ∧ st2.rest = [] ∧ Sc wz L st2 none ∧ Blk wz lx (lexT L pn2 pv nm2 s0 src2 li co pp) ∧ Fr [] w wz ∧ j ≤ 3)
        case atStart =>
          obtain ⟨e1, e2, e3, e4, e5, e6, e7⟩ := H5.out
          obtain ⟨m1, m2, m3, -⟩ := HK.out
          exact ⟨0, r.st, _, nm1, src1, _, by omega, rfl, HEOF.out, e1.fr m1, m2, e4.trans m1, by omega⟩
        case round =>
          obtain ⟨j, st2, pn2, nm2, src2, pp, hgj, rfl, hst2, hS2, hL2, hf2, hj⟩ := hrel
          have hji : (j : Int) ≤ 3 := by omega
          have HGJ := Lib.hid hgj
          clear hgj
          by_cases hj3 : j < 3
          · have hj3i : (j : Int) < 3 := by omega
            obtain ⟨s1, s2, s3⟩ := scan_again (p := 0) hst2
            have hz2 := zlx wr L st2 lx pn2 pv nm2 s0 src2 li co pp hS2 hL2 LW.out.ax (HZ.out.2.2.2.2.fr hf2) HTK.out (by rw [hst2]; exact Nat.zero_le _) s1
            have HZ2 := Lib.hid (And.intro hz2 (And.intro s2 (And.intro s3 hf2)))
            clear hz2 s1 s2 s3 hf2 hS2 hL2 hst2
            go_wp2_with (go_at_call 9; refine (HZ2.out.1).mono ?_; rintro e w7 ⟨q2, a2, b2, c2, d2, f2, g2, t2, nm2, s2, src2, li2, co2, rfl, hS7, f7, hB7, -, h7b⟩; obtain ⟨rfl, i1, i2, i3, i4⟩ := h7b HZ2.out.2.1; obtain rfl := i1.symm; obtain rfl := i2.symm; obtain rfl := i3.symm; obtain rfl := i4.symm; refine Hid.out ?_)
            refine Lib.hid ?_
            have hall : w.heap.size ≤ w.heap.size := Nat.le_refl _
            have H7 := Lib.hid (And.intro hS7 (And.intro hB7 (Fr.new HZ2.out.2.2.2 f7 (LW.out.new FR2.out.size))))
            clear hS7 f7 h7b hall
            go_upto_region 35 with fail
            have fq : Fr [] w7 (w7.alloc (.cells #[.int .i64 a2, .string b2, .string c2, .string d2, .int .i64 f2, .int .i64 g2] 35)) := (Fr.refl _ w7).alloc _
            generalize w7.alloc (.cells #[.int .i64 a2, .string b2, .string c2, .string d2, .int .i64 f2, .int .i64 g2] 35) = w8 at fq ⊢
            have hB8 := fq.blk hB7 (by simp)
            have H8 := Lib.hid (And.intro (H7.out.1.fr fq) (And.intro hB8 (H7.out.2.2.trans fq)))
            have z3 := hB8.cell 3 _ rfl
            have z5 := hB8.cell 5 _ rfl
            have z7 := hB8.cell 7 _ rfl
            have z8 := hB8.cell 8 _ rfl
            have z9 := hB8.cell 9 _ rfl
            clear hB7 hB8 fq H7
            go_wp2
            go_roundg (3 - (j + 1))
            case measure => have := HGJ.out; omega
            case rel => exact ⟨j + 1, _, _, nm2, src2, _, Nat.le_refl _, by go_num, HZ2.out.2.2.1, H8.out.1, H8.out.2.1, H8.out.2.2, by omega⟩
          · obtain rfl : j = 3 := by omega
            have HF := Lib.hid hf2
            clear hS2 hL2 hf2 hst2
            go_wp2
            go_ret
            exact ⟨rfl, HF.out⟩
      · have d0 : decide (0 < (k : Int)) = true := by rw [decide_eq_true_eq]; omega
        have d0n : decide (0 < k) = true := by rw [decide_eq_true_eq]; omega
        have d0m : 0 < k := by omega
        have d1 : (1 : Int) ≤ (k : Int) := by omega
        have d2 : (k : Int) - 1 < (n : Int) := by omega
        have d3 : k - 1 < n := by omega
        obtain ⟨g1, cap1, e1, -, -, -, hcell⟩ := hts6.shape HCH.out.2.2.1
        simp only [Value.slice.injEq, Option.some.injEq, Addr.mk.injEq] at e1
        obtain ⟨⟨rfl, -⟩, -, rfl⟩ := e1
        have d4 : w6.cell? ⟨g, (k - 1) * 6, none⟩ = some (.int .i64 pv) := by rw [hp1, show k - 1 = k1 by omega]; exact hcell k1 r1 hr1 0 _ rfl
        clear hx6 hts6 hk1 hr1 hp1 hcell
        go_wp2
        go_loopg [15] 3 (fun gj jv wz => ∃ (j : Nat) (st2 : St) (pn2 : Bool) (nm2 src2 : ByteArray) (pp : Int), 3 - j ≤ gj ∧ jv = .int .i64 j ∧ st2.rest = [] ∧ Sc wz L st2 none ∧ Blk wz lx (lexT L pn2 pv nm2 s0 src2 li co pp) ∧ Fr [] w wz ∧ j ≤ 3)
        case atStart =>
          obtain ⟨e1, e2, e3, e4, e5, e6, e7⟩ := H5.out
          obtain ⟨m1, m2, m3, -⟩ := HK.out
          exact ⟨0, r.st, _, nm1, src1, _, by omega, rfl, HEOF.out, e1.fr m1, m2, e4.trans m1, by omega⟩
        case round =>
          obtain ⟨j, st2, pn2, nm2, src2, pp, hgj, rfl, hst2, hS2, hL2, hf2, hj⟩ := hrel
          have hji : (j : Int) ≤ 3 := by omega
          have HGJ := Lib.hid hgj
          clear hgj
          by_cases hj3 : j < 3
          · have hj3i : (j : Int) < 3 := by omega
            obtain ⟨s1, s2, s3⟩ := scan_again (p := 0) hst2
            have hz2 := zlx wr L st2 lx pn2 pv nm2 s0 src2 li co pp hS2 hL2 LW.out.ax (HZ.out.2.2.2.2.fr hf2) HTK.out (by rw [hst2]; exact Nat.zero_le _) s1
            have HZ2 := Lib.hid (And.intro hz2 (And.intro s2 (And.intro s3 hf2)))
            clear hz2 s1 s2 s3 hf2 hS2 hL2 hst2
            go_wp2_with (go_at_call 9; refine (HZ2.out.1).mono ?_; rintro e w7 ⟨q2, a2, b2, c2, d2, f2, g2, t2, nm2, s2, src2, li2, co2, rfl, hS7, f7, hB7, -, h7b⟩; obtain ⟨rfl, i1, i2, i3, i4⟩ := h7b HZ2.out.2.1; obtain rfl := i1.symm; obtain rfl := i2.symm; obtain rfl := i3.symm; obtain rfl := i4.symm; refine Hid.out ?_)
            refine Lib.hid ?_
            have hall : w.heap.size ≤ w.heap.size := Nat.le_refl _
            have H7 := Lib.hid (And.intro hS7 (And.intro hB7 (Fr.new HZ2.out.2.2.2 f7 (LW.out.new FR2.out.size))))
            clear hS7 f7 h7b hall
            go_upto_region 35 with fail
            have fq : Fr [] w7 (w7.alloc (.cells #[.int .i64 a2, .string b2, .string c2, .string d2, .int .i64 f2, .int .i64 g2] 35)) := (Fr.refl _ w7).alloc _
            generalize w7.alloc (.cells #[.int .i64 a2, .string b2, .string c2, .string d2, .int .i64 f2, .int .i64 g2] 35) = w8 at fq ⊢
            have hB8 := fq.blk hB7 (by simp)
            have H8 := Lib.hid (And.intro (H7.out.1.fr fq) (And.intro hB8 (H7.out.2.2.trans fq)))
            have z3 := hB8.cell 3 _ rfl
            have z5 := hB8.cell 5 _ rfl
            have z7 := hB8.cell 7 _ rfl
            have z8 := hB8.cell 8 _ rfl
            have z9 := hB8.cell 9 _ rfl
            clear hB7 hB8 fq H7
            go_wp2
            go_roundg (3 - (j + 1))
            case measure => have := HGJ.out; omega
            case rel => exact ⟨j + 1, _, _, nm2, src2, _, Nat.le_refl _, by go_num, HZ2.out.2.2.1, H8.out.1, H8.out.2.1, H8.out.2.2, by omega⟩
          · obtain rfl : j = 3 := by omega
            have HF := Lib.hid hf2
            clear hS2 hL2 hf2 hst2
            go_wp2
            go_ret
            exact ⟨rfl, HF.out⟩
    · obtain ⟨rfl, rfl, rfl, rfl, rfl, rfl, rfl, rfl, rfl⟩ := h5a hty
      have HTY := Lib.hid hty
      go_upto_region 15 with fail
      have fk : Fr [] w5 (w5.alloc (.cells #[.int .i64 r.typ, .string b', .string ⟨r.str.toArray⟩, .string d', .int .i64 r.line, .int .i64 r.col] 35)) := (Fr.refl _ w5).alloc _
      have hK : Blk (w5.alloc (.cells #[.int .i64 r.typ, .string b', .string ⟨r.str.toArray⟩, .string d', .int .i64 r.line, .int .i64 r.col] 35)) w5.heap.size [.int .i64 r.typ, .string b', .string ⟨r.str.toArray⟩, .string d', .int .i64 r.line, .int .i64 r.col] := Blk.new w5 _ _
      obtain ⟨kb, hkb⟩ : ∃ kb, kb = w5.heap.size := ⟨_, rfl⟩
      rw [← hkb] at hK ⊢
      clear hkb
      generalize w5.alloc (.cells #[.int .i64 r.typ, .string b', .string ⟨r.str.toArray⟩, .string d', .int .i64 r.line, .int .i64 r.col] 35) = w6 at fk hK ⊢
      have hW6 := fk.blk hW5 (by simp)
      have hx6 := fk.blk hB5 (by simp)
      have hts6 := H5.out.2.2.1.fr fk (by simp)
      have HK := Lib.hid (And.intro fk (And.intro hx6 (And.intro hts6 h5b)))
      have k0 := hK.cell 0 _ rfl
      have k2 := hK.cell 2 _ rfl
      have k4 := hK.cell 4 _ rfl
      have k5 := hK.cell 5 _ rfl
      unfold zt zcells at hW6
      have y0 := hW6.cell 0 _ rfl
      have y1 := hW6.cell 1 _ rfl
      have y2 := hW6.cell 2 _ rfl
      have y3 := hW6.cell 3 _ rfl
      have z3 := hx6.cell 3 _ rfl
      have z5 := hx6.cell 5 _ rfl
      have z7 := hx6.cell 7 _ rfl
      have z8 := hx6.cell 8 _ rfl
      have z9 := hx6.cell 9 _ rfl
      clear hK hW6 hW5 hS5 f5 hB5 h5a h5b hbn hgn fk HZX
      have t1 : (r.typ == -1) = false := by rw [beq_eq_false_iff_ne]; exact hty
      clear hty
      rcases HPV.out with ⟨hk0, hp0⟩ | ⟨k1, r1, hk1, hr1, hp1⟩
      · have d0 : decide (0 < (k : Int)) = false := by rw [decide_eq_false_iff_not]; omega
        have d0n : decide (0 < k) = false := by rw [decide_eq_false_iff_not]; omega
        have d0m : ¬ 0 < k := by omega
        have d1 : (pv != 0) = false := by rw [bne_eq_false_iff_eq]; exact hp0
        clear hx6 hts6 hk0 hp0
        go_wp2
        go_quiet (fail)
        go_wp2
        go_roundg (n - (k + 1))
        case measure => have := HG.out; omega
        case rel =>
          obtain ⟨e1, e2, e3, e4, e5, e6, e7⟩ := H5.out
          obtain ⟨-, -, -, -, -, o1, o2, o3, o4, o5, -⟩ := HR.out
          obtain ⟨m1, m2, m3, -⟩ := HK.out
          have m4 : Fr [] w6 (w6.drewN nq) := (Fr.refl _ _).drewN nq
          refine ⟨k + 1, r.st, us2, _, r.typ, nm1, _, src1, _, _, pv, Nat.le_refl _, by go_num, o2, ?_, Or.inr ⟨k, r, rfl, o5, rfl⟩, (e1.fr m1).fr m4, m4.blk m2 (by simp), m3.fr m4 (by simp), (e4.trans m1).trans m4, o1, Nat.le_trans e5 (Nat.le_trans m1.size m4.size), by omega⟩
          rcases o3 with ⟨o3, -⟩ | ⟨-, o4⟩
          · exact absurd o3 HTY.out
          · exact o4
      · have d0 : decide (0 < (k : Int)) = true := by rw [decide_eq_true_eq]; omega
        have d0n : decide (0 < k) = true := by rw [decide_eq_true_eq]; omega
        have d0m : 0 < k := by omega
        have d1 : (1 : Int) ≤ (k : Int) := by omega
        have d2 : (k : Int) - 1 < (n : Int) := by omega
        have d3 : k - 1 < n := by omega
        obtain ⟨g1, cap1, e1, -, -, -, hcell⟩ := hts6.shape HCH.out.2.2.1
        simp only [Value.slice.injEq, Option.some.injEq, Addr.mk.injEq] at e1
        obtain ⟨⟨rfl, -⟩, -, rfl⟩ := e1
        have d4 : w6.cell? ⟨g, (k - 1) * 6, none⟩ = some (.int .i64 pv) := by rw [hp1, show k - 1 = k1 by omega]; exact hcell k1 r1 hr1 0 _ rfl
        clear hx6 hts6 hk1 hr1 hp1 hcell
        go_wp2
        go_quiet (fail)
        go_wp2
        go_roundg (n - (k + 1))
        case measure => have := HG.out; omega
        case rel =>
          obtain ⟨e1, e2, e3, e4, e5, e6, e7⟩ := H5.out
          obtain ⟨-, -, -, -, -, o1, o2, o3, o4, o5, -⟩ := HR.out
          obtain ⟨m1, m2, m3, -⟩ := HK.out
          have m4 : Fr [] w6 (w6.drewN nq) := (Fr.refl _ _).drewN nq
          refine ⟨k + 1, r.st, us2, _, r.typ, nm1, _, src1, _, _, pv, Nat.le_refl _, by go_num, o2, ?_, Or.inr ⟨k, r, rfl, o5, rfl⟩, (e1.fr m1).fr m4, m4.blk m2 (by simp), m3.fr m4 (by simp), (e4.trans m1).trans m4, o1, Nat.le_trans e5 (Nat.le_trans m1.size m4.size), by omega⟩
          rcases o3 with ⟨o3, -⟩ | ⟨-, o4⟩
          · exact absurd o3 HTY.out
          · exact o4
theorem lc_walk (W : World) (a : Addr) (he : HasEof W a) (ht : HasTok W) (v : Value) (l : List UInt8) (hv : Sl W v l) :
    Calls Tryz.prog 4 #[v] W fun e w' => e = .returned (.bool true) ∧ Below W.heap.size W w' := by
  have hz := zzb_c W v l hv
  by_cases h0 : l.length ≤ 1048576
  · rw [decide_eq_true h0] at hz
    by_cases h1 : l.length ≤ 65536
    · exact (lc_yes W a v l hv he ht h1).mono fun _ _ ⟨p1, p2⟩ => ⟨p1, p2.below (Nat.le_refl _) (by simp)⟩
    · obtain ⟨a0, c0, rfl, -⟩ := hv
      exact (lc_n1 W a0 _ c0 hz (by omega)).mono fun _ _ ⟨p1, p2⟩ => ⟨p1, p2 ▸ Below.refl _ _⟩
  · rw [decide_eq_false h0] at hz
    exact (lc_n0 W v hz).mono fun _ _ ⟨p1, p2⟩ => ⟨p1, p2 ▸ Below.refl _ _⟩
end Go.Proofs.YtnmpeipccpgkpaaGreatDoor
