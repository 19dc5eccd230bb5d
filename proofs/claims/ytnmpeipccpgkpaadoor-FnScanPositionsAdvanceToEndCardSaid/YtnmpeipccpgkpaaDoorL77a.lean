/- The law FnScanPositionsAdvanceToEnd, walked. -/
import Derived.Test.YtnmpeipccpgkpaaDoorCl77
import Derived.Test.YtnmpeipccpgkpaaDoorReach
import Derived.Test.YtnmpeipccpgkpaaDoorSwB
namespace Go.Proofs.YtnmpeipccpgkpaaDoor
open Go.RowKit

/-- A lexer's cells before its first token. -/
def lexN (L : Loc) (pnl : Bool) : List Value := [.pointer (some ⟨L.S, 0, none⟩), .slice none 0 0, .bool pnl, .int .i64 0, .string ⟨#[]⟩, .string ⟨#[]⟩, .string ⟨#[]⟩, .int .i64 0, .int .i64 0, .int .i64 57358]

/-- A fresh lexer over the text l. -/
def NewLx (w : World) (M : Nat) (src : ByteArray) (l : List UInt8) (e : Ending) (w' : World) : Prop :=
  ∃ (L : Loc) (lx : Nat), L.src = src ∧ L.M = M ∧ (∀ k ∈ L.own, w.heap.size ≤ k) ∧ w.heap.size ≤ lx ∧ lx ∉ L.all ∧ e = .returned (.pointer (some ⟨lx, 0, none⟩)) ∧ Sc w' L ⟨l, 1, 0⟩ none ∧ Blk w' lx (lexN L false) ∧ Fr [] w w'
set_option maxRecDepth 100000 in
set_option maxHeartbeats 1600000 in
theorem znewL (w : World) (a : Addr) (v : Value) (l : List UInt8) (M : Nat) (s : ByteArray) (hm : Sm w M v l) (hl : l.length ≤ 1099511627776) (he : HasEof w a) :
    Calls Tryd.prog 6 #[v, .string s] w (NewLx w M s l) := by
  have hg0 := he.2
  have hM := hm.1
  have hne : w.heap.size ≠ 1 := by omega
  have HM := Lib.hid hm
  have HL := Lib.hid hl
  clear hm hl
  go_enter Tryd.func6, Tryd.ntmps6
  go_wp2_with (go_at_call 9; refine (newReader _ M _ l HM.out HL.out).mono ?_; rintro e w1 ⟨rfl, hU, hz, fr⟩; refine Hid.out ?_)
  refine Lib.hid ?_
  have he1 := he.fr fr (by simp)
  go_wp2_with (go_at_call 8; refine (newScanner w1 _ a _ _ M hU he1 hne (by omega)).mono ?_; rintro e w2 hN; obtain ⟨L, hLU, hLM, hLa, hLs, hS, hR, hD, rfl, hSc, fr2⟩ := hN)
  go_ret
  refine ⟨L, w2.heap.size, hLs, hLM, Loc.own_new (by omega) (by omega) (by omega) (by omega), Nat.le_trans fr.size fr2.size, fun hm => Nat.lt_irrefl _ (hSc.lt _ hm), rfl, hSc.fr ((Fr.refl [] w2).alloc _), Blk.new w2 (lexN L false).toArray _, (fr.trans fr2).alloc _⟩

/-- What Scan answers. -/
def ScanIs (w : World) (L : Loc) (lx : Nat) (ls : List Value) (R : Res) (e : Ending) (w' : World) : Prop :=
  ∃ (er : Value) (typ : Int) (nm str : ByteArray), e = .returned (.tuple #[.agg (tkCells typ nm str L.src R.line R.col).toArray, er]) ∧
        ErrIs R.ok er ∧ (R.ok = true → typ = R.typ ∧ str = ⟨R.str.toArray⟩) ∧ Sc w' L R.st none ∧ Blk w' lx (ls.set 2 (.bool R.pnl)) ∧ Fr (lx :: L.own) w w'
theorem HasTok.fr {w w' : World} (h : HasTok w) (f : Fr [] w w') : HasTok w' := h.of_block (f.block _ h.1 (by simp)) f.size
theorem Fr.past {own : List Nat} {w wA w1 w2 : World} {rb : Nat} (f1 : Fr [] w wA) (f2 : Fr own wA w1) (f3 : Fr [rb] w1 w2) (hr : w.heap.size ≤ rb) : Fr own w w2 :=
  ⟨f3.os.trans (f2.os.trans f1.os), f3.tape.trans (f2.tape.trans f1.tape), f3.output.trans (f2.output.trans f1.output), Nat.le_trans f1.size (Nat.le_trans f2.size f3.size), fun k hk ho =>
    (f3.block k (Nat.lt_of_lt_of_le hk (Nat.le_trans f1.size f2.size)) (by simp only [List.mem_singleton]; omega)).trans ((f2.block k (Nat.lt_of_lt_of_le hk f1.size) ho).trans (f1.block k hk (by simp)))⟩
set_option maxRecDepth 100000 in
set_option maxHeartbeats 3200000 in
theorem zscan (w : World) (L : Loc) (st : St) (lx : Nat) (ls : List Value) (prev : Int) (h : Sc w L st none) (hLx : Blk w lx ls) (h0 : ls[0]? = some (.pointer (some ⟨L.S, 0, none⟩))) (hp : ls[9]? = some (.int .i64 prev)) (ax : lx ∉ L.all) (ht : HasTok w) (hnt : 0 ∉ lx :: L.own) (hl : st.rest.length ≤ 1099511627776) :
    Calls Tryd.prog 7 #[.pointer (some ⟨lx, 0, none⟩)] w (ScanIs w L lx ls (scanL prev st)) := by
  have fA : Fr [] w (w.alloc (.cells #[.int .i64 0, .string ⟨#[]⟩, .string ⟨#[]⟩, .string ⟨#[]⟩, .int .i64 0, .int .i64 0] 30)) := (Fr.refl _ w).alloc _
  have h1 : Calls Tryd.prog 10 #[.pointer (some ⟨L.S, 0, none⟩), .pointer (some ⟨lx, 0, none⟩)] (w.alloc (.cells #[.int .i64 0, .string ⟨#[]⟩, .string ⟨#[]⟩, .string ⟨#[]⟩, .int .i64 0, .int .i64 0] 30)) (ScanIs (w.alloc (.cells #[.int .i64 0, .string ⟨#[]⟩, .string ⟨#[]⟩, .string ⟨#[]⟩, .int .i64 0, .int .i64 0] 30)) L lx ls (scanL prev st)) := scan_any _ L st lx ls prev (h.fr fA) (hLx.alloc _) hp ax (ht.fr fA) hnt hl
  have k0 := (hLx.alloc (.cells #[.int .i64 0, .string ⟨#[]⟩, .string ⟨#[]⟩, .string ⟨#[]⟩, .int .i64 0, .int .i64 0] 30)).cell 0 _ h0
  have hB : Blk (w.alloc (.cells #[.int .i64 0, .string ⟨#[]⟩, .string ⟨#[]⟩, .string ⟨#[]⟩, .int .i64 0, .int .i64 0] 30)) w.heap.size (tkCells 0 ⟨#[]⟩ ⟨#[]⟩ ⟨#[]⟩ 0 0) := Blk.new w _ _
  have hno : w.heap.size ∉ lx :: L.own := fun hm => by
    rcases List.mem_cons.1 hm with e | e
    · have := hLx.lt; omega
    · have := h.lt _ (Loc.own_all _ e); omega
  have H1 := Lib.hid (And.intro h1 (And.intro hB (And.intro hno (And.intro fA ax))))
  have hS0 := Lib.hid (fun k (hk : k ∈ L.all) => h.lt k hk)
  have hX0 := Lib.hid hLx.lt
  clear h hLx h0 hp ax ht hnt hl h1 hB hno fA
  generalize scanL prev st = R at H1 ⊢
  go_enter Tryd.func7, Tryd.ntmps7
  go_wp2_with (go_at_call 10; refine (H1.out.1).mono ?_; rintro e w1 ⟨er, typ, nm, str, rfl, her, hk, hS, hBl, f⟩; unfold tkCells; refine Hid.out ?_)
  refine Lib.hid ?_
  have b := f.blk H1.out.2.1 H1.out.2.2.1
  unfold tkCells at b
  obtain ⟨rb, hrb⟩ : ∃ rb, rb = w.heap.size := ⟨_, rfl⟩
  rw [← hrb] at b ⊢
  have a0 := b.cell 0 _ rfl
  have a1 := b.cell 1 _ rfl
  have a2 := b.cell 2 _ rfl
  have a3 := b.cell 3 _ rfl
  have a4 := b.cell 4 _ rfl
  have a5 := b.cell 5 _ rfl
  have b0 := b.free 0
  have b1 := b.free 1
  have b2 := b.free 2
  have b3 := b.free 3
  have b4 := b.free 4
  have b5 := b.free 5
  have HB := Lib.hid b
  have HR := Lib.hid (And.intro her (And.intro hk (And.intro hS (And.intro hBl (And.intro f hrb)))))
  clear b her hk hS hBl f hrb k0
  go_wp2
  have f3 : Fr [rb] w1 ((((((w1.setCell ⟨rb, 0, none⟩ (.int .i64 typ)).setCell ⟨rb, 1, none⟩ (.string nm)).setCell ⟨rb, 2, none⟩ (.string str)).setCell ⟨rb, 3, none⟩ (.string L.src)).setCell ⟨rb, 4, none⟩ (.int .i64 R.line)).setCell ⟨rb, 5, none⟩ (.int .i64 R.col)) :=
    ((((((Fr.refl _ _).setCell (by simp) _).setCell (by simp) _).setCell (by simp) _).setCell (by simp) _).setCell (by simp) _).setCell (by simp) _
  have bz := (((((HB.out.set 0 (.int .i64 typ)).set 1 (.string nm)).set 2 (.string str)).set 3 (.string L.src)).set 4 (.int .i64 R.line)).set 5 (.int .i64 R.col)
  obtain ⟨her, hk, hS, hBl, f, hrb⟩ := HR.out
  generalize (((((w1.setCell ⟨rb, 0, none⟩ (.int .i64 typ)).setCell ⟨rb, 1, none⟩ (.string nm)).setCell ⟨rb, 2, none⟩ (.string str)).setCell ⟨rb, 3, none⟩ (.string L.src)).setCell ⟨rb, 4, none⟩ (.int .i64 R.line)).setCell ⟨rb, 5, none⟩ (.int .i64 R.col) = w2 at f3 bz ⊢
  clear a0 a1 a2 a3 a4 a5 b0 b1 b2 b3 b4 b5
  refine bodyPost_ret (v := .tuple #[.agg (tkCells typ nm str L.src R.line R.col).toArray, er]) ?_ rfl ⟨er, typ, nm, str, rfl, her, hk, ?_, ?_, Fr.past H1.out.2.2.2.1 f f3 (by omega)⟩
  · clear hrb
    rw [results_cell_tmp rfl]
    have c0 := bz.cell 0 _ rfl
    have c1 := bz.cell 1 _ rfl
    have c2 := bz.cell 2 _ rfl
    have c3 := bz.cell 3 _ rfl
    have c4 := bz.cell 4 _ rfl
    have c5 := bz.cell 5 _ rfl
    unfold tkCells
    go_simp
  · exact hS.keep f3.size (fun k hk => f3.block k (hS.lt k hk) (by have := hS0.out k hk; simp only [List.mem_singleton]; omega))
  · exact f3.blk hBl (by have := hX0.out; simp only [List.mem_singleton]; omega)

set_option maxRecDepth 100000 in
set_option maxHeartbeats 1600000 in
theorem zzb_any (w : World) (v : Value) (l : List UInt8) (s : ByteArray) (h : Sl w v l) :
    Calls Tryd.prog 4 #[v, .string s] w fun e w' => e = .returned (.bool (decide (l.length + s.size ≤ 1048576))) ∧ w = w' := by
  obtain ⟨a, c0, rfl, _⟩ := h
  by_cases h1 : l.length ≤ 1048576
  · by_cases h2 : s.size ≤ 1048576
    · have h1i : (l.length : Int) ≤ 1048576 := by omega
      have h2i : (s.size : Int) ≤ 1048576 := by omega
      by_cases h3 : l.length + s.size ≤ 1048576
      · have h3i : (l.length : Int) + (s.size : Int) ≤ 1048576 := by omega
        rw [decide_eq_true h3]
        clear h1 h2 h3
        go_enter Tryd.func4, Tryd.ntmps4
        go_wp2
        go_ret
        exact ⟨rfl, rfl⟩
      · have h3i : (1048576 : Int) < (l.length : Int) + (s.size : Int) := by omega
        rw [decide_eq_false h3]
        clear h1 h2 h3
        go_enter Tryd.func4, Tryd.ntmps4
        go_wp2
        go_ret
        exact ⟨rfl, rfl⟩
    · have h1i : (l.length : Int) ≤ 1048576 := by omega
      have h2i : (1048576 : Int) < (s.size : Int) := by omega
      rw [decide_eq_false (by omega)]
      clear h1 h2
      go_enter Tryd.func4, Tryd.ntmps4
      go_wp2
      go_ret
      exact ⟨rfl, rfl⟩
  · have h1i : (1048576 : Int) < (l.length : Int) := by omega
    rw [decide_eq_false (by omega)]
    clear h1
    go_enter Tryd.func4, Tryd.ntmps4
    go_wp2
    go_ret
    exact ⟨rfl, rfl⟩

/-- The arguments too large: nothing is done. -/
def zzbTrue (w : World) (v : Value) (s : ByteArray) (b : Bool) : Prop := Calls Tryd.prog 4 #[v, .string s] w fun e w' => e = .returned (.bool b) ∧ w = w'
set_option maxRecDepth 100000 in
set_option maxHeartbeats 1600000 in
theorem pos_n0 (w : World) (v : Value) (s : ByteArray) (h : zzbTrue w v s false) :
    Calls Tryd.prog 3 #[v, .string s] w fun e w' => e = .returned (.bool true) ∧ w' = w := by
  have H := Lib.hid h
  clear h
  go_enter Tryd.func3, Tryd.ntmps3
  go_wp2_with (go_at_call 4; refine (H.out).mono ?_; rintro e w1 ⟨rfl, rfl⟩)
  go_ret
  exact ⟨rfl, rfl⟩
set_option maxRecDepth 100000 in
set_option maxHeartbeats 1600000 in
theorem pos_n1 (w : World) (a : Option Addr) (n c : Nat) (s : ByteArray) (h : zzbTrue w (.slice a n c) s true) (hn : (65536 : Int) < (n : Int) ∨ ((n : Int) ≤ 65536 ∧ (65536 : Int) < (s.size : Int))) :
    Calls Tryd.prog 3 #[.slice a n c, .string s] w fun e w' => e = .returned (.bool true) ∧ w' = w := by
  have H := Lib.hid h
  clear h
  rcases hn with h1 | ⟨h1, h2⟩
  all_goals
    go_enter Tryd.func3, Tryd.ntmps3
    go_wp2_with (go_at_call 4; refine (H.out).mono ?_; rintro e w1 ⟨rfl, rfl⟩)
    go_ret
    exact ⟨rfl, rfl⟩
theorem nls_take {l : List UInt8} {j : Nat} (h : j < l.length) : nls (l.take (j + 1)) = nls (l.take j) + (if (l[j].toNat : Int) = 10 ∨ (l[j].toNat : Int) = 13 then 1 else 0) := by
  have h1 : nls [l[j]] = nls [] + (if (l[j].toNat : Int) = 10 ∨ (l[j].toNat : Int) = 13 then 1 else 0) := nls_cons _ _
  have e : nls (l.take j ++ [l[j]]) = nls (l.take j) + nls [l[j]] := List.countP_append
  rw [List.take_succ_eq_append_getElem h, e, h1, show nls [] = 0 from rfl, Nat.zero_add]
theorem nls_le (l : List UInt8) : nls l ≤ l.length := List.countP_le_length

theorem ErrIs.yes {er : Value} (h : ErrIs true er) : er = .nilIface := by
  rcases h with ⟨-, h⟩ | ⟨h, -⟩
  · exact h
  · cases h
theorem ErrIs.no {er : Value} (h : ErrIs false er) : ∃ k : Nat, er = .iface 65 (.pointer (some ⟨k, 0, none⟩)) := by
  rcases h with ⟨h, -⟩ | ⟨-, h⟩
  · cases h
  · exact h

/-- A fresh lexer's world. -/
structure LxW (w0 : World) (s : ByteArray) (L : Loc) (lx : Nat) : Prop where
  src : L.src = s
  own : ∀ k ∈ L.own, w0.heap.size ≤ k
  lxn : w0.heap.size ≤ lx
  ax : lx ∉ L.all
theorem LxW.tok {w0 : World} {s : ByteArray} {L : Loc} {lx : Nat} (h : LxW w0 s L lx) (ht : HasTok w0) : 0 ∉ lx :: L.own := fun hm => by
  have h5 := ht.1
  have h6 := h.lxn
  rcases List.mem_cons.1 hm with h7 | h7
  · omega
  · have := h.own _ h7; omega
theorem LxW.fr {w0 w w' : World} {s : ByteArray} {L : Loc} {lx : Nat} (h : LxW w0 s L lx) (k : Fr [] w0 w) (f : Fr (lx :: L.own) w w') : Fr [] w0 w' := Fr.new k f (fun j hj => by
  rcases List.mem_cons.1 hj with h7 | h7
  · rw [h7]; exact h.lxn
  · exact h.own _ h7)

set_option maxRecDepth 100000 in
set_option maxHeartbeats 12800000 in
theorem pos_yes (w : World) (a : Addr) (v : Value) (l : List UInt8) (s : ByteArray) (h : Sl w v l) (he : HasEof w a) (ht : HasTok w) (h1 : l.length ≤ 65536) (h2 : s.size ≤ 65536) :
    Calls Tryd.prog 3 #[v, .string s] w fun e w' => e = .returned (.bool true) ∧ Fr [] w w' := by
  have hz : zzbTrue w v s true := by
    have h5 := zzb_any w v l s h
    rw [decide_eq_true (show l.length + s.size ≤ 1048576 by omega)] at h5
    exact h5
  have hcl := clone_any w v l h (by omega)
  obtain ⟨a0, c0, rfl, -⟩ := h
  have b1 : decide ((65536 : Int) < (l.length : Int)) = false := by rw [decide_eq_false_iff_not]; omega
  have b2 : decide ((65536 : Int) < (s.size : Int)) = false := by rw [decide_eq_false_iff_not]; omega
  have hli : (l.length : Int) ≤ 65536 := by omega
  have HZ := Lib.hid (And.intro hz (And.intro hcl (And.intro h1 (And.intro h2 (And.intro he ht)))))
  clear hz hcl h1 h2 he ht
  go_enter Tryd.func3, Tryd.ntmps3
  go_wp2_with (first | (go_at_call 4; refine (HZ.out.1).mono ?_; rintro e w1 ⟨rfl, rfl⟩) | (go_at_call 5; refine (HZ.out.2.1).mono ?_; rintro e w1 ⟨v1, rfl, hb1, bl1⟩; obtain ⟨M, ⟨hM, a1, c1, rfl, hlc1, hcell1⟩, hMc⟩ := Sm.of_bs hb1 (G := 1) (Nat.lt_of_lt_of_le HZ.out.2.2.2.2.1.2 bl1.size); refine Hid.out ?_))
  refine Lib.hid ?_
  have HSM := Lib.hid (show Sm w1 M (.slice a1 l.length c1) l from ⟨hM, a1, c1, rfl, hlc1, hcell1⟩)
  have HCELL := Lib.hid hcell1
  have FR1 := Lib.hid (Fr.of_below (own := []) bl1)
  clear hb1 bl1 hM hcell1 hMc
  go_wp2
  go_loopg [5, 6] l.length (fun g nv iv wr => ∃ j : Nat, l.length - j ≤ g ∧ iv = .int .i64 j ∧ j ≤ l.length ∧ nv = .int .i64 (nls (l.take j)) ∧ w1 = wr)
  case atStart => exact ⟨0, by omega, rfl, by omega, rfl, rfl⟩
  case round =>
    obtain ⟨j, hg, rfl, hj, rfl, rfl⟩ := hrel
    have HG := Lib.hid hg
    have hji : (j : Int) ≤ (l.length : Int) := by omega
    have hnj : (nls (l.take j) : Int) ≤ 65536 := by
      have h4 := nls_le (l.take j)
      have h5 : (l.take j).length ≤ j := by rw [List.length_take]; omega
      omega
    clear hg
    by_cases hlt : j < l.length
    · have hlti : (j : Int) < (l.length : Int) := by omega
      obtain ⟨ad, rfl, -, hcl⟩ := HCELL.out (by omega)
      obtain ⟨x, hx⟩ : ∃ x, x = l[j] := ⟨_, rfl⟩
      have hc1 : w1.cell? (ad.add j) = some (.int .u8 x.toNat) := by rw [hx]; exact hcl j hlt
      have hnx := nls_take hlt
      rw [← hx] at hnx
      have hx0 : (0 : Int) ≤ (x.toNat : Int) := by omega
      have hx1 : (x.toNat : Int) ≤ 255 := by have := x.toNat_lt; omega
      obtain ⟨n0, hn0⟩ : ∃ n0, n0 = nls (l.take j) := ⟨_, rfl⟩
      rw [← hn0] at hnx hnj ⊢
      by_cases hb : (x.toNat : Int) = 10 ∨ (x.toNat : Int) = 13
      · rw [if_pos hb] at hnx
        have HNX := Lib.hid hnx
        rcases hb with hb | hb
        · obtain ⟨e1, e2⟩ := b_yes hb
          clear hnx hcl hx hb hn0
          go_wp2
          go_roundg (l.length - (j + 1))
          case measure => have := HG.out; omega
          case rel => exact ⟨j + 1, Nat.le_refl _, by go_num, by omega, by rw [HNX.out]; go_num, rfl⟩
        · obtain ⟨e1, e2⟩ := b_no (show (x.toNat : Int) ≠ 10 by omega)
          obtain ⟨e3, e4⟩ := b_yes hb
          clear hnx hcl hx hb hn0
          go_wp2
          go_roundg (l.length - (j + 1))
          case measure => have := HG.out; omega
          case rel => exact ⟨j + 1, Nat.le_refl _, by go_num, by omega, by rw [HNX.out]; go_num, rfl⟩
      · rw [if_neg hb] at hnx
        have HNX := Lib.hid hnx
        obtain ⟨e1, e2⟩ := b_no (show (x.toNat : Int) ≠ 10 by omega)
        obtain ⟨e3, e4⟩ := b_no (show (x.toNat : Int) ≠ 13 by omega)
        clear hnx hcl hx hb hn0
        go_wp2
        go_roundg (l.length - (j + 1))
        case measure => have := HG.out; omega
        case rel => exact ⟨j + 1, Nat.le_refl _, by go_num, by omega, by rw [HNX.out]; rfl, rfl⟩
    · obtain rfl : j = l.length := by omega
      rw [List.take_length] at hnj ⊢
      obtain ⟨N, hN⟩ : ∃ N, N = nls l := ⟨_, rfl⟩
      rw [← hN] at hnj ⊢
      have HN := Lib.hid hN
      clear hN HCELL
      go_wp2_with (go_at_call 6; refine (znewL w1 a _ l M s HSM.out (by have := HZ.out.2.2.1; omega) (HZ.out.2.2.2.2.1.fr FR1.out (by simp))).mono ?_; rintro e w2 hNx; obtain ⟨L, lx, q1, q2, q3, q4, q5, rfl, q7, q8, q9⟩ := hNx; refine Hid.out ?_)
      refine Lib.hid ?_
      have FR2 := Lib.hid (FR1.out.trans q9)
      have LW := Lib.hid (show LxW w s L lx from ⟨q1, fun k hk => Nat.le_trans FR1.out.size (q3 k hk), Nat.le_trans FR1.out.size q4, q5⟩)
      have HS := Lib.hid (And.intro q7 q8)
      clear q1 q2 q3 q4 q5 q7 q8 q9 HSM
      have hlz : (0 : Int) ≤ (l.length : Int) := by omega
      go_wp2
      go_loopg [8, 9, 10] (l.length + 1) (fun g plv pcv kv wr => ∃ (st p : St) (k : Nat) (pnl : Bool), l.length + 1 - k ≤ g ∧ plv = .int .i64 p.line ∧ pcv = .int .i64 p.col ∧ kv = .int .i64 k ∧ ((1 ≤ p.line ∧ Reach p st) ∨ (p.line = 0 ∧ 1 ≤ st.line)) ∧ Good N l.length st ∧ st.rest.length + k ≤ l.length ∧ Sc wr L st none ∧ Blk wr lx (lexN L pnl) ∧ Fr [] w wr)
      case atStart => exact ⟨⟨l, 1, 0⟩, ⟨[], 0, 0⟩, 0, false, by omega, rfl, rfl, rfl, Or.inr ⟨rfl, Int.le_refl _⟩, Or.inr ⟨Int.le_refl _, by show (1 : Int) + (nls l : Nat) ≤ 1 + (N : Nat); rw [HN.out]; exact Int.le_refl _, Int.le_refl _, by simp only; omega⟩, Nat.le_refl _, HS.out.1, HS.out.2, FR2.out⟩
      case round =>
        clear HS FR2
        obtain ⟨st, p, k, pnl, hg, rfl, rfl, rfl, hp, hgd, hrl, hSc, hBl, hfr⟩ := hrel
        obtain ⟨pl, hpl⟩ : ∃ pl, pl = p.line := ⟨_, rfl⟩
        obtain ⟨pc, hpc⟩ : ∃ pc, pc = p.col := ⟨_, rfl⟩
        rw [← hpl, ← hpc]
        have hki : (k : Int) ≤ (l.length : Int) := by omega
        have hk2 : (k : Int) < (l.length : Int) + 1 := by omega
        have hsc := zscan wr L st lx (lexN L pnl) 57358 hSc hBl rfl rfl LW.out.ax (HZ.out.2.2.2.2.2.fr hfr) (LW.out.tok HZ.out.2.2.2.2.2) (by have := HZ.out.2.2.1; omega)
        have hpos := scan_pos (N := N) (len := l.length) 57358 (p := p) (pl := pl) (pc := pc) ⟨hpl.symm, hpc.symm, hp⟩ hgd
        obtain ⟨R, hR⟩ : ∃ R, R = scanL 57358 st := ⟨_, rfl⟩
        rw [← hR] at hsc hpos
        have HSC := Lib.hid hsc
        have HFR := Lib.hid hfr
        have HG := Lib.hid (And.intro hg hrl)
        clear hsc hfr hR hp hgd hSc hBl hpl hpc hg hrl
        have hsrc := LW.out.src
        have HSS : (s.toList == s.toList) = true := by rw [beq_iff_eq]
        have HSN : (s.toList != s.toList) = false := by rw [bne_eq_false_iff_eq]
        cases hok : R.ok
        · clear hpos
          go_wp2_with (go_at_call 7; refine (HSC.out).mono ?_; rintro e w3 ⟨er, typ, nm, str, rfl, her, hk, hS3, hB3, f3⟩; rw [hok] at her; obtain ⟨pp, rfl⟩ := her.no; unfold tkCells; refine Hid.out ?_)
          refine Lib.hid ?_
          have HF3 := Lib.hid (LW.out.fr HFR.out f3)
          clear her hk hS3 hB3 f3
          go_wp2
          go_ret
          exact ⟨rfl, HF3.out.alloc _⟩
        · rcases hpos hok with ⟨g1, g2, g3, g4⟩ | ⟨g1, g2, g3, g4, g5, g6, g7, q, g8, g9, g10, g11, g12⟩
          · go_wp2_with (go_at_call 7; refine (HSC.out).mono ?_; rintro e w3 ⟨er, typ, nm, str, rfl, her, hk, hS3, hB3, f3⟩; rw [hok] at her; obtain rfl := her.yes; obtain ⟨rfl, rfl⟩ := hk hok; rw [g1, g2, g3, g4, hsrc]; unfold tkCells; refine Hid.out ?_)
            refine Lib.hid ?_
            have HF3 := Lib.hid (LW.out.fr HFR.out f3)
            clear hk hS3 hB3 f3
            go_wp2
            go_ret
            exact ⟨rfl, HF3.out.alloc _⟩
          · have hline : (N : Int) ≤ 65536 := hnj
            obtain ⟨ty, li, co, q1, q2, q3⟩ : ∃ (ty li co : Int), ty = R.typ ∧ li = R.line ∧ co = R.col := ⟨_, _, _, rfl, rfl, rfl⟩
            rw [← q1] at g1
            rw [← q2] at g2 g3 g6 g8
            rw [← q3] at g4 g5 g6 g9
            have t1 : (ty == -1) = false := by rw [beq_eq_false_iff_ne]; exact g1
            have d1 : decide (li < 1) = false := by rw [decide_eq_false_iff_not]; omega
            have d2 : decide (1 + (N : Int) < li) = false := by rw [decide_eq_false_iff_not]; omega
            have d3 : decide (co < 1) = false := by rw [decide_eq_false_iff_not]; omega
            have d4 : decide ((l.length : Int) < co) = false := by rw [decide_eq_false_iff_not]; omega
            have d5 : decide (li < pl) = false := by rw [decide_eq_false_iff_not]; omega
            have QQ := Lib.hid (And.intro q1 (And.intro q2 q3))
            clear q1 q2 q3
            have HH := Lib.hid (And.intro g6 (And.intro g7 (And.intro g8 (And.intro g9 (And.intro g10 (And.intro g11 g12))))))
            rcases g6 with g6 | ⟨g6, g6b⟩
            · have d6 : (li == pl) = false := by rw [beq_eq_false_iff_ne]; omega
              clear g1 g6 g7 g8 g9 g10 g11 g12
              go_wp2_with (go_at_call 7; refine (HSC.out).mono ?_; rintro e w3 ⟨er, typ, nm, str, rfl, her, hk, hS3, hB3, f3⟩; rw [hok] at her; obtain rfl := her.yes; obtain ⟨rfl, rfl⟩ := hk hok; rw [← QQ.out.1, ← QQ.out.2.1, ← QQ.out.2.2, hsrc]; unfold tkCells; refine Hid.out ?_)
              refine Lib.hid ?_
              have HF3 := Lib.hid (And.intro (LW.out.fr HFR.out f3) (And.intro hS3 hB3))
              clear hk hS3 hB3 f3
              go_wp2
              go_roundg (l.length + 1 - (k + 1))
              case measure => have := HG.out; omega
              case rel => exact ⟨R.st, q, k + 1, R.pnl, Nat.le_refl _, by rw [HH.out.2.2.1], by rw [HH.out.2.2.2.1], by go_num, Or.inl ⟨HH.out.2.2.2.2.2.1, HH.out.2.2.2.2.1⟩, HH.out.2.2.2.2.2.2, by have h8 := HH.out.2.1; have h9 := HG.out.2; omega, HF3.out.2.1.fr ((Fr.refl _ _).alloc _), HF3.out.2.2.alloc _, HF3.out.1.alloc _⟩
            · have d6 : (li == pl) = true := by rw [beq_iff_eq]; omega
              have d7 : decide (co ≤ pc) = false := by rw [decide_eq_false_iff_not]; omega
              clear g1 g6 g6b g7 g8 g9 g10 g11 g12
              go_wp2_with (go_at_call 7; refine (HSC.out).mono ?_; rintro e w3 ⟨er, typ, nm, str, rfl, her, hk, hS3, hB3, f3⟩; rw [hok] at her; obtain rfl := her.yes; obtain ⟨rfl, rfl⟩ := hk hok; rw [← QQ.out.1, ← QQ.out.2.1, ← QQ.out.2.2, hsrc]; unfold tkCells; refine Hid.out ?_)
              refine Lib.hid ?_
              have HF3 := Lib.hid (And.intro (LW.out.fr HFR.out f3) (And.intro hS3 hB3))
              clear hk hS3 hB3 f3
              go_wp2
              go_roundg (l.length + 1 - (k + 1))
              case measure => have := HG.out; omega
              case rel => exact ⟨R.st, q, k + 1, R.pnl, Nat.le_refl _, by rw [HH.out.2.2.1], by rw [HH.out.2.2.2.1], by go_num, Or.inl ⟨HH.out.2.2.2.2.2.1, HH.out.2.2.2.2.1⟩, HH.out.2.2.2.2.2.2, by have h8 := HH.out.2.1; have h9 := HG.out.2; omega, HF3.out.2.1.fr ((Fr.refl _ _).alloc _), HF3.out.2.2.alloc _, HF3.out.1.alloc _⟩
theorem pos_walk (W : World) (a : Addr) (he : HasEof W a) (ht : HasTok W) (v : Value) (l : List UInt8) (hv : Sl W v l) (s : ByteArray) :
    Calls Tryd.prog 3 #[v, .string s] W fun e w' => e = .returned (.bool true) ∧ Below W.heap.size W w' := by
  by_cases h0 : l.length + s.size ≤ 1048576
  · have hz : zzbTrue W v s true := by
      have h5 := zzb_any W v l s hv
      rw [decide_eq_true h0] at h5
      exact h5
    by_cases h1 : l.length ≤ 65536
    · by_cases h2 : s.size ≤ 65536
      · exact (pos_yes W a v l s hv he ht h1 h2).mono fun _ _ ⟨p1, p2⟩ => ⟨p1, p2.below (Nat.le_refl _) (by simp)⟩
      · obtain ⟨a0, c0, rfl, -⟩ := hv
        exact (pos_n1 W a0 _ c0 s hz (Or.inr (by omega))).mono fun _ _ ⟨p1, p2⟩ => ⟨p1, p2 ▸ Below.refl _ _⟩
    · obtain ⟨a0, c0, rfl, -⟩ := hv
      exact (pos_n1 W a0 _ c0 s hz (Or.inl (by omega))).mono fun _ _ ⟨p1, p2⟩ => ⟨p1, p2 ▸ Below.refl _ _⟩
  · have hz : zzbTrue W v s false := by
      have h5 := zzb_any W v l s hv
      rw [decide_eq_false h0] at h5
      exact h5
    exact (pos_n0 W v s hz).mono fun _ _ ⟨p1, p2⟩ => ⟨p1, p2 ▸ Below.refl _ _⟩
end Go.Proofs.YtnmpeipccpgkpaaDoor
