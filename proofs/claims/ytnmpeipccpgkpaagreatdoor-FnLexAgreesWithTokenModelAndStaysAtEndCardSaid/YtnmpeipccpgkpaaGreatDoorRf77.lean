/- The reference's reader over the bytes: next, peek, walked. -/
import Derived.Test.YtnmpeipccpgkpaaGreatDoorOpen
import Derived.Test.YtnmpeipccpgkpaaGreatDoorStream
import Derived.Test.YtnmpeipccpgkpaaGreatDoorRd
import Derived.Test.YtnmpeipccpgkpaaGreatDoorBit
import Derived.WalkKit
namespace Go.Proofs.YtnmpeipccpgkpaaGreatDoor
open Go.RowKit

/-- The reader in block R over the slice v, which lies in block M. -/
def Rf (w : World) (R M : Nat) (v : Value) (all : List UInt8) (st : St) : Prop :=
  ∃ i : Nat, Blk w R [v, .int .i64 i, .int .i64 st.line, .int .i64 st.col] ∧ Sm w M v all ∧ i ≤ all.length ∧ all.length ≤ 1099511627776 ∧ st.rest = all.drop i ∧ st.Bd ∧ R ≠ M
theorem Rf.fr {w w' : World} {R M : Nat} {v : Value} {all : List UInt8} {st : St} (h : Rf w R M v all st) {own : List Nat} (f : Fr own w w') (hR : R ∉ own) (hM : M ∉ own) : Rf w' R M v all st := by
  obtain ⟨i, h1, h2, h3⟩ := h
  exact ⟨i, f.blk h1 hR, h2.of_block (f.block _ h2.1 hM) f.size, h3⟩
theorem Rf.lt {w : World} {R M : Nat} {v : Value} {all : List UInt8} {st : St} (h : Rf w R M v all st) : R < w.heap.size ∧ M < w.heap.size := by
  obtain ⟨i, h1, h2, h3⟩ := h
  exact ⟨h1.lt, h2.1⟩
theorem Rf.bd {w : World} {R M : Nat} {v : Value} {all : List UInt8} {st : St} (h : Rf w R M v all st) : st.Bd ∧ st.rest.length ≤ all.length ∧ all.length ≤ 1099511627776 := by
  obtain ⟨i, h1, h2, h3, h4, h5, h6, _⟩ := h
  exact ⟨h6, by rw [h5]; simp, h4⟩

theorem St.Bd.adv {st : St} (h : st.Bd) : (-1 ≤ st.line ∧ st.line ≤ 2305843009213693951) ∧ (0 ≤ st.col ∧ st.col ≤ 2305843009213693952) := by
  have h1 := h.l0
  have h2 := h.c0
  have h3 := h.top
  omega

set_option maxRecDepth 100000 in
set_option maxHeartbeats 1600000 in
theorem peek_rf (w : World) (R M : Nat) (v : Value) (all : List UInt8) (st : St) (h : Rf w R M v all st) :
    Calls Tryz.prog 16 #[.pointer (some ⟨R, 0, none⟩)] w fun e w' => e = .returned (.int .i64 (hd st.rest)) ∧ Fr [] w w' := by
  obtain ⟨i, hb, ⟨hM, a, c, rfl, hlc, hcell⟩, hi, hal, hr, hbd, hne⟩ := h
  have c0 := hb.cell 0 _ rfl
  have c1 := hb.cell 1 _ rfl
  have hii : (i : Int) ≤ 1099511627776 := by omega
  have hli : (all.length : Int) ≤ 1099511627776 := by omega
  rw [hr]
  clear hb hr hbd
  by_cases hlt : i < all.length
  · have hlti : (i : Int) < (all.length : Int) := by omega
    obtain ⟨ad, rfl, hab, hcl⟩ := hcell (by omega)
    obtain ⟨x, hx⟩ : ∃ x, x = all[i] := ⟨_, rfl⟩
    have hc1 : w.cell? (ad.add i) = some (.int .u8 x.toNat) := by rw [hx]; exact hcl i hlt
    have HX := Lib.hid (show hd (all.drop i) = (x.toNat : Int) by rw [List.drop_eq_getElem_cons hlt, hx]; rfl)
    rw [HX.out]
    have hx0 : (0 : Int) ≤ (x.toNat : Int) := by omega
    have hx1 : (x.toNat : Int) ≤ 255 := by have := x.toNat_lt; omega
    clear hcl hcell hx HX
    go_enter Tryz.func16, Tryz.ntmps16
    go_wp2
    go_quiet (fail)
    go_wp2
    go_quiet (fail)
    go_wp2
    go_ret
    exact ⟨rfl, ((((Fr.refl _ _).drewN _).drewN _))⟩
  · have hge : (all.length : Int) ≤ (i : Int) := by omega
    rw [List.drop_eq_nil_of_le (by omega)]
    clear hcell
    go_enter Tryz.func16, Tryz.ntmps16
    go_wp2
    go_quiet (fail)
    go_wp2
    go_ret
    exact ⟨rfl, (((Fr.refl _ _).drewN _))⟩

/-- What next stores. -/
theorem Rf.put {w : World} {R M : Nat} {v : Value} {all : List UInt8} {i : Nat} {line col : Int} (hb : Blk w R [v, .int .i64 i, .int .i64 line, .int .i64 col]) (hm : Sm w M v all) (hal : all.length ≤ 1099511627776) (hne : R ≠ M)
    {w' : World} {i' : Nat} {st' : St} (hb' : Blk w' R [v, .int .i64 i', .int .i64 st'.line, .int .i64 st'.col]) (hf : Fr [R] w w') (hi' : i' ≤ all.length) (hr : st'.rest = all.drop i') (hbd : st'.Bd) : Rf w' R M v all st' ∧ Fr [R] w w' :=
  ⟨⟨i', hb', hm.of_block (hf.block _ hm.1 (by simpa using hne.symm)) hf.size, hi', hal, hr, hbd, hne⟩, hf⟩

set_option maxRecDepth 100000 in
set_option maxHeartbeats 3200000 in
theorem next_rf (w : World) (R M : Nat) (v : Value) (all : List UInt8) (st : St) (h : Rf w R M v all st) :
    Calls Tryz.prog 15 #[.pointer (some ⟨R, 0, none⟩)] w fun e w' => e = .returned (.int .i64 st.nextC) ∧ Rf w' R M v all st.nextS ∧ Fr [R] w w' := by
  obtain ⟨i, hb, hm, hi, hal, hr, hbd, hne⟩ := h
  have hm' := hm
  obtain ⟨hM, a, c, rfl, hlc, hcell⟩ := hm'
  have hbdn := hbd.next
  have hadv := hbd.adv
  obtain ⟨rest, line, col⟩ := st
  obtain rfl : rest = all.drop i := hr
  obtain ⟨⟨l0, l1⟩, ⟨k0, k1⟩⟩ := hadv
  simp only at l0 l1 k0 k1 hb
  have c0 := hb.cell 0 _ rfl
  have c1 := hb.cell 1 _ rfl
  have c2 := hb.cell 2 _ rfl
  have c3 := hb.cell 3 _ rfl
  have f1 := hb.free 1
  have f2 := hb.free 2
  have f3 := hb.free 3
  have hii : (i : Int) ≤ 1099511627776 := by omega
  have hli : (all.length : Int) ≤ 1099511627776 := by omega
  have HB := Lib.hid hb
  have HM := Lib.hid hm
  clear hb hm hbd
  by_cases hlt : i < all.length
  · have hlti : (i : Int) < (all.length : Int) := by omega
    obtain ⟨ad, rfl, hab, hcl⟩ := hcell (by omega)
    have far : ∀ (wz : World) (j k : Nat) (u : Value), (wz.setCell ⟨R, j, none⟩ u).cell? (ad.add k) = wz.cell? (ad.add k) := fun wz j k u => World.cell?_of_block (a := ad.add k) (by
      rw [block_add', hab]; exact Below.heap_setCell _ _ _ _ (Ne.symm hne))
    obtain ⟨x, hx⟩ : ∃ x, x = all[i] := ⟨_, rfl⟩
    have hc1 : w.cell? (ad.add i) = some (.int .u8 x.toNat) := by rw [hx]; exact hcl i hlt
    have hdr : all.drop i = x :: all.drop (i + 1) := by rw [List.drop_eq_getElem_cons hlt, hx]
    rw [hdr] at hbdn ⊢
    have hx0 : (0 : Int) ≤ (x.toNat : Int) := by omega
    have hx1 : (x.toNat : Int) ≤ 255 := by have := x.toNat_lt; omega
    by_cases hbr : (x.toNat : Int) = 10 ∨ (x.toNat : Int) = 13
    · rw [St.nextC_brk hbr, St.nextS_brk hbr, St.newline_pos (by omega)] at *
      simp only at hbdn ⊢
      by_cases hl2 : i + 1 < all.length
      · have hl2i : (i : Int) + 1 < (all.length : Int) := by omega
        obtain ⟨j, hj⟩ : ∃ j : Nat, j = i + 1 := ⟨_, rfl⟩
        have hji : (i : Int) + 1 = (j : Int) := by omega
        have hl2j : (j : Int) < (all.length : Int) := by omega
        obtain ⟨y, hy⟩ : ∃ y, y = all[i + 1] := ⟨_, rfl⟩
        have hc2 : w.cell? (ad.add j) = some (.int .u8 y.toNat) := by rw [hy, hj]; exact hcl (i + 1) hl2
        have hdr2 : all.drop (i + 1) = y :: all.drop (i + 1 + 1) := by rw [List.drop_eq_getElem_cons hl2, hy]
        rw [hdr2] at hbdn ⊢
        have hy0 : (0 : Int) ≤ (y.toNat : Int) := by omega
        have hy1 : (y.toNat : Int) ≤ 255 := by have := y.toNat_lt; omega
        have HD := Lib.hid (And.intro hdr (And.intro hdr2 (And.intro hj hl2)))
        clear hcl hcell hx hy hdr hdr2 hj hl2 hl2i
        by_cases hp : pair x.toNat (hd (y :: all.drop (i + 1 + 1))) = true
        · rw [if_pos hp] at hbdn ⊢
          have HBD := Lib.hid hbdn
          have hcd : ((x.toNat : Int) = 10 ∧ (y.toNat : Int) = 13) ∨ ((x.toNat : Int) = 13 ∧ (y.toNat : Int) = 10) := by
            simpa [pair, hd, Bool.or_eq_true, Bool.and_eq_true, beq_iff_eq] using hp
          clear hp hbr hbdn
          rcases hcd with ⟨h1, h2⟩ | ⟨h1, h2⟩
          · obtain ⟨e1, e2⟩ := b_yes h1
            obtain ⟨e5, e6⟩ := b_yes h2
            clear h1 h2
            go_enter Tryz.func15, Tryz.ntmps15
            go_wp2
            go_quiet (fail)
            go_wp2
            go_quiet (fail)
            go_wp2
            go_quiet (fail)
            go_wp2
            go_quiet (fail)
            go_wp2
            go_ret
            exact ⟨rfl, Rf.put HB.out HM.out hal hne (i' := j + 1) (st' := ⟨all.drop (i + 1 + 1), line + 1, 0⟩) (((((((HB.out).drewN _).set 1 _).set 2 _).set 3 _).drewN _).set 1 _) (((((((Fr.refl _ _).drewN _).setCell (by simp) _).setCell (by simp) _).setCell (by simp) _).drewN _).setCell (by simp) _) (by have := HD.out.2.2; omega) (by rw [HD.out.2.2.1]) HBD.out⟩
          · obtain ⟨e1, e2⟩ := b_no (show (x.toNat : Int) ≠ 10 by omega)
            obtain ⟨e3, e4⟩ := b_yes h1
            obtain ⟨e5, e6⟩ := b_yes h2
            clear h1 h2
            go_enter Tryz.func15, Tryz.ntmps15
            go_wp2
            go_quiet (fail)
            go_wp2
            go_quiet (fail)
            go_wp2
            go_quiet (fail)
            go_wp2
            go_quiet (fail)
            go_wp2
            go_ret
            exact ⟨rfl, Rf.put HB.out HM.out hal hne (i' := j + 1) (st' := ⟨all.drop (i + 1 + 1), line + 1, 0⟩) (((((((HB.out).drewN _).set 1 _).set 2 _).set 3 _).drewN _).set 1 _) (((((((Fr.refl _ _).drewN _).setCell (by simp) _).setCell (by simp) _).setCell (by simp) _).drewN _).setCell (by simp) _) (by have := HD.out.2.2; omega) (by rw [HD.out.2.2.1]) HBD.out⟩
        · rw [if_neg hp] at hbdn ⊢
          have HBD := Lib.hid hbdn
          have hcd : ((x.toNat : Int) = 10 ∧ (y.toNat : Int) ≠ 13) ∨ ((x.toNat : Int) = 13 ∧ (y.toNat : Int) ≠ 10) := by
            have : ¬ (((x.toNat : Int) = 10 ∧ (y.toNat : Int) = 13) ∨ ((x.toNat : Int) = 13 ∧ (y.toNat : Int) = 10)) := by
              simpa [pair, hd, Bool.or_eq_true, Bool.and_eq_true, beq_iff_eq] using hp
            omega
          clear hp hbr hbdn
          rcases hcd with ⟨h1, h2⟩ | ⟨h1, h2⟩
          · obtain ⟨e1, e2⟩ := b_yes h1
            obtain ⟨e3, e4⟩ := b_no (show (x.toNat : Int) ≠ 13 by omega)
            obtain ⟨e5, e6⟩ := b_no h2
            clear h1 h2
            go_enter Tryz.func15, Tryz.ntmps15
            go_wp2
            go_quiet (fail)
            go_wp2
            go_quiet (fail)
            go_wp2
            go_quiet (fail)
            go_wp2
            go_quiet (fail)
            go_wp2
            go_ret
            exact ⟨rfl, Rf.put HB.out HM.out hal hne (i' := j) (st' := ⟨y :: all.drop (i + 1 + 1), line + 1, 0⟩) ((((((HB.out).drewN _).set 1 _).set 2 _).set 3 _).drewN _) ((((((Fr.refl _ _).drewN _).setCell (by simp) _).setCell (by simp) _).setCell (by simp) _).drewN _) (by have := HD.out.2.2; omega) (by rw [HD.out.2.2.1]; exact HD.out.2.1.symm) HBD.out⟩
          · obtain ⟨e1, e2⟩ := b_no (show (x.toNat : Int) ≠ 10 by omega)
            obtain ⟨e3, e4⟩ := b_yes h1
            obtain ⟨e5, e6⟩ := b_no h2
            clear h1 h2
            go_enter Tryz.func15, Tryz.ntmps15
            go_wp2
            go_quiet (fail)
            go_wp2
            go_quiet (fail)
            go_wp2
            go_quiet (fail)
            go_wp2
            go_quiet (fail)
            go_wp2
            go_ret
            exact ⟨rfl, Rf.put HB.out HM.out hal hne (i' := j) (st' := ⟨y :: all.drop (i + 1 + 1), line + 1, 0⟩) ((((((HB.out).drewN _).set 1 _).set 2 _).set 3 _).drewN _) ((((((Fr.refl _ _).drewN _).setCell (by simp) _).setCell (by simp) _).setCell (by simp) _).drewN _) (by have := HD.out.2.2; omega) (by rw [HD.out.2.2.1]; exact HD.out.2.1.symm) HBD.out⟩
      · have hl2i : (all.length : Int) ≤ (i : Int) + 1 := by omega
        have hdn : all.drop (i + 1) = [] := List.drop_eq_nil_of_le (by omega)
        rw [hdn, show pair x.toNat (hd []) = false by simp [pair, hd]] at hbdn
        rw [hdn, show pair x.toNat (hd []) = false by simp [pair, hd]]
        have HBD := Lib.hid hbdn
        have HD := Lib.hid hdn
        clear hcl hcell hx hdr hdn hbdn
        rcases hbr with h1 | h1
        · obtain ⟨e1, e2⟩ := b_yes h1
          clear h1
          go_enter Tryz.func15, Tryz.ntmps15
          go_wp2
          go_quiet (fail)
          go_wp2
          go_quiet (fail)
          go_wp2
          go_quiet (fail)
          go_wp2
          go_ret
          exact ⟨rfl, Rf.put HB.out HM.out hal hne (i' := i + 1) (st' := ⟨[], line + 1, 0⟩) ((((((HB.out).drewN _).set 1 _).set 2 _).set 3 _).drewN _) ((((((Fr.refl _ _).drewN _).setCell (by simp) _).setCell (by simp) _).setCell (by simp) _).drewN _) (by omega) HD.out.symm HBD.out⟩
        · obtain ⟨e1, e2⟩ := b_no (show (x.toNat : Int) ≠ 10 by omega)
          obtain ⟨e3, e4⟩ := b_yes h1
          clear h1
          go_enter Tryz.func15, Tryz.ntmps15
          go_wp2
          go_quiet (fail)
          go_wp2
          go_quiet (fail)
          go_wp2
          go_quiet (fail)
          go_wp2
          go_ret
          exact ⟨rfl, Rf.put HB.out HM.out hal hne (i' := i + 1) (st' := ⟨[], line + 1, 0⟩) ((((((HB.out).drewN _).set 1 _).set 2 _).set 3 _).drewN _) ((((((Fr.refl _ _).drewN _).setCell (by simp) _).setCell (by simp) _).setCell (by simp) _).drewN _) (by omega) HD.out.symm HBD.out⟩
    · rw [St.nextC_else hbr]
      rw [St.nextS_else hbr] at hbdn ⊢
      have HBD := Lib.hid hbdn
      obtain ⟨e1, e2⟩ := b_no (show (x.toNat : Int) ≠ 10 by omega)
      obtain ⟨e3, e4⟩ := b_no (show (x.toNat : Int) ≠ 13 by omega)
      clear hcl hcell hx hdr hbr hbdn
      go_enter Tryz.func15, Tryz.ntmps15
      go_wp2
      go_quiet (fail)
      go_wp2
      go_quiet (fail)
      go_wp2
      go_ret
      exact ⟨rfl, Rf.put HB.out HM.out hal hne (i' := i + 1) (st' := ⟨all.drop (i + 1), line, col + 1⟩) ((((HB.out).drewN _).set 1 _).set 3 _) ((((Fr.refl _ _).drewN _).setCell (by simp) _).setCell (by simp) _) (by omega) rfl HBD.out⟩
  · have hge : (all.length : Int) ≤ (i : Int) := by omega
    have hdn : all.drop i = [] := List.drop_eq_nil_of_le (by omega)
    rw [St.nextS_eof (show (⟨all.drop i, line, col⟩ : St).rest = [] from hdn)] at hbdn ⊢
    rw [St.nextC_eof (show (⟨all.drop i, line, col⟩ : St).rest = [] from hdn)]
    have HD := Lib.hid hdn
    have HBD := Lib.hid hbdn
    clear hcell hdn hbdn
    go_enter Tryz.func15, Tryz.ntmps15
    go_wp2
    go_quiet (fail)
    go_wp2
    go_ret
    exact ⟨rfl, Rf.put HB.out HM.out hal hne (i' := i) (st' := ⟨[], -1, 0⟩) ((((HB.out).drewN _).set 2 _).set 3 _) ((((Fr.refl _ _).drewN _).setCell (by simp) _).setCell (by simp) _) hi HD.out.symm HBD.out⟩
end Go.Proofs.YtnmpeipccpgkpaaGreatDoor
