/- (*bytes.Reader).Read, walked. -/
import Derived.Test.YtgiklkapedlckaaGreatDoorRd
import Derived.Test.YtgiklkapedlckaaGreatDoorCopy
import Derived.WalkLawsBesides
import Derived.WalkSpells
import Derived.BigQuiet
import Derived.BigRegion
import Derived.Deep.QuietTactic
import Derived.StillTailTactics
import Derived.Deep.RegionLaw
import Derived.Deep.DeepMust
import Derived.Outline
import Derived.Lib.Hide
namespace Go.Proofs.YtgiklkapedlckaaGreatDoor
open Go.RowKit

set_option maxRecDepth 100000 in
set_option maxHeartbeats 400000 in
/-- At the end: 0 and io.EOF. -/
theorem sread_eof (w : World) (U D : Nat) (a : Addr) (M : Nat) (hU : Src w U M []) (he : HasEof w a) :
    Calls Tryz.prog 114 #[.pointer (some ⟨U, 0, none⟩), .slice (some ⟨D, 0, none⟩) 4096 4096] w
      fun e w' => e = .returned (.tuple #[.int .i64 0, eofV a]) ∧ ∃ n, w' = w.drewN n := by
  obtain ⟨v, all, i, pr, hb, ⟨hM, av, cv, rfl, hlc, hcell⟩, hi, hs, hl⟩ := hU
  have hi2 : all.length ≤ i := by
    have := congrArg List.length hl
    simp at this; omega
  obtain rfl : i = all.length := by omega
  clear hcell
  have c0 := hb.cell 0 _ rfl
  have c1 := hb.cell 1 _ rfl
  have ce := he.1
  unfold eofV at ce ⊢
  clear hb hl he
  go_enter Tryz.func114, Tryz.ntmps114
  go_wp2
  go_quiet (fail)
  go_wp2
  go_quiet (fail)
  go_wp2
  go_ret2
  exact ⟨rfl, _, World.drewN_drewN _ _ _⟩

set_option maxRecDepth 100000 in
set_option maxHeartbeats 400000 in
/-- Something is left: as much of it as the array takes goes over. -/
theorem sread_some (w : World) (U D M : Nat) (l : List UInt8) (bs : List UInt8) (hU : Src w U M l) (hl0 : l ≠ []) (hD : Byt w D bs) (hlD : bs.length = 4096) (hne : U ≠ D) (hDM : D ≠ M) (hUM : U ≠ M) (n : Nat) (hn : Hid (n = min 4096 l.length)) :
    Calls Tryz.prog 114 #[.pointer (some ⟨U, 0, none⟩), .slice (some ⟨D, 0, none⟩) 4096 4096] w
      fun e w' => e = .returned (.tuple #[.int .i64 n, .nilIface]) ∧ Byt w' D (l.take 4096 ++ bs.drop n) ∧ Src w' U M (l.drop 4096) ∧ Fr [D, U] w w' := by
  obtain ⟨v, all, i, pr, hb, hm, hi, hs, hl⟩ := hU
  have hi2 : i < all.length := by
    rcases Nat.lt_or_ge i all.length with h | h
    · exact h
    · exact absurd (by rw [hl]; simp; omega) hl0
  have HL := Lib.hid hl
  have HSM := Lib.hid hm
  obtain ⟨hM, av, cv, rfl, hlc, hcell⟩ := hm
  obtain ⟨ad, rfl, hab, hcl⟩ := hcell (by omega)
  have hn4 : n ≤ 4096 := by have := hn.out; omega
  have hal : (all.length : Int) ≤ 1099511627776 := by omega
  clear hl hl0 hcell
  have c0 := hb.cell 0 _ rfl
  have c1 := hb.cell 1 _ rfl
  have c2 := hb.cell 2 _ rfl
  have f1 := hb.free 1
  have f2 := hb.free 2
  have hlen : l.length = all.length - i := by rw [HL.out]; simp
  have HLEN := Lib.hid hlen
  have HCL := Lib.hid hcl
  obtain ⟨T, hDT⟩ := hD.typed
  clear hlen hcl hD
  go_enter Tryz.func114, Tryz.ntmps114
  go_wp2
  go_quiet (fail)
  go_wp2
  have hb1 := (hb.drewN nq).set 2 (.int .i64 (-1))
  have hD1 := (hDT.drewN nq).other (a := ⟨U, 2, none⟩) (Ne.symm hne) (.int .i64 (-1))
  have fr1 : Fr [D, U] w ((w.drewN nq).setCell ⟨U, 2, none⟩ (.int .i64 (-1))) := ((Fr.refl _ w).drewN nq).setCell (by simp) _
  generalize (w.drewN nq).setCell ⟨U, 2, none⟩ (.int .i64 (-1)) = w1 at hb1 hD1 fr1 ⊢
  clear c0 c1 c2 f1 f2
  have c0 := hb1.cell 0 _ rfl
  have c1 := hb1.cell 1 _ rfl
  have f1 := hb1.free 1
  have hib : (i : Int) ≤ (all.length : Int) := by omega
  have hic : (i : Int) ≤ (cv : Int) := by omega
  have hci : (cv = i) = False := by simp; omega
  go_still_tail 10, (by kernel_rfl)
  change wpList _ _ _ _ _ w1.drew
  have hb2 := hb1.drew
  have hD2 : BlkT w1.drew D T (bs.map u8v) := hD1
  have fr2 := fr1.drew
  generalize w1.drew = w2 at hb2 hD2 fr2 ⊢
  clear c0 c1 f1 hb1 hD1 fr1
  have HS2 := Lib.hid (HSM.out.of_block (fr2.block _ hM (by simp; omega)) fr2.size)
  have hsrc : Hid (∀ j (h : j < l.length), w2.cell? ((ad.add i).add j) = some (.int .u8 l[j].toNat)) := by
    show ∀ j (h : j < l.length), _
    intro j hj
    have e1 := HLEN.out
    have e2 : l[j] = all[i + j]'(by omega) := by
      have h3 : l[j]? = (all.drop i)[j]? := by rw [← HL.out]
      rw [List.getElem?_drop, List.getElem?_eq_getElem hj, List.getElem?_eq_getElem (by omega)] at h3
      exact Option.some.inj h3
    rw [add_add, e2, ← HCL.out (i + j) (by omega)]
    exact World.cell?_of_block (a := ad.add (i + j)) (by rw [block_add', hab]; exact fr2.block _ hM (by simp; omega))
  go_wp2_with (with_reducible refine wpList_copy_slV rfl (.tmp 20) (.tmp 29) 22 22 rfl 5 Tryz.underlying22 (by kernel_rfl) D 0 4096 4096 (ad.add i) (all.length - i) (cv - i) rfl _ rfl ?_ T _ l n HLEN hn hD2 (Lib.hid (by simp; omega)) hsrc ?_)
  · rfl
  intro w3 hD3 fr3
  have hb3 := fr3.blk hb2 (by simp; omega)
  have c1 := hb3.cell 1 _ rfl
  have f1 := hb3.free 1
  clear hD2 hb2
  go_wp2
  go_ret2
  have hby : Byt w3 D (l.take 4096 ++ bs.drop n) := by
    have := byt_laid hD3
    have e : (l.take 4096).length = n := by rw [List.length_take]; exact hn.out.symm
    rw [e] at this; exact this
  have frz := (fr2.trans (fr3.mono (by simp))).setCell (p := ⟨U, 1, none⟩) (by simp) (.int .i64 ((i : Int) + n))
  refine ⟨rfl, hby.other (a := ⟨U, 1, none⟩) (Ne.symm hne) _, ⟨_, all, i + n, -1, ?_, HSM.out.of_block (frz.block _ hM (by simp; omega)) frz.size, ?_, hs, ?_⟩, frz⟩
  · have := hb3.set 1 (.int .i64 ((i : Int) + n))
    simpa using this
  · have h1 := HLEN.out
    have h3 := hn.out
    omega
  · have h1 := HL.out
    have h3 := hn.out
    have h2 := HLEN.out
    rw [h1, List.drop_drop, h3]
    rcases Nat.le_total 4096 l.length with h | h
    · rw [Nat.min_eq_left h]
    · rw [Nat.min_eq_right h, List.drop_eq_nil_of_le (by omega), List.drop_eq_nil_of_le (by omega)]
end Go.Proofs.YtgiklkapedlckaaGreatDoor
