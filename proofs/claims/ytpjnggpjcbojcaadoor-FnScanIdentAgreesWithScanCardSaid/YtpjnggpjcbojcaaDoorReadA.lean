/- (*strings.Reader).Read, walked. -/
import Derived.Test.YtpjnggpjcbojcaaDoorRd
import Derived.WalkLawsBesides
import Derived.WalkSpells
import Derived.BigQuiet
import Derived.BigRegion
import Derived.Deep.QuietTactic
import Derived.StillTailTactics
import Derived.Deep.RegionLaw
import Derived.Deep.DeepMust
import Derived.Outline
import Derived.Lib.Hide
namespace Go.Proofs.YtpjnggpjcbojcaaDoor
open Go.RowKit

set_option maxRecDepth 100000 in
set_option maxHeartbeats 400000 in
/-- At the end: 0 and io.EOF. -/
theorem sread_eof (w : World) (U D : Nat) (a : Addr) (hU : Src w U []) (he : HasEof w a) :
    Calls Tryd.prog 117 #[.pointer (some ⟨U, 0, none⟩), .slice (some ⟨D, 0, none⟩) 4096 4096] w
      fun e w' => e = .returned (.tuple #[.int .i64 0, eofV a]) ∧ ∃ n, w' = w.drewN n := by
  obtain ⟨s, i, pr, hb, hi, hs, hl⟩ := hU
  have hi2 : s.size ≤ i := by
    have := congrArg List.length hl
    simp at this; omega
  obtain rfl : i = s.size := by omega
  have c0 := hb.cell 0 _ rfl
  have c1 := hb.cell 1 _ rfl
  have ce := he.1
  unfold eofV at ce ⊢
  clear hb hl he
  go_enter Tryd.func117, Tryd.ntmps117
  go_wp2
  go_quiet (fail)
  go_wp2
  go_quiet (fail)
  go_wp2
  go_ret2
  exact ⟨rfl, _, World.drewN_drewN _ _ _⟩

set_option maxRecDepth 100000 in
set_option maxHeartbeats 400000 in
/-- Something is left: as much of it as the array takes goes over. -/
theorem sread_some (w : World) (U D : Nat) (l : List UInt8) (bs : List UInt8) (hU : Src w U l) (hl0 : l ≠ []) (hD : Byt w D bs) (hlD : bs.length = 4096) (hne : U ≠ D) (n : Nat) (hn : Hid (n = min 4096 l.length)) :
    Calls Tryd.prog 117 #[.pointer (some ⟨U, 0, none⟩), .slice (some ⟨D, 0, none⟩) 4096 4096] w
      fun e w' => e = .returned (.tuple #[.int .i64 n, .nilIface]) ∧ Byt w' D (l.take 4096 ++ bs.drop n) ∧ Src w' U (l.drop 4096) ∧ Fr [D, U] w w' := by
  obtain ⟨s, i, pr, hb, hi, hs, hl⟩ := hU
  have hi2 : i < s.size := by
    rcases Nat.lt_or_ge i s.size with h | h
    · exact h
    · exact absurd (by rw [hl]; simp; omega) hl0
  have HL := Lib.hid hl
  have hn4 : n ≤ 4096 := by have := hn.out; omega
  clear hl hl0
  have c0 := hb.cell 0 _ rfl
  have c1 := hb.cell 1 _ rfl
  have c2 := hb.cell 2 _ rfl
  have f1 := hb.free 1
  have f2 := hb.free 2
  go_enter Tryd.func117, Tryd.ntmps117
  go_wp2
  go_quiet (fail)
  go_wp2
  have hb1 := (hb.drewN nq).set 2 (.int .i64 (-1))
  have hD1 := (hD.drewN nq).other (a := ⟨U, 2, none⟩) (Ne.symm hne) (.int .i64 (-1))
  have fr1 : Fr [D, U] w ((w.drewN nq).setCell ⟨U, 2, none⟩ (.int .i64 (-1))) := ((Fr.refl _ w).drewN nq).setCell (by simp) _
  generalize (w.drewN nq).setCell ⟨U, 2, none⟩ (.int .i64 (-1)) = w1 at hb1 hD1 fr1 ⊢
  clear c0 c1 c2 f1 f2
  have c0 := hb1.cell 0 _ rfl
  have c1 := hb1.cell 1 _ rfl
  have f1 := hb1.free 1
  have hib : (i : Int) ≤ (s.size : Int) := by omega
  go_still_tail 10, (by kernel_rfl)
  change wpList _ _ _ _ _ w1.drew
  have hb2 := hb1.drew
  have hD2 := hD1.drew
  have fr2 := fr1.drew
  generalize w1.drew = w2 at hb2 hD2 fr2 ⊢
  clear c0 c1 f1 hb1 hD1 fr1
  have hls : Hid (l = (s.extract i s.size).data.toList) := by
    show _ = _
    rw [HL.out, extract_end]
  go_wp2_with (with_reducible refine wpList_copy_str rfl (.tmp 20) (.tmp 29) 46 9 rfl 5 Tryd.underlying46 (by kernel_rfl) D 4096 4096 (s.extract i s.size) rfl rfl bs l n hls hn hD2 hlD ?_)
  intro w3 hD3 fr3
  have hb3 := fr3.blk hb2 (by simp; omega)
  have c1 := hb3.cell 1 _ rfl
  have f1 := hb3.free 1
  clear hD2 hb2
  go_wp2
  go_ret2
  refine ⟨rfl, hD3.other (a := ⟨U, 1, none⟩) (Ne.symm hne) _, ⟨s, i + n, -1, ?_, ?_, hs, ?_⟩, ((fr2.trans (fr3.mono (by simp))).setCell (by simp) _)⟩
  · have := hb3.set 1 (.int .i64 ((i : Int) + n))
    simpa using this
  · have h1 := HL.out
    have h2 := congrArg List.length h1
    have h3 := hn.out
    simp at h2; omega
  · have h1 := HL.out
    have h3 := hn.out
    rw [h1, List.drop_drop]
    have h2 := congrArg List.length h1
    simp at h2
    rw [h3]
    rcases Nat.le_total 4096 l.length with h | h
    · rw [Nat.min_eq_left h]
    · rw [Nat.min_eq_right h, List.drop_eq_nil_of_le (by simp; omega), List.drop_eq_nil_of_le (by simp; omega)]
end Go.Proofs.YtpjnggpjcbojcaaDoor
