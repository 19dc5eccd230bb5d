/- The law package's model of the stream (zzb3Step, zzb3Adv, zzb3Raw), and skipWhiteSpace, walked; what they have to do with Next. -/
import Derived.Test.YtnaklkhdmmbjjaaDoorUse
namespace Go.Proofs.YtnaklkhdmmbjjaaDoor
open Go.RowKit

/-- What Next answers, and how many bytes it eats. -/
def nc (l : List UInt8) : Int := if hd l = 13 then 10 else hd l
def eat : List UInt8 → Nat
  | [] => 0
  | c :: t => if (c.toNat : Int) = 10 ∨ (c.toNat : Int) = 13 then (if pair c.toNat (hd t) then 2 else 1) else 1
theorem nextC_nc (st : St) : st.nextC = nc st.rest := rfl
theorem nextS_eat (st : St) : st.nextS.rest = st.rest.drop (eat st.rest) := by
  obtain ⟨rest, line, col⟩ := st
  cases rest with
  | nil => rfl
  | cons c t =>
    by_cases h : (c.toNat : Int) = 10 ∨ (c.toNat : Int) = 13
    · rw [St.nextS_brk h, St.newline_pos (by omega)]
      simp only [eat, if_pos h]
      split
      · cases t <;> rfl
      · rfl
    · rw [St.nextS_else h]
      simp only [eat, if_neg h]
      rfl
theorem eat_le (l : List UInt8) : eat l ≤ l.length := by
  cases l with
  | nil => exact Nat.le_refl _
  | cons c t =>
    simp only [eat]
    split
    · split
      · rename_i h
        cases t with
        | nil => simp [pair, hd] at h
        | cons d t => simp
      · simp
    · simp
theorem eat_2 (l : List UInt8) : eat l ≤ 2 := by
  cases l with
  | nil => exact Nat.zero_le _
  | cons c t =>
    simp only [eat]
    split
    · split <;> omega
    · omega
theorem eat_pos {l : List UInt8} (h : l ≠ []) : 0 < eat l := by
  cases l with
  | nil => exact absurd rfl h
  | cons c t =>
    simp only [eat]
    split
    · split <;> omega
    · omega

theorem b_no {a b : Int} (h : a ≠ b) : (a == b) = false ∧ (a != b) = true := ⟨beq_eq_false_iff_ne.2 h, bne_iff_ne.2 h⟩
theorem b_yes {a b : Int} (h : a = b) : (a == b) = true ∧ (a != b) = false := ⟨beq_iff_eq.2 h, by simp [h]⟩

set_option maxHeartbeats 3200000 in
theorem step_any (w : World) (s : ByteArray) (i : Nat) (hi : i ≤ s.size) (hs : s.size ≤ 1048576) :
    Calls Tryd.prog 7 #[.string s, .int .i64 i] w
      fun e w' => e = .returned (.tuple #[.int .i64 (nc (s.data.toList.drop i)), .int .i64 (i + eat (s.data.toList.drop i) : Nat)]) ∧ w = w' := by
  by_cases hlt : i < s.size
  · have hdr := str_drop s i hlt
    rw [hdr]
    clear hdr
    have hc0 : (0 : Int) ≤ (s[i].toNat : Int) := by omega
    have hc1 : (s[i].toNat : Int) ≤ 255 := by have := s[i].toNat_lt; omega
    by_cases hbr : (s[i].toNat : Int) = 10 ∨ (s[i].toNat : Int) = 13
    · have HN : Hid (nc (s[i] :: s.data.toList.drop (i + 1)) = 10) := by
        exact St.nextC_brk (line := 0) (col := 0) hbr
      have HE : Hid (eat (s[i] :: s.data.toList.drop (i + 1)) = if pair s[i].toNat (hd (s.data.toList.drop (i + 1))) then 2 else 1) := by
        show _ = _
        simp only [eat, if_pos hbr]
      by_cases hl2 : i + 1 < s.size
      · have hl2i : (i : Int) + 1 < (s.size : Int) := by omega
        have hdr2 := str_drop s (i + 1) hl2
        have hd0 : (0 : Int) ≤ (s[i + 1].toNat : Int) := by omega
        have hd1 : (s[i + 1].toNat : Int) ≤ 255 := by have := s[i + 1].toNat_lt; omega
        have HE2 : Hid (eat (s[i] :: s.data.toList.drop (i + 1)) = if pair s[i].toNat s[i + 1].toNat then 2 else 1) := by
          show _ = _
          rw [HE.out, hdr2]; rfl
        clear hdr2 HE
        by_cases hp : pair s[i].toNat s[i + 1].toNat = true
        · have HE3 : Hid (eat (s[i] :: s.data.toList.drop (i + 1)) = 2) := by show _ = _; rw [HE2.out, if_pos hp]
          clear HE2
          have hcd : ((s[i].toNat : Int) = 10 ∧ (s[i + 1].toNat : Int) = 13) ∨ ((s[i].toNat : Int) = 13 ∧ (s[i + 1].toNat : Int) = 10) := by
            simpa [pair, Bool.or_eq_true, Bool.and_eq_true, beq_iff_eq] using hp
          clear hp hbr
          rcases hcd with ⟨h1, h2⟩ | ⟨h1, h2⟩
          · obtain ⟨e1, e2⟩ := b_yes h1
            obtain ⟨e3, e4⟩ := b_no (show (s[i + 1].toNat : Int) ≠ 10 by omega)
            obtain ⟨e5, e6⟩ := b_yes h2
            obtain ⟨e7, e8⟩ := b_no (show (s[i + 1].toNat : Int) ≠ (s[i].toNat : Int) by omega)
            clear h1 h2
            go_enter Tryd.func7, Tryd.ntmps7
            go_wp2
            go_ret2
            exact ⟨by rw [HN.out, HE3.out]; rfl, rfl⟩
          · obtain ⟨e1, e2⟩ := b_no (show (s[i].toNat : Int) ≠ 10 by omega)
            obtain ⟨e3, e4⟩ := b_yes h1
            obtain ⟨e5, e6⟩ := b_yes h2
            obtain ⟨e7, e8⟩ := b_no (show (s[i + 1].toNat : Int) ≠ (s[i].toNat : Int) by omega)
            clear h1 h2
            go_enter Tryd.func7, Tryd.ntmps7
            go_wp2
            go_ret2
            exact ⟨by rw [HN.out, HE3.out]; rfl, rfl⟩
        · have HE3 : Hid (eat (s[i] :: s.data.toList.drop (i + 1)) = 1) := by show _ = _; rw [HE2.out, if_neg hp]
          clear HE2
          have hcd : ¬ (((s[i].toNat : Int) = 10 ∧ (s[i + 1].toNat : Int) = 13) ∨ ((s[i].toNat : Int) = 13 ∧ (s[i + 1].toNat : Int) = 10)) := by
            simpa [pair, Bool.or_eq_true, Bool.and_eq_true, beq_iff_eq] using hp
          clear hp
          by_cases hq : (s[i + 1].toNat : Int) = (s[i].toNat : Int)
          · obtain ⟨e7, e8⟩ := b_yes hq
            rcases hbr with h1 | h1
            · obtain ⟨e1, e2⟩ := b_yes h1
              clear hcd h1 hq
              go_enter Tryd.func7, Tryd.ntmps7
              go_wp2
              go_ret2
              exact ⟨by rw [HN.out, HE3.out]; rfl, rfl⟩
            · obtain ⟨e1, e2⟩ := b_no (show (s[i].toNat : Int) ≠ 10 by omega)
              obtain ⟨e3, e4⟩ := b_yes h1
              clear hcd h1 hq
              go_enter Tryd.func7, Tryd.ntmps7
              go_wp2
              go_ret2
              exact ⟨by rw [HN.out, HE3.out]; rfl, rfl⟩
          · obtain ⟨e7, e8⟩ := b_no hq
            obtain ⟨e5, e6⟩ := b_no (show (s[i + 1].toNat : Int) ≠ 10 by omega)
            obtain ⟨e9, e10⟩ := b_no (show (s[i + 1].toNat : Int) ≠ 13 by omega)
            rcases hbr with h1 | h1
            · obtain ⟨e1, e2⟩ := b_yes h1
              clear hcd h1 hq
              go_enter Tryd.func7, Tryd.ntmps7
              go_wp2
              go_ret2
              exact ⟨by rw [HN.out, HE3.out]; rfl, rfl⟩
            · obtain ⟨e1, e2⟩ := b_no (show (s[i].toNat : Int) ≠ 10 by omega)
              obtain ⟨e3, e4⟩ := b_yes h1
              clear hcd h1 hq
              go_enter Tryd.func7, Tryd.ntmps7
              go_wp2
              go_ret2
              exact ⟨by rw [HN.out, HE3.out]; rfl, rfl⟩
      · have hl2i : (s.size : Int) ≤ (i : Int) + 1 := by omega
        have HE3 : Hid (eat (s[i] :: s.data.toList.drop (i + 1)) = 1) := by
          show _ = _
          rw [HE.out, str_drop_end s (i + 1) hl2, if_neg (by simp [pair, hd])]
        clear HE
        rcases hbr with h1 | h1
        · obtain ⟨e1, e2⟩ := b_yes h1
          clear h1
          go_enter Tryd.func7, Tryd.ntmps7
          go_wp2
          go_ret2
          exact ⟨by rw [HN.out, HE3.out]; rfl, rfl⟩
        · obtain ⟨e1, e2⟩ := b_no (show (s[i].toNat : Int) ≠ 10 by omega)
          obtain ⟨e3, e4⟩ := b_yes h1
          clear h1
          go_enter Tryd.func7, Tryd.ntmps7
          go_wp2
          go_ret2
          exact ⟨by rw [HN.out, HE3.out]; rfl, rfl⟩
    · have HN : Hid (nc (s[i] :: s.data.toList.drop (i + 1)) = s[i].toNat) := by
        exact St.nextC_else (line := 0) (col := 0) hbr
      have HE : Hid (eat (s[i] :: s.data.toList.drop (i + 1)) = 1) := by
        show _ = _
        simp only [eat, if_neg hbr]
      obtain ⟨e1, e2⟩ := b_no (show (s[i].toNat : Int) ≠ 10 by omega)
      obtain ⟨e3, e4⟩ := b_no (show (s[i].toNat : Int) ≠ 13 by omega)
      clear hbr
      go_enter Tryd.func7, Tryd.ntmps7
      go_wp2
      go_ret2
      exact ⟨by rw [HN.out, HE.out]; rfl, rfl⟩
  · have hle : (s.size : Int) ≤ (i : Int) := by omega
    rw [str_drop_end s i hlt]
    go_enter Tryd.func7, Tryd.ntmps7
    go_wp2
    go_ret2
    exact ⟨rfl, rfl⟩
end Go.Proofs.YtnaklkhdmmbjjaaDoor
