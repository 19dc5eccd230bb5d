/- zzFindCloseB5, walked. -/
import Derived.Test.YtoibhhbhohpljaaDoorR131
namespace Go.Proofs.YtoibhhbhohpljaaDoor
open Go.RowKit

/-- The leftmost close from a place on; -1: none. -/
def findI (k : Nat) (l : List UInt8) (i : Nat) : Int := match findC k (l.drop i) with
  | some j => (i + j : Nat)
  | none => -1
theorem findI_next {k : Nat} {l : List UInt8} {i : Nat} (h : i < l.length) (hn : ¬ (l[i] = 93 ∧ closeAt k (l.drop (i + 1)) = true)) : findI k l i = findI k l (i + 1) := by
  unfold findI
  rw [List.drop_eq_getElem_cons h, findC_no hn]
  cases findC k (l.drop (i + 1)) with
  | none => rfl
  | some j => simp only [Option.map_some]; omega
theorem findI_here {k : Nat} {l : List UInt8} {i : Nat} (h : i < l.length) (h1 : l[i] = 93) (h2 : closeAt k (l.drop (i + 1)) = true) : findI k l i = i := by
  unfold findI
  rw [List.drop_eq_getElem_cons h, findC, if_pos ⟨h1, h2⟩]
  rfl
theorem findI_end {k : Nat} {l : List UInt8} {i : Nat} (h : l.length ≤ i) : findI k l i = -1 := by
  unfold findI
  rw [List.drop_eq_nil_of_le h]
  rfl
/-- The run of equals signs. -/
def eqRun (l : List UInt8) : Nat := (l.takeWhile (onB eqI)).length
theorem close_run (k : Nat) (t : List UInt8) : closeAt k t = true ↔ k ≤ eqRun t ∧ t[k]? = some 93 := by
  have hr : t = List.replicate (eqRun t) 61 ++ t.dropWhile (onB eqI) := rest_eq ⟨t, 0, 0⟩
  have hq : hd (t.dropWhile (onB eqI)) ≠ 61 := fun e => by
    have := adv_hd eqI ⟨t, 0, 0⟩ rfl
    rw [show ((⟨t, 0, 0⟩ : St).adv eqI).rest = t.dropWhile (onB eqI) from rfl, e] at this; cases this
  generalize eqRun t = r at hr ⊢
  generalize t.dropWhile (onB eqI) = q at hr hq
  subst hr
  rw [closeAt_iff k r q (fun x e => hq (by rw [e]; rfl))]
  constructor
  · rintro ⟨rfl, x, rfl⟩
    exact ⟨Nat.le_refl _, by rw [List.getElem?_append_right (by simp)]; simp⟩
  · rintro ⟨h1, h2⟩
    have hk : r = k := by
      rcases Nat.lt_or_ge k r with h | h
      · rw [List.getElem?_append_left (by simpa using h)] at h2
        simp [h] at h2
      · omega
    refine ⟨hk, ?_⟩
    subst hk
    rw [List.getElem?_append_right (by simp)] at h2
    cases q with
    | nil => simp at h2
    | cons c t => simp at h2; exact ⟨t, by rw [h2]⟩
theorem eqRun_step (l : List UInt8) (j : Nat) (hj : j ≤ eqRun l) : j < eqRun l ↔ ∃ h : j < l.length, l[j] = 61 := by
  induction l generalizing j with
  | nil => simp [eqRun] at hj ⊢
  | cons c t ih =>
    unfold eqRun at hj ⊢
    cases hc : onB eqI c with
    | false =>
      have : j = 0 := by simpa [List.takeWhile_cons, hc] using hj
      subst this
      simp only [List.takeWhile_cons, hc]
      simp only [onB, eqI, beq_eq_false_iff_ne] at hc
      constructor
      · intro h; simp at h
      · rintro ⟨_, h⟩; exact absurd (by simp only [List.getElem_cons_zero] at h; rw [h]; rfl) hc
    | true =>
      simp only [List.takeWhile_cons, hc, if_true, List.length_cons] at hj ⊢
      have h61 : c = 61 := by simp only [onB, eqI, beq_iff_eq] at hc; exact UInt8.toNat_inj.1 (by show c.toNat = 61; omega)
      cases j with
      | zero => simp [h61]
      | succ j =>
        have := ih j (by unfold eqRun; omega)
        unfold eqRun at this
        simp only [Nat.succ_lt_succ_iff, List.getElem_cons_succ]
        exact this
theorem by_at (u : ByteArray) (i : Nat) (h : i < u.size) : u.data.toList[i]? = some u[i] := by
  have : i < u.data.toList.length := by rw [Array.length_toList]; exact h
  rw [List.getElem?_eq_getElem this]; simp; rfl

set_option maxRecDepth 100000 in
set_option maxHeartbeats 6400000 in
theorem find_any (w : World) (u : ByteArray) (i0 k : Nat) (hi0 : i0 ≤ u.size) (hu : u.size ≤ 1099511627776) (hk : k ≤ 1099511627776) :
    Calls Tryd.prog 21 #[.string u, .int .i64 i0, .int .i64 k] w
      fun e w' => e = .returned (.int .i64 (findI k u.data.toList i0)) ∧ w = w' := by
  have hui : (u.size : Int) ≤ 1099511627776 := by omega
  have hki : (k : Int) ≤ 1099511627776 := by omega
  have hlen : u.data.toList.length = u.size := by rw [Array.length_toList]; rfl
  have HLEN := Lib.hid hlen
  clear hlen
  go_enter Tryd.func21, Tryd.ntmps21
  go_wp2
  go_loopg [7] (u.size - i0) (fun g p wr => ∃ i : Nat, u.size - i ≤ g ∧ p = .int .i64 i ∧ i ≤ u.size ∧ findI k u.data.toList i = findI k u.data.toList i0 ∧ w = wr)
  case atStart => exact ⟨i0, Nat.le_refl _, rfl, hi0, rfl, rfl⟩
  case round =>
    obtain ⟨i, hg, rfl, hi, hfi, rfl⟩ := hrel
    have HG := Lib.hid hg
    have HFI := Lib.hid hfi
    clear hg hfi
    by_cases hlt : i < u.size
    · have hc0 : (0 : Int) ≤ (u[i].toNat : Int) := by omega
      have hc1 : (u[i].toNat : Int) ≤ 255 := by have := u[i].toNat_lt; omega
      have hii : (i : Int) < (u.size : Int) := by omega
      have hget : ∀ h : i < u.data.toList.length, u.data.toList[i] = u[i] := fun h => by simp; rfl
      have hll : i < u.data.toList.length := by rw [HLEN.out]; exact hlt
      by_cases h93 : (u[i].toNat : Int) = 93
      · obtain ⟨e1, e2⟩ := b_yes h93
        have h93' : u.data.toList[i] = 93 := by rw [hget]; exact UInt8.toNat_inj.1 (by show u[i].toNat = 93; omega)
        have hcr := close_run k (u.data.toList.drop (i + 1))
        have hst := eqRun_step (u.data.toList.drop (i + 1))
        obtain ⟨r, hr⟩ : ∃ r, r = eqRun (u.data.toList.drop (i + 1)) := ⟨_, rfl⟩
        rw [← hr] at hcr hst
        have HNO := Lib.hid (show closeAt k (u.data.toList.drop (i + 1)) = false → findI k u.data.toList (i + 1) = findI k u.data.toList i0 from fun e => by rw [← HFI.out, findI_next hll (by rw [e]; simp)])
        have HYES := Lib.hid (show closeAt k (u.data.toList.drop (i + 1)) = true → findI k u.data.toList i0 = i from fun e => by rw [← HFI.out, findI_here hll h93' e])
        have HCR := Lib.hid hcr
        have HST := Lib.hid hst
        have HDL := Lib.hid (show ∀ j, (u.data.toList.drop (i + 1))[j]? = u.data.toList[i + 1 + j]? from fun j => by rw [List.getElem?_drop])
        clear hcr hst hr h93 h93' hget
        go_wp2
        go_loopg [8] k (fun g2 jv wr => ∃ j : Nat, k - j ≤ g2 ∧ jv = .int .i64 j ∧ j ≤ k ∧ j ≤ r ∧ i + 1 + j ≤ u.size ∧ w = wr)
        case atStart => exact ⟨0, by omega, rfl, by omega, by omega, by omega, rfl⟩
        case round =>
          obtain ⟨j, hg2, rfl, hjk, hjr, hjs, rfl⟩ := hrel
          have HG2 := Lib.hid hg2
          have HJR := Lib.hid hjr
          have hjsi : (i : Int) + 1 + (j : Int) ≤ (u.size : Int) := by omega
          have hjki : (j : Int) ≤ (k : Int) := by omega
          have hset : ∀ (x : UInt8), (u.data.toList.drop (i + 1))[j]? = some x → ((∃ h : j < (u.data.toList.drop (i + 1)).length, (u.data.toList.drop (i + 1))[j] = 61) ↔ x = 61) := fun x hx => by
            obtain ⟨h1, h2⟩ := List.getElem?_eq_some_iff.1 hx
            constructor
            · rintro ⟨_, h3⟩; rw [← h2]; exact h3
            · intro h3; exact ⟨h1, by rw [h2]; exact h3⟩
          clear hg2 hjr
          by_cases hj : j < k
          · have hji : (j : Int) < (k : Int) := by omega
            have hjne : ((j : Int) == (k : Int)) = false := by rw [beq_eq_false_iff_ne]; omega
            by_cases hin : i + 1 + j < u.size
            · have hini : (i : Int) + 1 + (j : Int) < (u.size : Int) := by omega
              have hd0 : (0 : Int) ≤ (u[i + 1 + j].toNat : Int) := by omega
              have hd1 : (u[i + 1 + j].toNat : Int) ≤ 255 := by have := u[i + 1 + j].toNat_lt; omega
              have hx := hset u[i + 1 + j] (by rw [HDL.out, by_at u _ hin])
              by_cases h61 : (u[i + 1 + j].toNat : Int) = 61
              · obtain ⟨e3, e4⟩ := b_yes h61
                have HJ2 := Lib.hid (show j < r from (HST.out j HJR.out).2 (hx.2 (UInt8.toNat_inj.1 (by show u[i + 1 + j].toNat = 61; omega))))
                clear h61 hx hset
                go_wp2
                go_roundg (k - (j + 1))
                case measure => have := HG2.out; omega
                case rel => exact ⟨j + 1, Nat.le_refl _, by go_num, by omega, HJ2.out, by omega, rfl⟩
              · obtain ⟨e3, e4⟩ := b_no h61
                have HN := Lib.hid (show closeAt k (u.data.toList.drop (i + 1)) = false by
                  rw [Bool.eq_false_iff]
                  intro hcl
                  have h5 := (HCR.out.1 hcl).1
                  have h6 := hx.1 ((HST.out j HJR.out).1 (by omega))
                  exact h61 (by rw [h6]; rfl))
                clear h61 hx hset
                go_wp2
                go_roundg (u.size - (i + 1))
                case measure => have := HG.out; omega
                case rel => exact ⟨i + 1, Nat.le_refl _, by go_num, by omega, HNO.out HN.out, rfl⟩
            · have hini : (u.size : Int) ≤ (i : Int) + 1 + (j : Int) := by omega
              have HN := Lib.hid (show closeAt k (u.data.toList.drop (i + 1)) = false by
                rw [Bool.eq_false_iff]
                intro hcl
                have h5 := (HCR.out.1 hcl).1
                obtain ⟨h6, _⟩ := (HST.out j HJR.out).1 (by omega)
                rw [List.length_drop, HLEN.out] at h6
                omega)
              clear hset
              go_wp2
              go_roundg (u.size - (i + 1))
              case measure => have := HG.out; omega
              case rel => exact ⟨i + 1, Nat.le_refl _, by go_num, by omega, HNO.out HN.out, rfl⟩
          · obtain rfl : j = k := by omega
            clear hset
            by_cases hin : i + 1 + j < u.size
            · have hini : (i : Int) + 1 + (j : Int) < (u.size : Int) := by omega
              have hd0 : (0 : Int) ≤ (u[i + 1 + j].toNat : Int) := by omega
              have hd1 : (u[i + 1 + j].toNat : Int) ≤ 255 := by have := u[i + 1 + j].toNat_lt; omega
              have hat : (u.data.toList.drop (i + 1))[j]? = some u[i + 1 + j] := by rw [HDL.out, by_at u _ hin]
              by_cases hcl : (u[i + 1 + j].toNat : Int) = 93
              · obtain ⟨e3, e4⟩ := b_yes hcl
                have HY := Lib.hid (HYES.out (HCR.out.2 ⟨HJR.out, by rw [hat]; congr 1; exact UInt8.toNat_inj.1 (by show u[i + 1 + j].toNat = 93; omega)⟩))
                clear hcl hat
                go_wp2
                go_ret
                exact ⟨by rw [HY.out]; rfl, rfl⟩
              · obtain ⟨e3, e4⟩ := b_no hcl
                have HN := Lib.hid (show closeAt j (u.data.toList.drop (i + 1)) = false by
                  rw [Bool.eq_false_iff]
                  intro hc
                  have h5 := (HCR.out.1 hc).2
                  rw [hat] at h5
                  exact hcl (by rw [Option.some.inj h5]; rfl))
                clear hcl hat
                go_wp2
                go_roundg (u.size - (i + 1))
                case measure => have := HG.out; omega
                case rel => exact ⟨i + 1, Nat.le_refl _, by go_num, by omega, HNO.out HN.out, rfl⟩
            · have hini : (u.size : Int) ≤ (i : Int) + 1 + (j : Int) := by omega
              have HN := Lib.hid (show closeAt j (u.data.toList.drop (i + 1)) = false by
                rw [Bool.eq_false_iff]
                intro hc
                have h5 := (HCR.out.1 hc).2
                rw [HDL.out, List.getElem?_eq_none (by rw [HLEN.out]; omega)] at h5
                cases h5)
              go_wp2
              go_roundg (u.size - (i + 1))
              case measure => have := HG.out; omega
              case rel => exact ⟨i + 1, Nat.le_refl _, by go_num, by omega, HNO.out HN.out, rfl⟩
      · obtain ⟨e1, e2⟩ := b_no h93
        have HN := Lib.hid (show findI k u.data.toList (i + 1) = findI k u.data.toList i0 by
          rw [← HFI.out, findI_next hll (fun e => h93 (by rw [hget] at e; rw [e.1]; rfl))])
        clear h93 hget
        go_wp2
        go_roundg (u.size - (i + 1))
        case measure => have := HG.out; omega
        case rel => exact ⟨i + 1, Nat.le_refl _, by go_num, by omega, HN.out, rfl⟩
    · have HE := Lib.hid (show findI k u.data.toList i0 = -1 by rw [← HFI.out]; exact findI_end (by rw [HLEN.out]; omega))
      have hii : (u.size : Int) ≤ (i : Int) := by omega
      go_wp2
      go_ret
      exact ⟨by rw [HE.out]; rfl, rfl⟩
end Go.Proofs.YtoibhhbhohpljaaDoor
