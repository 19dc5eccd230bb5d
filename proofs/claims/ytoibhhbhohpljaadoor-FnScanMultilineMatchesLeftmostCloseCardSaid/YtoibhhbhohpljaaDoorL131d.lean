/- The law FnScanMultilineMatchesLeftmostClose, walked. -/
import Derived.Test.YtoibhhbhohpljaaDoorZ131
import Derived.Test.YtoibhhbhohpljaaDoorP131d
import Derived.Deep.LoopGhost
import Derived.IntWalk
namespace Go.Proofs.YtoibhhbhohpljaaDoor
open Go.RowKit

set_option maxRecDepth 100000 in
set_option maxHeartbeats 1600000 in
theorem lm_no (w : World) (s : ByteArray) (h : ¬ (s.size ≤ 1048576 ∧ s.size ≤ 65536)) :
    Calls Tryd.prog 6 #[.string s] w fun e w' => e = .returned (.bool true) ∧ w' = w := by
  by_cases h0 : s.size ≤ 1048576
  case neg =>
    have hf : (1048576 : Int) < (s.size : Int) := by omega
    clear h h0
    go_enter Tryd.func6, Tryd.ntmps6
    go_wp2
    go_ret
    exact ⟨rfl, rfl⟩
  by_cases h1 : s.size ≤ 65536
  case neg =>
    have hf : (65536 : Int) < (s.size : Int) := by omega
    clear h h1
    go_enter Tryd.func6, Tryd.ntmps6
    go_wp2
    go_ret
    exact ⟨rfl, rfl⟩
  exact absurd ⟨h0, h1⟩ h

theorem lm_eq (s : List UInt8) (U : ByteArray) (hU : U.data.toList = stream s) (n : Nat) (hn : n = eqRun (stream s)) :
    n ≤ U.size ∧ (∀ k, k < n → ∀ h : k < U.size, ((U[k].toNat : Int) == 61) = true) ∧ (∀ h : n < U.size, ((U[n].toNat : Int) == 61) = false) := by
  have hlen : U.data.toList.length = U.size := by rw [Array.length_toList]; rfl
  have hget : ∀ i (h : i < U.size) (h2 : i < (stream s).length), (stream s)[i] = U[i] := fun i h h2 => by simp only [← hU]; simp; rfl
  refine ⟨?_, fun k hk h => ?_, fun h => ?_⟩
  · rw [hn, ← hlen, hU]
    unfold eqRun
    exact (List.takeWhile_sublist _).length_le
  · obtain ⟨h2, h3⟩ := (eqRun_step (stream s) k (by omega)).1 (by omega)
    rw [hget k h] at h3
    rw [beq_iff_eq, h3]; rfl
  · rw [beq_eq_false_iff_ne]
    intro e
    have h2 : n < (stream s).length := by rw [← hU, hlen]; exact h
    have := (eqRun_step (stream s) n (by omega)).2 ⟨h2, by rw [hget n h]; exact UInt8.toNat_inj.1 (by show U[n].toNat = 61; omega)⟩
    omega
theorem strEq2 (G : ByteArray) (h : G.data.toList = []) : G = ⟨#[]⟩ := by
  apply ByteArray.ext; apply Array.ext'; exact h
set_option maxRecDepth 100000 in
set_option maxHeartbeats 16000000 in
theorem lm_yes (w : World) (a : Addr) (s : ByteArray) (he : HasEof w a) (h : s.size ≤ 1048576 ∧ s.size ≤ 65536) :
    Calls Tryd.prog 6 #[.string s] w fun e w' => e = .returned (.bool true) ∧ Fr [] w w' := by
  obtain ⟨h1, h2⟩ := h
  have b1 : decide ((1048576 : Int) < (s.size : Int)) = false := by rw [decide_eq_false_iff_not]; omega
  have b2 : decide ((65536 : Int) < (s.size : Int)) = false := by rw [decide_eq_false_iff_not]; omega
  have HS := Lib.hid (show s.size ≤ 1099511627776 by omega)
  have hlen : s.data.toList.length = s.size := by rw [Array.length_toList]; rfl
  have hsu := stream_len s.data.toList
  obtain ⟨U, hU⟩ : ∃ U : ByteArray, U = ⟨(stream s.data.toList).toArray⟩ := ⟨_, rfl⟩
  have hUd : U.data.toList = stream s.data.toList := by rw [hU]
  have hUs : U.size ≤ 65536 := by
    have : U.size = U.data.toList.length := by rw [Array.length_toList]; rfl
    rw [this, hUd]; omega
  obtain ⟨n, hn⟩ : ∃ n, n = eqRun (stream s.data.toList) := ⟨_, rfl⟩
  have hnorm := fun (wz : World) => norm_any wz s HS.out
  rw [← hU] at hnorm
  have hl1 : ∀ x : St, x = (⟨s.data.toList, 1, 0⟩ : St).nextS → x.rest.length ≤ 65536 := fun x e => by
    rw [e]; have := rest_next_le ⟨s.data.toList, 1, 0⟩; simp only [hlen] at this; omega
  have hnx := fun (wz : World) (L : Loc) (hS : Sc wz L ⟨s.data.toList, 1, 0⟩ none) => next_any wz L _ none hS
  have hz := fun (wz : World) (L : Loc) (hS : Sc wz L (⟨s.data.toList, 1, 0⟩ : St).nextS none) => zmulti wz L _ (⟨s.data.toList, 1, 0⟩ : St).nextC hS (by have := hl1 _ rfl; omega)
  have hways := long_ways s.data.toList U hUd n hn _ rfl
  have hrl : (long (⟨s.data.toList, 1, 0⟩ : St).nextC (⟨s.data.toList, 1, 0⟩ : St).nextS).2.2.rest.length ≤ s.size := by
    have h5 := hl1 _ rfl
    have h6 := rest_next_le ⟨s.data.toList, 1, 0⟩
    simp only [hlen] at h6
    have h8 := sepL_rest (⟨s.data.toList, 1, 0⟩ : St).nextC (⟨s.data.toList, 1, 0⟩ : St).nextS
    unfold long
    split
    · have h7 := (longL_rest (sepL (⟨s.data.toList, 1, 0⟩ : St).nextC (⟨s.data.toList, 1, 0⟩ : St).nextS).1 (longB (sepL (⟨s.data.toList, 1, 0⟩ : St).nextC (⟨s.data.toList, 1, 0⟩ : St).nextS).2.2).1 (longB (sepL (⟨s.data.toList, 1, 0⟩ : St).nextC (⟨s.data.toList, 1, 0⟩ : St).nextS).2.2).2 []).1
      have h9 : (longB (sepL (⟨s.data.toList, 1, 0⟩ : St).nextC (⟨s.data.toList, 1, 0⟩ : St).nextS).2.2).2.rest.length ≤ (sepL (⟨s.data.toList, 1, 0⟩ : St).nextC (⟨s.data.toList, 1, 0⟩ : St).nextS).2.2.rest.length := by
        have g1 := rest_next_le (sepL (⟨s.data.toList, 1, 0⟩ : St).nextC (⟨s.data.toList, 1, 0⟩ : St).nextS).2.2
        have g2 := rest_next_le (sepL (⟨s.data.toList, 1, 0⟩ : St).nextC (⟨s.data.toList, 1, 0⟩ : St).nextS).2.2.nextS
        unfold longB; split <;> simp only <;> omega
      omega
    · simp only; omega
  generalize long (⟨s.data.toList, 1, 0⟩ : St).nextC (⟨s.data.toList, 1, 0⟩ : St).nextS = R at hz hways hrl
  generalize (⟨s.data.toList, 1, 0⟩ : St).nextC = ch1 at hnx hz
  generalize (⟨s.data.toList, 1, 0⟩ : St).nextS = st1 at hnx hz
  obtain ⟨ok, tx, s2⟩ := R
  obtain ⟨hnU, heq, hne⟩ := lm_eq s.data.toList U hUd n hn
  have HEQ := Lib.hid heq
  have HNE := Lib.hid hne
  have HUD := Lib.hid hUd
  have hnUi : (n : Int) ≤ (U.size : Int) := by omega
  have hUsi : (U.size : Int) ≤ 65536 := by omega
  have HRL := Lib.hid (show s2.rest.length ≤ s.size from hrl)
  simp only at hways
  obtain ⟨G, hG⟩ : ∃ G : ByteArray, G = ⟨tx.toArray⟩ := ⟨_, rfl⟩
  have hz2 := fun (wz : World) (L : Loc) (hS : Sc wz L st1 none) => show Calls Tryd.prog 20 #[.pointer (some ⟨L.S, 0, none⟩), .int .i64 ch1] wz fun e w' => ∃ er, e = .returned (.tuple #[.string G, er]) ∧ ErrIs ok er ∧ Sc w' L s2 none ∧ Fr L.own wz w' from by
    have := hz wz L hS
    unfold ZIs at this
    simp only [← hG] at this
    exact this
  have hGd : G.data.toList = tx := by rw [hG]
  clear hz hl1 hU hUd hn hlen hsu heq hne hrl hG
  have hz3 := fun (wz : World) (L : Loc) (hS : Sc wz L st1 none) (e : ok = false) => show Calls Tryd.prog 20 #[.pointer (some ⟨L.S, 0, none⟩), .int .i64 ch1] wz fun e w' => ∃ k : Nat, e = .returned (.tuple #[.string G, .iface 66 (.pointer (some ⟨k, 0, none⟩))]) ∧ Sc w' L s2 none ∧ Fr L.own wz w' from
    (hz2 wz L hS).mono fun e' w' ⟨er, h1, h2, h3, h4⟩ => by
      rcases h2 with ⟨h2, _⟩ | ⟨_, k, rfl⟩
      · rw [e] at h2; cases h2
      · exact ⟨k, h1, h3, h4⟩
  have hz4 := fun (wz : World) (L : Loc) (hS : Sc wz L st1 none) (e : ok = true) => show Calls Tryd.prog 20 #[.pointer (some ⟨L.S, 0, none⟩), .int .i64 ch1] wz fun e w' => e = .returned (.tuple #[.string G, .nilIface]) ∧ Sc w' L s2 none ∧ Fr L.own wz w' from
    (hz2 wz L hS).mono fun e' w' ⟨er, h1, h2, h3, h4⟩ => by
      rcases h2 with ⟨_, rfl⟩ | ⟨h2, _⟩
      · exact ⟨h1, h3, h4⟩
      · rw [e] at h2; cases h2
  have HZ3 := Lib.hid hz3
  have HZ4 := Lib.hid hz4
  clear hz2 hz3 hz4
  have HNX := Lib.hid hnx
  have HNORM := Lib.hid hnorm
  clear hnx hnorm
  rcases hways with ⟨g1, hok, htx⟩ | ⟨g1, ⟨g2, hok, htx⟩ | ⟨g2, start, hst, hsU, hres⟩⟩
  · have hUn : (U.size : Int) ≤ (n : Int) := by omega
    have hUnd : decide (U.size ≤ n) = true := by rw [decide_eq_true_eq]; exact g1
    obtain rfl : G = ⟨#[]⟩ := strEq2 G (hGd.trans htx)
    clear htx hGd
    go_enter Tryd.func6, Tryd.ntmps6
    go_wp2_with (first | (go_at_call 9; refine (znew _ a _ he HS.out).mono ?_; rintro e w1 hN; obtain ⟨L, hLs, hown, rfl, hSc, fr⟩ := hN; refine Hid.out ?_) | go_in)
    refine Lib.hid ?_
    have HOWN := Lib.hid hown
    have FR0 := Lib.hid fr
    clear he hLs hown fr
    go_wp2_with (go_at_call 19; refine (HNX.out w1 L hSc).mono ?_; rintro e w2 ⟨rfl, hS2, fr2⟩; refine Hid.out ?_)
    refine Lib.hid ?_
    have FR2 := Lib.hid (Fr.new FR0.out fr2 HOWN.out)
    clear hSc fr2
    go_wp2_with (first | (go_at_call 20; refine (HZ3.out w2 L hS2 hok).mono ?_; rintro e w3 ⟨kx, rfl, hS3, fr3⟩) | (go_at_call 17; refine (HNORM.out w3).mono ?_; rintro e w4 ⟨rfl, fr4⟩; refine Hid.out ?_))
    refine Lib.hid ?_
    have FR4 := Lib.hid ((Fr.new FR2.out fr3 HOWN.out).trans fr4)
    clear hS2 hS3 fr3 fr4
    go_wp2
    go_loopg [8] n (fun g kv wr => ∃ k : Nat, n - k ≤ g ∧ kv = .int .i64 k ∧ k ≤ n ∧ k ≤ U.size ∧ wr = w4)
    case atStart => exact ⟨0, by omega, rfl, by omega, by omega, rfl⟩
    case round =>
      obtain ⟨k, hg, rfl, hkn, hkU, rfl⟩ := hrel
      have HG := Lib.hid hg
      have hkUi : (k : Int) ≤ (U.size : Int) := by omega
      clear hg
      by_cases hk : k < n
      · have hks : k < U.size := by omega
        have hksi : (k : Int) < (U.size : Int) := by omega
        have hd0 : (0 : Int) ≤ (U[k].toNat : Int) := by omega
        have hd1 : (U[k].toNat : Int) ≤ 255 := by have := U[k].toNat_lt; omega
        have e61k : ((U[k].toNat : Int) == 61) = true := HEQ.out k hk hks
        go_wp2
        go_roundg (n - (k + 1))
        case measure => have := HG.out; omega
        case rel => exact ⟨k + 1, Nat.le_refl _, by go_num, by omega, by omega, rfl⟩
      · obtain rfl : n = k := by omega
        clear hk HG
        go_wp2
        go_ret
        exact ⟨rfl, FR4.out⟩

  · have hni : (n : Int) < (U.size : Int) := by omega
    have hnd : decide (U.size ≤ n) = false := by rw [decide_eq_false_iff_not]; omega
    have hd0n : (0 : Int) ≤ (U[n].toNat : Int) := by omega
    have hd1n : (U[n].toNat : Int) ≤ 255 := by have := U[n].toNat_lt; omega
    have e61 : ((U[n].toNat : Int) == 61) = false := HNE.out g1
    obtain ⟨e91, e91'⟩ := b_no g2
    obtain rfl : G = ⟨#[]⟩ := strEq2 G (hGd.trans htx)
    clear htx hGd g2
    go_enter Tryd.func6, Tryd.ntmps6
    go_wp2_with (first | (go_at_call 9; refine (znew _ a _ he HS.out).mono ?_; rintro e w1 hN; obtain ⟨L, hLs, hown, rfl, hSc, fr⟩ := hN; refine Hid.out ?_) | go_in)
    refine Lib.hid ?_
    have HOWN := Lib.hid hown
    have FR0 := Lib.hid fr
    clear he hLs hown fr
    go_wp2_with (go_at_call 19; refine (HNX.out w1 L hSc).mono ?_; rintro e w2 ⟨rfl, hS2, fr2⟩; refine Hid.out ?_)
    refine Lib.hid ?_
    have FR2 := Lib.hid (Fr.new FR0.out fr2 HOWN.out)
    clear hSc fr2
    go_wp2_with (first | (go_at_call 20; refine (HZ3.out w2 L hS2 hok).mono ?_; rintro e w3 ⟨kx, rfl, hS3, fr3⟩) | (go_at_call 17; refine (HNORM.out w3).mono ?_; rintro e w4 ⟨rfl, fr4⟩; refine Hid.out ?_))
    refine Lib.hid ?_
    have FR4 := Lib.hid ((Fr.new FR2.out fr3 HOWN.out).trans fr4)
    clear hS2 hS3 fr3 fr4
    go_wp2
    go_loopg [8] n (fun g kv wr => ∃ k : Nat, n - k ≤ g ∧ kv = .int .i64 k ∧ k ≤ n ∧ k ≤ U.size ∧ wr = w4)
    case atStart => exact ⟨0, by omega, rfl, by omega, by omega, rfl⟩
    case round =>
      obtain ⟨k, hg, rfl, hkn, hkU, rfl⟩ := hrel
      have HG := Lib.hid hg
      have hkUi : (k : Int) ≤ (U.size : Int) := by omega
      clear hg
      by_cases hk : k < n
      · have hks : k < U.size := by omega
        have hksi : (k : Int) < (U.size : Int) := by omega
        have hd0 : (0 : Int) ≤ (U[k].toNat : Int) := by omega
        have hd1 : (U[k].toNat : Int) ≤ 255 := by have := U[k].toNat_lt; omega
        have e61k : ((U[k].toNat : Int) == 61) = true := HEQ.out k hk hks
        go_wp2
        go_roundg (n - (k + 1))
        case measure => have := HG.out; omega
        case rel => exact ⟨k + 1, Nat.le_refl _, by go_num, by omega, by omega, rfl⟩
      · obtain rfl : n = k := by omega
        clear hk HG
        go_wp2
        go_ret
        exact ⟨rfl, FR4.out⟩

  · have hni : (n : Int) < (U.size : Int) := by omega
    have hnd : decide (U.size ≤ n) = false := by rw [decide_eq_false_iff_not]; omega
    have hd0n : (0 : Int) ≤ (U[n].toNat : Int) := by omega
    have hd1n : (U[n].toNat : Int) ≤ 255 := by have := U[n].toNat_lt; omega
    have e61 : ((U[n].toNat : Int) == 61) = false := HNE.out g1
    obtain ⟨e91, e91'⟩ := b_yes g2
    have hfind := fun (wz : World) => find_any wz U start n hsU (by omega) (by omega)
    clear g2
    rcases hst with ⟨h1x, h10, rfl⟩ | ⟨h1x, h10, rfl⟩ | ⟨h1x, rfl⟩
    · have hs1i : (n : Int) + 1 < (U.size : Int) := by omega
      have hd0m : (0 : Int) ≤ (U[n + 1].toNat : Int) := by omega
      have hd1m : (U[n + 1].toNat : Int) ≤ 255 := by have := U[n + 1].toNat_lt; omega
      obtain ⟨e10, e10'⟩ := b_yes h10
      clear h10
      rcases hres with ⟨hF, hok, htx⟩ | ⟨j, hF, hjl, hok, htx, hrs⟩
      · rw [hF] at hfind
        have HFI := Lib.hid (show ∀ wz : World, Calls Tryd.prog 21 #[.string U, .int .i64 ((n : Int) + 1 + 1), .int .i64 n] wz fun e w' => e = .returned (.int .i64 (-1)) ∧ wz = w' from hfind)
        clear hfind hF
        have hGe : (G.toList == (U.extract (n + 2) U.size).toList) = true := by
          rw [beq_iff_eq, ByteArray.toList_eq, ByteArray.toList_eq, hGd, htx, extract_end]
        have hsle : ((n : Int) + 1 + 1) ≤ (U.size : Int) := by omega
        clear htx hGd
        go_enter Tryd.func6, Tryd.ntmps6
        go_wp2_with (first | (go_at_call 9; refine (znew _ a _ he HS.out).mono ?_; rintro e w1 hN; obtain ⟨L, hLs, hown, rfl, hSc, fr⟩ := hN; refine Hid.out ?_) | go_in)
        refine Lib.hid ?_
        have HOWN := Lib.hid hown
        have FR0 := Lib.hid fr
        clear he hLs hown fr
        go_wp2_with (go_at_call 19; refine (HNX.out w1 L hSc).mono ?_; rintro e w2 ⟨rfl, hS2, fr2⟩; refine Hid.out ?_)
        refine Lib.hid ?_
        have FR2 := Lib.hid (Fr.new FR0.out fr2 HOWN.out)
        clear hSc fr2
        go_wp2_with (first | (go_at_call 20; refine (HZ3.out w2 L hS2 hok).mono ?_; rintro e w3 ⟨kx, rfl, hS3, fr3⟩) | (go_at_call 17; refine (HNORM.out w3).mono ?_; rintro e w4 ⟨rfl, fr4⟩; refine Hid.out ?_))
        refine Lib.hid ?_
        have FR4 := Lib.hid ((Fr.new FR2.out fr3 HOWN.out).trans fr4)
        clear hS2 hS3 fr3 fr4
        go_wp2
        go_loopg [8] n (fun g kv wr => ∃ k : Nat, n - k ≤ g ∧ kv = .int .i64 k ∧ k ≤ n ∧ k ≤ U.size ∧ wr = w4)
        case atStart => exact ⟨0, by omega, rfl, by omega, by omega, rfl⟩
        case round =>
          obtain ⟨k, hg, rfl, hkn, hkU, rfl⟩ := hrel
          have HG := Lib.hid hg
          have hkUi : (k : Int) ≤ (U.size : Int) := by omega
          clear hg
          by_cases hk : k < n
          · have hks : k < U.size := by omega
            have hksi : (k : Int) < (U.size : Int) := by omega
            have hd0 : (0 : Int) ≤ (U[k].toNat : Int) := by omega
            have hd1 : (U[k].toNat : Int) ≤ 255 := by have := U[k].toNat_lt; omega
            have e61k : ((U[k].toNat : Int) == 61) = true := HEQ.out k hk hks
            go_wp2
            go_roundg (n - (k + 1))
            case measure => have := HG.out; omega
            case rel => exact ⟨k + 1, Nat.le_refl _, by go_num, by omega, by omega, rfl⟩
          · obtain rfl : n = k := by omega
            clear hk HG
            go_wp2_with (go_at_call 21; refine (HFI.out _).mono ?_; rintro e w5 ⟨rfl, rfl⟩)
            go_ret
            exact ⟨rfl, FR4.out⟩
      · have hji : ((n : Int) + 1 + 1) + (j : Int) + (n : Int) + 2 ≤ (U.size : Int) := by omega
        have hfe : (((n + 2 + j : Nat) : Nat) : Int) = ((n : Int) + 1 + 1) + (j : Int) := by omega
        rw [hF, hfe] at hfind
        have HFI := Lib.hid (show ∀ wz : World, Calls Tryd.prog 21 #[.string U, .int .i64 ((n : Int) + 1 + 1), .int .i64 n] wz fun e w' => e = .returned (.int .i64 (((n : Int) + 1 + 1) + (j : Int))) ∧ wz = w' from hfind)
        clear hfind hF hfe
        have hGe : (G.toList == (U.extract (n + 2) (n + 2 + j)).toList) = true := by
          rw [beq_iff_eq, ByteArray.toList_eq, ByteArray.toList_eq, hGd, htx]
          simp
        obtain ⟨Q, hQ⟩ : ∃ Q : ByteArray, Q = ⟨(stream s2.rest).toArray⟩ := ⟨_, rfl⟩
        have hQe : (Q.toList == (U.extract (n + 2 + j + n + 2) U.size).toList) = true := by
          rw [beq_iff_eq, ByteArray.toList_eq, ByteArray.toList_eq, hQ, extract_end]
          exact hrs
        have hrest := fun (wz : World) (L : Loc) (hS : Sc wz L s2 none) => rest_any wz L s2 none s.size hS HRL.out HS.out
        rw [← hQ] at hrest
        have HREST := Lib.hid hrest
        clear htx hGd hrs hQ hrest
        go_enter Tryd.func6, Tryd.ntmps6
        go_wp2_with (first | (go_at_call 9; refine (znew _ a _ he HS.out).mono ?_; rintro e w1 hN; obtain ⟨L, hLs, hown, rfl, hSc, fr⟩ := hN; refine Hid.out ?_) | go_in)
        refine Lib.hid ?_
        have HOWN := Lib.hid hown
        have FR0 := Lib.hid fr
        clear he hLs hown fr
        go_wp2_with (go_at_call 19; refine (HNX.out w1 L hSc).mono ?_; rintro e w2 ⟨rfl, hS2, fr2⟩; refine Hid.out ?_)
        refine Lib.hid ?_
        have FR2 := Lib.hid (Fr.new FR0.out fr2 HOWN.out)
        clear hSc fr2
        go_wp2_with (first | (go_at_call 20; refine (HZ4.out w2 L hS2 hok).mono ?_; rintro e w3 ⟨rfl, hS3, fr3⟩) | (go_at_call 17; refine (HNORM.out w3).mono ?_; rintro e w4 ⟨rfl, fr4⟩; refine Hid.out ?_))
        refine Lib.hid ?_
        have FR4 := Lib.hid ((Fr.new FR2.out fr3 HOWN.out).trans fr4)
        have HS4 := Lib.hid (hS3.fr fr4)
        clear hS2 hS3 fr3 fr4
        go_wp2
        go_loopg [8] n (fun g kv wr => ∃ k : Nat, n - k ≤ g ∧ kv = .int .i64 k ∧ k ≤ n ∧ k ≤ U.size ∧ wr = w4)
        case atStart => exact ⟨0, by omega, rfl, by omega, by omega, rfl⟩
        case round =>
          obtain ⟨k, hg, rfl, hkn, hkU, rfl⟩ := hrel
          have HG := Lib.hid hg
          have hkUi : (k : Int) ≤ (U.size : Int) := by omega
          clear hg
          by_cases hk : k < n
          · have hks : k < U.size := by omega
            have hksi : (k : Int) < (U.size : Int) := by omega
            have hd0 : (0 : Int) ≤ (U[k].toNat : Int) := by omega
            have hd1 : (U[k].toNat : Int) ≤ 255 := by have := U[k].toNat_lt; omega
            have e61k : ((U[k].toNat : Int) == 61) = true := HEQ.out k hk hks
            go_wp2
            go_roundg (n - (k + 1))
            case measure => have := HG.out; omega
            case rel => exact ⟨k + 1, Nat.le_refl _, by go_num, by omega, by omega, rfl⟩
          · obtain rfl : n = k := by omega
            clear hk HG
            go_wp2_with (go_at_call 21; refine (HFI.out _).mono ?_; rintro e w5 ⟨rfl, rfl⟩)
            have hS4 := HS4.out.fr ((Fr.refl [] _).drew)
            have hz1 : (0 : Int) ≤ ((n : Int) + 1 + 1) + (j : Int) + (n : Int) + 2 := by omega
            have hz2 : (((n : Int) + 1 + 1) + (j : Int) + (n : Int) + 2).toNat = n + 2 + j + n + 2 := by omega
            have hw1 : IntKind.i64.wrap (((n : Int) + 1 + 1) + (j : Int) + (n : Int)) = ((n : Int) + 1 + 1) + (j : Int) + (n : Int) := IntWalk.i64_in _ (by omega)
            have hw2 : IntKind.i64.wrap (((n : Int) + 1 + 1) + (j : Int) + (n : Int) + 2) = ((n : Int) + 1 + 1) + (j : Int) + (n : Int) + 2 := IntWalk.i64_in _ (by omega)
            go_region_with (go_at_call 16; refine (HREST.out _ L hS4).mono ?_; rintro e w6 ⟨rfl, fr6⟩)
            all_goals
              have FR6 := Lib.hid (Fr.new FR4.out.drew fr6 HOWN.out)
              go_wp2
              go_ret
              exact ⟨rfl, FR6.out⟩
    · have hs1i : (n : Int) + 1 < (U.size : Int) := by omega
      have hd0m : (0 : Int) ≤ (U[n + 1].toNat : Int) := by omega
      have hd1m : (U[n + 1].toNat : Int) ≤ 255 := by have := U[n + 1].toNat_lt; omega
      obtain ⟨e10, e10'⟩ := b_no h10
      clear h10
      rcases hres with ⟨hF, hok, htx⟩ | ⟨j, hF, hjl, hok, htx, hrs⟩
      · rw [hF] at hfind
        have HFI := Lib.hid (show ∀ wz : World, Calls Tryd.prog 21 #[.string U, .int .i64 ((n : Int) + 1), .int .i64 n] wz fun e w' => e = .returned (.int .i64 (-1)) ∧ wz = w' from hfind)
        clear hfind hF
        have hGe : (G.toList == (U.extract (n + 1) U.size).toList) = true := by
          rw [beq_iff_eq, ByteArray.toList_eq, ByteArray.toList_eq, hGd, htx, extract_end]
        have hsle : ((n : Int) + 1) ≤ (U.size : Int) := by omega
        clear htx hGd
        go_enter Tryd.func6, Tryd.ntmps6
        go_wp2_with (first | (go_at_call 9; refine (znew _ a _ he HS.out).mono ?_; rintro e w1 hN; obtain ⟨L, hLs, hown, rfl, hSc, fr⟩ := hN; refine Hid.out ?_) | go_in)
        refine Lib.hid ?_
        have HOWN := Lib.hid hown
        have FR0 := Lib.hid fr
        clear he hLs hown fr
        go_wp2_with (go_at_call 19; refine (HNX.out w1 L hSc).mono ?_; rintro e w2 ⟨rfl, hS2, fr2⟩; refine Hid.out ?_)
        refine Lib.hid ?_
        have FR2 := Lib.hid (Fr.new FR0.out fr2 HOWN.out)
        clear hSc fr2
        go_wp2_with (first | (go_at_call 20; refine (HZ3.out w2 L hS2 hok).mono ?_; rintro e w3 ⟨kx, rfl, hS3, fr3⟩) | (go_at_call 17; refine (HNORM.out w3).mono ?_; rintro e w4 ⟨rfl, fr4⟩; refine Hid.out ?_))
        refine Lib.hid ?_
        have FR4 := Lib.hid ((Fr.new FR2.out fr3 HOWN.out).trans fr4)
        clear hS2 hS3 fr3 fr4
        go_wp2
        go_loopg [8] n (fun g kv wr => ∃ k : Nat, n - k ≤ g ∧ kv = .int .i64 k ∧ k ≤ n ∧ k ≤ U.size ∧ wr = w4)
        case atStart => exact ⟨0, by omega, rfl, by omega, by omega, rfl⟩
        case round =>
          obtain ⟨k, hg, rfl, hkn, hkU, rfl⟩ := hrel
          have HG := Lib.hid hg
          have hkUi : (k : Int) ≤ (U.size : Int) := by omega
          clear hg
          by_cases hk : k < n
          · have hks : k < U.size := by omega
            have hksi : (k : Int) < (U.size : Int) := by omega
            have hd0 : (0 : Int) ≤ (U[k].toNat : Int) := by omega
            have hd1 : (U[k].toNat : Int) ≤ 255 := by have := U[k].toNat_lt; omega
            have e61k : ((U[k].toNat : Int) == 61) = true := HEQ.out k hk hks
            go_wp2
            go_roundg (n - (k + 1))
            case measure => have := HG.out; omega
            case rel => exact ⟨k + 1, Nat.le_refl _, by go_num, by omega, by omega, rfl⟩
          · obtain rfl : n = k := by omega
            clear hk HG
            go_wp2_with (go_at_call 21; refine (HFI.out _).mono ?_; rintro e w5 ⟨rfl, rfl⟩)
            go_ret
            exact ⟨rfl, FR4.out⟩
      · have hji : ((n : Int) + 1) + (j : Int) + (n : Int) + 2 ≤ (U.size : Int) := by omega
        have hfe : (((n + 1 + j : Nat) : Nat) : Int) = ((n : Int) + 1) + (j : Int) := by omega
        rw [hF, hfe] at hfind
        have HFI := Lib.hid (show ∀ wz : World, Calls Tryd.prog 21 #[.string U, .int .i64 ((n : Int) + 1), .int .i64 n] wz fun e w' => e = .returned (.int .i64 (((n : Int) + 1) + (j : Int))) ∧ wz = w' from hfind)
        clear hfind hF hfe
        have hGe : (G.toList == (U.extract (n + 1) (n + 1 + j)).toList) = true := by
          rw [beq_iff_eq, ByteArray.toList_eq, ByteArray.toList_eq, hGd, htx]
          simp
        obtain ⟨Q, hQ⟩ : ∃ Q : ByteArray, Q = ⟨(stream s2.rest).toArray⟩ := ⟨_, rfl⟩
        have hQe : (Q.toList == (U.extract (n + 1 + j + n + 2) U.size).toList) = true := by
          rw [beq_iff_eq, ByteArray.toList_eq, ByteArray.toList_eq, hQ, extract_end]
          exact hrs
        have hrest := fun (wz : World) (L : Loc) (hS : Sc wz L s2 none) => rest_any wz L s2 none s.size hS HRL.out HS.out
        rw [← hQ] at hrest
        have HREST := Lib.hid hrest
        clear htx hGd hrs hQ hrest
        go_enter Tryd.func6, Tryd.ntmps6
        go_wp2_with (first | (go_at_call 9; refine (znew _ a _ he HS.out).mono ?_; rintro e w1 hN; obtain ⟨L, hLs, hown, rfl, hSc, fr⟩ := hN; refine Hid.out ?_) | go_in)
        refine Lib.hid ?_
        have HOWN := Lib.hid hown
        have FR0 := Lib.hid fr
        clear he hLs hown fr
        go_wp2_with (go_at_call 19; refine (HNX.out w1 L hSc).mono ?_; rintro e w2 ⟨rfl, hS2, fr2⟩; refine Hid.out ?_)
        refine Lib.hid ?_
        have FR2 := Lib.hid (Fr.new FR0.out fr2 HOWN.out)
        clear hSc fr2
        go_wp2_with (first | (go_at_call 20; refine (HZ4.out w2 L hS2 hok).mono ?_; rintro e w3 ⟨rfl, hS3, fr3⟩) | (go_at_call 17; refine (HNORM.out w3).mono ?_; rintro e w4 ⟨rfl, fr4⟩; refine Hid.out ?_))
        refine Lib.hid ?_
        have FR4 := Lib.hid ((Fr.new FR2.out fr3 HOWN.out).trans fr4)
        have HS4 := Lib.hid (hS3.fr fr4)
        clear hS2 hS3 fr3 fr4
        go_wp2
        go_loopg [8] n (fun g kv wr => ∃ k : Nat, n - k ≤ g ∧ kv = .int .i64 k ∧ k ≤ n ∧ k ≤ U.size ∧ wr = w4)
        case atStart => exact ⟨0, by omega, rfl, by omega, by omega, rfl⟩
        case round =>
          obtain ⟨k, hg, rfl, hkn, hkU, rfl⟩ := hrel
          have HG := Lib.hid hg
          have hkUi : (k : Int) ≤ (U.size : Int) := by omega
          clear hg
          by_cases hk : k < n
          · have hks : k < U.size := by omega
            have hksi : (k : Int) < (U.size : Int) := by omega
            have hd0 : (0 : Int) ≤ (U[k].toNat : Int) := by omega
            have hd1 : (U[k].toNat : Int) ≤ 255 := by have := U[k].toNat_lt; omega
            have e61k : ((U[k].toNat : Int) == 61) = true := HEQ.out k hk hks
            go_wp2
            go_roundg (n - (k + 1))
            case measure => have := HG.out; omega
            case rel => exact ⟨k + 1, Nat.le_refl _, by go_num, by omega, by omega, rfl⟩
          · obtain rfl : n = k := by omega
            clear hk HG
            go_wp2_with (go_at_call 21; refine (HFI.out _).mono ?_; rintro e w5 ⟨rfl, rfl⟩)
            have hS4 := HS4.out.fr ((Fr.refl [] _).drew)
            have hz1 : (0 : Int) ≤ ((n : Int) + 1) + (j : Int) + (n : Int) + 2 := by omega
            have hz2 : (((n : Int) + 1) + (j : Int) + (n : Int) + 2).toNat = n + 1 + j + n + 2 := by omega
            have hw1 : IntKind.i64.wrap (((n : Int) + 1) + (j : Int) + (n : Int)) = ((n : Int) + 1) + (j : Int) + (n : Int) := IntWalk.i64_in _ (by omega)
            have hw2 : IntKind.i64.wrap (((n : Int) + 1) + (j : Int) + (n : Int) + 2) = ((n : Int) + 1) + (j : Int) + (n : Int) + 2 := IntWalk.i64_in _ (by omega)
            go_region_with (go_at_call 16; refine (HREST.out _ L hS4).mono ?_; rintro e w6 ⟨rfl, fr6⟩)
            all_goals
              have FR6 := Lib.hid (Fr.new FR4.out.drew fr6 HOWN.out)
              go_wp2
              go_ret
              exact ⟨rfl, FR6.out⟩
    · have hs1i : (U.size : Int) ≤ (n : Int) + 1 := by omega
      rcases hres with ⟨hF, hok, htx⟩ | ⟨j, hF, hjl, hok, htx, hrs⟩
      · rw [hF] at hfind
        have HFI := Lib.hid (show ∀ wz : World, Calls Tryd.prog 21 #[.string U, .int .i64 ((n : Int) + 1), .int .i64 n] wz fun e w' => e = .returned (.int .i64 (-1)) ∧ wz = w' from hfind)
        clear hfind hF
        have hGe : (G.toList == (U.extract (n + 1) U.size).toList) = true := by
          rw [beq_iff_eq, ByteArray.toList_eq, ByteArray.toList_eq, hGd, htx, extract_end]
        have hsle : ((n : Int) + 1) ≤ (U.size : Int) := by omega
        clear htx hGd
        go_enter Tryd.func6, Tryd.ntmps6
        go_wp2_with (first | (go_at_call 9; refine (znew _ a _ he HS.out).mono ?_; rintro e w1 hN; obtain ⟨L, hLs, hown, rfl, hSc, fr⟩ := hN; refine Hid.out ?_) | go_in)
        refine Lib.hid ?_
        have HOWN := Lib.hid hown
        have FR0 := Lib.hid fr
        clear he hLs hown fr
        go_wp2_with (go_at_call 19; refine (HNX.out w1 L hSc).mono ?_; rintro e w2 ⟨rfl, hS2, fr2⟩; refine Hid.out ?_)
        refine Lib.hid ?_
        have FR2 := Lib.hid (Fr.new FR0.out fr2 HOWN.out)
        clear hSc fr2
        go_wp2_with (first | (go_at_call 20; refine (HZ3.out w2 L hS2 hok).mono ?_; rintro e w3 ⟨kx, rfl, hS3, fr3⟩) | (go_at_call 17; refine (HNORM.out w3).mono ?_; rintro e w4 ⟨rfl, fr4⟩; refine Hid.out ?_))
        refine Lib.hid ?_
        have FR4 := Lib.hid ((Fr.new FR2.out fr3 HOWN.out).trans fr4)
        clear hS2 hS3 fr3 fr4
        go_wp2
        go_loopg [8] n (fun g kv wr => ∃ k : Nat, n - k ≤ g ∧ kv = .int .i64 k ∧ k ≤ n ∧ k ≤ U.size ∧ wr = w4)
        case atStart => exact ⟨0, by omega, rfl, by omega, by omega, rfl⟩
        case round =>
          obtain ⟨k, hg, rfl, hkn, hkU, rfl⟩ := hrel
          have HG := Lib.hid hg
          have hkUi : (k : Int) ≤ (U.size : Int) := by omega
          clear hg
          by_cases hk : k < n
          · have hks : k < U.size := by omega
            have hksi : (k : Int) < (U.size : Int) := by omega
            have hd0 : (0 : Int) ≤ (U[k].toNat : Int) := by omega
            have hd1 : (U[k].toNat : Int) ≤ 255 := by have := U[k].toNat_lt; omega
            have e61k : ((U[k].toNat : Int) == 61) = true := HEQ.out k hk hks
            go_wp2
            go_roundg (n - (k + 1))
            case measure => have := HG.out; omega
            case rel => exact ⟨k + 1, Nat.le_refl _, by go_num, by omega, by omega, rfl⟩
          · obtain rfl : n = k := by omega
            clear hk HG
            go_wp2_with (go_at_call 21; refine (HFI.out _).mono ?_; rintro e w5 ⟨rfl, rfl⟩)
            go_ret
            exact ⟨rfl, FR4.out⟩
      · exfalso; omega

theorem lm_walk (W : World) (a : Addr) (he : HasEof W a) (s : ByteArray) :
    Calls Tryd.prog 6 #[.string s] W fun e w' => e = .returned (.bool true) ∧ Below W.heap.size W w' := by
  by_cases h : s.size ≤ 1048576 ∧ s.size ≤ 65536
  · exact (lm_yes W a s he h).mono fun _ _ ⟨h1, h2⟩ => ⟨h1, h2.below (Nat.le_refl _) (by simp)⟩
  · exact (lm_no W s h).mono fun _ _ ⟨h1, h2⟩ => ⟨h1, h2 ▸ Below.refl _ _⟩
end Go.Proofs.YtoibhhbhohpljaaDoor
