/- scanMultilineString, walked. -/
import Derived.Test.YtgiklkapedlckaaGreatDoorWr
import Derived.Test.YtgiklkapedlckaaGreatDoorSep
import Derived.Test.YtgiklkapedlckaaGreatDoorErr
import Derived.Laws.Runes
import Derived.WalkMore
import Derived.ScopeJumps
import Derived.Deep.CutBlock
namespace Go.Proofs.YtgiklkapedlckaaGreatDoor
open Go.RowKit

/-- What an error result is. -/
def ErrIs (ok : Bool) (er : Value) : Prop := (ok = true ∧ er = .nilIface) ∨ (ok = false ∧ ∃ k : Nat, er = .iface 46 (.pointer (some ⟨k, 0, none⟩)))
def MultiIs (W0 : World) (L : Loc) (B b : Nat) (r : Bool × List UInt8 × St) (e : Ending) (w' : World) : Prop := ∃ er, e = .returned er ∧ ErrIs r.1 er ∧ At W0 L B b w' r.2.2 r.2.1

section
variable {W0 w : World} {L : Loc} {B b : Nat} {st : St} {l : List UInt8}
theorem countSep_at (h : At W0 L B b w st l) (c : Int) (hl : st.rest.length ≤ 1099511627776) : Calls Tryz.prog 43 #[.pointer (some ⟨L.S, 0, none⟩), .int .i64 c] w
      fun e w' => e = .returned (.tuple #[.int .i64 (sepL c st).1, .int .i64 (sepL c st).2.1]) ∧ At W0 L B b w' (sepL c st).2.2 l :=
  (countSep_any w L st c h.sc hl).mono fun _ _ ⟨he, hs, f⟩ => ⟨he, h.scan hs f⟩
theorem error_at (h : At W0 L B b w st l) (tok msg : ByteArray) : Calls Tryz.prog 21 #[.pointer (some ⟨L.S, 0, none⟩), .string tok, .string msg] w
      fun e w' => e = .returned (.pointer (some ⟨w.heap.size, 0, none⟩)) ∧ At W0 L B b w' st l :=
  (error_any w L st none tok msg h.sc).mono fun _ _ ⟨he, _, _, f, _⟩ => ⟨he, h.fr f⟩
end
/-- strings.Repeat of the equals sign. -/
theorem repeatX : Builder.Extra Tryz.prog Tryz.lays105_ren := { sizeBuilder := by kernel_rfl, liesBuilder := by kernel_rfl, t5 := Tryz.underlying5, a5 := Tryz.isAgg5, z5 := Tryz.sizeOf5, v5 := Tryz.zeroValue5, infoByte := by kernel_rfl, cellsByte := by kernel_rfl, sizeByte := by kernel_rfl, neB5 := by decide }
theorem repeat_eqs (w : World) (n : Nat) (hn : n ≤ 1099511627776) : Calls Tryz.prog 46 #[.string ⟨#[61]⟩, .int .i64 n] w
      fun e w' => e = .returned (.string ⟨(List.replicate n (61 : UInt8)).toArray⟩) ∧ Fr [] w w' := by
  have hr : Lib.repeatL [61] n = List.replicate n (61 : UInt8) := by
    induction n with
    | zero => rfl
    | succ n ih => rw [List.replicate_succ, Lib.repeatL, ih (by omega)]; rfl
  have h := Any.strings_Repeat Tryz.lays105 repeatX ⟨#[61]⟩ n w (by omega) (by show 1 * n ≤ _; omega)
  refine h.mono fun e w' ⟨he, hb⟩ => ⟨?_, Fr.of_below hb⟩
  rw [he]; show Ending.returned (.string ⟨(Lib.repeatL [61] n).toArray⟩) = _; rw [hr]

set_option maxRecDepth 100000 in
set_option maxHeartbeats 3200000 in
/-- The opening is no long bracket's. -/
theorem multi_no {W0 w : World} {L : Loc} {B b : Nat} {st : St} (h : At W0 L B b w st []) (c : Int) (hl : st.rest.length ≤ 1099511627776) (hop : (sepL c st).2.1 ≠ 91) :
    Calls Tryz.prog 20 #[.pointer (some ⟨L.S, 0, none⟩), .int .i64 c, .pointer (some ⟨b, 0, none⟩)] w (MultiIs W0 L B b (long c st)) := by
  have HR := Lib.hid (show long c st = (false, [], (sepL c st).2.2) from if_neg hop)
  rw [HR.out]
  have hcs := countSep_at h c hl
  generalize sepL c st = r at hop hcs ⊢
  clear HR
  obtain ⟨n, c1, s1⟩ := r
  have hb : (c1 != 91) = true := by rw [bne_iff_ne]; exact hop
  clear hop
  go_enter Tryz.func20, Tryz.ntmps20
  go_wp2
  go_step3
  go_wp2_with (first | (go_at_call 43; refine hcs.mono ?_; rintro e w1 ⟨rfl, h1⟩; refine Hid.out ?_))
  refine Lib.hid ?_
  clear hcs h
  go_wp2_with (go_at_call 21; refine (error_at h1 _ _).mono ?_; rintro e w2 ⟨rfl, h2⟩; refine Hid.out ?_)
  refine Lib.hid ?_
  go_wp2
  rw [Exit.noGoto_ret]
  go_ret
  exact ⟨_, rfl, Or.inr ⟨rfl, _, rfl⟩, h2⟩

/-- What stands at the label behind the loop. -/
def AtEnd (W0 : World) (L : Loc) (B b : Nat) (r : Bool × List UInt8 × St) (a : Act) (w : World) : Prop :=
  ∃ u0 u1 u2 u3 u4 u5 u6 u7 u8 u9 u10 u11 u12 u13 u14 u15 u16 u17 u18 u19 u20 u21 u22 u23 u24 u25 u26 u27 u28 u29 u30 u31 u32 u33 u34 u35 u36 u37 u38 u39 u40 u41 u42 u43 u44 u45 u46 u47 u48 u49 u50 u51 u52 u53 u54 u55 u56 u57 u58 u59 u60 u61 u62 u63 u64 u65 u66 : Value, a = { tmps := #[u0, u1, u2, u3, u4, u5, u6, u7, u8, u9, u10, u11, u12, u13, u14, u15, u16, u17, u18, u19, u20, u21, u22, u23, u24, u25, u26, u27, u28, u29, u30, u31, u32, u33, u34, u35, u36, u37, u38, u39, u40, u41, u42, u43, u44, u45, u46, u47, u48, u49, u50, u51, u52, u53, u54, u55, u56, u57, u58, u59, u60, u61, u62, u63, u64, u65, u66], defers := [] } ∧ r.1 = true ∧ At W0 L B b w r.2.2 r.2.1

set_option maxRecDepth 100000 in
set_option maxHeartbeats 6400000 in
theorem multi_yes {W0 w : World} {L : Loc} {B b : Nat} {st : St} (h : At W0 L B b w st []) (c : Int) (hl : st.rest.length ≤ 1099511627776) (hop : (sepL c st).2.1 = 91) :
    Calls Tryz.prog 20 #[.pointer (some ⟨L.S, 0, none⟩), .int .i64 c, .pointer (some ⟨b, 0, none⟩)] w (MultiIs W0 L B b (long c st)) := by
  have HR := Lib.hid (show long c st = longL (sepL c st).1 (longB (sepL c st).2.2).1 (longB (sepL c st).2.2).2 [] from if_pos hop)
  have hsl := sepL_rest c st
  have hcs := countSep_at h c hl
  have hsm := sepL_mu c st
  have hml := mu_le c st
  generalize sepL c st = r at hop hcs HR hsl hsm
  obtain ⟨k, c1, s1⟩ := r
  obtain rfl : c1 = 91 := hop
  simp only at hsl hcs HR hsm
  have hk : (k : Int) ≤ 1099511627777 := by omega
  have hs1 : s1.rest.length ≤ 1099511627776 := by omega
  generalize long c st = R at HR ⊢
  clear hsm hml hsl
  go_enter Tryz.func20, Tryz.ntmps20
  go_wp2
  refine wp_scope_jumps 0 (AtEnd W0 L B b R) (fun _ _ => 0) rfl ?_ ?_
  · go_wp2_with (first | (go_at_call 43; refine hcs.mono ?_; rintro e w1 ⟨rfl, h1⟩; refine Hid.out ?_))
    refine Lib.hid ?_
    clear hcs h
    have hn13 : (s1.nextC == 13) = false := by rw [beq_eq_false_iff_ne]; exact s1.nextC_cr
    obtain ⟨bb, hbb⟩ : ∃ bb, bb = (s1.nextC == 10) := ⟨_, rfl⟩
    have HB0 := Lib.hid hbb
    clear hbb
    go_upto_region 6 with (go_at_call 18; refine (next_at h1).mono ?_; rintro e w2 ⟨rfl, h2⟩)
    clear h1
    go_cut [30] (fun t wx => t = .bool bb ∧ At W0 L B b wx s1.nextS [])
    case first =>
      cases hv : bb
      · have hb1 : (s1.nextC == 10) = false := HB0.out.symm.trans hv
        have HV := Lib.hid hv
        clear hv
        go_wp2
        go_meet
        exact ⟨congrArg Value.bool HV.out.symm, h2⟩
      · have hb1 : (s1.nextC == 10) = true := HB0.out.symm.trans hv
        have HV := Lib.hid hv
        clear hv
        go_wp2
        go_meet
        exact ⟨congrArg Value.bool HV.out.symm, h2⟩
    case rest =>
      clear h2 hn13
      obtain ⟨rfl, h2⟩ := hcut
      go_upto_if 30 with fail
      go_cut [1] (fun c0 wx => c0 = .int .i64 (longB s1).1 ∧ At W0 L B b wx (longB s1).2 [])
      case first =>
        cases hv : bb
        · have HB := Lib.hid (show longB s1 = (s1.nextC, s1.nextS) from if_neg (by have := HB0.out.symm.trans hv; rw [beq_eq_false_iff_ne] at this; intro h; rcases h with h | h; exact this h; exact s1.nextC_cr h))
          clear hv
          go_wp2
          go_meet
          rw [HB.out]
          exact ⟨rfl, h2⟩
        · have HB := Lib.hid (show longB s1 = (s1.nextS.nextC, s1.nextS.nextS) from if_pos (Or.inl (by have := HB0.out.symm.trans hv; rwa [beq_iff_eq] at this)))
          clear hv
          go_wp2_with (go_at_call 18; refine (next_at h2).mono ?_; rintro e w3 ⟨rfl, h3⟩)
          go_meet
          rw [HB.out]
          exact ⟨rfl, h3⟩
      case rest =>
        obtain ⟨rfl, hx⟩ := hcut
        clear h2
        have hb2 : (longB s1).2.rest.length ≤ 1099511627776 := by
          have h5 := rest_next_le s1
          have h6 := rest_next_le s1.nextS
          unfold longB; split <;> simp only <;> omega
        generalize longB s1 = z at hx HR hb2
        obtain ⟨c0, s0⟩ := z
        simp only at hx HR hb2 ⊢
        have hmu := mu_le c0 s0
        go_wp2
        go_loopg [1, 8] (mu c0 s0) (fun n ch c2 wr => ∃ (c' : Int) (sp : St) (acc : List UInt8) (k2 : Int), mu c' sp ≤ n ∧ acc.length + mu c' sp ≤ 1099511627777 ∧ sp.rest.length ≤ 1099511627776 ∧ ch = .int .i64 c' ∧ c2 = .int .i64 k2 ∧ At W0 L B b wr sp acc ∧ R = longL k c' sp acc)
        case atStart => exact ⟨c0, s0, [], 0, Nat.le_refl _, by simp; omega, hb2, rfl, rfl, hx, HR.out⟩
        case round =>
          clear hx HR hmu hb2 hs1
          obtain ⟨c', sp, acc, k2, hn, hacc, hsp, rfl, rfl, hS, hR⟩ := hrel
          have HRR := Lib.hid hR
          clear hR
          by_cases hneg : c' < 0
          · have HE := Lib.hid (HRR.out.trans (longL_end hneg))
            clear HRR hn hacc hsp
            go_wp2_with (first | (go_at_call 12; refine (bufString_at hS).mono ?_; rintro e w3 ⟨rfl, nq, rfl⟩) | (go_at_call 21; refine (error_at (hS.drewN _) _ _).mono ?_; rintro e w4 ⟨rfl, h4⟩; refine Hid.out ?_))
            refine Lib.hid ?_
            go_wp2
            simp only [Exit.jump]
            go_ret
            rw [HE.out]
            exact ⟨_, rfl, Or.inr ⟨rfl, _, rfl⟩, h4⟩
          · by_cases h93 : c' = 93
            · subst h93
              have hcs2 := fun (wz : World) (hz : At W0 L B b wz sp.nextS acc) => countSep_at hz sp.nextC (Nat.le_trans (rest_next_le sp) hsp)
              have hml := mu_next (c := 93) (st := sp) (by decide)
              have hsm := sepL_mu sp.nextC sp.nextS
              have hsr := Nat.le_trans (sepL_rest sp.nextC sp.nextS) (rest_next_le sp)
              have hcl : ∀ n', (sepL sp.nextC sp.nextS) = n' → Hid ((n'.1 = k ∧ n'.2.1 = 93 → R = (true, acc, n'.2.2)) ∧ (¬ (n'.1 = k ∧ n'.2.1 = 93) → R = longL k n'.2.1 n'.2.2 (acc ++ 93 :: List.replicate n'.1 61))) := by
                intro n' e
                refine ⟨fun hh => ?_, fun hh => ?_⟩
                · rw [← e] at hh ⊢; exact HRR.out.trans (longL_close hh.1 hh.2)
                · rw [← e] at hh ⊢; exact HRR.out.trans (longL_sep hh)
              have HCL := hcl _ rfl
              clear hcl HRR
              generalize hgr : sepL sp.nextC sp.nextS = q at hcs2 hsm hsr HCL
              clear hgr
              obtain ⟨m, c2, s2⟩ := q
              simp only at hcs2 hsm hsr HCL
              have hm : (m : Int) ≤ 1099511627777 := by omega
              have HM := Lib.hid (show mu c2 s2 < mu 93 sp ∧ acc.length + (1 + m) + mu c2 s2 ≤ 1099511627777 ∧ s2.rest.length ≤ 1099511627776 by omega)
              have HN := Lib.hid hn
              have HL1 := Lib.hid (show acc.length + 1 ≤ 140737488355328 by omega)
              have HL2 := Lib.hid (show (acc ++ [93]).length + (⟨(List.replicate m (61 : UInt8)).toArray⟩ : ByteArray).size ≤ 140737488355328 by show (acc ++ [93]).length + (List.replicate m (61 : UInt8)).toArray.size ≤ _; simp; omega)
              have HL3 := Lib.hid (show m ≤ 1099511627776 by have := mu_next_le sp; omega)
              clear hn hacc hsp hml hsm hsr hneg
              go_wp2_with (first | (go_at_call 18; refine (next_at hS).mono ?_; rintro e w3 ⟨rfl, h3⟩) | (go_at_call 43; refine (hcs2 _ h3).mono ?_; rintro e w4 ⟨rfl, h4⟩; refine Hid.out ?_))
              refine Lib.hid ?_
              clear hcs2 hS h3
              by_cases hk2 : (k : Int) = m ∧ c2 = 93
              · obtain ⟨g1, g2⟩ := hk2
                have HE := Lib.hid (HCL.out.1 ⟨by omega, g2⟩)
                have e1 : ((k : Int) == (m : Int)) = true := by rw [beq_iff_eq]; exact g1
                have e2 : (c2 == 93) = true := by rw [beq_iff_eq]; exact g2
                clear g1 g2 HCL
                go_wp2
                go_step3
                refine ⟨rfl, _, _, _, _, _, _, _, _, _, _, _, _, _, _, _, _, _, _, _, _, _, _, _, _, _, _, _, _, _, _, _, _, _, _, _, _, _, _, _, _, _, _, _, _, _, _, _, _, _, _, _, _, _, _, _, _, _, _, _, _, _, _, _, _, _, _, _, rfl, ?_, ?_⟩
                · rw [HE.out]
                · rw [HE.out]; exact h4
              · have HE := Lib.hid (HCL.out.2 (by rintro ⟨g1, g2⟩; exact hk2 ⟨by omega, g2⟩))
                have hd : (((k : Int) == (m : Int)) = true ∧ (c2 == 93) = false) ∨ ((k : Int) == (m : Int)) = false := by
                  by_cases g1 : (k : Int) = m
                  · left
                    refine ⟨by rw [beq_iff_eq]; exact g1, by rw [beq_eq_false_iff_ne]; intro g2; exact hk2 ⟨g1, g2⟩⟩
                  · right; rw [beq_eq_false_iff_ne]; exact g1
                clear hk2 HCL
                rcases hd with ⟨e1, e2⟩ | e1
                all_goals
                  go_wp2_with (first | (go_at_call 44; refine (writeByte_at h4 93 HL1.out).mono ?_; rintro e w5 ⟨rfl, h5⟩) | (go_at_call 46; refine (repeat_eqs _ m HL3.out).mono ?_; rintro e w6 ⟨rfl, f6⟩) | (go_at_call 45; refine (writeString_at (h5.fr f6) _ HL2.out).mono ?_; rintro e w7 ⟨rfl, h7⟩; refine Hid.out ?_))
                  refine Lib.hid ?_
                  have H7 := Lib.hid h7
                  clear h4 h5 f6 h7
                  go_wp2
                  go_roundg (mu c2 s2)
                  case measure => exact Nat.lt_of_lt_of_le HM.out.1 HN.out
                  case rel => exact ⟨c2, s2, acc ++ 93 :: List.replicate m 61, m, Nat.le_refl _, by have := HM.out; simp; omega, HM.out.2.2, rfl, rfl, by simpa using H7.out, HE.out⟩
            · have e1 : (c' == 93) = false := by rw [beq_eq_false_iff_ne]; exact h93
              have HE := Lib.hid (HRR.out.trans (longL_byte (by omega) h93))
              have hml := mu_next (c := c') (st := sp) (by omega)
              have HN := Lib.hid hn
              have HM := Lib.hid (show mu sp.nextC sp.nextS < mu c' sp ∧ acc.length + 1 + mu sp.nextC sp.nextS ≤ 1099511627777 ∧ sp.nextS.rest.length ≤ 1099511627776 by have := rest_next_le sp; omega)
              have HL1 := Lib.hid (show acc.length + 1 ≤ 140737488355328 by omega)
              have hpos : 0 ≤ c' := by omega
              clear h93 HRR hn hacc hsp hml hneg
              go_wp2_with (first | (go_at_call 22; refine (writeChar_at hS c' HL1.out).mono ?_; rintro e w3 ⟨rfl, h3⟩) | (go_at_call 18; refine (next_at h3).mono ?_; rintro e w4 ⟨rfl, h4⟩; refine Hid.out ?_))
              refine Lib.hid ?_
              have H4 := Lib.hid h4
              clear hS h3 h4
              go_wp2
              go_roundg (mu sp.nextC sp.nextS)
              case measure => exact Nat.lt_of_lt_of_le HM.out.1 HN.out
              case rel => exact ⟨sp.nextC, sp.nextS, acc ++ [by8 c'], k2, Nat.le_refl _, by have := HM.out; simp; omega, HM.out.2.2, rfl, rfl, H4.out, HE.out⟩
  · rintro a' w' ⟨u0, u1, u2, u3, u4, u5, u6, u7, u8, u9, u10, u11, u12, u13, u14, u15, u16, u17, u18, u19, u20, u21, u22, u23, u24, u25, u26, u27, u28, u29, u30, u31, u32, u33, u34, u35, u36, u37, u38, u39, u40, u41, u42, u43, u44, u45, u46, u47, u48, u49, u50, u51, u52, u53, u54, u55, u56, u57, u58, u59, u60, u61, u62, u63, u64, u65, u66, rfl, hr, hat⟩
    have HA := Lib.hid hat
    have HR2 := Lib.hid hr
    clear hat hr HR hcs h hs1 hk hl
    go_wp2
    simp only [Exit.jump]
    go_ret
    exact ⟨_, rfl, Or.inl ⟨HR2.out, rfl⟩, HA.out⟩

theorem multi_at {W0 w : World} {L : Loc} {B b : Nat} {st : St} (h : At W0 L B b w st []) (c : Int) (hl : st.rest.length ≤ 1099511627776) :
    Calls Tryz.prog 20 #[.pointer (some ⟨L.S, 0, none⟩), .int .i64 c, .pointer (some ⟨b, 0, none⟩)] w (MultiIs W0 L B b (long c st)) := by
  by_cases hop : (sepL c st).2.1 = 91
  · exact multi_yes h c hl hop
  · exact multi_no h c hl hop
end Go.Proofs.YtgiklkapedlckaaGreatDoor
