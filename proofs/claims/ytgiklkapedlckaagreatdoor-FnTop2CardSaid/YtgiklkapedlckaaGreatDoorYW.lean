/- The reference scanner's scan, walked: words, numbers, strings, comments. The reference scanner's scan, walked: the way to the token. The reference scanner's scan, walked: whole. The law FnTop2, walked. -/
import Derived.Test.YtgiklkapedlckaaGreatDoorYQ
import Derived.Deep.LoopGhost
import Derived.Test.YtgiklkapedlckaaGreatDoorSwB
import Derived.Test.YtgiklkapedlckaaGreatDoorNew
import Derived.Test.YtgiklkapedlckaaGreatDoorUse
import Derived.Test.YtgiklkapedlckaaGreatDoorOpen
namespace Go.Proofs.YtgiklkapedlckaaGreatDoor
open Go.RowKit

set_option maxRecDepth 1000000 in
set_option maxHeartbeats 16000000 in
theorem yi_ident {W0 w : World} {R M rb tb : Nat} {sv : Value} {all : List UInt8} {st : St} {prev line col : Int} {nl pn : Bool} {Q : Exit → Act → World → Prop} {c : Int} (h : Yk W0 R M sv all rb tb w st 0 ⟨#[]⟩ line col pn) (HI : Hid (identS c = true))
    (hQ : ∀ a w, YRet W0 R M sv all rb line col pn (identK c st) a w → Q .ret a w) (u2 u3 u5 u9 u10 u11 u12 u13 u14 u15 u16 u17 u18 u19 u20 u21 u22 u23 u24 u25 u26 u27 u28 u29 u30 u31 u32 u33 u34 u35 u36 u37 u38 u39 u40 u41 u42 u43 u44 u45 u46 u47 u48 u49 u50 u51 u52 u53 u54 u55 u56 u57 u58 u59 u60 u61 u62 u63 u64 u65 u66 u67 u68 u69 u70 u71 u72 u73 u74 u75 u76 u77 u78 u79 u80 u81 u82 u83 u84 u85 u86 u87 u88 u89 u90 u91 u92 u93 u94 u95 u96 u97 u98 u99 u100 u101 u102 u103 u104 u105 u106 u107 u108 u109 u110 u111 u112 u113 u114 u115 u116 u117 u118 u119 u120 u121 u122 u123 u124 u125 u126 u127 u128 u129 u130 u131 u132 u133 u134 u135 u136 u137 u138 u139 u140 u141 u142 u143 u144 u145 u146 u147 u148 u149 u150 u151 u152 u153 u154 u155 u156 u157 u158 u159 u160 u161 u162 u163 u164 u165 u166 u167 u168 u169 u170 u171 u172 u173 u174 u175 u176 u177 u178 u179 u180 u181 u182 u183 u184 u185 u186 u187 u188 u189 u190 u191 u192 u193 u194 u195 u196 u197 u198 u199 u200 u201 u202 u203 u204 u205 u206 u207 u208 u209 u210 u211 u212 u213 u214 u215 u216 u217 u218 u219 u220 u221 u222 u223 u224 u225 u226 u227 : Value) : Code.wp Tryz.prog yM Q ⟨#[Value.pointer (some ⟨R, 0, none⟩), Value.int .i64 prev, u2, u3, Value.pointer (some ⟨rb, 0, none⟩), u5, Value.bool nl, Value.int .i64 c, Value.pointer (some ⟨tb, 0, none⟩), u9, u10, u11, u12, u13, u14, u15, u16, u17, u18, u19, u20, u21, u22, u23, u24, u25, u26, u27, u28, u29, u30, u31, u32, u33, u34, u35, u36, u37, u38, u39, u40, u41, u42, u43, u44, u45, u46, u47, u48, u49, u50, u51, u52, u53, u54, u55, u56, u57, u58, u59, u60, u61, u62, u63, u64, u65, u66, u67, u68, u69, u70, u71, u72, u73, u74, u75, u76, u77, u78, u79, u80, u81, u82, u83, u84, u85, u86, u87, u88, u89, u90, u91, u92, u93, u94, u95, u96, u97, u98, u99, u100, u101, u102, u103, u104, u105, u106, u107, u108, u109, u110, u111, u112, u113, u114, u115, u116, u117, u118, u119, u120, u121, u122, u123, u124, u125, u126, u127, u128, u129, u130, u131, u132, u133, u134, u135, u136, u137, u138, u139, u140, u141, u142, u143, u144, u145, u146, u147, u148, u149, u150, u151, u152, u153, u154, u155, u156, u157, u158, u159, u160, u161, u162, u163, u164, u165, u166, u167, u168, u169, u170, u171, u172, u173, u174, u175, u176, u177, u178, u179, u180, u181, u182, u183, u184, u185, u186, u187, u188, u189, u190, u191, u192, u193, u194, u195, u196, u197, u198, u199, u200, u201, u202, u203, u204, u205, u206, u207, u208, u209, u210, u211, u212, u213, u214, u215, u216, u217, u218, u219, u220, u221, u222, u223, u224, u225, u226, u227], []⟩ w := by
  conv => arg 2; whnf
  go_upto_block 2 with (go_at_call 25; refine (rstart_true _ _ HI.out).mono ?_; rintro e w' ⟨rfl, rfl⟩)
  have hb0 := Bs.one w (c % 256) (by8 c) (by rw [by8_toNat])
  have H0 := Lib.hid (And.intro (h.still ((Fr.refl _ w).alloc (.cells #[.int .u8 (c % 256)] 5))) hb0)
  obtain ⟨B, hB⟩ : ∃ B, B = w.heap.size := ⟨_, rfl⟩
  have HB := Lib.hid (show tb < B by rw [hB]; exact h.hT.lt)
  have HSZ := Lib.hid (show B ≤ (w.alloc (.cells #[.int .u8 (c % 256)] 5)).heap.size by rw [hB, size_alloc]; omega)
  have HST := Lib.hid h.rf.bd.2
  rw [← hB] at H0 ⊢
  clear h hb0 hB
  go_wp2
  go_loopg [9] st.rest.length (fun n sw wr => ∃ (sp : St) (ds : List UInt8), sp.rest.length ≤ n ∧ Yk W0 R M sv all rb tb wr sp 0 ⟨#[]⟩ line col pn ∧ Bs wr B sw (by8 c :: ds) ∧ B ≤ wr.heap.size ∧ ds ++ sp.run identI = st.run identI ∧ sp.adv identI = st.adv identI ∧ ds.length + sp.rest.length ≤ st.rest.length)
  case atStart => exact ⟨st, [], Nat.le_refl _, H0.out.1, H0.out.2, HSZ.out, rfl, rfl, by simp⟩
  case round =>
    clear H0
    obtain ⟨sp, ds, hg, hz, hb, hle, h1, h2, h3⟩ := hrel
    have HLE0 := Lib.hid hle
    have hlim := hz.rf.bd.2
    have HLM := Lib.hid (show (by8 c :: ds).length + 1 ≤ 140737488355328 by have := HST.out; simp; omega)
    have HG := Lib.hid hg
    have hRB : R < B := by have := hz.rn; have := hz.rt; have := hz.lR; have := HB.out; omega
    have HRB := Lib.hid hRB
    clear hlim hg hle hRB
    cases hp : identI (hd sp.rest)
    · have hds : st.run identI = ds := by rw [← h1, run_no hp, List.append_nil]
      have hsp : st.adv identI = sp := by rw [← h2, adv_no hp]
      have HP := Lib.hid hp
      have HDS := Lib.hid (And.intro hds hsp)
      clear hp h1 h2 h3 hds hsp
      go_wp2_with (go_at_call 27; refine (peek_rf _ R M sv all _ hz.rf).mono ?_; rintro e w1 ⟨rfl, fx⟩; refine Hid.out ?_)
      refine Lib.hid ?_
      have hz1 := hz.still fx
      have hb1 := hb.fr fx (by simp)
      clear hz hb fx
      obtain ⟨S, hS⟩ : ∃ S : ByteArray, S = ⟨(by8 c :: ds).toArray⟩ := ⟨_, rfl⟩
      have htx := hb1.text
      rw [← hS] at htx
      have HKW := Lib.hid (show ∀ wz : World, Calls Tryz.prog 29 #[.string S] wz fun e w' => e = .returned (.int .i64 (kw (by8 c :: ds))) ∧ wz = w' from fun wz => by rw [hS]; exact kw_any wz _)
      obtain ⟨K, hK⟩ : ∃ K, K = kw (by8 c :: ds) := ⟨_, rfl⟩
      rw [← hK] at HKW
      have HS := Lib.hid (And.intro hS hK)
      clear hS hK
      obtain ⟨t0, t1, t2, t3, t4, f0, f1⟩ := hz1.facts
      go_upto_region 12 with (go_at_call 26; refine (rcont_false _ _ HP.out).mono ?_; rintro e w' ⟨rfl, rfl⟩)
      have g1 := hz1.setStr S
      clear t0 t1 t2 t3 t4 f0 f1 htx hb1 hz1
      generalize w1.setCell ⟨tb, 1, none⟩ (.string S) = w3 at g1 ⊢
      obtain ⟨t0, t1, t2, t3, t4, f0, f1⟩ := g1.facts
      go_upto_region 13 with (go_at_call 29; refine (HKW.out _).mono ?_; rintro e w' ⟨rfl, rfl⟩)
      have g2 := g1.setTyp K
      clear t0 t1 t2 t3 t4 f0 f1 g1
      generalize w3.setCell ⟨tb, 0, none⟩ (.int .i64 K) = w4 at g2 ⊢
      obtain ⟨t0, t1, t2, t3, t4, f0, f1⟩ := g2.facts
      obtain ⟨⟨r0, r1, r2, r3, r4⟩, q0, q1, q2, q3, q4⟩ := g2.rfacts
      have HY := Lib.hid (show K = (identK c st).2.1 ∧ S = ⟨(identK c st).2.2.1.toArray⟩ ∧ sp = (identK c st).2.2.2 from by
        show K = kw (by8 c :: st.run identI) ∧ S = ⟨(by8 c :: st.run identI).toArray⟩ ∧ sp = st.adv identI
        rw [HDS.out.1, HDS.out.2]; exact ⟨HS.out.2, HS.out.1, rfl⟩)
      go_wp2
      first | exact hQ _ _ (YRet.intro g2.fin rfl (fun _ => HY.out)) | exact (YRet.intro g2.fin rfl (fun _ => HY.out))
    · obtain ⟨x, n1, n2, n3, n4⟩ := cls_step cls_ident hp
      have HP := Lib.hid hp
      have HXX := Lib.hid (show sp.nextC % 256 = (x.toNat : Int) by rw [n1]; have := x.toNat_lt; omega)
      have HN := Lib.hid (And.intro (show (ds ++ [x]) ++ sp.nextS.run identI = st.run identI by rw [← h1, n2, List.append_assoc]; rfl) (And.intro (n3.symm.trans h2) (And.intro n4 (show (ds ++ [x]).length + sp.nextS.rest.length ≤ st.rest.length by rw [List.length_append]; simp only [List.length_cons, List.length_nil]; omega))))
      clear hp h1 h2 h3 n1 n2 n3 n4
      go_wp2_with (go_at_call 27; refine (peek_rf _ R M sv all _ hz.rf).mono ?_; rintro e w1 ⟨rfl, fx⟩; refine Hid.out ?_)
      refine Lib.hid ?_
      have hz1 := hz.still fx
      have hb1 := hb.fr fx (by simp)
      have HLE1 := Lib.hid (Nat.le_trans HLE0.out fx.size)
      clear hz hb fx
      go_wp2_with (first | (go_at_call 26; refine (rcont_true _ _ HP.out).mono ?_; rintro e w' ⟨rfl, rfl⟩) | (go_at_call 28; refine (next_rf _ R M sv all _ hz1.rf).mono ?_; rintro e w2 ⟨rfl, rx, fx⟩; refine Hid.out ?_))
      refine Lib.hid ?_
      have hz2 := hz1.step rx fx
      have hb2 := hb1.fr fx (by simpa using HRB.out)
      have HLE := Nat.le_trans HLE1.out fx.size
      clear hz1 hb1 rx fx
      go_wp2_with (at_builtin; refine wpList_app1 rfl (.tmp 52) (.tmp 56) rfl _ B _ (by8 c :: ds) _ x rfl rfl hb2 HXX HLE HLM ?_; intro v9 w9 hb9 hl9; refine Hid.out ?_)
      refine Lib.hid ?_
      have H9 := Lib.hid (And.intro (hz2.low HB.out hl9) (And.intro hb9 (Nat.le_trans HLE hl9.size)))
      clear hz2 hb2 HLE hb9 hl9
      go_wp2
      go_roundg sp.nextS.rest.length
      case measure => have h8 := HN.out.2.2.1; have h9 := HG.out; omega
      case rel => exact ⟨sp.nextS, ds ++ [x], Nat.le_refl _, H9.out.1, H9.out.2.1, H9.out.2.2, HN.out.1, HN.out.2.1, HN.out.2.2.2⟩


set_option maxRecDepth 1000000 in
set_option maxHeartbeats 16000000 in
theorem yn_num {W0 w : World} {R M rb tb : Nat} {sv : Value} {all : List UInt8} {st : St} {prev line col : Int} {nl pn : Bool} {Q : Exit → Act → World → Prop} {c : Int} (h : Yk W0 R M sv all rb tb w st 0 ⟨#[]⟩ line col pn) (HI : Hid (identS c = false)) (HD : Hid (decI c = true))
    (hQ : ∀ a w, YRet W0 R M sv all rb line col pn (numK c st) a w → Q .ret a w) (u2 u3 u5 u9 u10 u11 u12 u13 u14 u15 u16 u17 u18 u19 u20 u21 u22 u23 u24 u25 u26 u27 u28 u29 u30 u31 u32 u33 u34 u35 u36 u37 u38 u39 u40 u41 u42 u43 u44 u45 u46 u47 u48 u49 u50 u51 u52 u53 u54 u55 u56 u57 u58 u59 u60 u61 u62 u63 u64 u65 u66 u67 u68 u69 u70 u71 u72 u73 u74 u75 u76 u77 u78 u79 u80 u81 u82 u83 u84 u85 u86 u87 u88 u89 u90 u91 u92 u93 u94 u95 u96 u97 u98 u99 u100 u101 u102 u103 u104 u105 u106 u107 u108 u109 u110 u111 u112 u113 u114 u115 u116 u117 u118 u119 u120 u121 u122 u123 u124 u125 u126 u127 u128 u129 u130 u131 u132 u133 u134 u135 u136 u137 u138 u139 u140 u141 u142 u143 u144 u145 u146 u147 u148 u149 u150 u151 u152 u153 u154 u155 u156 u157 u158 u159 u160 u161 u162 u163 u164 u165 u166 u167 u168 u169 u170 u171 u172 u173 u174 u175 u176 u177 u178 u179 u180 u181 u182 u183 u184 u185 u186 u187 u188 u189 u190 u191 u192 u193 u194 u195 u196 u197 u198 u199 u200 u201 u202 u203 u204 u205 u206 u207 u208 u209 u210 u211 u212 u213 u214 u215 u216 u217 u218 u219 u220 u221 u222 u223 u224 u225 u226 u227 : Value) : Code.wp Tryz.prog yM Q ⟨#[Value.pointer (some ⟨R, 0, none⟩), Value.int .i64 prev, u2, u3, Value.pointer (some ⟨rb, 0, none⟩), u5, Value.bool nl, Value.int .i64 c, Value.pointer (some ⟨tb, 0, none⟩), u9, u10, u11, u12, u13, u14, u15, u16, u17, u18, u19, u20, u21, u22, u23, u24, u25, u26, u27, u28, u29, u30, u31, u32, u33, u34, u35, u36, u37, u38, u39, u40, u41, u42, u43, u44, u45, u46, u47, u48, u49, u50, u51, u52, u53, u54, u55, u56, u57, u58, u59, u60, u61, u62, u63, u64, u65, u66, u67, u68, u69, u70, u71, u72, u73, u74, u75, u76, u77, u78, u79, u80, u81, u82, u83, u84, u85, u86, u87, u88, u89, u90, u91, u92, u93, u94, u95, u96, u97, u98, u99, u100, u101, u102, u103, u104, u105, u106, u107, u108, u109, u110, u111, u112, u113, u114, u115, u116, u117, u118, u119, u120, u121, u122, u123, u124, u125, u126, u127, u128, u129, u130, u131, u132, u133, u134, u135, u136, u137, u138, u139, u140, u141, u142, u143, u144, u145, u146, u147, u148, u149, u150, u151, u152, u153, u154, u155, u156, u157, u158, u159, u160, u161, u162, u163, u164, u165, u166, u167, u168, u169, u170, u171, u172, u173, u174, u175, u176, u177, u178, u179, u180, u181, u182, u183, u184, u185, u186, u187, u188, u189, u190, u191, u192, u193, u194, u195, u196, u197, u198, u199, u200, u201, u202, u203, u204, u205, u206, u207, u208, u209, u210, u211, u212, u213, u214, u215, u216, u217, u218, u219, u220, u221, u222, u223, u224, u225, u226, u227], []⟩ w := by
  conv => arg 2; whnf
  obtain ⟨wz, hwz⟩ : ∃ wz, wz = w := ⟨_, rfl⟩
  subst hwz
  have hz := h
  clear h
  have hcl := rnumber wz R M sv all st c hz.rf
  have HCL := Lib.hid hcl
  have HZ := Lib.hid (And.intro hz hz.ne)
  clear hcl
  go_wp2_with (first | (go_at_call 25; refine (rstart_false _ _ HI.out).mono ?_; rintro e w' ⟨rfl, rfl⟩) | (go_at_call 30; refine (rdec_true _ _ HD.out).mono ?_; rintro e w' ⟨rfl, rfl⟩) | (go_at_call 31; refine (HCL.out).mono ?_; rintro e w9 ⟨v9, rfl, ho⟩; obtain ⟨s9, hs9⟩ : ∃ s9, s9 = (num c st).2.2 := ⟨_, rfl⟩; obtain ⟨l9, hl9⟩ : ∃ l9, l9 = (num c st).2.1 := ⟨_, rfl⟩; rw [← hs9, ← hl9] at ho; have hk9 : (num c st).1 = true → s9 = (num c st).2.2 ∧ l9 = (num c st).2.1 := fun _ => ⟨hs9, hl9⟩; clear hs9 hl9; refine Hid.out ?_))
  refine Lib.hid ?_
  obtain ⟨ok, hok⟩ : ∃ ok, ok = (num c st).1 := ⟨_, rfl⟩
  have g0 : Yk W0 R M sv all rb tb w9 s9 0 ⟨#[]⟩ line col pn := hz.step ho.rf ho.done
  have hbs := ho.bs
  rw [← hok]
  have HK := Lib.hid (And.intro hok hk9)
  have HTB := Lib.hid (show ∀ (w : World), wz.heap.size ≤ wz.heap.size from fun _ => Nat.le_refl _)
  have htb : tb < wz.heap.size := hz.hT.lt
  clear hz ho hk9 hok HCL
  obtain ⟨t0, t1, t2, t3, t4, f0, f1⟩ := g0.facts
  go_upto_region 17 with fail
  have g1 := g0.setTyp 57376
  have hbs1 : Bs (w9.setCell ⟨tb, 0, none⟩ (.int .i64 57376)) wz.heap.size v9 l9 := hbs.fr (own := [tb]) ((Fr.refl _ w9).setCell (by simp) _) (fun k hk => by rw [List.mem_singleton.1 hk]; exact htb)
  clear t0 t1 t2 t3 t4 f0 f1 g0 hbs
  generalize w9.setCell ⟨tb, 0, none⟩ (.int .i64 57376) = w10 at g1 hbs1 ⊢
  have htx := hbs1.text
  obtain ⟨S, hS⟩ : ∃ S : ByteArray, S = ⟨l9.toArray⟩ := ⟨_, rfl⟩
  rw [← hS] at htx
  have HS := Lib.hid hS
  obtain ⟨t0, t1, t2, t3, t4, f0, f1⟩ := g1.facts
  clear hbs1 hS htb
  go_upto_region 18 with fail
  have g2 := g1.setStr S
  clear t0 t1 t2 t3 t4 f0 f1 g1 htx
  generalize w10.setCell ⟨tb, 1, none⟩ (.string S) = w11 at g2 ⊢
  obtain ⟨t0, t1, t2, t3, t4, f0, f1⟩ := g2.facts
  obtain ⟨⟨r0, r1, r2, r3, r4⟩, q0, q1, q2, q3, q4⟩ := g2.rfacts
  go_wp2
  have HY : ok = true → (57376 : Int) = ((numK c st)).2.1 ∧ S = ⟨((numK c st)).2.2.1.toArray⟩ ∧ s9 = ((numK c st)).2.2.2 := fun e => by
    obtain ⟨q1, q2⟩ := HK.out.2 (HK.out.1 ▸ e)
    refine ⟨rfl, ?_, q1⟩
    rw [HS.out, q2]; rfl
  first | exact hQ _ _ (YRet.intro g2.fin HK.out.1 HY) | exact (YRet.intro g2.fin HK.out.1 HY)


set_option maxRecDepth 1000000 in
set_option maxHeartbeats 16000000 in
theorem yq_34 {W0 w : World} {R M rb tb : Nat} {sv : Value} {all : List UInt8} {st : St} {prev line col : Int} {nl pn : Bool} {Q : Exit → Act → World → Prop} (h : Yk W0 R M sv all rb tb w st 0 ⟨#[]⟩ line col pn) 
    (hQ : ∀ a w, YRet W0 R M sv all rb line col pn (strK 34 st) a w → Q .ret a w) (u2 u3 u5 u9 u10 u11 u12 u13 u14 u15 u16 u17 u18 u19 u20 u21 u22 u23 u24 u25 u26 u27 u28 u29 u30 u31 u32 u33 u34 u35 u36 u37 u38 u39 u40 u41 u42 u43 u44 u45 u46 u47 u48 u49 u50 u51 u52 u53 u54 u55 u56 u57 u58 u59 u60 u61 u62 u63 u64 u65 u66 u67 u68 u69 u70 u71 u72 u73 u74 u75 u76 u77 u78 u79 u80 u81 u82 u83 u84 u85 u86 u87 u88 u89 u90 u91 u92 u93 u94 u95 u96 u97 u98 u99 u100 u101 u102 u103 u104 u105 u106 u107 u108 u109 u110 u111 u112 u113 u114 u115 u116 u117 u118 u119 u120 u121 u122 u123 u124 u125 u126 u127 u128 u129 u130 u131 u132 u133 u134 u135 u136 u137 u138 u139 u140 u141 u142 u143 u144 u145 u146 u147 u148 u149 u150 u151 u152 u153 u154 u155 u156 u157 u158 u159 u160 u161 u162 u163 u164 u165 u166 u167 u168 u169 u170 u171 u172 u173 u174 u175 u176 u177 u178 u179 u180 u181 u182 u183 u184 u185 u186 u187 u188 u189 u190 u191 u192 u193 u194 u195 u196 u197 u198 u199 u200 u201 u202 u203 u204 u205 u206 u207 u208 u209 u210 u211 u212 u213 u214 u215 u216 u217 u218 u219 u220 u221 u222 u223 u224 u225 u226 u227 : Value) : Code.wp Tryz.prog yM Q ⟨#[Value.pointer (some ⟨R, 0, none⟩), Value.int .i64 prev, u2, u3, Value.pointer (some ⟨rb, 0, none⟩), u5, Value.bool nl, Value.int .i64 (34), Value.pointer (some ⟨tb, 0, none⟩), u9, u10, u11, u12, u13, u14, u15, u16, u17, u18, u19, u20, u21, u22, u23, u24, u25, u26, u27, u28, u29, u30, u31, u32, u33, u34, u35, u36, u37, u38, u39, u40, u41, u42, u43, u44, u45, u46, u47, u48, u49, u50, u51, u52, u53, u54, u55, u56, u57, u58, u59, u60, u61, u62, u63, u64, u65, u66, u67, u68, u69, u70, u71, u72, u73, u74, u75, u76, u77, u78, u79, u80, u81, u82, u83, u84, u85, u86, u87, u88, u89, u90, u91, u92, u93, u94, u95, u96, u97, u98, u99, u100, u101, u102, u103, u104, u105, u106, u107, u108, u109, u110, u111, u112, u113, u114, u115, u116, u117, u118, u119, u120, u121, u122, u123, u124, u125, u126, u127, u128, u129, u130, u131, u132, u133, u134, u135, u136, u137, u138, u139, u140, u141, u142, u143, u144, u145, u146, u147, u148, u149, u150, u151, u152, u153, u154, u155, u156, u157, u158, u159, u160, u161, u162, u163, u164, u165, u166, u167, u168, u169, u170, u171, u172, u173, u174, u175, u176, u177, u178, u179, u180, u181, u182, u183, u184, u185, u186, u187, u188, u189, u190, u191, u192, u193, u194, u195, u196, u197, u198, u199, u200, u201, u202, u203, u204, u205, u206, u207, u208, u209, u210, u211, u212, u213, u214, u215, u216, u217, u218, u219, u220, u221, u222, u223, u224, u225, u226, u227], []⟩ w := by
  conv => arg 2; whnf
  have HI := Lib.hid (show identS (34) = false by decide)
  have HD := Lib.hid (show decI (34) = false by decide)
  obtain ⟨wz, hwz⟩ : ∃ wz, wz = w := ⟨_, rfl⟩
  subst hwz
  have hz := h
  clear h
  have hcl := rstr wz R M sv all st 34 hz.rf
  have HCL := Lib.hid hcl
  have HZ := Lib.hid (And.intro hz hz.ne)
  clear hcl
  go_wp2_with (first | (go_at_call 25; refine (rstart_false _ _ HI.out).mono ?_; rintro e w' ⟨rfl, rfl⟩) | (go_at_call 30; refine (rdec_false _ _ HD.out).mono ?_; rintro e w' ⟨rfl, rfl⟩) | (go_at_call 33; refine (HCL.out).mono ?_; rintro e w9 ⟨v9, rfl, -, s9, l9, ho, hk9⟩; refine Hid.out ?_))
  refine Lib.hid ?_
  obtain ⟨ok, hok⟩ : ∃ ok, ok = (strL 34 st.nextC st.nextS []).1 := ⟨_, rfl⟩
  have g0 : Yk W0 R M sv all rb tb w9 s9 0 ⟨#[]⟩ line col pn := hz.step ho.rf ho.done
  have hbs := ho.bs
  rw [← hok]
  have HK := Lib.hid (And.intro hok hk9)
  have HTB := Lib.hid (show ∀ (w : World), wz.heap.size ≤ wz.heap.size from fun _ => Nat.le_refl _)
  have htb : tb < wz.heap.size := hz.hT.lt
  clear hz ho hk9 hok HCL
  obtain ⟨t0, t1, t2, t3, t4, f0, f1⟩ := g0.facts
  go_upto_region 33 with fail
  have g1 := g0.setTyp 57377
  have hbs1 : Bs (w9.setCell ⟨tb, 0, none⟩ (.int .i64 57377)) wz.heap.size v9 l9 := hbs.fr (own := [tb]) ((Fr.refl _ w9).setCell (by simp) _) (fun k hk => by rw [List.mem_singleton.1 hk]; exact htb)
  clear t0 t1 t2 t3 t4 f0 f1 g0 hbs
  generalize w9.setCell ⟨tb, 0, none⟩ (.int .i64 57377) = w10 at g1 hbs1 ⊢
  have htx := hbs1.text
  obtain ⟨S, hS⟩ : ∃ S : ByteArray, S = ⟨l9.toArray⟩ := ⟨_, rfl⟩
  rw [← hS] at htx
  have HS := Lib.hid hS
  obtain ⟨t0, t1, t2, t3, t4, f0, f1⟩ := g1.facts
  clear hbs1 hS htb
  go_upto_region 34 with fail
  have g2 := g1.setStr S
  clear t0 t1 t2 t3 t4 f0 f1 g1 htx
  generalize w10.setCell ⟨tb, 1, none⟩ (.string S) = w11 at g2 ⊢
  obtain ⟨t0, t1, t2, t3, t4, f0, f1⟩ := g2.facts
  obtain ⟨⟨r0, r1, r2, r3, r4⟩, q0, q1, q2, q3, q4⟩ := g2.rfacts
  go_wp2
  have HY : ok = true → (57377 : Int) = ((strK 34 st)).2.1 ∧ S = ⟨((strK 34 st)).2.2.1.toArray⟩ ∧ s9 = ((strK 34 st)).2.2.2 := fun e => by
    obtain ⟨q1, q2⟩ := HK.out.2 (HK.out.1 ▸ e)
    refine ⟨rfl, ?_, q1⟩
    rw [HS.out, q2]; rfl
  first | exact hQ _ _ (YRet.intro g2.fin HK.out.1 HY) | exact (YRet.intro g2.fin HK.out.1 HY)


set_option maxRecDepth 1000000 in
set_option maxHeartbeats 16000000 in
theorem yq_39 {W0 w : World} {R M rb tb : Nat} {sv : Value} {all : List UInt8} {st : St} {prev line col : Int} {nl pn : Bool} {Q : Exit → Act → World → Prop} (h : Yk W0 R M sv all rb tb w st 0 ⟨#[]⟩ line col pn) 
    (hQ : ∀ a w, YRet W0 R M sv all rb line col pn (strK 39 st) a w → Q .ret a w) (u2 u3 u5 u9 u10 u11 u12 u13 u14 u15 u16 u17 u18 u19 u20 u21 u22 u23 u24 u25 u26 u27 u28 u29 u30 u31 u32 u33 u34 u35 u36 u37 u38 u39 u40 u41 u42 u43 u44 u45 u46 u47 u48 u49 u50 u51 u52 u53 u54 u55 u56 u57 u58 u59 u60 u61 u62 u63 u64 u65 u66 u67 u68 u69 u70 u71 u72 u73 u74 u75 u76 u77 u78 u79 u80 u81 u82 u83 u84 u85 u86 u87 u88 u89 u90 u91 u92 u93 u94 u95 u96 u97 u98 u99 u100 u101 u102 u103 u104 u105 u106 u107 u108 u109 u110 u111 u112 u113 u114 u115 u116 u117 u118 u119 u120 u121 u122 u123 u124 u125 u126 u127 u128 u129 u130 u131 u132 u133 u134 u135 u136 u137 u138 u139 u140 u141 u142 u143 u144 u145 u146 u147 u148 u149 u150 u151 u152 u153 u154 u155 u156 u157 u158 u159 u160 u161 u162 u163 u164 u165 u166 u167 u168 u169 u170 u171 u172 u173 u174 u175 u176 u177 u178 u179 u180 u181 u182 u183 u184 u185 u186 u187 u188 u189 u190 u191 u192 u193 u194 u195 u196 u197 u198 u199 u200 u201 u202 u203 u204 u205 u206 u207 u208 u209 u210 u211 u212 u213 u214 u215 u216 u217 u218 u219 u220 u221 u222 u223 u224 u225 u226 u227 : Value) : Code.wp Tryz.prog yM Q ⟨#[Value.pointer (some ⟨R, 0, none⟩), Value.int .i64 prev, u2, u3, Value.pointer (some ⟨rb, 0, none⟩), u5, Value.bool nl, Value.int .i64 (39), Value.pointer (some ⟨tb, 0, none⟩), u9, u10, u11, u12, u13, u14, u15, u16, u17, u18, u19, u20, u21, u22, u23, u24, u25, u26, u27, u28, u29, u30, u31, u32, u33, u34, u35, u36, u37, u38, u39, u40, u41, u42, u43, u44, u45, u46, u47, u48, u49, u50, u51, u52, u53, u54, u55, u56, u57, u58, u59, u60, u61, u62, u63, u64, u65, u66, u67, u68, u69, u70, u71, u72, u73, u74, u75, u76, u77, u78, u79, u80, u81, u82, u83, u84, u85, u86, u87, u88, u89, u90, u91, u92, u93, u94, u95, u96, u97, u98, u99, u100, u101, u102, u103, u104, u105, u106, u107, u108, u109, u110, u111, u112, u113, u114, u115, u116, u117, u118, u119, u120, u121, u122, u123, u124, u125, u126, u127, u128, u129, u130, u131, u132, u133, u134, u135, u136, u137, u138, u139, u140, u141, u142, u143, u144, u145, u146, u147, u148, u149, u150, u151, u152, u153, u154, u155, u156, u157, u158, u159, u160, u161, u162, u163, u164, u165, u166, u167, u168, u169, u170, u171, u172, u173, u174, u175, u176, u177, u178, u179, u180, u181, u182, u183, u184, u185, u186, u187, u188, u189, u190, u191, u192, u193, u194, u195, u196, u197, u198, u199, u200, u201, u202, u203, u204, u205, u206, u207, u208, u209, u210, u211, u212, u213, u214, u215, u216, u217, u218, u219, u220, u221, u222, u223, u224, u225, u226, u227], []⟩ w := by
  conv => arg 2; whnf
  have HI := Lib.hid (show identS (39) = false by decide)
  have HD := Lib.hid (show decI (39) = false by decide)
  obtain ⟨wz, hwz⟩ : ∃ wz, wz = w := ⟨_, rfl⟩
  subst hwz
  have hz := h
  clear h
  have hcl := rstr wz R M sv all st 39 hz.rf
  have HCL := Lib.hid hcl
  have HZ := Lib.hid (And.intro hz hz.ne)
  clear hcl
  go_wp2_with (first | (go_at_call 25; refine (rstart_false _ _ HI.out).mono ?_; rintro e w' ⟨rfl, rfl⟩) | (go_at_call 30; refine (rdec_false _ _ HD.out).mono ?_; rintro e w' ⟨rfl, rfl⟩) | (go_at_call 33; refine (HCL.out).mono ?_; rintro e w9 ⟨v9, rfl, -, s9, l9, ho, hk9⟩; refine Hid.out ?_))
  refine Lib.hid ?_
  obtain ⟨ok, hok⟩ : ∃ ok, ok = (strL 39 st.nextC st.nextS []).1 := ⟨_, rfl⟩
  have g0 : Yk W0 R M sv all rb tb w9 s9 0 ⟨#[]⟩ line col pn := hz.step ho.rf ho.done
  have hbs := ho.bs
  rw [← hok]
  have HK := Lib.hid (And.intro hok hk9)
  have HTB := Lib.hid (show ∀ (w : World), wz.heap.size ≤ wz.heap.size from fun _ => Nat.le_refl _)
  have htb : tb < wz.heap.size := hz.hT.lt
  clear hz ho hk9 hok HCL
  obtain ⟨t0, t1, t2, t3, t4, f0, f1⟩ := g0.facts
  go_upto_region 33 with fail
  have g1 := g0.setTyp 57377
  have hbs1 : Bs (w9.setCell ⟨tb, 0, none⟩ (.int .i64 57377)) wz.heap.size v9 l9 := hbs.fr (own := [tb]) ((Fr.refl _ w9).setCell (by simp) _) (fun k hk => by rw [List.mem_singleton.1 hk]; exact htb)
  clear t0 t1 t2 t3 t4 f0 f1 g0 hbs
  generalize w9.setCell ⟨tb, 0, none⟩ (.int .i64 57377) = w10 at g1 hbs1 ⊢
  have htx := hbs1.text
  obtain ⟨S, hS⟩ : ∃ S : ByteArray, S = ⟨l9.toArray⟩ := ⟨_, rfl⟩
  rw [← hS] at htx
  have HS := Lib.hid hS
  obtain ⟨t0, t1, t2, t3, t4, f0, f1⟩ := g1.facts
  clear hbs1 hS htb
  go_upto_region 34 with fail
  have g2 := g1.setStr S
  clear t0 t1 t2 t3 t4 f0 f1 g1 htx
  generalize w10.setCell ⟨tb, 1, none⟩ (.string S) = w11 at g2 ⊢
  obtain ⟨t0, t1, t2, t3, t4, f0, f1⟩ := g2.facts
  obtain ⟨⟨r0, r1, r2, r3, r4⟩, q0, q1, q2, q3, q4⟩ := g2.rfacts
  go_wp2
  have HY : ok = true → (57377 : Int) = ((strK 39 st)).2.1 ∧ S = ⟨((strK 39 st)).2.2.1.toArray⟩ ∧ s9 = ((strK 39 st)).2.2.2 := fun e => by
    obtain ⟨q1, q2⟩ := HK.out.2 (HK.out.1 ▸ e)
    refine ⟨rfl, ?_, q1⟩
    rw [HS.out, q2]; rfl
  first | exact hQ _ _ (YRet.intro g2.fin HK.out.1 HY) | exact (YRet.intro g2.fin HK.out.1 HY)


set_option maxRecDepth 1000000 in
set_option maxHeartbeats 16000000 in
theorem yl_91 {W0 w : World} {R M rb tb : Nat} {sv : Value} {all : List UInt8} {st : St} {prev line col : Int} {nl pn : Bool} {Q : Exit → Act → World → Prop} (h : Yk W0 R M sv all rb tb w st 0 ⟨#[]⟩ line col pn) (hx : (hd st.rest == 91) = true)
    (hQ : ∀ a w, YRet W0 R M sv all rb line col pn (longK st) a w → Q .ret a w) (u2 u3 u5 u9 u10 u11 u12 u13 u14 u15 u16 u17 u18 u19 u20 u21 u22 u23 u24 u25 u26 u27 u28 u29 u30 u31 u32 u33 u34 u35 u36 u37 u38 u39 u40 u41 u42 u43 u44 u45 u46 u47 u48 u49 u50 u51 u52 u53 u54 u55 u56 u57 u58 u59 u60 u61 u62 u63 u64 u65 u66 u67 u68 u69 u70 u71 u72 u73 u74 u75 u76 u77 u78 u79 u80 u81 u82 u83 u84 u85 u86 u87 u88 u89 u90 u91 u92 u93 u94 u95 u96 u97 u98 u99 u100 u101 u102 u103 u104 u105 u106 u107 u108 u109 u110 u111 u112 u113 u114 u115 u116 u117 u118 u119 u120 u121 u122 u123 u124 u125 u126 u127 u128 u129 u130 u131 u132 u133 u134 u135 u136 u137 u138 u139 u140 u141 u142 u143 u144 u145 u146 u147 u148 u149 u150 u151 u152 u153 u154 u155 u156 u157 u158 u159 u160 u161 u162 u163 u164 u165 u166 u167 u168 u169 u170 u171 u172 u173 u174 u175 u176 u177 u178 u179 u180 u181 u182 u183 u184 u185 u186 u187 u188 u189 u190 u191 u192 u193 u194 u195 u196 u197 u198 u199 u200 u201 u202 u203 u204 u205 u206 u207 u208 u209 u210 u211 u212 u213 u214 u215 u216 u217 u218 u219 u220 u221 u222 u223 u224 u225 u226 u227 : Value) : Code.wp Tryz.prog yM Q ⟨#[Value.pointer (some ⟨R, 0, none⟩), Value.int .i64 prev, u2, u3, Value.pointer (some ⟨rb, 0, none⟩), u5, Value.bool nl, Value.int .i64 (91), Value.pointer (some ⟨tb, 0, none⟩), u9, u10, u11, u12, u13, u14, u15, u16, u17, u18, u19, u20, u21, u22, u23, u24, u25, u26, u27, u28, u29, u30, u31, u32, u33, u34, u35, u36, u37, u38, u39, u40, u41, u42, u43, u44, u45, u46, u47, u48, u49, u50, u51, u52, u53, u54, u55, u56, u57, u58, u59, u60, u61, u62, u63, u64, u65, u66, u67, u68, u69, u70, u71, u72, u73, u74, u75, u76, u77, u78, u79, u80, u81, u82, u83, u84, u85, u86, u87, u88, u89, u90, u91, u92, u93, u94, u95, u96, u97, u98, u99, u100, u101, u102, u103, u104, u105, u106, u107, u108, u109, u110, u111, u112, u113, u114, u115, u116, u117, u118, u119, u120, u121, u122, u123, u124, u125, u126, u127, u128, u129, u130, u131, u132, u133, u134, u135, u136, u137, u138, u139, u140, u141, u142, u143, u144, u145, u146, u147, u148, u149, u150, u151, u152, u153, u154, u155, u156, u157, u158, u159, u160, u161, u162, u163, u164, u165, u166, u167, u168, u169, u170, u171, u172, u173, u174, u175, u176, u177, u178, u179, u180, u181, u182, u183, u184, u185, u186, u187, u188, u189, u190, u191, u192, u193, u194, u195, u196, u197, u198, u199, u200, u201, u202, u203, u204, u205, u206, u207, u208, u209, u210, u211, u212, u213, u214, u215, u216, u217, u218, u219, u220, u221, u222, u223, u224, u225, u226, u227], []⟩ w := by
  conv => arg 2; whnf
  have HI := Lib.hid (show identS (91) = false by decide)
  have HD := Lib.hid (show decI (91) = false by decide)
  go_wp2_with (first | (go_at_call 25; refine (rstart_false _ _ HI.out).mono ?_; rintro e w' ⟨rfl, rfl⟩) | (go_at_call 30; refine (rdec_false _ _ HD.out).mono ?_; rintro e w' ⟨rfl, rfl⟩) | (go_at_call 27; refine (peek_rf _ R M sv all _ h.rf).mono ?_; rintro e w1 ⟨rfl, fx⟩; refine Hid.out ?_))
  refine Lib.hid ?_
  have h1 := h.still fx
  clear h fx
  go_wp2_with (go_at_call 28; refine (next_rf _ R M sv all _ h1.rf).mono ?_; rintro e wz ⟨rfl, rx, fx⟩; refine Hid.out ?_)
  refine Lib.hid ?_
  have hz := h1.step rx fx
  clear h1 rx fx
  have hcl := rlong wz R M sv all st.nextS st.nextC st.nextC_lo hz.rf
  have HCL := Lib.hid hcl
  have HZ := Lib.hid (And.intro hz hz.ne)
  clear hcl
  go_wp2_with (go_at_call 34; refine (HCL.out).mono ?_; rintro e w9 ⟨v9, rfl, -, s9, l9, ho, hk9⟩; refine Hid.out ?_)
  refine Lib.hid ?_
  obtain ⟨ok, hok⟩ : ∃ ok, ok = (long st.nextC st.nextS).1 := ⟨_, rfl⟩
  have g0 : Yk W0 R M sv all rb tb w9 s9 0 ⟨#[]⟩ line col pn := hz.step ho.rf ho.done
  have hbs := ho.bs
  rw [← hok]
  have HK := Lib.hid (And.intro hok hk9)
  have HTB := Lib.hid (show ∀ (w : World), wz.heap.size ≤ wz.heap.size from fun _ => Nat.le_refl _)
  have htb : tb < wz.heap.size := hz.hT.lt
  clear hz ho hk9 hok HCL
  obtain ⟨t0, t1, t2, t3, t4, f0, f1⟩ := g0.facts
  go_upto_region 40 with fail
  have g1 := g0.setTyp 57377
  have hbs1 : Bs (w9.setCell ⟨tb, 0, none⟩ (.int .i64 57377)) wz.heap.size v9 l9 := hbs.fr (own := [tb]) ((Fr.refl _ w9).setCell (by simp) _) (fun k hk => by rw [List.mem_singleton.1 hk]; exact htb)
  clear t0 t1 t2 t3 t4 f0 f1 g0 hbs
  generalize w9.setCell ⟨tb, 0, none⟩ (.int .i64 57377) = w10 at g1 hbs1 ⊢
  have htx := hbs1.text
  obtain ⟨S, hS⟩ : ∃ S : ByteArray, S = ⟨l9.toArray⟩ := ⟨_, rfl⟩
  rw [← hS] at htx
  have HS := Lib.hid hS
  obtain ⟨t0, t1, t2, t3, t4, f0, f1⟩ := g1.facts
  clear hbs1 hS htb
  go_upto_region 41 with fail
  have g2 := g1.setStr S
  clear t0 t1 t2 t3 t4 f0 f1 g1 htx
  generalize w10.setCell ⟨tb, 1, none⟩ (.string S) = w11 at g2 ⊢
  obtain ⟨t0, t1, t2, t3, t4, f0, f1⟩ := g2.facts
  obtain ⟨⟨r0, r1, r2, r3, r4⟩, q0, q1, q2, q3, q4⟩ := g2.rfacts
  go_wp2
  have HY : ok = true → (57377 : Int) = ((longK st)).2.1 ∧ S = ⟨((longK st)).2.2.1.toArray⟩ ∧ s9 = ((longK st)).2.2.2 := fun e => by
    obtain ⟨q1, q2⟩ := HK.out.2 (HK.out.1 ▸ e)
    refine ⟨rfl, ?_, q1⟩
    rw [HS.out, q2]; rfl
  first | exact hQ _ _ (YRet.intro g2.fin HK.out.1 HY) | exact (YRet.intro g2.fin HK.out.1 HY)


set_option maxRecDepth 1000000 in
set_option maxHeartbeats 16000000 in
theorem yl_61 {W0 w : World} {R M rb tb : Nat} {sv : Value} {all : List UInt8} {st : St} {prev line col : Int} {nl pn : Bool} {Q : Exit → Act → World → Prop} (h : Yk W0 R M sv all rb tb w st 0 ⟨#[]⟩ line col pn) (hx : (hd st.rest == 91) = false) (hy : (hd st.rest == 61) = true)
    (hQ : ∀ a w, YRet W0 R M sv all rb line col pn (longK st) a w → Q .ret a w) (u2 u3 u5 u9 u10 u11 u12 u13 u14 u15 u16 u17 u18 u19 u20 u21 u22 u23 u24 u25 u26 u27 u28 u29 u30 u31 u32 u33 u34 u35 u36 u37 u38 u39 u40 u41 u42 u43 u44 u45 u46 u47 u48 u49 u50 u51 u52 u53 u54 u55 u56 u57 u58 u59 u60 u61 u62 u63 u64 u65 u66 u67 u68 u69 u70 u71 u72 u73 u74 u75 u76 u77 u78 u79 u80 u81 u82 u83 u84 u85 u86 u87 u88 u89 u90 u91 u92 u93 u94 u95 u96 u97 u98 u99 u100 u101 u102 u103 u104 u105 u106 u107 u108 u109 u110 u111 u112 u113 u114 u115 u116 u117 u118 u119 u120 u121 u122 u123 u124 u125 u126 u127 u128 u129 u130 u131 u132 u133 u134 u135 u136 u137 u138 u139 u140 u141 u142 u143 u144 u145 u146 u147 u148 u149 u150 u151 u152 u153 u154 u155 u156 u157 u158 u159 u160 u161 u162 u163 u164 u165 u166 u167 u168 u169 u170 u171 u172 u173 u174 u175 u176 u177 u178 u179 u180 u181 u182 u183 u184 u185 u186 u187 u188 u189 u190 u191 u192 u193 u194 u195 u196 u197 u198 u199 u200 u201 u202 u203 u204 u205 u206 u207 u208 u209 u210 u211 u212 u213 u214 u215 u216 u217 u218 u219 u220 u221 u222 u223 u224 u225 u226 u227 : Value) : Code.wp Tryz.prog yM Q ⟨#[Value.pointer (some ⟨R, 0, none⟩), Value.int .i64 prev, u2, u3, Value.pointer (some ⟨rb, 0, none⟩), u5, Value.bool nl, Value.int .i64 (91), Value.pointer (some ⟨tb, 0, none⟩), u9, u10, u11, u12, u13, u14, u15, u16, u17, u18, u19, u20, u21, u22, u23, u24, u25, u26, u27, u28, u29, u30, u31, u32, u33, u34, u35, u36, u37, u38, u39, u40, u41, u42, u43, u44, u45, u46, u47, u48, u49, u50, u51, u52, u53, u54, u55, u56, u57, u58, u59, u60, u61, u62, u63, u64, u65, u66, u67, u68, u69, u70, u71, u72, u73, u74, u75, u76, u77, u78, u79, u80, u81, u82, u83, u84, u85, u86, u87, u88, u89, u90, u91, u92, u93, u94, u95, u96, u97, u98, u99, u100, u101, u102, u103, u104, u105, u106, u107, u108, u109, u110, u111, u112, u113, u114, u115, u116, u117, u118, u119, u120, u121, u122, u123, u124, u125, u126, u127, u128, u129, u130, u131, u132, u133, u134, u135, u136, u137, u138, u139, u140, u141, u142, u143, u144, u145, u146, u147, u148, u149, u150, u151, u152, u153, u154, u155, u156, u157, u158, u159, u160, u161, u162, u163, u164, u165, u166, u167, u168, u169, u170, u171, u172, u173, u174, u175, u176, u177, u178, u179, u180, u181, u182, u183, u184, u185, u186, u187, u188, u189, u190, u191, u192, u193, u194, u195, u196, u197, u198, u199, u200, u201, u202, u203, u204, u205, u206, u207, u208, u209, u210, u211, u212, u213, u214, u215, u216, u217, u218, u219, u220, u221, u222, u223, u224, u225, u226, u227], []⟩ w := by
  conv => arg 2; whnf
  have HI := Lib.hid (show identS (91) = false by decide)
  have HD := Lib.hid (show decI (91) = false by decide)
  go_wp2_with (first | (go_at_call 25; refine (rstart_false _ _ HI.out).mono ?_; rintro e w' ⟨rfl, rfl⟩) | (go_at_call 30; refine (rdec_false _ _ HD.out).mono ?_; rintro e w' ⟨rfl, rfl⟩) | (go_at_call 27; refine (peek_rf _ R M sv all _ h.rf).mono ?_; rintro e w1 ⟨rfl, fx⟩; refine Hid.out ?_))
  refine Lib.hid ?_
  have h1 := h.still fx
  clear h fx
  go_wp2_with (go_at_call 28; refine (next_rf _ R M sv all _ h1.rf).mono ?_; rintro e wz ⟨rfl, rx, fx⟩; refine Hid.out ?_)
  refine Lib.hid ?_
  have hz := h1.step rx fx
  clear h1 rx fx
  have hcl := rlong wz R M sv all st.nextS st.nextC st.nextC_lo hz.rf
  have HCL := Lib.hid hcl
  have HZ := Lib.hid (And.intro hz hz.ne)
  clear hcl
  go_wp2_with (go_at_call 34; refine (HCL.out).mono ?_; rintro e w9 ⟨v9, rfl, -, s9, l9, ho, hk9⟩; refine Hid.out ?_)
  refine Lib.hid ?_
  obtain ⟨ok, hok⟩ : ∃ ok, ok = (long st.nextC st.nextS).1 := ⟨_, rfl⟩
  have g0 : Yk W0 R M sv all rb tb w9 s9 0 ⟨#[]⟩ line col pn := hz.step ho.rf ho.done
  have hbs := ho.bs
  rw [← hok]
  have HK := Lib.hid (And.intro hok hk9)
  have HTB := Lib.hid (show ∀ (w : World), wz.heap.size ≤ wz.heap.size from fun _ => Nat.le_refl _)
  have htb : tb < wz.heap.size := hz.hT.lt
  clear hz ho hk9 hok HCL
  obtain ⟨t0, t1, t2, t3, t4, f0, f1⟩ := g0.facts
  go_upto_region 40 with fail
  have g1 := g0.setTyp 57377
  have hbs1 : Bs (w9.setCell ⟨tb, 0, none⟩ (.int .i64 57377)) wz.heap.size v9 l9 := hbs.fr (own := [tb]) ((Fr.refl _ w9).setCell (by simp) _) (fun k hk => by rw [List.mem_singleton.1 hk]; exact htb)
  clear t0 t1 t2 t3 t4 f0 f1 g0 hbs
  generalize w9.setCell ⟨tb, 0, none⟩ (.int .i64 57377) = w10 at g1 hbs1 ⊢
  have htx := hbs1.text
  obtain ⟨S, hS⟩ : ∃ S : ByteArray, S = ⟨l9.toArray⟩ := ⟨_, rfl⟩
  rw [← hS] at htx
  have HS := Lib.hid hS
  obtain ⟨t0, t1, t2, t3, t4, f0, f1⟩ := g1.facts
  clear hbs1 hS htb
  go_upto_region 41 with fail
  have g2 := g1.setStr S
  clear t0 t1 t2 t3 t4 f0 f1 g1 htx
  generalize w10.setCell ⟨tb, 1, none⟩ (.string S) = w11 at g2 ⊢
  obtain ⟨t0, t1, t2, t3, t4, f0, f1⟩ := g2.facts
  obtain ⟨⟨r0, r1, r2, r3, r4⟩, q0, q1, q2, q3, q4⟩ := g2.rfacts
  go_wp2
  have HY : ok = true → (57377 : Int) = ((longK st)).2.1 ∧ S = ⟨((longK st)).2.2.1.toArray⟩ ∧ s9 = ((longK st)).2.2.2 := fun e => by
    obtain ⟨q1, q2⟩ := HK.out.2 (HK.out.1 ▸ e)
    refine ⟨rfl, ?_, q1⟩
    rw [HS.out, q2]; rfl
  first | exact hQ _ _ (YRet.intro g2.fin HK.out.1 HY) | exact (YRet.intro g2.fin HK.out.1 HY)


set_option maxRecDepth 1000000 in
set_option maxHeartbeats 16000000 in
theorem yd_num {W0 w : World} {R M rb tb : Nat} {sv : Value} {all : List UInt8} {st : St} {prev line col : Int} {nl pn : Bool} {Q : Exit → Act → World → Prop} (h : Yk W0 R M sv all rb tb w st 0 ⟨#[]⟩ line col pn) (HDP : Hid (decI (hd st.rest) = true))
    (hQ : ∀ a w, YRet W0 R M sv all rb line col pn (numK 46 st) a w → Q .ret a w) (u2 u3 u5 u9 u10 u11 u12 u13 u14 u15 u16 u17 u18 u19 u20 u21 u22 u23 u24 u25 u26 u27 u28 u29 u30 u31 u32 u33 u34 u35 u36 u37 u38 u39 u40 u41 u42 u43 u44 u45 u46 u47 u48 u49 u50 u51 u52 u53 u54 u55 u56 u57 u58 u59 u60 u61 u62 u63 u64 u65 u66 u67 u68 u69 u70 u71 u72 u73 u74 u75 u76 u77 u78 u79 u80 u81 u82 u83 u84 u85 u86 u87 u88 u89 u90 u91 u92 u93 u94 u95 u96 u97 u98 u99 u100 u101 u102 u103 u104 u105 u106 u107 u108 u109 u110 u111 u112 u113 u114 u115 u116 u117 u118 u119 u120 u121 u122 u123 u124 u125 u126 u127 u128 u129 u130 u131 u132 u133 u134 u135 u136 u137 u138 u139 u140 u141 u142 u143 u144 u145 u146 u147 u148 u149 u150 u151 u152 u153 u154 u155 u156 u157 u158 u159 u160 u161 u162 u163 u164 u165 u166 u167 u168 u169 u170 u171 u172 u173 u174 u175 u176 u177 u178 u179 u180 u181 u182 u183 u184 u185 u186 u187 u188 u189 u190 u191 u192 u193 u194 u195 u196 u197 u198 u199 u200 u201 u202 u203 u204 u205 u206 u207 u208 u209 u210 u211 u212 u213 u214 u215 u216 u217 u218 u219 u220 u221 u222 u223 u224 u225 u226 u227 : Value) : Code.wp Tryz.prog yM Q ⟨#[Value.pointer (some ⟨R, 0, none⟩), Value.int .i64 prev, u2, u3, Value.pointer (some ⟨rb, 0, none⟩), u5, Value.bool nl, Value.int .i64 (46), Value.pointer (some ⟨tb, 0, none⟩), u9, u10, u11, u12, u13, u14, u15, u16, u17, u18, u19, u20, u21, u22, u23, u24, u25, u26, u27, u28, u29, u30, u31, u32, u33, u34, u35, u36, u37, u38, u39, u40, u41, u42, u43, u44, u45, u46, u47, u48, u49, u50, u51, u52, u53, u54, u55, u56, u57, u58, u59, u60, u61, u62, u63, u64, u65, u66, u67, u68, u69, u70, u71, u72, u73, u74, u75, u76, u77, u78, u79, u80, u81, u82, u83, u84, u85, u86, u87, u88, u89, u90, u91, u92, u93, u94, u95, u96, u97, u98, u99, u100, u101, u102, u103, u104, u105, u106, u107, u108, u109, u110, u111, u112, u113, u114, u115, u116, u117, u118, u119, u120, u121, u122, u123, u124, u125, u126, u127, u128, u129, u130, u131, u132, u133, u134, u135, u136, u137, u138, u139, u140, u141, u142, u143, u144, u145, u146, u147, u148, u149, u150, u151, u152, u153, u154, u155, u156, u157, u158, u159, u160, u161, u162, u163, u164, u165, u166, u167, u168, u169, u170, u171, u172, u173, u174, u175, u176, u177, u178, u179, u180, u181, u182, u183, u184, u185, u186, u187, u188, u189, u190, u191, u192, u193, u194, u195, u196, u197, u198, u199, u200, u201, u202, u203, u204, u205, u206, u207, u208, u209, u210, u211, u212, u213, u214, u215, u216, u217, u218, u219, u220, u221, u222, u223, u224, u225, u226, u227], []⟩ w := by
  conv => arg 2; whnf
  have HI := Lib.hid (show identS 46 = false by decide)
  have HD0 := Lib.hid (show decI 46 = false by decide)
  go_wp2_with (first | (go_at_call 25; refine (rstart_false _ _ HI.out).mono ?_; rintro e w' ⟨rfl, rfl⟩) | (go_at_call 30; first | (refine (rdec_false _ _ HD0.out).mono ?_; rintro e w' ⟨rfl, rfl⟩) | (refine (rdec_true _ _ HDP.out).mono ?_; rintro e w' ⟨rfl, rfl⟩)) | (go_at_call 27; refine (peek_rf _ R M sv all _ h.rf).mono ?_; rintro e wz ⟨rfl, fx⟩; refine Hid.out ?_))
  refine Lib.hid ?_
  have hz := h.still fx
  clear h fx
  have hcl := rnumber wz R M sv all st 46 hz.rf
  have HCL := Lib.hid hcl
  have HZ := Lib.hid (And.intro hz hz.ne)
  clear hcl
  go_wp2_with (first | (go_at_call 30; refine (rdec_true _ _ HDP.out).mono ?_; rintro e w' ⟨rfl, rfl⟩) | (go_at_call 31; refine (HCL.out).mono ?_; rintro e w9 ⟨v9, rfl, ho⟩; obtain ⟨s9, hs9⟩ : ∃ s9, s9 = (num 46 st).2.2 := ⟨_, rfl⟩; obtain ⟨l9, hl9⟩ : ∃ l9, l9 = (num 46 st).2.1 := ⟨_, rfl⟩; rw [← hs9, ← hl9] at ho; have hk9 : (num 46 st).1 = true → s9 = (num 46 st).2.2 ∧ l9 = (num 46 st).2.1 := fun _ => ⟨hs9, hl9⟩; clear hs9 hl9; refine Hid.out ?_))
  refine Lib.hid ?_
  obtain ⟨ok, hok⟩ : ∃ ok, ok = (num 46 st).1 := ⟨_, rfl⟩
  have g0 : Yk W0 R M sv all rb tb w9 s9 0 ⟨#[]⟩ line col pn := hz.step ho.rf ho.done
  have hbs := ho.bs
  rw [← hok]
  have HK := Lib.hid (And.intro hok hk9)
  have HTB := Lib.hid (show ∀ (w : World), wz.heap.size ≤ wz.heap.size from fun _ => Nat.le_refl _)
  have htb : tb < wz.heap.size := hz.hT.lt
  clear hz ho hk9 hok HCL
  obtain ⟨t0, t1, t2, t3, t4, f0, f1⟩ := g0.facts
  go_upto_region 61 with fail
  have g1 := g0.setTyp 57376
  have hbs1 : Bs (w9.setCell ⟨tb, 0, none⟩ (.int .i64 57376)) wz.heap.size v9 l9 := hbs.fr (own := [tb]) ((Fr.refl _ w9).setCell (by simp) _) (fun k hk => by rw [List.mem_singleton.1 hk]; exact htb)
  clear t0 t1 t2 t3 t4 f0 f1 g0 hbs
  generalize w9.setCell ⟨tb, 0, none⟩ (.int .i64 57376) = w10 at g1 hbs1 ⊢
  have htx := hbs1.text
  obtain ⟨S, hS⟩ : ∃ S : ByteArray, S = ⟨l9.toArray⟩ := ⟨_, rfl⟩
  rw [← hS] at htx
  have HS := Lib.hid hS
  obtain ⟨t0, t1, t2, t3, t4, f0, f1⟩ := g1.facts
  clear hbs1 hS htb
  go_upto_region 62 with fail
  have g2 := g1.setStr S
  clear t0 t1 t2 t3 t4 f0 f1 g1 htx
  generalize w10.setCell ⟨tb, 1, none⟩ (.string S) = w11 at g2 ⊢
  obtain ⟨t0, t1, t2, t3, t4, f0, f1⟩ := g2.facts
  obtain ⟨⟨r0, r1, r2, r3, r4⟩, q0, q1, q2, q3, q4⟩ := g2.rfacts
  go_wp2
  have HY : ok = true → (57376 : Int) = ((numK 46 st)).2.1 ∧ S = ⟨((numK 46 st)).2.2.1.toArray⟩ ∧ s9 = ((numK 46 st)).2.2.2 := fun e => by
    obtain ⟨q1, q2⟩ := HK.out.2 (HK.out.1 ▸ e)
    refine ⟨rfl, ?_, q1⟩
    rw [HS.out, q2]; rfl
  first | exact hQ _ _ (YRet.intro g2.fin HK.out.1 HY) | exact (YRet.intro g2.fin HK.out.1 HY)


set_option maxRecDepth 1000000 in
set_option maxHeartbeats 16000000 in
theorem yc_com {W0 w : World} {R M rb tb : Nat} {sv : Value} {all : List UInt8} {st : St} {prev line col : Int} {nl pn : Bool} {Q : Exit → Act → World → Prop} (h : Yk W0 R M sv all rb tb w st 0 ⟨#[]⟩ line col pn) (hx : (hd st.rest == 45) = true)
    (hQ : (comment st.nextC st.nextS).1 = false → ∀ a w, YRet W0 R M sv all rb line col pn ((false, 0, [], st) : Bool × Int × List UInt8 × St) a w → Q .ret a w) (hC : (comment st.nextC st.nextS).1 = true → ∀ a w, YAgain W0 R M sv all rb prev (comment st.nextC st.nextS).2 a w → Q (.exit 1) a w) (u2 u3 u5 u9 u10 u11 u12 u13 u14 u15 u16 u17 u18 u19 u20 u21 u22 u23 u24 u25 u26 u27 u28 u29 u30 u31 u32 u33 u34 u35 u36 u37 u38 u39 u40 u41 u42 u43 u44 u45 u46 u47 u48 u49 u50 u51 u52 u53 u54 u55 u56 u57 u58 u59 u60 u61 u62 u63 u64 u65 u66 u67 u68 u69 u70 u71 u72 u73 u74 u75 u76 u77 u78 u79 u80 u81 u82 u83 u84 u85 u86 u87 u88 u89 u90 u91 u92 u93 u94 u95 u96 u97 u98 u99 u100 u101 u102 u103 u104 u105 u106 u107 u108 u109 u110 u111 u112 u113 u114 u115 u116 u117 u118 u119 u120 u121 u122 u123 u124 u125 u126 u127 u128 u129 u130 u131 u132 u133 u134 u135 u136 u137 u138 u139 u140 u141 u142 u143 u144 u145 u146 u147 u148 u149 u150 u151 u152 u153 u154 u155 u156 u157 u158 u159 u160 u161 u162 u163 u164 u165 u166 u167 u168 u169 u170 u171 u172 u173 u174 u175 u176 u177 u178 u179 u180 u181 u182 u183 u184 u185 u186 u187 u188 u189 u190 u191 u192 u193 u194 u195 u196 u197 u198 u199 u200 u201 u202 u203 u204 u205 u206 u207 u208 u209 u210 u211 u212 u213 u214 u215 u216 u217 u218 u219 u220 u221 u222 u223 u224 u225 u226 u227 : Value) : Code.wp Tryz.prog yM Q ⟨#[Value.pointer (some ⟨R, 0, none⟩), Value.int .i64 prev, u2, u3, Value.pointer (some ⟨rb, 0, none⟩), u5, Value.bool nl, Value.int .i64 45, Value.pointer (some ⟨tb, 0, none⟩), u9, u10, u11, u12, u13, u14, u15, u16, u17, u18, u19, u20, u21, u22, u23, u24, u25, u26, u27, u28, u29, u30, u31, u32, u33, u34, u35, u36, u37, u38, u39, u40, u41, u42, u43, u44, u45, u46, u47, u48, u49, u50, u51, u52, u53, u54, u55, u56, u57, u58, u59, u60, u61, u62, u63, u64, u65, u66, u67, u68, u69, u70, u71, u72, u73, u74, u75, u76, u77, u78, u79, u80, u81, u82, u83, u84, u85, u86, u87, u88, u89, u90, u91, u92, u93, u94, u95, u96, u97, u98, u99, u100, u101, u102, u103, u104, u105, u106, u107, u108, u109, u110, u111, u112, u113, u114, u115, u116, u117, u118, u119, u120, u121, u122, u123, u124, u125, u126, u127, u128, u129, u130, u131, u132, u133, u134, u135, u136, u137, u138, u139, u140, u141, u142, u143, u144, u145, u146, u147, u148, u149, u150, u151, u152, u153, u154, u155, u156, u157, u158, u159, u160, u161, u162, u163, u164, u165, u166, u167, u168, u169, u170, u171, u172, u173, u174, u175, u176, u177, u178, u179, u180, u181, u182, u183, u184, u185, u186, u187, u188, u189, u190, u191, u192, u193, u194, u195, u196, u197, u198, u199, u200, u201, u202, u203, u204, u205, u206, u207, u208, u209, u210, u211, u212, u213, u214, u215, u216, u217, u218, u219, u220, u221, u222, u223, u224, u225, u226, u227], []⟩ w := by
  conv => arg 2; whnf
  have HI := Lib.hid (show identS (45) = false by decide)
  have HD := Lib.hid (show decI (45) = false by decide)
  go_wp2_with (first | (go_at_call 25; refine (rstart_false _ _ HI.out).mono ?_; rintro e w' ⟨rfl, rfl⟩) | (go_at_call 30; refine (rdec_false _ _ HD.out).mono ?_; rintro e w' ⟨rfl, rfl⟩) | (go_at_call 27; refine (peek_rf _ R M sv all _ h.rf).mono ?_; rintro e w1 ⟨rfl, fx⟩; refine Hid.out ?_))
  refine Lib.hid ?_
  have h1 := h.still fx
  clear h fx
  go_wp2_with (go_at_call 28; refine (next_rf _ R M sv all _ h1.rf).mono ?_; rintro e w2 ⟨rfl, rx, fx⟩; refine Hid.out ?_)
  refine Lib.hid ?_
  have h2 := h1.step rx fx
  clear h1 rx fx
  have hcl := rcom_any w2 R M sv all st.nextS st.nextC st.nextC_lo h2.rf
  obtain ⟨C, hC0⟩ : ∃ C, C = comment st.nextC st.nextS := ⟨_, rfl⟩
  rw [← hC0] at hcl
  have HC := Lib.hid hC0
  have HCL := Lib.hid hcl
  clear hcl hC0
  obtain ⟨ok, hok⟩ : ∃ ok, ok = C.1 := ⟨_, rfl⟩
  have HOK := Lib.hid hok
  rw [← hok] at HCL
  clear hok
  cases ok
  · go_wp2_with (go_at_call 32; refine (HCL.out).mono ?_; rintro e w3 ⟨rfl, hr3, f3⟩; refine Hid.out ?_)
    refine Lib.hid ?_
    have hT3 := f3.blk h2.hT (by have := h2.rn; have := h2.rt; have := h2.lR; simp only [List.mem_singleton]; omega)
    have hR3 := f3.blk h2.hR (by have := h2.rn; have := h2.lR; simp only [List.mem_singleton]; omega)
    have HX := Lib.hid (And.intro hR3 (And.intro (h2.fb.trans (f3.fb h2.fb.size)) h2.rn))
    unfold ycells at hT3 hR3
    have t0 := hT3.cell 0 _ rfl
    have t1 := hT3.cell 1 _ rfl
    have t2 := hT3.cell 2 _ rfl
    have t3 := hT3.cell 3 _ rfl
    have t4 := hT3.cell 4 _ rfl
    have r0 := hR3.cell 0 _ rfl
    have r1 := hR3.cell 1 _ rfl
    have r2 := hR3.cell 2 _ rfl
    have r3 := hR3.cell 3 _ rfl
    have r4 := hR3.cell 4 _ rfl
    have q0 := hR3.free 0
    have q1 := hR3.free 1
    have q2 := hR3.free 2
    have q3 := hR3.free 3
    have q4 := hR3.free 4
    clear hT3 hR3 h2 hr3 f3
    go_wp2
    have fy := yput_fr w3 rb 0 ⟨#[]⟩ line col pn
    have hby : Blk (yput w3 rb 0 ⟨#[]⟩ line col pn) rb (ycells 0 ⟨#[]⟩ line col pn) := ((((HX.out.1.set 0 (.int .i64 0)).set 1 (.string ⟨#[]⟩)).set 2 (.int .i64 line)).set 3 (.int .i64 col)).set 4 (.bool pn)
    have hfy : Fb [R] W0.heap.size W0 (yput w3 rb 0 ⟨#[]⟩ line col pn) := HX.out.2.1.trans ⟨fy.os, fy.tape, fy.output, fy.size, fun k hk _ => fy.block k (Nat.lt_of_lt_of_le hk HX.out.2.1.size) (by have := HX.out.2.2; simp only [List.mem_singleton]; omega)⟩
    have hno : (comment st.nextC st.nextS).1 = false := by rw [← HC.out]; exact HOK.out.symm
    first | exact hQ hno _ _ ⟨_, _, _, _, _, _, _, rfl, hby, hfy, rfl, fun e => by cases e⟩ | exact ⟨_, _, _, _, _, _, _, rfl, hby, hfy, rfl, fun e => by cases e⟩
  · go_wp2_with (go_at_call 32; refine (HCL.out).mono ?_; rintro e w3 ⟨rfl, hr3, f3⟩; refine Hid.out ?_)
    refine Lib.hid ?_
    have hr4 := (by first | exact hr3 rfl | exact hr3 trivial)
    have g2 := Lib.hid (h2.step hr4 f3)
    clear h2 hr3 hr4 f3
    go_wp2
    have hyes : (comment st.nextC st.nextS).1 = true := by rw [← HC.out]; exact HOK.out.symm
    have hfin := g2.out
    rw [HC.out] at hfin
    first | exact hC hyes _ _ ⟨_, _, _, rfl, rfl, hfin.rf, hfin.hR, hfin.fb⟩ | exact ⟨_, _, _, rfl, rfl, hfin.rf, hfin.hR, hfin.fb⟩

end Go.Proofs.YtgiklkapedlckaaGreatDoor

namespace Go.Proofs.YtgiklkapedlckaaGreatDoor
open Go.RowKit

def OnN (Q : Exit → Act → World → Prop) : Exit → Act → World → Prop
  | .normal => Q .normal
  | _ => fun _ _ => False
theorem wp_onN {P : Program} {c : Code} {Q : Exit → Act → World → Prop} {a : Act} {w : World} (h : c.wp P (OnN Q) a w) : c.wp P Q a w :=
  Code.wp_mono (fun e a w q => by cases e <;> first | exact q | exact q.elim) h

set_option maxRecDepth 1000000 in
set_option maxHeartbeats 16000000 in
theorem yp_12 {w : World} {R M rb : Nat} {sv : Value} {all : List UInt8} {st : St} {prev : Int} {Q : Exit → Act → World → Prop} (h : Rf w R M sv all st)
    (hQ : ∀ (w' : World) (u2 u3 u5 u8 u9 u10 u11 u12 u13 u14 u15 u16 u17 u18 u19 u20 u21 u22 u23 u24 u25 u26 u27 u28 u29 u30 u31 u32 u33 u34 u35 u36 u37 u38 u39 u40 u41 u42 u43 u44 u45 u46 u47 u48 u49 u50 u51 u52 u53 u54 u55 u56 u57 u58 u59 u60 u61 u62 u63 u64 u65 u66 u67 u68 u69 u70 u71 u72 u73 u74 u75 u76 u77 u78 u79 u80 u81 u82 u83 u84 u85 u86 u87 u88 u89 u90 u91 u92 u93 u94 u95 u96 u97 u98 u99 u100 u101 u102 u103 u104 u105 u106 u107 u108 u109 u110 u111 u112 u113 u114 u115 u116 u117 u118 u119 u120 u121 u122 u123 u124 u125 u126 u127 u128 u129 u130 u131 u132 u133 u134 u135 u136 u137 u138 u139 u140 u141 u142 u143 u144 u145 u146 u147 u148 u149 u150 u151 u152 u153 u154 u155 u156 u157 u158 u159 u160 u161 u162 u163 u164 u165 u166 u167 u168 u169 u170 u171 u172 u173 u174 u175 u176 u177 u178 u179 u180 u181 u182 u183 u184 u185 u186 u187 u188 u189 u190 u191 u192 u193 u194 u195 u196 u197 u198 u199 u200 u201 u202 u203 u204 u205 u206 u207 u208 u209 u210 u211 u212 u213 u214 u215 u216 u217 u218 u219 u220 u221 u222 u223 u224 u225 u226 u227 : Value), (Rf w' R M sv all (st.skip mk1).2 ∧ Fr [R] w w') → Code.wp Tryz.prog y3 Q ⟨(Value.pointer (some ⟨R, 0, none⟩) :: Value.int .i64 prev :: u2 :: u3 :: Value.pointer (some ⟨rb, 0, none⟩) :: u5 :: Value.bool false :: Value.int .i64 (st.skip mk1).1 :: u8 :: u9 :: u10 :: u11 :: u12 :: u13 :: u14 :: u15 :: u16 :: u17 :: u18 :: u19 :: u20 :: u21 :: u22 :: u23 :: u24 :: u25 :: u26 :: u27 :: u28 :: u29 :: u30 :: u31 :: u32 :: u33 :: u34 :: u35 :: u36 :: u37 :: u38 :: u39 :: u40 :: u41 :: u42 :: u43 :: u44 :: u45 :: u46 :: u47 :: u48 :: u49 :: u50 :: u51 :: u52 :: u53 :: u54 :: u55 :: u56 :: u57 :: u58 :: u59 :: u60 :: u61 :: u62 :: u63 :: u64 :: u65 :: u66 :: u67 :: u68 :: u69 :: u70 :: u71 :: u72 :: u73 :: u74 :: u75 :: u76 :: u77 :: u78 :: u79 :: u80 :: u81 :: u82 :: u83 :: u84 :: u85 :: u86 :: u87 :: u88 :: u89 :: u90 :: u91 :: u92 :: u93 :: u94 :: u95 :: u96 :: u97 :: u98 :: u99 :: u100 :: u101 :: u102 :: u103 :: u104 :: u105 :: u106 :: u107 :: u108 :: u109 :: u110 :: u111 :: u112 :: u113 :: u114 :: u115 :: u116 :: u117 :: u118 :: u119 :: u120 :: u121 :: u122 :: u123 :: u124 :: u125 :: u126 :: u127 :: u128 :: u129 :: u130 :: u131 :: u132 :: u133 :: u134 :: u135 :: u136 :: u137 :: u138 :: u139 :: u140 :: u141 :: u142 :: u143 :: u144 :: u145 :: u146 :: u147 :: u148 :: u149 :: u150 :: u151 :: u152 :: u153 :: u154 :: u155 :: u156 :: u157 :: u158 :: u159 :: u160 :: u161 :: u162 :: u163 :: u164 :: u165 :: u166 :: u167 :: u168 :: u169 :: u170 :: u171 :: u172 :: u173 :: u174 :: u175 :: u176 :: u177 :: u178 :: u179 :: u180 :: u181 :: u182 :: u183 :: u184 :: u185 :: u186 :: u187 :: u188 :: u189 :: u190 :: u191 :: u192 :: u193 :: u194 :: u195 :: u196 :: u197 :: u198 :: u199 :: u200 :: u201 :: u202 :: u203 :: u204 :: u205 :: u206 :: u207 :: u208 :: u209 :: u210 :: u211 :: u212 :: u213 :: u214 :: u215 :: u216 :: u217 :: u218 :: u219 :: u220 :: u221 :: u222 :: u223 :: u224 :: u225 :: u226 :: u227 :: []).toArray, []⟩ w') (u2 u3 u5 u6 u7 u8 u9 u10 u11 u12 u13 u14 u15 u16 u17 u18 u19 u20 u21 u22 u23 u24 u25 u26 u27 u28 u29 u30 u31 u32 u33 u34 u35 u36 u37 u38 u39 u40 u41 u42 u43 u44 u45 u46 u47 u48 u49 u50 u51 u52 u53 u54 u55 u56 u57 u58 u59 u60 u61 u62 u63 u64 u65 u66 u67 u68 u69 u70 u71 u72 u73 u74 u75 u76 u77 u78 u79 u80 u81 u82 u83 u84 u85 u86 u87 u88 u89 u90 u91 u92 u93 u94 u95 u96 u97 u98 u99 u100 u101 u102 u103 u104 u105 u106 u107 u108 u109 u110 u111 u112 u113 u114 u115 u116 u117 u118 u119 u120 u121 u122 u123 u124 u125 u126 u127 u128 u129 u130 u131 u132 u133 u134 u135 u136 u137 u138 u139 u140 u141 u142 u143 u144 u145 u146 u147 u148 u149 u150 u151 u152 u153 u154 u155 u156 u157 u158 u159 u160 u161 u162 u163 u164 u165 u166 u167 u168 u169 u170 u171 u172 u173 u174 u175 u176 u177 u178 u179 u180 u181 u182 u183 u184 u185 u186 u187 u188 u189 u190 u191 u192 u193 u194 u195 u196 u197 u198 u199 u200 u201 u202 u203 u204 u205 u206 u207 u208 u209 u210 u211 u212 u213 u214 u215 u216 u217 u218 u219 u220 u221 u222 u223 u224 u225 u226 u227 : Value) : Code.wp Tryz.prog yBody Q ⟨#[Value.pointer (some ⟨R, 0, none⟩), Value.int .i64 prev, u2, u3, Value.pointer (some ⟨rb, 0, none⟩), u5, u6, u7, u8, u9, u10, u11, u12, u13, u14, u15, u16, u17, u18, u19, u20, u21, u22, u23, u24, u25, u26, u27, u28, u29, u30, u31, u32, u33, u34, u35, u36, u37, u38, u39, u40, u41, u42, u43, u44, u45, u46, u47, u48, u49, u50, u51, u52, u53, u54, u55, u56, u57, u58, u59, u60, u61, u62, u63, u64, u65, u66, u67, u68, u69, u70, u71, u72, u73, u74, u75, u76, u77, u78, u79, u80, u81, u82, u83, u84, u85, u86, u87, u88, u89, u90, u91, u92, u93, u94, u95, u96, u97, u98, u99, u100, u101, u102, u103, u104, u105, u106, u107, u108, u109, u110, u111, u112, u113, u114, u115, u116, u117, u118, u119, u120, u121, u122, u123, u124, u125, u126, u127, u128, u129, u130, u131, u132, u133, u134, u135, u136, u137, u138, u139, u140, u141, u142, u143, u144, u145, u146, u147, u148, u149, u150, u151, u152, u153, u154, u155, u156, u157, u158, u159, u160, u161, u162, u163, u164, u165, u166, u167, u168, u169, u170, u171, u172, u173, u174, u175, u176, u177, u178, u179, u180, u181, u182, u183, u184, u185, u186, u187, u188, u189, u190, u191, u192, u193, u194, u195, u196, u197, u198, u199, u200, u201, u202, u203, u204, u205, u206, u207, u208, u209, u210, u211, u212, u213, u214, u215, u216, u217, u218, u219, u220, u221, u222, u223, u224, u225, u226, u227], []⟩ w := by
  have e : yBody = .seq (rFst yBody) (.seq (rFst y2) y3) := rfl
  rw [e]
  refine wp_seq ?_
  conv => arg 2; whnf
  go_wp2
  conv => arg 2; whnf
  go_wp2_with (go_at_call 24; refine (rskip0 _ R M sv all _ h).mono ?_; rintro e w1 ⟨rfl, rx, fx⟩; refine Hid.out ?_)
  refine Lib.hid ?_
  have H := Lib.hid (And.intro rx fx)
  clear h rx fx
  go_wp2
  first | exact hQ _ _ _ _ _ _ _ _ _ _ _ _ _ _ _ _ _ _ _ _ _ _ _ _ _ _ _ _ _ _ _ _ _ _ _ _ _ _ _ _ _ _ _ _ _ _ _ _ _ _ _ _ _ _ _ _ _ _ _ _ _ _ _ _ _ _ _ _ _ _ _ _ _ _ _ _ _ _ _ _ _ _ _ _ _ _ _ _ _ _ _ _ _ _ _ _ _ _ _ _ _ _ _ _ _ _ _ _ _ _ _ _ _ _ _ _ _ _ _ _ _ _ _ _ _ _ _ _ _ _ _ _ _ _ _ _ _ _ _ _ _ _ _ _ _ _ _ _ _ _ _ _ _ _ _ _ _ _ _ _ _ _ _ _ _ _ _ _ _ _ _ _ _ _ _ _ _ _ _ _ _ _ _ _ _ _ _ _ _ _ _ _ _ _ _ _ _ _ _ _ _ _ _ _ _ _ _ _ _ _ _ _ _ _ _ _ _ _ _ _ _ _ _ _ H.out | exact H.out

set_option maxRecDepth 1000000 in
set_option maxHeartbeats 16000000 in
theorem yp_c0 {w : World} {R rb : Nat} {prev c : Int} {Q : Exit → Act → World → Prop} (h10 : (c == 10) = false) (hQ : ∀ (u2 u3 u5 u8 u9 u10 u11 u12 u13 u14 u15 u16 u17 u18 u19 u20 u21 u22 u23 u24 u25 u26 u27 u28 u29 u30 u31 u32 u33 u34 u35 u36 u37 u38 u39 u40 u41 u42 u43 u44 u45 u46 u47 u48 u49 u50 u51 u52 u53 u54 u55 u56 u57 u58 u59 u60 u61 u62 u63 u64 u65 u66 u67 u68 u69 u70 u71 u72 u73 u74 u75 u76 u77 u78 u79 u80 u81 u82 u83 u84 u85 u86 u87 u88 u89 u90 u91 u92 u93 u94 u95 u96 u97 u98 u99 u100 u101 u102 u103 u104 u105 u106 u107 u108 u109 u110 u111 u112 u113 u114 u115 u116 u117 u118 u119 u120 u121 u122 u123 u124 u125 u126 u127 u128 u129 u130 u131 u132 u133 u134 u135 u136 u137 u138 u139 u140 u141 u142 u143 u144 u145 u146 u147 u148 u149 u150 u151 u152 u153 u154 u155 u156 u157 u158 u159 u160 u161 u162 u163 u164 u165 u166 u167 u168 u169 u170 u171 u172 u173 u174 u175 u176 u177 u178 u179 u180 u181 u182 u183 u184 u185 u186 u187 u188 u189 u190 u191 u192 u193 u194 u195 u196 u197 u198 u199 u200 u201 u202 u203 u204 u205 u206 u207 u208 u209 u210 u211 u212 u213 u214 u215 u216 u217 u218 u219 u220 u221 u222 u223 u224 u225 u226 u227 : Value), True → Q .normal ⟨(Value.pointer (some ⟨R, 0, none⟩) :: Value.int .i64 prev :: u2 :: u3 :: Value.pointer (some ⟨rb, 0, none⟩) :: u5 :: Value.bool false :: Value.int .i64 c :: u8 :: u9 :: u10 :: u11 :: u12 :: u13 :: u14 :: u15 :: u16 :: u17 :: u18 :: u19 :: u20 :: u21 :: u22 :: u23 :: u24 :: u25 :: u26 :: u27 :: u28 :: u29 :: u30 :: u31 :: u32 :: u33 :: u34 :: u35 :: u36 :: u37 :: u38 :: u39 :: u40 :: u41 :: u42 :: u43 :: u44 :: u45 :: u46 :: u47 :: u48 :: u49 :: u50 :: u51 :: u52 :: u53 :: u54 :: u55 :: u56 :: u57 :: u58 :: u59 :: u60 :: u61 :: u62 :: u63 :: u64 :: u65 :: u66 :: u67 :: u68 :: u69 :: u70 :: u71 :: u72 :: u73 :: u74 :: u75 :: u76 :: u77 :: u78 :: u79 :: u80 :: u81 :: u82 :: u83 :: u84 :: u85 :: u86 :: u87 :: u88 :: u89 :: u90 :: u91 :: u92 :: u93 :: u94 :: u95 :: u96 :: u97 :: u98 :: u99 :: u100 :: u101 :: u102 :: u103 :: u104 :: u105 :: u106 :: u107 :: u108 :: u109 :: u110 :: u111 :: u112 :: u113 :: u114 :: u115 :: u116 :: u117 :: u118 :: u119 :: u120 :: u121 :: u122 :: u123 :: u124 :: u125 :: u126 :: u127 :: u128 :: u129 :: u130 :: u131 :: u132 :: u133 :: u134 :: u135 :: u136 :: u137 :: u138 :: u139 :: u140 :: u141 :: u142 :: u143 :: u144 :: u145 :: u146 :: u147 :: u148 :: u149 :: u150 :: u151 :: u152 :: u153 :: u154 :: u155 :: u156 :: u157 :: u158 :: u159 :: u160 :: u161 :: u162 :: u163 :: u164 :: u165 :: u166 :: u167 :: u168 :: u169 :: u170 :: u171 :: u172 :: u173 :: u174 :: u175 :: u176 :: u177 :: u178 :: u179 :: u180 :: u181 :: u182 :: u183 :: u184 :: u185 :: u186 :: u187 :: u188 :: u189 :: u190 :: u191 :: u192 :: u193 :: u194 :: u195 :: u196 :: u197 :: u198 :: u199 :: u200 :: u201 :: u202 :: u203 :: u204 :: u205 :: u206 :: u207 :: u208 :: u209 :: u210 :: u211 :: u212 :: u213 :: u214 :: u215 :: u216 :: u217 :: u218 :: u219 :: u220 :: u221 :: u222 :: u223 :: u224 :: u225 :: u226 :: u227 :: []).toArray, []⟩ w) (u2 u3 u5 u8 u9 u10 u11 u12 u13 u14 u15 u16 u17 u18 u19 u20 u21 u22 u23 u24 u25 u26 u27 u28 u29 u30 u31 u32 u33 u34 u35 u36 u37 u38 u39 u40 u41 u42 u43 u44 u45 u46 u47 u48 u49 u50 u51 u52 u53 u54 u55 u56 u57 u58 u59 u60 u61 u62 u63 u64 u65 u66 u67 u68 u69 u70 u71 u72 u73 u74 u75 u76 u77 u78 u79 u80 u81 u82 u83 u84 u85 u86 u87 u88 u89 u90 u91 u92 u93 u94 u95 u96 u97 u98 u99 u100 u101 u102 u103 u104 u105 u106 u107 u108 u109 u110 u111 u112 u113 u114 u115 u116 u117 u118 u119 u120 u121 u122 u123 u124 u125 u126 u127 u128 u129 u130 u131 u132 u133 u134 u135 u136 u137 u138 u139 u140 u141 u142 u143 u144 u145 u146 u147 u148 u149 u150 u151 u152 u153 u154 u155 u156 u157 u158 u159 u160 u161 u162 u163 u164 u165 u166 u167 u168 u169 u170 u171 u172 u173 u174 u175 u176 u177 u178 u179 u180 u181 u182 u183 u184 u185 u186 u187 u188 u189 u190 u191 u192 u193 u194 u195 u196 u197 u198 u199 u200 u201 u202 u203 u204 u205 u206 u207 u208 u209 u210 u211 u212 u213 u214 u215 u216 u217 u218 u219 u220 u221 u222 u223 u224 u225 u226 u227 : Value) : Code.wp Tryz.prog (rFst y3) Q ⟨#[Value.pointer (some ⟨R, 0, none⟩), Value.int .i64 prev, u2, u3, Value.pointer (some ⟨rb, 0, none⟩), u5, Value.bool false, Value.int .i64 c, u8, u9, u10, u11, u12, u13, u14, u15, u16, u17, u18, u19, u20, u21, u22, u23, u24, u25, u26, u27, u28, u29, u30, u31, u32, u33, u34, u35, u36, u37, u38, u39, u40, u41, u42, u43, u44, u45, u46, u47, u48, u49, u50, u51, u52, u53, u54, u55, u56, u57, u58, u59, u60, u61, u62, u63, u64, u65, u66, u67, u68, u69, u70, u71, u72, u73, u74, u75, u76, u77, u78, u79, u80, u81, u82, u83, u84, u85, u86, u87, u88, u89, u90, u91, u92, u93, u94, u95, u96, u97, u98, u99, u100, u101, u102, u103, u104, u105, u106, u107, u108, u109, u110, u111, u112, u113, u114, u115, u116, u117, u118, u119, u120, u121, u122, u123, u124, u125, u126, u127, u128, u129, u130, u131, u132, u133, u134, u135, u136, u137, u138, u139, u140, u141, u142, u143, u144, u145, u146, u147, u148, u149, u150, u151, u152, u153, u154, u155, u156, u157, u158, u159, u160, u161, u162, u163, u164, u165, u166, u167, u168, u169, u170, u171, u172, u173, u174, u175, u176, u177, u178, u179, u180, u181, u182, u183, u184, u185, u186, u187, u188, u189, u190, u191, u192, u193, u194, u195, u196, u197, u198, u199, u200, u201, u202, u203, u204, u205, u206, u207, u208, u209, u210, u211, u212, u213, u214, u215, u216, u217, u218, u219, u220, u221, u222, u223, u224, u225, u226, u227], []⟩ w := by
  conv => arg 2; whnf
  go_wp2
  first | exact hQ _ _ _ _ _ _ _ _ _ _ _ _ _ _ _ _ _ _ _ _ _ _ _ _ _ _ _ _ _ _ _ _ _ _ _ _ _ _ _ _ _ _ _ _ _ _ _ _ _ _ _ _ _ _ _ _ _ _ _ _ _ _ _ _ _ _ _ _ _ _ _ _ _ _ _ _ _ _ _ _ _ _ _ _ _ _ _ _ _ _ _ _ _ _ _ _ _ _ _ _ _ _ _ _ _ _ _ _ _ _ _ _ _ _ _ _ _ _ _ _ _ _ _ _ _ _ _ _ _ _ _ _ _ _ _ _ _ _ _ _ _ _ _ _ _ _ _ _ _ _ _ _ _ _ _ _ _ _ _ _ _ _ _ _ _ _ _ _ _ _ _ _ _ _ _ _ _ _ _ _ _ _ _ _ _ _ _ _ _ _ _ _ _ _ _ _ _ _ _ _ _ _ _ _ _ _ _ _ _ _ _ _ _ _ _ _ _ _ _ _ _ _ _ trivial | trivial

set_option maxRecDepth 1000000 in
set_option maxHeartbeats 16000000 in
theorem yp_c1 {w : World} {R M rb : Nat} {sv : Value} {all : List UInt8} {st : St} {prev : Int} {Q : Exit → Act → World → Prop} (h : Rf w R M sv all st)
    (hQ : ∀ (w' : World) (u2 u3 u5 u8 u9 u10 u11 u12 u13 u14 u15 u16 u17 u18 u19 u20 u21 u22 u23 u24 u25 u26 u27 u28 u29 u30 u31 u32 u33 u34 u35 u36 u37 u38 u39 u40 u41 u42 u43 u44 u45 u46 u47 u48 u49 u50 u51 u52 u53 u54 u55 u56 u57 u58 u59 u60 u61 u62 u63 u64 u65 u66 u67 u68 u69 u70 u71 u72 u73 u74 u75 u76 u77 u78 u79 u80 u81 u82 u83 u84 u85 u86 u87 u88 u89 u90 u91 u92 u93 u94 u95 u96 u97 u98 u99 u100 u101 u102 u103 u104 u105 u106 u107 u108 u109 u110 u111 u112 u113 u114 u115 u116 u117 u118 u119 u120 u121 u122 u123 u124 u125 u126 u127 u128 u129 u130 u131 u132 u133 u134 u135 u136 u137 u138 u139 u140 u141 u142 u143 u144 u145 u146 u147 u148 u149 u150 u151 u152 u153 u154 u155 u156 u157 u158 u159 u160 u161 u162 u163 u164 u165 u166 u167 u168 u169 u170 u171 u172 u173 u174 u175 u176 u177 u178 u179 u180 u181 u182 u183 u184 u185 u186 u187 u188 u189 u190 u191 u192 u193 u194 u195 u196 u197 u198 u199 u200 u201 u202 u203 u204 u205 u206 u207 u208 u209 u210 u211 u212 u213 u214 u215 u216 u217 u218 u219 u220 u221 u222 u223 u224 u225 u226 u227 : Value), (Rf w' R M sv all (st.skip mk2).2 ∧ Fr [R] w w') → Q .normal ⟨(Value.pointer (some ⟨R, 0, none⟩) :: Value.int .i64 prev :: u2 :: u3 :: Value.pointer (some ⟨rb, 0, none⟩) :: u5 :: Value.bool true :: Value.int .i64 (st.skip mk2).1 :: u8 :: u9 :: u10 :: u11 :: u12 :: u13 :: u14 :: u15 :: u16 :: u17 :: u18 :: u19 :: u20 :: u21 :: u22 :: u23 :: u24 :: u25 :: u26 :: u27 :: u28 :: u29 :: u30 :: u31 :: u32 :: u33 :: u34 :: u35 :: u36 :: u37 :: u38 :: u39 :: u40 :: u41 :: u42 :: u43 :: u44 :: u45 :: u46 :: u47 :: u48 :: u49 :: u50 :: u51 :: u52 :: u53 :: u54 :: u55 :: u56 :: u57 :: u58 :: u59 :: u60 :: u61 :: u62 :: u63 :: u64 :: u65 :: u66 :: u67 :: u68 :: u69 :: u70 :: u71 :: u72 :: u73 :: u74 :: u75 :: u76 :: u77 :: u78 :: u79 :: u80 :: u81 :: u82 :: u83 :: u84 :: u85 :: u86 :: u87 :: u88 :: u89 :: u90 :: u91 :: u92 :: u93 :: u94 :: u95 :: u96 :: u97 :: u98 :: u99 :: u100 :: u101 :: u102 :: u103 :: u104 :: u105 :: u106 :: u107 :: u108 :: u109 :: u110 :: u111 :: u112 :: u113 :: u114 :: u115 :: u116 :: u117 :: u118 :: u119 :: u120 :: u121 :: u122 :: u123 :: u124 :: u125 :: u126 :: u127 :: u128 :: u129 :: u130 :: u131 :: u132 :: u133 :: u134 :: u135 :: u136 :: u137 :: u138 :: u139 :: u140 :: u141 :: u142 :: u143 :: u144 :: u145 :: u146 :: u147 :: u148 :: u149 :: u150 :: u151 :: u152 :: u153 :: u154 :: u155 :: u156 :: u157 :: u158 :: u159 :: u160 :: u161 :: u162 :: u163 :: u164 :: u165 :: u166 :: u167 :: u168 :: u169 :: u170 :: u171 :: u172 :: u173 :: u174 :: u175 :: u176 :: u177 :: u178 :: u179 :: u180 :: u181 :: u182 :: u183 :: u184 :: u185 :: u186 :: u187 :: u188 :: u189 :: u190 :: u191 :: u192 :: u193 :: u194 :: u195 :: u196 :: u197 :: u198 :: u199 :: u200 :: u201 :: u202 :: u203 :: u204 :: u205 :: u206 :: u207 :: u208 :: u209 :: u210 :: u211 :: u212 :: u213 :: u214 :: u215 :: u216 :: u217 :: u218 :: u219 :: u220 :: u221 :: u222 :: u223 :: u224 :: u225 :: u226 :: u227 :: []).toArray, []⟩ w') (u2 u3 u5 u8 u9 u10 u11 u12 u13 u14 u15 u16 u17 u18 u19 u20 u21 u22 u23 u24 u25 u26 u27 u28 u29 u30 u31 u32 u33 u34 u35 u36 u37 u38 u39 u40 u41 u42 u43 u44 u45 u46 u47 u48 u49 u50 u51 u52 u53 u54 u55 u56 u57 u58 u59 u60 u61 u62 u63 u64 u65 u66 u67 u68 u69 u70 u71 u72 u73 u74 u75 u76 u77 u78 u79 u80 u81 u82 u83 u84 u85 u86 u87 u88 u89 u90 u91 u92 u93 u94 u95 u96 u97 u98 u99 u100 u101 u102 u103 u104 u105 u106 u107 u108 u109 u110 u111 u112 u113 u114 u115 u116 u117 u118 u119 u120 u121 u122 u123 u124 u125 u126 u127 u128 u129 u130 u131 u132 u133 u134 u135 u136 u137 u138 u139 u140 u141 u142 u143 u144 u145 u146 u147 u148 u149 u150 u151 u152 u153 u154 u155 u156 u157 u158 u159 u160 u161 u162 u163 u164 u165 u166 u167 u168 u169 u170 u171 u172 u173 u174 u175 u176 u177 u178 u179 u180 u181 u182 u183 u184 u185 u186 u187 u188 u189 u190 u191 u192 u193 u194 u195 u196 u197 u198 u199 u200 u201 u202 u203 u204 u205 u206 u207 u208 u209 u210 u211 u212 u213 u214 u215 u216 u217 u218 u219 u220 u221 u222 u223 u224 u225 u226 u227 : Value) : Code.wp Tryz.prog (rFst y3) Q ⟨#[Value.pointer (some ⟨R, 0, none⟩), Value.int .i64 prev, u2, u3, Value.pointer (some ⟨rb, 0, none⟩), u5, Value.bool false, Value.int .i64 10, u8, u9, u10, u11, u12, u13, u14, u15, u16, u17, u18, u19, u20, u21, u22, u23, u24, u25, u26, u27, u28, u29, u30, u31, u32, u33, u34, u35, u36, u37, u38, u39, u40, u41, u42, u43, u44, u45, u46, u47, u48, u49, u50, u51, u52, u53, u54, u55, u56, u57, u58, u59, u60, u61, u62, u63, u64, u65, u66, u67, u68, u69, u70, u71, u72, u73, u74, u75, u76, u77, u78, u79, u80, u81, u82, u83, u84, u85, u86, u87, u88, u89, u90, u91, u92, u93, u94, u95, u96, u97, u98, u99, u100, u101, u102, u103, u104, u105, u106, u107, u108, u109, u110, u111, u112, u113, u114, u115, u116, u117, u118, u119, u120, u121, u122, u123, u124, u125, u126, u127, u128, u129, u130, u131, u132, u133, u134, u135, u136, u137, u138, u139, u140, u141, u142, u143, u144, u145, u146, u147, u148, u149, u150, u151, u152, u153, u154, u155, u156, u157, u158, u159, u160, u161, u162, u163, u164, u165, u166, u167, u168, u169, u170, u171, u172, u173, u174, u175, u176, u177, u178, u179, u180, u181, u182, u183, u184, u185, u186, u187, u188, u189, u190, u191, u192, u193, u194, u195, u196, u197, u198, u199, u200, u201, u202, u203, u204, u205, u206, u207, u208, u209, u210, u211, u212, u213, u214, u215, u216, u217, u218, u219, u220, u221, u222, u223, u224, u225, u226, u227], []⟩ w := by
  conv => arg 2; whnf
  go_wp2_with (go_at_call 24; refine (rskip1 _ R M sv all _ h).mono ?_; rintro e w1 ⟨rfl, rx, fx⟩; refine Hid.out ?_)
  refine Lib.hid ?_
  have H := Lib.hid (And.intro rx fx)
  clear h rx fx
  go_wp2
  first | exact hQ _ _ _ _ _ _ _ _ _ _ _ _ _ _ _ _ _ _ _ _ _ _ _ _ _ _ _ _ _ _ _ _ _ _ _ _ _ _ _ _ _ _ _ _ _ _ _ _ _ _ _ _ _ _ _ _ _ _ _ _ _ _ _ _ _ _ _ _ _ _ _ _ _ _ _ _ _ _ _ _ _ _ _ _ _ _ _ _ _ _ _ _ _ _ _ _ _ _ _ _ _ _ _ _ _ _ _ _ _ _ _ _ _ _ _ _ _ _ _ _ _ _ _ _ _ _ _ _ _ _ _ _ _ _ _ _ _ _ _ _ _ _ _ _ _ _ _ _ _ _ _ _ _ _ _ _ _ _ _ _ _ _ _ _ _ _ _ _ _ _ _ _ _ _ _ _ _ _ _ _ _ _ _ _ _ _ _ _ _ _ _ _ _ _ _ _ _ _ _ _ _ _ _ _ _ _ _ _ _ _ _ _ _ _ _ _ _ _ _ _ _ _ _ _ H.out | exact H.out

set_option maxRecDepth 1000000 in
set_option maxHeartbeats 16000000 in
theorem yp_t0 {W0 w : World} {R M rb : Nat} {sv : Value} {all : List UInt8} {st : St} {nl : Bool} {prev c : Int} {Q : Exit → Act → World → Prop} (h : Rf w R M sv all st) (hR : Blk w rb (ycells 0 ⟨#[]⟩ 0 0 false)) (fb : Fb [R] W0.heap.size W0 w) (rn : W0.heap.size ≤ rb) (lR : R < W0.heap.size) (lM : M < W0.heap.size) (h40 : (c == 40) = false)
    (hQ : ∀ (tb : Nat) (w' : World) (u2 u3 u5 u9 u10 u11 u12 u13 u14 u15 u16 u17 u18 u19 u20 u21 u22 u23 u24 u25 u26 u27 u28 u29 u30 u31 u32 u33 u34 u35 u36 u37 u38 u39 u40 u41 u42 u43 u44 u45 u46 u47 u48 u49 u50 u51 u52 u53 u54 u55 u56 u57 u58 u59 u60 u61 u62 u63 u64 u65 u66 u67 u68 u69 u70 u71 u72 u73 u74 u75 u76 u77 u78 u79 u80 u81 u82 u83 u84 u85 u86 u87 u88 u89 u90 u91 u92 u93 u94 u95 u96 u97 u98 u99 u100 u101 u102 u103 u104 u105 u106 u107 u108 u109 u110 u111 u112 u113 u114 u115 u116 u117 u118 u119 u120 u121 u122 u123 u124 u125 u126 u127 u128 u129 u130 u131 u132 u133 u134 u135 u136 u137 u138 u139 u140 u141 u142 u143 u144 u145 u146 u147 u148 u149 u150 u151 u152 u153 u154 u155 u156 u157 u158 u159 u160 u161 u162 u163 u164 u165 u166 u167 u168 u169 u170 u171 u172 u173 u174 u175 u176 u177 u178 u179 u180 u181 u182 u183 u184 u185 u186 u187 u188 u189 u190 u191 u192 u193 u194 u195 u196 u197 u198 u199 u200 u201 u202 u203 u204 u205 u206 u207 u208 u209 u210 u211 u212 u213 u214 u215 u216 u217 u218 u219 u220 u221 u222 u223 u224 u225 u226 u227 : Value), Yk W0 R M sv all rb tb w' st 0 ⟨#[]⟩ st.line st.col false → Q .normal ⟨(Value.pointer (some ⟨R, 0, none⟩) :: Value.int .i64 prev :: u2 :: u3 :: Value.pointer (some ⟨rb, 0, none⟩) :: u5 :: Value.bool nl :: Value.int .i64 c :: Value.pointer (some ⟨tb, 0, none⟩) :: u9 :: u10 :: u11 :: u12 :: u13 :: u14 :: u15 :: u16 :: u17 :: u18 :: u19 :: u20 :: u21 :: u22 :: u23 :: u24 :: u25 :: u26 :: u27 :: u28 :: u29 :: u30 :: u31 :: u32 :: u33 :: u34 :: u35 :: u36 :: u37 :: u38 :: u39 :: u40 :: u41 :: u42 :: u43 :: u44 :: u45 :: u46 :: u47 :: u48 :: u49 :: u50 :: u51 :: u52 :: u53 :: u54 :: u55 :: u56 :: u57 :: u58 :: u59 :: u60 :: u61 :: u62 :: u63 :: u64 :: u65 :: u66 :: u67 :: u68 :: u69 :: u70 :: u71 :: u72 :: u73 :: u74 :: u75 :: u76 :: u77 :: u78 :: u79 :: u80 :: u81 :: u82 :: u83 :: u84 :: u85 :: u86 :: u87 :: u88 :: u89 :: u90 :: u91 :: u92 :: u93 :: u94 :: u95 :: u96 :: u97 :: u98 :: u99 :: u100 :: u101 :: u102 :: u103 :: u104 :: u105 :: u106 :: u107 :: u108 :: u109 :: u110 :: u111 :: u112 :: u113 :: u114 :: u115 :: u116 :: u117 :: u118 :: u119 :: u120 :: u121 :: u122 :: u123 :: u124 :: u125 :: u126 :: u127 :: u128 :: u129 :: u130 :: u131 :: u132 :: u133 :: u134 :: u135 :: u136 :: u137 :: u138 :: u139 :: u140 :: u141 :: u142 :: u143 :: u144 :: u145 :: u146 :: u147 :: u148 :: u149 :: u150 :: u151 :: u152 :: u153 :: u154 :: u155 :: u156 :: u157 :: u158 :: u159 :: u160 :: u161 :: u162 :: u163 :: u164 :: u165 :: u166 :: u167 :: u168 :: u169 :: u170 :: u171 :: u172 :: u173 :: u174 :: u175 :: u176 :: u177 :: u178 :: u179 :: u180 :: u181 :: u182 :: u183 :: u184 :: u185 :: u186 :: u187 :: u188 :: u189 :: u190 :: u191 :: u192 :: u193 :: u194 :: u195 :: u196 :: u197 :: u198 :: u199 :: u200 :: u201 :: u202 :: u203 :: u204 :: u205 :: u206 :: u207 :: u208 :: u209 :: u210 :: u211 :: u212 :: u213 :: u214 :: u215 :: u216 :: u217 :: u218 :: u219 :: u220 :: u221 :: u222 :: u223 :: u224 :: u225 :: u226 :: u227 :: []).toArray, []⟩ w') (u2 u3 u5 u8 u9 u10 u11 u12 u13 u14 u15 u16 u17 u18 u19 u20 u21 u22 u23 u24 u25 u26 u27 u28 u29 u30 u31 u32 u33 u34 u35 u36 u37 u38 u39 u40 u41 u42 u43 u44 u45 u46 u47 u48 u49 u50 u51 u52 u53 u54 u55 u56 u57 u58 u59 u60 u61 u62 u63 u64 u65 u66 u67 u68 u69 u70 u71 u72 u73 u74 u75 u76 u77 u78 u79 u80 u81 u82 u83 u84 u85 u86 u87 u88 u89 u90 u91 u92 u93 u94 u95 u96 u97 u98 u99 u100 u101 u102 u103 u104 u105 u106 u107 u108 u109 u110 u111 u112 u113 u114 u115 u116 u117 u118 u119 u120 u121 u122 u123 u124 u125 u126 u127 u128 u129 u130 u131 u132 u133 u134 u135 u136 u137 u138 u139 u140 u141 u142 u143 u144 u145 u146 u147 u148 u149 u150 u151 u152 u153 u154 u155 u156 u157 u158 u159 u160 u161 u162 u163 u164 u165 u166 u167 u168 u169 u170 u171 u172 u173 u174 u175 u176 u177 u178 u179 u180 u181 u182 u183 u184 u185 u186 u187 u188 u189 u190 u191 u192 u193 u194 u195 u196 u197 u198 u199 u200 u201 u202 u203 u204 u205 u206 u207 u208 u209 u210 u211 u212 u213 u214 u215 u216 u217 u218 u219 u220 u221 u222 u223 u224 u225 u226 u227 : Value) : Code.wp Tryz.prog (rFst y6) Q ⟨#[Value.pointer (some ⟨R, 0, none⟩), Value.int .i64 prev, u2, u3, Value.pointer (some ⟨rb, 0, none⟩), u5, Value.bool nl, Value.int .i64 c, u8, u9, u10, u11, u12, u13, u14, u15, u16, u17, u18, u19, u20, u21, u22, u23, u24, u25, u26, u27, u28, u29, u30, u31, u32, u33, u34, u35, u36, u37, u38, u39, u40, u41, u42, u43, u44, u45, u46, u47, u48, u49, u50, u51, u52, u53, u54, u55, u56, u57, u58, u59, u60, u61, u62, u63, u64, u65, u66, u67, u68, u69, u70, u71, u72, u73, u74, u75, u76, u77, u78, u79, u80, u81, u82, u83, u84, u85, u86, u87, u88, u89, u90, u91, u92, u93, u94, u95, u96, u97, u98, u99, u100, u101, u102, u103, u104, u105, u106, u107, u108, u109, u110, u111, u112, u113, u114, u115, u116, u117, u118, u119, u120, u121, u122, u123, u124, u125, u126, u127, u128, u129, u130, u131, u132, u133, u134, u135, u136, u137, u138, u139, u140, u141, u142, u143, u144, u145, u146, u147, u148, u149, u150, u151, u152, u153, u154, u155, u156, u157, u158, u159, u160, u161, u162, u163, u164, u165, u166, u167, u168, u169, u170, u171, u172, u173, u174, u175, u176, u177, u178, u179, u180, u181, u182, u183, u184, u185, u186, u187, u188, u189, u190, u191, u192, u193, u194, u195, u196, u197, u198, u199, u200, u201, u202, u203, u204, u205, u206, u207, u208, u209, u210, u211, u212, u213, u214, u215, u216, u217, u218, u219, u220, u221, u222, u223, u224, u225, u226, u227], []⟩ w := by
  obtain ⟨i, hb, -⟩ := id h
  have c2 := hb.cell 2 _ rfl
  have c3 := hb.cell 3 _ rfl
  have d2 := (hb.alloc (.cells #[.int .i64 0, .string ⟨#[]⟩, .int .i64 0, .int .i64 0, .bool false] 43)).cell 2 _ rfl
  have d3 := (hb.alloc (.cells #[.int .i64 0, .string ⟨#[]⟩, .int .i64 0, .int .i64 0, .bool false] 43)).cell 3 _ rfl
  have hk : Yk W0 R M sv all rb w.heap.size (w.alloc (.cells #[.int .i64 0, .string ⟨#[]⟩, .int .i64 st.line, .int .i64 st.col, .bool false] 43)).drew st 0 ⟨#[]⟩ st.line st.col false := by
    have fa : Fr [] w (w.alloc (.cells #[.int .i64 0, .string ⟨#[]⟩, .int .i64 st.line, .int .i64 st.col, .bool false] 43)).drew := ((Fr.refl _ w).alloc _).drew
    exact ⟨h.fr fa (by simp) (by simp), fa.blk hR (by simp), ((Fr.refl [] _).drew).blk (Blk.new w _ _) (by simp), fb.trans ((fa.mono (by simp)).fb fb.size), rn, hR.lt, lR, lM⟩
  have HK := Lib.hid hk
  clear h hR fb rn lR lM hb hk
  conv => arg 2; whnf
  refine wp_onN ?_
  go_wp2
  go_region
  show Q .normal _ _
  exact hQ _ _ _ _ _ _ _ _ _ _ _ _ _ _ _ _ _ _ _ _ _ _ _ _ _ _ _ _ _ _ _ _ _ _ _ _ _ _ _ _ _ _ _ _ _ _ _ _ _ _ _ _ _ _ _ _ _ _ _ _ _ _ _ _ _ _ _ _ _ _ _ _ _ _ _ _ _ _ _ _ _ _ _ _ _ _ _ _ _ _ _ _ _ _ _ _ _ _ _ _ _ _ _ _ _ _ _ _ _ _ _ _ _ _ _ _ _ _ _ _ _ _ _ _ _ _ _ _ _ _ _ _ _ _ _ _ _ _ _ _ _ _ _ _ _ _ _ _ _ _ _ _ _ _ _ _ _ _ _ _ _ _ _ _ _ _ _ _ _ _ _ _ _ _ _ _ _ _ _ _ _ _ _ _ _ _ _ _ _ _ _ _ _ _ _ _ _ _ _ _ _ _ _ _ _ _ _ _ _ _ _ _ _ _ _ _ _ _ _ _ _ _ _ _ HK.out

set_option maxRecDepth 1000000 in
set_option maxHeartbeats 16000000 in
theorem yp_t1 {W0 w : World} {R M rb : Nat} {sv : Value} {all : List UInt8} {st : St} {nl : Bool} {prev c : Int} {Q : Exit → Act → World → Prop} (h : Rf w R M sv all st) (hR : Blk w rb (ycells 0 ⟨#[]⟩ 0 0 false)) (fb : Fb [R] W0.heap.size W0 w) (rn : W0.heap.size ≤ rb) (lR : R < W0.heap.size) (lM : M < W0.heap.size) (h41 : (prev == 41) = false)
    (hQ : ∀ (tb : Nat) (w' : World) (u2 u3 u5 u9 u10 u11 u12 u13 u14 u15 u16 u17 u18 u19 u20 u21 u22 u23 u24 u25 u26 u27 u28 u29 u30 u31 u32 u33 u34 u35 u36 u37 u38 u39 u40 u41 u42 u43 u44 u45 u46 u47 u48 u49 u50 u51 u52 u53 u54 u55 u56 u57 u58 u59 u60 u61 u62 u63 u64 u65 u66 u67 u68 u69 u70 u71 u72 u73 u74 u75 u76 u77 u78 u79 u80 u81 u82 u83 u84 u85 u86 u87 u88 u89 u90 u91 u92 u93 u94 u95 u96 u97 u98 u99 u100 u101 u102 u103 u104 u105 u106 u107 u108 u109 u110 u111 u112 u113 u114 u115 u116 u117 u118 u119 u120 u121 u122 u123 u124 u125 u126 u127 u128 u129 u130 u131 u132 u133 u134 u135 u136 u137 u138 u139 u140 u141 u142 u143 u144 u145 u146 u147 u148 u149 u150 u151 u152 u153 u154 u155 u156 u157 u158 u159 u160 u161 u162 u163 u164 u165 u166 u167 u168 u169 u170 u171 u172 u173 u174 u175 u176 u177 u178 u179 u180 u181 u182 u183 u184 u185 u186 u187 u188 u189 u190 u191 u192 u193 u194 u195 u196 u197 u198 u199 u200 u201 u202 u203 u204 u205 u206 u207 u208 u209 u210 u211 u212 u213 u214 u215 u216 u217 u218 u219 u220 u221 u222 u223 u224 u225 u226 u227 : Value), Yk W0 R M sv all rb tb w' st 0 ⟨#[]⟩ st.line st.col false → Q .normal ⟨(Value.pointer (some ⟨R, 0, none⟩) :: Value.int .i64 prev :: u2 :: u3 :: Value.pointer (some ⟨rb, 0, none⟩) :: u5 :: Value.bool nl :: Value.int .i64 40 :: Value.pointer (some ⟨tb, 0, none⟩) :: u9 :: u10 :: u11 :: u12 :: u13 :: u14 :: u15 :: u16 :: u17 :: u18 :: u19 :: u20 :: u21 :: u22 :: u23 :: u24 :: u25 :: u26 :: u27 :: u28 :: u29 :: u30 :: u31 :: u32 :: u33 :: u34 :: u35 :: u36 :: u37 :: u38 :: u39 :: u40 :: u41 :: u42 :: u43 :: u44 :: u45 :: u46 :: u47 :: u48 :: u49 :: u50 :: u51 :: u52 :: u53 :: u54 :: u55 :: u56 :: u57 :: u58 :: u59 :: u60 :: u61 :: u62 :: u63 :: u64 :: u65 :: u66 :: u67 :: u68 :: u69 :: u70 :: u71 :: u72 :: u73 :: u74 :: u75 :: u76 :: u77 :: u78 :: u79 :: u80 :: u81 :: u82 :: u83 :: u84 :: u85 :: u86 :: u87 :: u88 :: u89 :: u90 :: u91 :: u92 :: u93 :: u94 :: u95 :: u96 :: u97 :: u98 :: u99 :: u100 :: u101 :: u102 :: u103 :: u104 :: u105 :: u106 :: u107 :: u108 :: u109 :: u110 :: u111 :: u112 :: u113 :: u114 :: u115 :: u116 :: u117 :: u118 :: u119 :: u120 :: u121 :: u122 :: u123 :: u124 :: u125 :: u126 :: u127 :: u128 :: u129 :: u130 :: u131 :: u132 :: u133 :: u134 :: u135 :: u136 :: u137 :: u138 :: u139 :: u140 :: u141 :: u142 :: u143 :: u144 :: u145 :: u146 :: u147 :: u148 :: u149 :: u150 :: u151 :: u152 :: u153 :: u154 :: u155 :: u156 :: u157 :: u158 :: u159 :: u160 :: u161 :: u162 :: u163 :: u164 :: u165 :: u166 :: u167 :: u168 :: u169 :: u170 :: u171 :: u172 :: u173 :: u174 :: u175 :: u176 :: u177 :: u178 :: u179 :: u180 :: u181 :: u182 :: u183 :: u184 :: u185 :: u186 :: u187 :: u188 :: u189 :: u190 :: u191 :: u192 :: u193 :: u194 :: u195 :: u196 :: u197 :: u198 :: u199 :: u200 :: u201 :: u202 :: u203 :: u204 :: u205 :: u206 :: u207 :: u208 :: u209 :: u210 :: u211 :: u212 :: u213 :: u214 :: u215 :: u216 :: u217 :: u218 :: u219 :: u220 :: u221 :: u222 :: u223 :: u224 :: u225 :: u226 :: u227 :: []).toArray, []⟩ w') (u2 u3 u5 u8 u9 u10 u11 u12 u13 u14 u15 u16 u17 u18 u19 u20 u21 u22 u23 u24 u25 u26 u27 u28 u29 u30 u31 u32 u33 u34 u35 u36 u37 u38 u39 u40 u41 u42 u43 u44 u45 u46 u47 u48 u49 u50 u51 u52 u53 u54 u55 u56 u57 u58 u59 u60 u61 u62 u63 u64 u65 u66 u67 u68 u69 u70 u71 u72 u73 u74 u75 u76 u77 u78 u79 u80 u81 u82 u83 u84 u85 u86 u87 u88 u89 u90 u91 u92 u93 u94 u95 u96 u97 u98 u99 u100 u101 u102 u103 u104 u105 u106 u107 u108 u109 u110 u111 u112 u113 u114 u115 u116 u117 u118 u119 u120 u121 u122 u123 u124 u125 u126 u127 u128 u129 u130 u131 u132 u133 u134 u135 u136 u137 u138 u139 u140 u141 u142 u143 u144 u145 u146 u147 u148 u149 u150 u151 u152 u153 u154 u155 u156 u157 u158 u159 u160 u161 u162 u163 u164 u165 u166 u167 u168 u169 u170 u171 u172 u173 u174 u175 u176 u177 u178 u179 u180 u181 u182 u183 u184 u185 u186 u187 u188 u189 u190 u191 u192 u193 u194 u195 u196 u197 u198 u199 u200 u201 u202 u203 u204 u205 u206 u207 u208 u209 u210 u211 u212 u213 u214 u215 u216 u217 u218 u219 u220 u221 u222 u223 u224 u225 u226 u227 : Value) : Code.wp Tryz.prog (rFst y6) Q ⟨#[Value.pointer (some ⟨R, 0, none⟩), Value.int .i64 prev, u2, u3, Value.pointer (some ⟨rb, 0, none⟩), u5, Value.bool nl, Value.int .i64 40, u8, u9, u10, u11, u12, u13, u14, u15, u16, u17, u18, u19, u20, u21, u22, u23, u24, u25, u26, u27, u28, u29, u30, u31, u32, u33, u34, u35, u36, u37, u38, u39, u40, u41, u42, u43, u44, u45, u46, u47, u48, u49, u50, u51, u52, u53, u54, u55, u56, u57, u58, u59, u60, u61, u62, u63, u64, u65, u66, u67, u68, u69, u70, u71, u72, u73, u74, u75, u76, u77, u78, u79, u80, u81, u82, u83, u84, u85, u86, u87, u88, u89, u90, u91, u92, u93, u94, u95, u96, u97, u98, u99, u100, u101, u102, u103, u104, u105, u106, u107, u108, u109, u110, u111, u112, u113, u114, u115, u116, u117, u118, u119, u120, u121, u122, u123, u124, u125, u126, u127, u128, u129, u130, u131, u132, u133, u134, u135, u136, u137, u138, u139, u140, u141, u142, u143, u144, u145, u146, u147, u148, u149, u150, u151, u152, u153, u154, u155, u156, u157, u158, u159, u160, u161, u162, u163, u164, u165, u166, u167, u168, u169, u170, u171, u172, u173, u174, u175, u176, u177, u178, u179, u180, u181, u182, u183, u184, u185, u186, u187, u188, u189, u190, u191, u192, u193, u194, u195, u196, u197, u198, u199, u200, u201, u202, u203, u204, u205, u206, u207, u208, u209, u210, u211, u212, u213, u214, u215, u216, u217, u218, u219, u220, u221, u222, u223, u224, u225, u226, u227], []⟩ w := by
  obtain ⟨i, hb, -⟩ := id h
  have c2 := hb.cell 2 _ rfl
  have c3 := hb.cell 3 _ rfl
  have d2 := (hb.alloc (.cells #[.int .i64 0, .string ⟨#[]⟩, .int .i64 0, .int .i64 0, .bool false] 43)).cell 2 _ rfl
  have d3 := (hb.alloc (.cells #[.int .i64 0, .string ⟨#[]⟩, .int .i64 0, .int .i64 0, .bool false] 43)).cell 3 _ rfl
  have hk : Yk W0 R M sv all rb w.heap.size (w.alloc (.cells #[.int .i64 0, .string ⟨#[]⟩, .int .i64 st.line, .int .i64 st.col, .bool false] 43)).drew st 0 ⟨#[]⟩ st.line st.col false := by
    have fa : Fr [] w (w.alloc (.cells #[.int .i64 0, .string ⟨#[]⟩, .int .i64 st.line, .int .i64 st.col, .bool false] 43)).drew := ((Fr.refl _ w).alloc _).drew
    exact ⟨h.fr fa (by simp) (by simp), fa.blk hR (by simp), ((Fr.refl [] _).drew).blk (Blk.new w _ _) (by simp), fb.trans ((fa.mono (by simp)).fb fb.size), rn, hR.lt, lR, lM⟩
  have HK := Lib.hid hk
  clear h hR fb rn lR lM hb hk
  conv => arg 2; whnf
  refine wp_onN ?_
  go_wp2
  go_region
  show Q .normal _ _
  exact hQ _ _ _ _ _ _ _ _ _ _ _ _ _ _ _ _ _ _ _ _ _ _ _ _ _ _ _ _ _ _ _ _ _ _ _ _ _ _ _ _ _ _ _ _ _ _ _ _ _ _ _ _ _ _ _ _ _ _ _ _ _ _ _ _ _ _ _ _ _ _ _ _ _ _ _ _ _ _ _ _ _ _ _ _ _ _ _ _ _ _ _ _ _ _ _ _ _ _ _ _ _ _ _ _ _ _ _ _ _ _ _ _ _ _ _ _ _ _ _ _ _ _ _ _ _ _ _ _ _ _ _ _ _ _ _ _ _ _ _ _ _ _ _ _ _ _ _ _ _ _ _ _ _ _ _ _ _ _ _ _ _ _ _ _ _ _ _ _ _ _ _ _ _ _ _ _ _ _ _ _ _ _ _ _ _ _ _ _ _ _ _ _ _ _ _ _ _ _ _ _ _ _ _ _ _ _ _ _ _ _ _ _ _ _ _ _ _ _ _ _ _ _ _ _ HK.out

set_option maxRecDepth 1000000 in
set_option maxHeartbeats 16000000 in
theorem yp_t2 {W0 w : World} {R M rb : Nat} {sv : Value} {all : List UInt8} {st : St} {nl : Bool} {prev c : Int} {Q : Exit → Act → World → Prop} (h : Rf w R M sv all st) (hR : Blk w rb (ycells 0 ⟨#[]⟩ 0 0 false)) (fb : Fb [R] W0.heap.size W0 w) (rn : W0.heap.size ≤ rb) (lR : R < W0.heap.size) (lM : M < W0.heap.size) (h41 : (prev == 41) = true)
    (hQ : ∀ (tb : Nat) (w' : World) (u2 u3 u5 u9 u10 u11 u12 u13 u14 u15 u16 u17 u18 u19 u20 u21 u22 u23 u24 u25 u26 u27 u28 u29 u30 u31 u32 u33 u34 u35 u36 u37 u38 u39 u40 u41 u42 u43 u44 u45 u46 u47 u48 u49 u50 u51 u52 u53 u54 u55 u56 u57 u58 u59 u60 u61 u62 u63 u64 u65 u66 u67 u68 u69 u70 u71 u72 u73 u74 u75 u76 u77 u78 u79 u80 u81 u82 u83 u84 u85 u86 u87 u88 u89 u90 u91 u92 u93 u94 u95 u96 u97 u98 u99 u100 u101 u102 u103 u104 u105 u106 u107 u108 u109 u110 u111 u112 u113 u114 u115 u116 u117 u118 u119 u120 u121 u122 u123 u124 u125 u126 u127 u128 u129 u130 u131 u132 u133 u134 u135 u136 u137 u138 u139 u140 u141 u142 u143 u144 u145 u146 u147 u148 u149 u150 u151 u152 u153 u154 u155 u156 u157 u158 u159 u160 u161 u162 u163 u164 u165 u166 u167 u168 u169 u170 u171 u172 u173 u174 u175 u176 u177 u178 u179 u180 u181 u182 u183 u184 u185 u186 u187 u188 u189 u190 u191 u192 u193 u194 u195 u196 u197 u198 u199 u200 u201 u202 u203 u204 u205 u206 u207 u208 u209 u210 u211 u212 u213 u214 u215 u216 u217 u218 u219 u220 u221 u222 u223 u224 u225 u226 u227 : Value), Yk W0 R M sv all rb tb w' st 0 ⟨#[]⟩ st.line st.col nl → Q .normal ⟨(Value.pointer (some ⟨R, 0, none⟩) :: Value.int .i64 prev :: u2 :: u3 :: Value.pointer (some ⟨rb, 0, none⟩) :: u5 :: Value.bool nl :: Value.int .i64 40 :: Value.pointer (some ⟨tb, 0, none⟩) :: u9 :: u10 :: u11 :: u12 :: u13 :: u14 :: u15 :: u16 :: u17 :: u18 :: u19 :: u20 :: u21 :: u22 :: u23 :: u24 :: u25 :: u26 :: u27 :: u28 :: u29 :: u30 :: u31 :: u32 :: u33 :: u34 :: u35 :: u36 :: u37 :: u38 :: u39 :: u40 :: u41 :: u42 :: u43 :: u44 :: u45 :: u46 :: u47 :: u48 :: u49 :: u50 :: u51 :: u52 :: u53 :: u54 :: u55 :: u56 :: u57 :: u58 :: u59 :: u60 :: u61 :: u62 :: u63 :: u64 :: u65 :: u66 :: u67 :: u68 :: u69 :: u70 :: u71 :: u72 :: u73 :: u74 :: u75 :: u76 :: u77 :: u78 :: u79 :: u80 :: u81 :: u82 :: u83 :: u84 :: u85 :: u86 :: u87 :: u88 :: u89 :: u90 :: u91 :: u92 :: u93 :: u94 :: u95 :: u96 :: u97 :: u98 :: u99 :: u100 :: u101 :: u102 :: u103 :: u104 :: u105 :: u106 :: u107 :: u108 :: u109 :: u110 :: u111 :: u112 :: u113 :: u114 :: u115 :: u116 :: u117 :: u118 :: u119 :: u120 :: u121 :: u122 :: u123 :: u124 :: u125 :: u126 :: u127 :: u128 :: u129 :: u130 :: u131 :: u132 :: u133 :: u134 :: u135 :: u136 :: u137 :: u138 :: u139 :: u140 :: u141 :: u142 :: u143 :: u144 :: u145 :: u146 :: u147 :: u148 :: u149 :: u150 :: u151 :: u152 :: u153 :: u154 :: u155 :: u156 :: u157 :: u158 :: u159 :: u160 :: u161 :: u162 :: u163 :: u164 :: u165 :: u166 :: u167 :: u168 :: u169 :: u170 :: u171 :: u172 :: u173 :: u174 :: u175 :: u176 :: u177 :: u178 :: u179 :: u180 :: u181 :: u182 :: u183 :: u184 :: u185 :: u186 :: u187 :: u188 :: u189 :: u190 :: u191 :: u192 :: u193 :: u194 :: u195 :: u196 :: u197 :: u198 :: u199 :: u200 :: u201 :: u202 :: u203 :: u204 :: u205 :: u206 :: u207 :: u208 :: u209 :: u210 :: u211 :: u212 :: u213 :: u214 :: u215 :: u216 :: u217 :: u218 :: u219 :: u220 :: u221 :: u222 :: u223 :: u224 :: u225 :: u226 :: u227 :: []).toArray, []⟩ w') (u2 u3 u5 u8 u9 u10 u11 u12 u13 u14 u15 u16 u17 u18 u19 u20 u21 u22 u23 u24 u25 u26 u27 u28 u29 u30 u31 u32 u33 u34 u35 u36 u37 u38 u39 u40 u41 u42 u43 u44 u45 u46 u47 u48 u49 u50 u51 u52 u53 u54 u55 u56 u57 u58 u59 u60 u61 u62 u63 u64 u65 u66 u67 u68 u69 u70 u71 u72 u73 u74 u75 u76 u77 u78 u79 u80 u81 u82 u83 u84 u85 u86 u87 u88 u89 u90 u91 u92 u93 u94 u95 u96 u97 u98 u99 u100 u101 u102 u103 u104 u105 u106 u107 u108 u109 u110 u111 u112 u113 u114 u115 u116 u117 u118 u119 u120 u121 u122 u123 u124 u125 u126 u127 u128 u129 u130 u131 u132 u133 u134 u135 u136 u137 u138 u139 u140 u141 u142 u143 u144 u145 u146 u147 u148 u149 u150 u151 u152 u153 u154 u155 u156 u157 u158 u159 u160 u161 u162 u163 u164 u165 u166 u167 u168 u169 u170 u171 u172 u173 u174 u175 u176 u177 u178 u179 u180 u181 u182 u183 u184 u185 u186 u187 u188 u189 u190 u191 u192 u193 u194 u195 u196 u197 u198 u199 u200 u201 u202 u203 u204 u205 u206 u207 u208 u209 u210 u211 u212 u213 u214 u215 u216 u217 u218 u219 u220 u221 u222 u223 u224 u225 u226 u227 : Value) : Code.wp Tryz.prog (rFst y6) Q ⟨#[Value.pointer (some ⟨R, 0, none⟩), Value.int .i64 prev, u2, u3, Value.pointer (some ⟨rb, 0, none⟩), u5, Value.bool nl, Value.int .i64 40, u8, u9, u10, u11, u12, u13, u14, u15, u16, u17, u18, u19, u20, u21, u22, u23, u24, u25, u26, u27, u28, u29, u30, u31, u32, u33, u34, u35, u36, u37, u38, u39, u40, u41, u42, u43, u44, u45, u46, u47, u48, u49, u50, u51, u52, u53, u54, u55, u56, u57, u58, u59, u60, u61, u62, u63, u64, u65, u66, u67, u68, u69, u70, u71, u72, u73, u74, u75, u76, u77, u78, u79, u80, u81, u82, u83, u84, u85, u86, u87, u88, u89, u90, u91, u92, u93, u94, u95, u96, u97, u98, u99, u100, u101, u102, u103, u104, u105, u106, u107, u108, u109, u110, u111, u112, u113, u114, u115, u116, u117, u118, u119, u120, u121, u122, u123, u124, u125, u126, u127, u128, u129, u130, u131, u132, u133, u134, u135, u136, u137, u138, u139, u140, u141, u142, u143, u144, u145, u146, u147, u148, u149, u150, u151, u152, u153, u154, u155, u156, u157, u158, u159, u160, u161, u162, u163, u164, u165, u166, u167, u168, u169, u170, u171, u172, u173, u174, u175, u176, u177, u178, u179, u180, u181, u182, u183, u184, u185, u186, u187, u188, u189, u190, u191, u192, u193, u194, u195, u196, u197, u198, u199, u200, u201, u202, u203, u204, u205, u206, u207, u208, u209, u210, u211, u212, u213, u214, u215, u216, u217, u218, u219, u220, u221, u222, u223, u224, u225, u226, u227], []⟩ w := by
  obtain ⟨i, hb, -⟩ := id h
  have c2 := hb.cell 2 _ rfl
  have c3 := hb.cell 3 _ rfl
  have d2 := (hb.alloc (.cells #[.int .i64 0, .string ⟨#[]⟩, .int .i64 0, .int .i64 0, .bool false] 43)).cell 2 _ rfl
  have d3 := (hb.alloc (.cells #[.int .i64 0, .string ⟨#[]⟩, .int .i64 0, .int .i64 0, .bool false] 43)).cell 3 _ rfl
  have hk : Yk W0 R M sv all rb w.heap.size (w.alloc (.cells #[.int .i64 0, .string ⟨#[]⟩, .int .i64 st.line, .int .i64 st.col, .bool nl] 43)).drew st 0 ⟨#[]⟩ st.line st.col nl := by
    have fa : Fr [] w (w.alloc (.cells #[.int .i64 0, .string ⟨#[]⟩, .int .i64 st.line, .int .i64 st.col, .bool nl] 43)).drew := ((Fr.refl _ w).alloc _).drew
    exact ⟨h.fr fa (by simp) (by simp), fa.blk hR (by simp), ((Fr.refl [] _).drew).blk (Blk.new w _ _) (by simp), fb.trans ((fa.mono (by simp)).fb fb.size), rn, hR.lt, lR, lM⟩
  have HK := Lib.hid hk
  clear h hR fb rn lR lM hb hk
  conv => arg 2; whnf
  refine wp_onN ?_
  go_wp2
  go_region
  show Q .normal _ _
  exact hQ _ _ _ _ _ _ _ _ _ _ _ _ _ _ _ _ _ _ _ _ _ _ _ _ _ _ _ _ _ _ _ _ _ _ _ _ _ _ _ _ _ _ _ _ _ _ _ _ _ _ _ _ _ _ _ _ _ _ _ _ _ _ _ _ _ _ _ _ _ _ _ _ _ _ _ _ _ _ _ _ _ _ _ _ _ _ _ _ _ _ _ _ _ _ _ _ _ _ _ _ _ _ _ _ _ _ _ _ _ _ _ _ _ _ _ _ _ _ _ _ _ _ _ _ _ _ _ _ _ _ _ _ _ _ _ _ _ _ _ _ _ _ _ _ _ _ _ _ _ _ _ _ _ _ _ _ _ _ _ _ _ _ _ _ _ _ _ _ _ _ _ _ _ _ _ _ _ _ _ _ _ _ _ _ _ _ _ _ _ _ _ _ _ _ _ _ _ _ _ _ _ _ _ _ _ _ _ _ _ _ _ _ _ _ _ _ _ _ _ _ _ _ _ _ HK.out
end Go.Proofs.YtgiklkapedlckaaGreatDoor

namespace Go.Proofs.YtgiklkapedlckaaGreatDoor
open Go.RowKit

set_option maxRecDepth 1000000 in
set_option maxHeartbeats 16000000 in
theorem y_tok {W0 w : World} {R M rb tb : Nat} {sv : Value} {all : List UInt8} {st : St} {prev line col : Int} {nl pn : Bool} {Q : Exit → Act → World → Prop} {c : Int} (h : Yk W0 R M sv all rb tb w st 0 ⟨#[]⟩ line col pn) (hn : ¬ (c = 45 ∧ hd st.rest = 45))
    (hQ : ∀ a w, YRet W0 R M sv all rb line col pn (tokL c st) a w → Q .ret a w) (u2 u3 u5 u9 u10 u11 u12 u13 u14 u15 u16 u17 u18 u19 u20 u21 u22 u23 u24 u25 u26 u27 u28 u29 u30 u31 u32 u33 u34 u35 u36 u37 u38 u39 u40 u41 u42 u43 u44 u45 u46 u47 u48 u49 u50 u51 u52 u53 u54 u55 u56 u57 u58 u59 u60 u61 u62 u63 u64 u65 u66 u67 u68 u69 u70 u71 u72 u73 u74 u75 u76 u77 u78 u79 u80 u81 u82 u83 u84 u85 u86 u87 u88 u89 u90 u91 u92 u93 u94 u95 u96 u97 u98 u99 u100 u101 u102 u103 u104 u105 u106 u107 u108 u109 u110 u111 u112 u113 u114 u115 u116 u117 u118 u119 u120 u121 u122 u123 u124 u125 u126 u127 u128 u129 u130 u131 u132 u133 u134 u135 u136 u137 u138 u139 u140 u141 u142 u143 u144 u145 u146 u147 u148 u149 u150 u151 u152 u153 u154 u155 u156 u157 u158 u159 u160 u161 u162 u163 u164 u165 u166 u167 u168 u169 u170 u171 u172 u173 u174 u175 u176 u177 u178 u179 u180 u181 u182 u183 u184 u185 u186 u187 u188 u189 u190 u191 u192 u193 u194 u195 u196 u197 u198 u199 u200 u201 u202 u203 u204 u205 u206 u207 u208 u209 u210 u211 u212 u213 u214 u215 u216 u217 u218 u219 u220 u221 u222 u223 u224 u225 u226 u227 : Value) : Code.wp Tryz.prog yM Q ⟨(Value.pointer (some ⟨R, 0, none⟩) :: Value.int .i64 prev :: u2 :: u3 :: Value.pointer (some ⟨rb, 0, none⟩) :: u5 :: Value.bool nl :: Value.int .i64 c :: Value.pointer (some ⟨tb, 0, none⟩) :: u9 :: u10 :: u11 :: u12 :: u13 :: u14 :: u15 :: u16 :: u17 :: u18 :: u19 :: u20 :: u21 :: u22 :: u23 :: u24 :: u25 :: u26 :: u27 :: u28 :: u29 :: u30 :: u31 :: u32 :: u33 :: u34 :: u35 :: u36 :: u37 :: u38 :: u39 :: u40 :: u41 :: u42 :: u43 :: u44 :: u45 :: u46 :: u47 :: u48 :: u49 :: u50 :: u51 :: u52 :: u53 :: u54 :: u55 :: u56 :: u57 :: u58 :: u59 :: u60 :: u61 :: u62 :: u63 :: u64 :: u65 :: u66 :: u67 :: u68 :: u69 :: u70 :: u71 :: u72 :: u73 :: u74 :: u75 :: u76 :: u77 :: u78 :: u79 :: u80 :: u81 :: u82 :: u83 :: u84 :: u85 :: u86 :: u87 :: u88 :: u89 :: u90 :: u91 :: u92 :: u93 :: u94 :: u95 :: u96 :: u97 :: u98 :: u99 :: u100 :: u101 :: u102 :: u103 :: u104 :: u105 :: u106 :: u107 :: u108 :: u109 :: u110 :: u111 :: u112 :: u113 :: u114 :: u115 :: u116 :: u117 :: u118 :: u119 :: u120 :: u121 :: u122 :: u123 :: u124 :: u125 :: u126 :: u127 :: u128 :: u129 :: u130 :: u131 :: u132 :: u133 :: u134 :: u135 :: u136 :: u137 :: u138 :: u139 :: u140 :: u141 :: u142 :: u143 :: u144 :: u145 :: u146 :: u147 :: u148 :: u149 :: u150 :: u151 :: u152 :: u153 :: u154 :: u155 :: u156 :: u157 :: u158 :: u159 :: u160 :: u161 :: u162 :: u163 :: u164 :: u165 :: u166 :: u167 :: u168 :: u169 :: u170 :: u171 :: u172 :: u173 :: u174 :: u175 :: u176 :: u177 :: u178 :: u179 :: u180 :: u181 :: u182 :: u183 :: u184 :: u185 :: u186 :: u187 :: u188 :: u189 :: u190 :: u191 :: u192 :: u193 :: u194 :: u195 :: u196 :: u197 :: u198 :: u199 :: u200 :: u201 :: u202 :: u203 :: u204 :: u205 :: u206 :: u207 :: u208 :: u209 :: u210 :: u211 :: u212 :: u213 :: u214 :: u215 :: u216 :: u217 :: u218 :: u219 :: u220 :: u221 :: u222 :: u223 :: u224 :: u225 :: u226 :: u227 :: []).toArray, []⟩ w := by
  by_cases HI : identS c = true
  · have e : tokL c st = identK c st := by unfold tokL; rw [if_pos HI]
    rw [e] at hQ; exact yi_ident h (Lib.hid HI) hQ u2 u3 u5 u9 u10 u11 u12 u13 u14 u15 u16 u17 u18 u19 u20 u21 u22 u23 u24 u25 u26 u27 u28 u29 u30 u31 u32 u33 u34 u35 u36 u37 u38 u39 u40 u41 u42 u43 u44 u45 u46 u47 u48 u49 u50 u51 u52 u53 u54 u55 u56 u57 u58 u59 u60 u61 u62 u63 u64 u65 u66 u67 u68 u69 u70 u71 u72 u73 u74 u75 u76 u77 u78 u79 u80 u81 u82 u83 u84 u85 u86 u87 u88 u89 u90 u91 u92 u93 u94 u95 u96 u97 u98 u99 u100 u101 u102 u103 u104 u105 u106 u107 u108 u109 u110 u111 u112 u113 u114 u115 u116 u117 u118 u119 u120 u121 u122 u123 u124 u125 u126 u127 u128 u129 u130 u131 u132 u133 u134 u135 u136 u137 u138 u139 u140 u141 u142 u143 u144 u145 u146 u147 u148 u149 u150 u151 u152 u153 u154 u155 u156 u157 u158 u159 u160 u161 u162 u163 u164 u165 u166 u167 u168 u169 u170 u171 u172 u173 u174 u175 u176 u177 u178 u179 u180 u181 u182 u183 u184 u185 u186 u187 u188 u189 u190 u191 u192 u193 u194 u195 u196 u197 u198 u199 u200 u201 u202 u203 u204 u205 u206 u207 u208 u209 u210 u211 u212 u213 u214 u215 u216 u217 u218 u219 u220 u221 u222 u223 u224 u225 u226 u227
  by_cases HD : decI c = true
  · have e : tokL c st = numK c st := by unfold tokL; rw [if_neg HI, if_pos HD]
    rw [e] at hQ; exact yn_num h (Lib.hid (by simpa using HI)) (Lib.hid HD) hQ u2 u3 u5 u9 u10 u11 u12 u13 u14 u15 u16 u17 u18 u19 u20 u21 u22 u23 u24 u25 u26 u27 u28 u29 u30 u31 u32 u33 u34 u35 u36 u37 u38 u39 u40 u41 u42 u43 u44 u45 u46 u47 u48 u49 u50 u51 u52 u53 u54 u55 u56 u57 u58 u59 u60 u61 u62 u63 u64 u65 u66 u67 u68 u69 u70 u71 u72 u73 u74 u75 u76 u77 u78 u79 u80 u81 u82 u83 u84 u85 u86 u87 u88 u89 u90 u91 u92 u93 u94 u95 u96 u97 u98 u99 u100 u101 u102 u103 u104 u105 u106 u107 u108 u109 u110 u111 u112 u113 u114 u115 u116 u117 u118 u119 u120 u121 u122 u123 u124 u125 u126 u127 u128 u129 u130 u131 u132 u133 u134 u135 u136 u137 u138 u139 u140 u141 u142 u143 u144 u145 u146 u147 u148 u149 u150 u151 u152 u153 u154 u155 u156 u157 u158 u159 u160 u161 u162 u163 u164 u165 u166 u167 u168 u169 u170 u171 u172 u173 u174 u175 u176 u177 u178 u179 u180 u181 u182 u183 u184 u185 u186 u187 u188 u189 u190 u191 u192 u193 u194 u195 u196 u197 u198 u199 u200 u201 u202 u203 u204 u205 u206 u207 u208 u209 u210 u211 u212 u213 u214 u215 u216 u217 u218 u219 u220 u221 u222 u223 u224 u225 u226 u227
  by_cases q : c = -1
  · subst q
    have e : tokL (-1) st = ((true, -1, [], st) : Bool × Int × List UInt8 × St) := by unfold tokL; rw [if_neg (by decide), if_neg (by decide), if_pos (by decide)]
    rw [e] at hQ; exact ys_eof h  hQ u2 u3 u5 u9 u10 u11 u12 u13 u14 u15 u16 u17 u18 u19 u20 u21 u22 u23 u24 u25 u26 u27 u28 u29 u30 u31 u32 u33 u34 u35 u36 u37 u38 u39 u40 u41 u42 u43 u44 u45 u46 u47 u48 u49 u50 u51 u52 u53 u54 u55 u56 u57 u58 u59 u60 u61 u62 u63 u64 u65 u66 u67 u68 u69 u70 u71 u72 u73 u74 u75 u76 u77 u78 u79 u80 u81 u82 u83 u84 u85 u86 u87 u88 u89 u90 u91 u92 u93 u94 u95 u96 u97 u98 u99 u100 u101 u102 u103 u104 u105 u106 u107 u108 u109 u110 u111 u112 u113 u114 u115 u116 u117 u118 u119 u120 u121 u122 u123 u124 u125 u126 u127 u128 u129 u130 u131 u132 u133 u134 u135 u136 u137 u138 u139 u140 u141 u142 u143 u144 u145 u146 u147 u148 u149 u150 u151 u152 u153 u154 u155 u156 u157 u158 u159 u160 u161 u162 u163 u164 u165 u166 u167 u168 u169 u170 u171 u172 u173 u174 u175 u176 u177 u178 u179 u180 u181 u182 u183 u184 u185 u186 u187 u188 u189 u190 u191 u192 u193 u194 u195 u196 u197 u198 u199 u200 u201 u202 u203 u204 u205 u206 u207 u208 u209 u210 u211 u212 u213 u214 u215 u216 u217 u218 u219 u220 u221 u222 u223 u224 u225 u226 u227
  have em1 : (c == -1) = false := by simpa using q
  clear q
  by_cases q : c = 45
  · subst q
    have hx : (hd st.rest == 45) = false := by
      rw [beq_eq_false_iff_ne]; exact fun e => hn ⟨rfl, e⟩
    have e : tokL 45 st = one 45 st := by unfold tokL; rw [if_neg (by decide), if_neg (by decide), if_neg (by decide), if_neg (by decide), if_neg (by decide), if_neg (by decide), if_neg (by decide), if_neg (by decide), if_neg (by decide), if_neg (by decide), if_neg (by decide), if_pos (by decide)]
    rw [e] at hQ; exact yo_45 h hx hQ u2 u3 u5 u9 u10 u11 u12 u13 u14 u15 u16 u17 u18 u19 u20 u21 u22 u23 u24 u25 u26 u27 u28 u29 u30 u31 u32 u33 u34 u35 u36 u37 u38 u39 u40 u41 u42 u43 u44 u45 u46 u47 u48 u49 u50 u51 u52 u53 u54 u55 u56 u57 u58 u59 u60 u61 u62 u63 u64 u65 u66 u67 u68 u69 u70 u71 u72 u73 u74 u75 u76 u77 u78 u79 u80 u81 u82 u83 u84 u85 u86 u87 u88 u89 u90 u91 u92 u93 u94 u95 u96 u97 u98 u99 u100 u101 u102 u103 u104 u105 u106 u107 u108 u109 u110 u111 u112 u113 u114 u115 u116 u117 u118 u119 u120 u121 u122 u123 u124 u125 u126 u127 u128 u129 u130 u131 u132 u133 u134 u135 u136 u137 u138 u139 u140 u141 u142 u143 u144 u145 u146 u147 u148 u149 u150 u151 u152 u153 u154 u155 u156 u157 u158 u159 u160 u161 u162 u163 u164 u165 u166 u167 u168 u169 u170 u171 u172 u173 u174 u175 u176 u177 u178 u179 u180 u181 u182 u183 u184 u185 u186 u187 u188 u189 u190 u191 u192 u193 u194 u195 u196 u197 u198 u199 u200 u201 u202 u203 u204 u205 u206 u207 u208 u209 u210 u211 u212 u213 u214 u215 u216 u217 u218 u219 u220 u221 u222 u223 u224 u225 u226 u227
  have e45 : (c == 45) = false := by simpa using q
  clear q
  by_cases q : c = 34
  · subst q
    have e : tokL 34 st = strK 34 st := by unfold tokL; rw [if_neg (by decide), if_neg (by decide), if_neg (by decide), if_pos (by decide)]
    rw [e] at hQ; exact yq_34 h  hQ u2 u3 u5 u9 u10 u11 u12 u13 u14 u15 u16 u17 u18 u19 u20 u21 u22 u23 u24 u25 u26 u27 u28 u29 u30 u31 u32 u33 u34 u35 u36 u37 u38 u39 u40 u41 u42 u43 u44 u45 u46 u47 u48 u49 u50 u51 u52 u53 u54 u55 u56 u57 u58 u59 u60 u61 u62 u63 u64 u65 u66 u67 u68 u69 u70 u71 u72 u73 u74 u75 u76 u77 u78 u79 u80 u81 u82 u83 u84 u85 u86 u87 u88 u89 u90 u91 u92 u93 u94 u95 u96 u97 u98 u99 u100 u101 u102 u103 u104 u105 u106 u107 u108 u109 u110 u111 u112 u113 u114 u115 u116 u117 u118 u119 u120 u121 u122 u123 u124 u125 u126 u127 u128 u129 u130 u131 u132 u133 u134 u135 u136 u137 u138 u139 u140 u141 u142 u143 u144 u145 u146 u147 u148 u149 u150 u151 u152 u153 u154 u155 u156 u157 u158 u159 u160 u161 u162 u163 u164 u165 u166 u167 u168 u169 u170 u171 u172 u173 u174 u175 u176 u177 u178 u179 u180 u181 u182 u183 u184 u185 u186 u187 u188 u189 u190 u191 u192 u193 u194 u195 u196 u197 u198 u199 u200 u201 u202 u203 u204 u205 u206 u207 u208 u209 u210 u211 u212 u213 u214 u215 u216 u217 u218 u219 u220 u221 u222 u223 u224 u225 u226 u227
  have e34 : (c == 34) = false := by simpa using q
  clear q
  by_cases q : c = 39
  · subst q
    have e : tokL 39 st = strK 39 st := by unfold tokL; rw [if_neg (by decide), if_neg (by decide), if_neg (by decide), if_pos (by decide)]
    rw [e] at hQ; exact yq_39 h  hQ u2 u3 u5 u9 u10 u11 u12 u13 u14 u15 u16 u17 u18 u19 u20 u21 u22 u23 u24 u25 u26 u27 u28 u29 u30 u31 u32 u33 u34 u35 u36 u37 u38 u39 u40 u41 u42 u43 u44 u45 u46 u47 u48 u49 u50 u51 u52 u53 u54 u55 u56 u57 u58 u59 u60 u61 u62 u63 u64 u65 u66 u67 u68 u69 u70 u71 u72 u73 u74 u75 u76 u77 u78 u79 u80 u81 u82 u83 u84 u85 u86 u87 u88 u89 u90 u91 u92 u93 u94 u95 u96 u97 u98 u99 u100 u101 u102 u103 u104 u105 u106 u107 u108 u109 u110 u111 u112 u113 u114 u115 u116 u117 u118 u119 u120 u121 u122 u123 u124 u125 u126 u127 u128 u129 u130 u131 u132 u133 u134 u135 u136 u137 u138 u139 u140 u141 u142 u143 u144 u145 u146 u147 u148 u149 u150 u151 u152 u153 u154 u155 u156 u157 u158 u159 u160 u161 u162 u163 u164 u165 u166 u167 u168 u169 u170 u171 u172 u173 u174 u175 u176 u177 u178 u179 u180 u181 u182 u183 u184 u185 u186 u187 u188 u189 u190 u191 u192 u193 u194 u195 u196 u197 u198 u199 u200 u201 u202 u203 u204 u205 u206 u207 u208 u209 u210 u211 u212 u213 u214 u215 u216 u217 u218 u219 u220 u221 u222 u223 u224 u225 u226 u227
  have e39 : (c == 39) = false := by simpa using q
  clear q
  by_cases q : c = 91
  · subst q
    cases hx : (hd st.rest == 91)
    · cases hy : (hd st.rest == 61)
      · have e : tokL 91 st = one 91 st := by unfold tokL; rw [if_neg (by decide), if_neg (by decide), if_neg (by decide), if_neg (by decide), if_pos (by decide), if_neg (by rw [beq_eq_false_iff_ne] at hx hy; omega)]
        rw [e] at hQ; exact yo_91 h hx hy hQ u2 u3 u5 u9 u10 u11 u12 u13 u14 u15 u16 u17 u18 u19 u20 u21 u22 u23 u24 u25 u26 u27 u28 u29 u30 u31 u32 u33 u34 u35 u36 u37 u38 u39 u40 u41 u42 u43 u44 u45 u46 u47 u48 u49 u50 u51 u52 u53 u54 u55 u56 u57 u58 u59 u60 u61 u62 u63 u64 u65 u66 u67 u68 u69 u70 u71 u72 u73 u74 u75 u76 u77 u78 u79 u80 u81 u82 u83 u84 u85 u86 u87 u88 u89 u90 u91 u92 u93 u94 u95 u96 u97 u98 u99 u100 u101 u102 u103 u104 u105 u106 u107 u108 u109 u110 u111 u112 u113 u114 u115 u116 u117 u118 u119 u120 u121 u122 u123 u124 u125 u126 u127 u128 u129 u130 u131 u132 u133 u134 u135 u136 u137 u138 u139 u140 u141 u142 u143 u144 u145 u146 u147 u148 u149 u150 u151 u152 u153 u154 u155 u156 u157 u158 u159 u160 u161 u162 u163 u164 u165 u166 u167 u168 u169 u170 u171 u172 u173 u174 u175 u176 u177 u178 u179 u180 u181 u182 u183 u184 u185 u186 u187 u188 u189 u190 u191 u192 u193 u194 u195 u196 u197 u198 u199 u200 u201 u202 u203 u204 u205 u206 u207 u208 u209 u210 u211 u212 u213 u214 u215 u216 u217 u218 u219 u220 u221 u222 u223 u224 u225 u226 u227
      · have e : tokL 91 st = longK st := by unfold tokL; rw [if_neg (by decide), if_neg (by decide), if_neg (by decide), if_neg (by decide), if_pos (by decide), if_pos (Or.inr (by simpa using hy))]
        rw [e] at hQ; exact yl_61 h hx hy hQ u2 u3 u5 u9 u10 u11 u12 u13 u14 u15 u16 u17 u18 u19 u20 u21 u22 u23 u24 u25 u26 u27 u28 u29 u30 u31 u32 u33 u34 u35 u36 u37 u38 u39 u40 u41 u42 u43 u44 u45 u46 u47 u48 u49 u50 u51 u52 u53 u54 u55 u56 u57 u58 u59 u60 u61 u62 u63 u64 u65 u66 u67 u68 u69 u70 u71 u72 u73 u74 u75 u76 u77 u78 u79 u80 u81 u82 u83 u84 u85 u86 u87 u88 u89 u90 u91 u92 u93 u94 u95 u96 u97 u98 u99 u100 u101 u102 u103 u104 u105 u106 u107 u108 u109 u110 u111 u112 u113 u114 u115 u116 u117 u118 u119 u120 u121 u122 u123 u124 u125 u126 u127 u128 u129 u130 u131 u132 u133 u134 u135 u136 u137 u138 u139 u140 u141 u142 u143 u144 u145 u146 u147 u148 u149 u150 u151 u152 u153 u154 u155 u156 u157 u158 u159 u160 u161 u162 u163 u164 u165 u166 u167 u168 u169 u170 u171 u172 u173 u174 u175 u176 u177 u178 u179 u180 u181 u182 u183 u184 u185 u186 u187 u188 u189 u190 u191 u192 u193 u194 u195 u196 u197 u198 u199 u200 u201 u202 u203 u204 u205 u206 u207 u208 u209 u210 u211 u212 u213 u214 u215 u216 u217 u218 u219 u220 u221 u222 u223 u224 u225 u226 u227
    · have e : tokL 91 st = longK st := by unfold tokL; rw [if_neg (by decide), if_neg (by decide), if_neg (by decide), if_neg (by decide), if_pos (by decide), if_pos (Or.inl (by simpa using hx))]
      rw [e] at hQ; exact yl_91 h hx hQ u2 u3 u5 u9 u10 u11 u12 u13 u14 u15 u16 u17 u18 u19 u20 u21 u22 u23 u24 u25 u26 u27 u28 u29 u30 u31 u32 u33 u34 u35 u36 u37 u38 u39 u40 u41 u42 u43 u44 u45 u46 u47 u48 u49 u50 u51 u52 u53 u54 u55 u56 u57 u58 u59 u60 u61 u62 u63 u64 u65 u66 u67 u68 u69 u70 u71 u72 u73 u74 u75 u76 u77 u78 u79 u80 u81 u82 u83 u84 u85 u86 u87 u88 u89 u90 u91 u92 u93 u94 u95 u96 u97 u98 u99 u100 u101 u102 u103 u104 u105 u106 u107 u108 u109 u110 u111 u112 u113 u114 u115 u116 u117 u118 u119 u120 u121 u122 u123 u124 u125 u126 u127 u128 u129 u130 u131 u132 u133 u134 u135 u136 u137 u138 u139 u140 u141 u142 u143 u144 u145 u146 u147 u148 u149 u150 u151 u152 u153 u154 u155 u156 u157 u158 u159 u160 u161 u162 u163 u164 u165 u166 u167 u168 u169 u170 u171 u172 u173 u174 u175 u176 u177 u178 u179 u180 u181 u182 u183 u184 u185 u186 u187 u188 u189 u190 u191 u192 u193 u194 u195 u196 u197 u198 u199 u200 u201 u202 u203 u204 u205 u206 u207 u208 u209 u210 u211 u212 u213 u214 u215 u216 u217 u218 u219 u220 u221 u222 u223 u224 u225 u226 u227
  have e91 : (c == 91) = false := by simpa using q
  clear q
  by_cases q : c = 61
  · subst q
    cases hx : (hd st.rest == 61)
    · have e : tokL 61 st = one 61 st := by unfold tokL; rw [if_neg (by decide), if_neg (by decide), if_neg (by decide), if_neg (by decide), if_neg (by decide), if_pos (by decide)]; unfold two; rw [if_neg (by simpa using hx)]
      rw [e] at hQ; exact yt_61n h hx hQ u2 u3 u5 u9 u10 u11 u12 u13 u14 u15 u16 u17 u18 u19 u20 u21 u22 u23 u24 u25 u26 u27 u28 u29 u30 u31 u32 u33 u34 u35 u36 u37 u38 u39 u40 u41 u42 u43 u44 u45 u46 u47 u48 u49 u50 u51 u52 u53 u54 u55 u56 u57 u58 u59 u60 u61 u62 u63 u64 u65 u66 u67 u68 u69 u70 u71 u72 u73 u74 u75 u76 u77 u78 u79 u80 u81 u82 u83 u84 u85 u86 u87 u88 u89 u90 u91 u92 u93 u94 u95 u96 u97 u98 u99 u100 u101 u102 u103 u104 u105 u106 u107 u108 u109 u110 u111 u112 u113 u114 u115 u116 u117 u118 u119 u120 u121 u122 u123 u124 u125 u126 u127 u128 u129 u130 u131 u132 u133 u134 u135 u136 u137 u138 u139 u140 u141 u142 u143 u144 u145 u146 u147 u148 u149 u150 u151 u152 u153 u154 u155 u156 u157 u158 u159 u160 u161 u162 u163 u164 u165 u166 u167 u168 u169 u170 u171 u172 u173 u174 u175 u176 u177 u178 u179 u180 u181 u182 u183 u184 u185 u186 u187 u188 u189 u190 u191 u192 u193 u194 u195 u196 u197 u198 u199 u200 u201 u202 u203 u204 u205 u206 u207 u208 u209 u210 u211 u212 u213 u214 u215 u216 u217 u218 u219 u220 u221 u222 u223 u224 u225 u226 u227
    · have e : tokL 61 st = ((true, 57368, [61, 61], st.nextS) : Bool × Int × List UInt8 × St) := by unfold tokL; rw [if_neg (by decide), if_neg (by decide), if_neg (by decide), if_neg (by decide), if_neg (by decide), if_pos (by decide)]; unfold two; rw [if_pos (by simpa using hx)]
      rw [e] at hQ; exact yt_61y h hx hQ u2 u3 u5 u9 u10 u11 u12 u13 u14 u15 u16 u17 u18 u19 u20 u21 u22 u23 u24 u25 u26 u27 u28 u29 u30 u31 u32 u33 u34 u35 u36 u37 u38 u39 u40 u41 u42 u43 u44 u45 u46 u47 u48 u49 u50 u51 u52 u53 u54 u55 u56 u57 u58 u59 u60 u61 u62 u63 u64 u65 u66 u67 u68 u69 u70 u71 u72 u73 u74 u75 u76 u77 u78 u79 u80 u81 u82 u83 u84 u85 u86 u87 u88 u89 u90 u91 u92 u93 u94 u95 u96 u97 u98 u99 u100 u101 u102 u103 u104 u105 u106 u107 u108 u109 u110 u111 u112 u113 u114 u115 u116 u117 u118 u119 u120 u121 u122 u123 u124 u125 u126 u127 u128 u129 u130 u131 u132 u133 u134 u135 u136 u137 u138 u139 u140 u141 u142 u143 u144 u145 u146 u147 u148 u149 u150 u151 u152 u153 u154 u155 u156 u157 u158 u159 u160 u161 u162 u163 u164 u165 u166 u167 u168 u169 u170 u171 u172 u173 u174 u175 u176 u177 u178 u179 u180 u181 u182 u183 u184 u185 u186 u187 u188 u189 u190 u191 u192 u193 u194 u195 u196 u197 u198 u199 u200 u201 u202 u203 u204 u205 u206 u207 u208 u209 u210 u211 u212 u213 u214 u215 u216 u217 u218 u219 u220 u221 u222 u223 u224 u225 u226 u227
  have e61 : (c == 61) = false := by simpa using q
  clear q
  by_cases q : c = 126
  · subst q
    cases hx : (hd st.rest == 61)
    · have e : tokL 126 st = ((false, 0, [], st) : Bool × Int × List UInt8 × St) := by unfold tokL; rw [if_neg (by decide), if_neg (by decide), if_neg (by decide), if_neg (by decide), if_neg (by decide), if_neg (by decide), if_pos (by decide), if_neg (by simpa using hx)]
      rw [e] at hQ; exact yt_126n h hx hQ u2 u3 u5 u9 u10 u11 u12 u13 u14 u15 u16 u17 u18 u19 u20 u21 u22 u23 u24 u25 u26 u27 u28 u29 u30 u31 u32 u33 u34 u35 u36 u37 u38 u39 u40 u41 u42 u43 u44 u45 u46 u47 u48 u49 u50 u51 u52 u53 u54 u55 u56 u57 u58 u59 u60 u61 u62 u63 u64 u65 u66 u67 u68 u69 u70 u71 u72 u73 u74 u75 u76 u77 u78 u79 u80 u81 u82 u83 u84 u85 u86 u87 u88 u89 u90 u91 u92 u93 u94 u95 u96 u97 u98 u99 u100 u101 u102 u103 u104 u105 u106 u107 u108 u109 u110 u111 u112 u113 u114 u115 u116 u117 u118 u119 u120 u121 u122 u123 u124 u125 u126 u127 u128 u129 u130 u131 u132 u133 u134 u135 u136 u137 u138 u139 u140 u141 u142 u143 u144 u145 u146 u147 u148 u149 u150 u151 u152 u153 u154 u155 u156 u157 u158 u159 u160 u161 u162 u163 u164 u165 u166 u167 u168 u169 u170 u171 u172 u173 u174 u175 u176 u177 u178 u179 u180 u181 u182 u183 u184 u185 u186 u187 u188 u189 u190 u191 u192 u193 u194 u195 u196 u197 u198 u199 u200 u201 u202 u203 u204 u205 u206 u207 u208 u209 u210 u211 u212 u213 u214 u215 u216 u217 u218 u219 u220 u221 u222 u223 u224 u225 u226 u227
    · have e : tokL 126 st = ((true, 57369, [126, 61], st.nextS) : Bool × Int × List UInt8 × St) := by unfold tokL; rw [if_neg (by decide), if_neg (by decide), if_neg (by decide), if_neg (by decide), if_neg (by decide), if_neg (by decide), if_pos (by decide), if_pos (by simpa using hx)]
      rw [e] at hQ; exact yt_126y h hx hQ u2 u3 u5 u9 u10 u11 u12 u13 u14 u15 u16 u17 u18 u19 u20 u21 u22 u23 u24 u25 u26 u27 u28 u29 u30 u31 u32 u33 u34 u35 u36 u37 u38 u39 u40 u41 u42 u43 u44 u45 u46 u47 u48 u49 u50 u51 u52 u53 u54 u55 u56 u57 u58 u59 u60 u61 u62 u63 u64 u65 u66 u67 u68 u69 u70 u71 u72 u73 u74 u75 u76 u77 u78 u79 u80 u81 u82 u83 u84 u85 u86 u87 u88 u89 u90 u91 u92 u93 u94 u95 u96 u97 u98 u99 u100 u101 u102 u103 u104 u105 u106 u107 u108 u109 u110 u111 u112 u113 u114 u115 u116 u117 u118 u119 u120 u121 u122 u123 u124 u125 u126 u127 u128 u129 u130 u131 u132 u133 u134 u135 u136 u137 u138 u139 u140 u141 u142 u143 u144 u145 u146 u147 u148 u149 u150 u151 u152 u153 u154 u155 u156 u157 u158 u159 u160 u161 u162 u163 u164 u165 u166 u167 u168 u169 u170 u171 u172 u173 u174 u175 u176 u177 u178 u179 u180 u181 u182 u183 u184 u185 u186 u187 u188 u189 u190 u191 u192 u193 u194 u195 u196 u197 u198 u199 u200 u201 u202 u203 u204 u205 u206 u207 u208 u209 u210 u211 u212 u213 u214 u215 u216 u217 u218 u219 u220 u221 u222 u223 u224 u225 u226 u227
  have e126 : (c == 126) = false := by simpa using q
  clear q
  by_cases q : c = 60
  · subst q
    cases hx : (hd st.rest == 61)
    · have e : tokL 60 st = one 60 st := by unfold tokL; rw [if_neg (by decide), if_neg (by decide), if_neg (by decide), if_neg (by decide), if_neg (by decide), if_neg (by decide), if_neg (by decide), if_pos (by decide)]; unfold two; rw [if_neg (by simpa using hx)]
      rw [e] at hQ; exact yt_60n h hx hQ u2 u3 u5 u9 u10 u11 u12 u13 u14 u15 u16 u17 u18 u19 u20 u21 u22 u23 u24 u25 u26 u27 u28 u29 u30 u31 u32 u33 u34 u35 u36 u37 u38 u39 u40 u41 u42 u43 u44 u45 u46 u47 u48 u49 u50 u51 u52 u53 u54 u55 u56 u57 u58 u59 u60 u61 u62 u63 u64 u65 u66 u67 u68 u69 u70 u71 u72 u73 u74 u75 u76 u77 u78 u79 u80 u81 u82 u83 u84 u85 u86 u87 u88 u89 u90 u91 u92 u93 u94 u95 u96 u97 u98 u99 u100 u101 u102 u103 u104 u105 u106 u107 u108 u109 u110 u111 u112 u113 u114 u115 u116 u117 u118 u119 u120 u121 u122 u123 u124 u125 u126 u127 u128 u129 u130 u131 u132 u133 u134 u135 u136 u137 u138 u139 u140 u141 u142 u143 u144 u145 u146 u147 u148 u149 u150 u151 u152 u153 u154 u155 u156 u157 u158 u159 u160 u161 u162 u163 u164 u165 u166 u167 u168 u169 u170 u171 u172 u173 u174 u175 u176 u177 u178 u179 u180 u181 u182 u183 u184 u185 u186 u187 u188 u189 u190 u191 u192 u193 u194 u195 u196 u197 u198 u199 u200 u201 u202 u203 u204 u205 u206 u207 u208 u209 u210 u211 u212 u213 u214 u215 u216 u217 u218 u219 u220 u221 u222 u223 u224 u225 u226 u227
    · have e : tokL 60 st = ((true, 57370, [60, 61], st.nextS) : Bool × Int × List UInt8 × St) := by unfold tokL; rw [if_neg (by decide), if_neg (by decide), if_neg (by decide), if_neg (by decide), if_neg (by decide), if_neg (by decide), if_neg (by decide), if_pos (by decide)]; unfold two; rw [if_pos (by simpa using hx)]
      rw [e] at hQ; exact yt_60y h hx hQ u2 u3 u5 u9 u10 u11 u12 u13 u14 u15 u16 u17 u18 u19 u20 u21 u22 u23 u24 u25 u26 u27 u28 u29 u30 u31 u32 u33 u34 u35 u36 u37 u38 u39 u40 u41 u42 u43 u44 u45 u46 u47 u48 u49 u50 u51 u52 u53 u54 u55 u56 u57 u58 u59 u60 u61 u62 u63 u64 u65 u66 u67 u68 u69 u70 u71 u72 u73 u74 u75 u76 u77 u78 u79 u80 u81 u82 u83 u84 u85 u86 u87 u88 u89 u90 u91 u92 u93 u94 u95 u96 u97 u98 u99 u100 u101 u102 u103 u104 u105 u106 u107 u108 u109 u110 u111 u112 u113 u114 u115 u116 u117 u118 u119 u120 u121 u122 u123 u124 u125 u126 u127 u128 u129 u130 u131 u132 u133 u134 u135 u136 u137 u138 u139 u140 u141 u142 u143 u144 u145 u146 u147 u148 u149 u150 u151 u152 u153 u154 u155 u156 u157 u158 u159 u160 u161 u162 u163 u164 u165 u166 u167 u168 u169 u170 u171 u172 u173 u174 u175 u176 u177 u178 u179 u180 u181 u182 u183 u184 u185 u186 u187 u188 u189 u190 u191 u192 u193 u194 u195 u196 u197 u198 u199 u200 u201 u202 u203 u204 u205 u206 u207 u208 u209 u210 u211 u212 u213 u214 u215 u216 u217 u218 u219 u220 u221 u222 u223 u224 u225 u226 u227
  have e60 : (c == 60) = false := by simpa using q
  clear q
  by_cases q : c = 62
  · subst q
    cases hx : (hd st.rest == 61)
    · have e : tokL 62 st = one 62 st := by unfold tokL; rw [if_neg (by decide), if_neg (by decide), if_neg (by decide), if_neg (by decide), if_neg (by decide), if_neg (by decide), if_neg (by decide), if_neg (by decide), if_pos (by decide)]; unfold two; rw [if_neg (by simpa using hx)]
      rw [e] at hQ; exact yt_62n h hx hQ u2 u3 u5 u9 u10 u11 u12 u13 u14 u15 u16 u17 u18 u19 u20 u21 u22 u23 u24 u25 u26 u27 u28 u29 u30 u31 u32 u33 u34 u35 u36 u37 u38 u39 u40 u41 u42 u43 u44 u45 u46 u47 u48 u49 u50 u51 u52 u53 u54 u55 u56 u57 u58 u59 u60 u61 u62 u63 u64 u65 u66 u67 u68 u69 u70 u71 u72 u73 u74 u75 u76 u77 u78 u79 u80 u81 u82 u83 u84 u85 u86 u87 u88 u89 u90 u91 u92 u93 u94 u95 u96 u97 u98 u99 u100 u101 u102 u103 u104 u105 u106 u107 u108 u109 u110 u111 u112 u113 u114 u115 u116 u117 u118 u119 u120 u121 u122 u123 u124 u125 u126 u127 u128 u129 u130 u131 u132 u133 u134 u135 u136 u137 u138 u139 u140 u141 u142 u143 u144 u145 u146 u147 u148 u149 u150 u151 u152 u153 u154 u155 u156 u157 u158 u159 u160 u161 u162 u163 u164 u165 u166 u167 u168 u169 u170 u171 u172 u173 u174 u175 u176 u177 u178 u179 u180 u181 u182 u183 u184 u185 u186 u187 u188 u189 u190 u191 u192 u193 u194 u195 u196 u197 u198 u199 u200 u201 u202 u203 u204 u205 u206 u207 u208 u209 u210 u211 u212 u213 u214 u215 u216 u217 u218 u219 u220 u221 u222 u223 u224 u225 u226 u227
    · have e : tokL 62 st = ((true, 57371, [62, 61], st.nextS) : Bool × Int × List UInt8 × St) := by unfold tokL; rw [if_neg (by decide), if_neg (by decide), if_neg (by decide), if_neg (by decide), if_neg (by decide), if_neg (by decide), if_neg (by decide), if_neg (by decide), if_pos (by decide)]; unfold two; rw [if_pos (by simpa using hx)]
      rw [e] at hQ; exact yt_62y h hx hQ u2 u3 u5 u9 u10 u11 u12 u13 u14 u15 u16 u17 u18 u19 u20 u21 u22 u23 u24 u25 u26 u27 u28 u29 u30 u31 u32 u33 u34 u35 u36 u37 u38 u39 u40 u41 u42 u43 u44 u45 u46 u47 u48 u49 u50 u51 u52 u53 u54 u55 u56 u57 u58 u59 u60 u61 u62 u63 u64 u65 u66 u67 u68 u69 u70 u71 u72 u73 u74 u75 u76 u77 u78 u79 u80 u81 u82 u83 u84 u85 u86 u87 u88 u89 u90 u91 u92 u93 u94 u95 u96 u97 u98 u99 u100 u101 u102 u103 u104 u105 u106 u107 u108 u109 u110 u111 u112 u113 u114 u115 u116 u117 u118 u119 u120 u121 u122 u123 u124 u125 u126 u127 u128 u129 u130 u131 u132 u133 u134 u135 u136 u137 u138 u139 u140 u141 u142 u143 u144 u145 u146 u147 u148 u149 u150 u151 u152 u153 u154 u155 u156 u157 u158 u159 u160 u161 u162 u163 u164 u165 u166 u167 u168 u169 u170 u171 u172 u173 u174 u175 u176 u177 u178 u179 u180 u181 u182 u183 u184 u185 u186 u187 u188 u189 u190 u191 u192 u193 u194 u195 u196 u197 u198 u199 u200 u201 u202 u203 u204 u205 u206 u207 u208 u209 u210 u211 u212 u213 u214 u215 u216 u217 u218 u219 u220 u221 u222 u223 u224 u225 u226 u227
  have e62 : (c == 62) = false := by simpa using q
  clear q
  by_cases q : c = 46
  · subst q
    cases HD2 : decI (hd st.rest)
    · cases hx : (hd st.rest == 46)
      · have e : tokL 46 st = ((true, 46, [], st) : Bool × Int × List UInt8 × St) := by unfold tokL; rw [if_neg (by decide), if_neg (by decide), if_neg (by decide), if_neg (by decide), if_neg (by decide), if_neg (by decide), if_neg (by decide), if_neg (by decide), if_neg (by decide), if_pos (by decide)]; unfold dotK; rw [if_neg (by rw [HD2]; decide), if_neg (by simpa using hx)]
        rw [e] at hQ; exact yd_one h (Lib.hid HD2) hx hQ u2 u3 u5 u9 u10 u11 u12 u13 u14 u15 u16 u17 u18 u19 u20 u21 u22 u23 u24 u25 u26 u27 u28 u29 u30 u31 u32 u33 u34 u35 u36 u37 u38 u39 u40 u41 u42 u43 u44 u45 u46 u47 u48 u49 u50 u51 u52 u53 u54 u55 u56 u57 u58 u59 u60 u61 u62 u63 u64 u65 u66 u67 u68 u69 u70 u71 u72 u73 u74 u75 u76 u77 u78 u79 u80 u81 u82 u83 u84 u85 u86 u87 u88 u89 u90 u91 u92 u93 u94 u95 u96 u97 u98 u99 u100 u101 u102 u103 u104 u105 u106 u107 u108 u109 u110 u111 u112 u113 u114 u115 u116 u117 u118 u119 u120 u121 u122 u123 u124 u125 u126 u127 u128 u129 u130 u131 u132 u133 u134 u135 u136 u137 u138 u139 u140 u141 u142 u143 u144 u145 u146 u147 u148 u149 u150 u151 u152 u153 u154 u155 u156 u157 u158 u159 u160 u161 u162 u163 u164 u165 u166 u167 u168 u169 u170 u171 u172 u173 u174 u175 u176 u177 u178 u179 u180 u181 u182 u183 u184 u185 u186 u187 u188 u189 u190 u191 u192 u193 u194 u195 u196 u197 u198 u199 u200 u201 u202 u203 u204 u205 u206 u207 u208 u209 u210 u211 u212 u213 u214 u215 u216 u217 u218 u219 u220 u221 u222 u223 u224 u225 u226 u227
      · cases hy : (hd st.nextS.rest == 46)
        · have e : tokL 46 st = ((true, 57372, [46, 46], st.nextS) : Bool × Int × List UInt8 × St) := by unfold tokL; rw [if_neg (by decide), if_neg (by decide), if_neg (by decide), if_neg (by decide), if_neg (by decide), if_neg (by decide), if_neg (by decide), if_neg (by decide), if_neg (by decide), if_pos (by decide)]; unfold dotK; rw [if_neg (by rw [HD2]; decide), if_pos (by simpa using hx), if_neg (by simpa using hy)]
          rw [e] at hQ; exact yd_two h (Lib.hid HD2) hx hy hQ u2 u3 u5 u9 u10 u11 u12 u13 u14 u15 u16 u17 u18 u19 u20 u21 u22 u23 u24 u25 u26 u27 u28 u29 u30 u31 u32 u33 u34 u35 u36 u37 u38 u39 u40 u41 u42 u43 u44 u45 u46 u47 u48 u49 u50 u51 u52 u53 u54 u55 u56 u57 u58 u59 u60 u61 u62 u63 u64 u65 u66 u67 u68 u69 u70 u71 u72 u73 u74 u75 u76 u77 u78 u79 u80 u81 u82 u83 u84 u85 u86 u87 u88 u89 u90 u91 u92 u93 u94 u95 u96 u97 u98 u99 u100 u101 u102 u103 u104 u105 u106 u107 u108 u109 u110 u111 u112 u113 u114 u115 u116 u117 u118 u119 u120 u121 u122 u123 u124 u125 u126 u127 u128 u129 u130 u131 u132 u133 u134 u135 u136 u137 u138 u139 u140 u141 u142 u143 u144 u145 u146 u147 u148 u149 u150 u151 u152 u153 u154 u155 u156 u157 u158 u159 u160 u161 u162 u163 u164 u165 u166 u167 u168 u169 u170 u171 u172 u173 u174 u175 u176 u177 u178 u179 u180 u181 u182 u183 u184 u185 u186 u187 u188 u189 u190 u191 u192 u193 u194 u195 u196 u197 u198 u199 u200 u201 u202 u203 u204 u205 u206 u207 u208 u209 u210 u211 u212 u213 u214 u215 u216 u217 u218 u219 u220 u221 u222 u223 u224 u225 u226 u227
        · have e : tokL 46 st = ((true, 57373, [46, 46, 46], st.nextS.nextS) : Bool × Int × List UInt8 × St) := by unfold tokL; rw [if_neg (by decide), if_neg (by decide), if_neg (by decide), if_neg (by decide), if_neg (by decide), if_neg (by decide), if_neg (by decide), if_neg (by decide), if_neg (by decide), if_pos (by decide)]; unfold dotK; rw [if_neg (by rw [HD2]; decide), if_pos (by simpa using hx), if_pos (by simpa using hy)]
          rw [e] at hQ; exact yd_three h (Lib.hid HD2) hx hy hQ u2 u3 u5 u9 u10 u11 u12 u13 u14 u15 u16 u17 u18 u19 u20 u21 u22 u23 u24 u25 u26 u27 u28 u29 u30 u31 u32 u33 u34 u35 u36 u37 u38 u39 u40 u41 u42 u43 u44 u45 u46 u47 u48 u49 u50 u51 u52 u53 u54 u55 u56 u57 u58 u59 u60 u61 u62 u63 u64 u65 u66 u67 u68 u69 u70 u71 u72 u73 u74 u75 u76 u77 u78 u79 u80 u81 u82 u83 u84 u85 u86 u87 u88 u89 u90 u91 u92 u93 u94 u95 u96 u97 u98 u99 u100 u101 u102 u103 u104 u105 u106 u107 u108 u109 u110 u111 u112 u113 u114 u115 u116 u117 u118 u119 u120 u121 u122 u123 u124 u125 u126 u127 u128 u129 u130 u131 u132 u133 u134 u135 u136 u137 u138 u139 u140 u141 u142 u143 u144 u145 u146 u147 u148 u149 u150 u151 u152 u153 u154 u155 u156 u157 u158 u159 u160 u161 u162 u163 u164 u165 u166 u167 u168 u169 u170 u171 u172 u173 u174 u175 u176 u177 u178 u179 u180 u181 u182 u183 u184 u185 u186 u187 u188 u189 u190 u191 u192 u193 u194 u195 u196 u197 u198 u199 u200 u201 u202 u203 u204 u205 u206 u207 u208 u209 u210 u211 u212 u213 u214 u215 u216 u217 u218 u219 u220 u221 u222 u223 u224 u225 u226 u227
    · have e : tokL 46 st = numK 46 st := by unfold tokL; rw [if_neg (by decide), if_neg (by decide), if_neg (by decide), if_neg (by decide), if_neg (by decide), if_neg (by decide), if_neg (by decide), if_neg (by decide), if_neg (by decide), if_pos (by decide)]; unfold dotK; rw [if_pos HD2]
      rw [e] at hQ; exact yd_num h (Lib.hid HD2) hQ u2 u3 u5 u9 u10 u11 u12 u13 u14 u15 u16 u17 u18 u19 u20 u21 u22 u23 u24 u25 u26 u27 u28 u29 u30 u31 u32 u33 u34 u35 u36 u37 u38 u39 u40 u41 u42 u43 u44 u45 u46 u47 u48 u49 u50 u51 u52 u53 u54 u55 u56 u57 u58 u59 u60 u61 u62 u63 u64 u65 u66 u67 u68 u69 u70 u71 u72 u73 u74 u75 u76 u77 u78 u79 u80 u81 u82 u83 u84 u85 u86 u87 u88 u89 u90 u91 u92 u93 u94 u95 u96 u97 u98 u99 u100 u101 u102 u103 u104 u105 u106 u107 u108 u109 u110 u111 u112 u113 u114 u115 u116 u117 u118 u119 u120 u121 u122 u123 u124 u125 u126 u127 u128 u129 u130 u131 u132 u133 u134 u135 u136 u137 u138 u139 u140 u141 u142 u143 u144 u145 u146 u147 u148 u149 u150 u151 u152 u153 u154 u155 u156 u157 u158 u159 u160 u161 u162 u163 u164 u165 u166 u167 u168 u169 u170 u171 u172 u173 u174 u175 u176 u177 u178 u179 u180 u181 u182 u183 u184 u185 u186 u187 u188 u189 u190 u191 u192 u193 u194 u195 u196 u197 u198 u199 u200 u201 u202 u203 u204 u205 u206 u207 u208 u209 u210 u211 u212 u213 u214 u215 u216 u217 u218 u219 u220 u221 u222 u223 u224 u225 u226 u227
  have e46 : (c == 46) = false := by simpa using q
  clear q
  by_cases q : c = 58
  · subst q
    cases hx : (hd st.rest == 58)
    · have e : tokL 58 st = one 58 st := by unfold tokL; rw [if_neg (by decide), if_neg (by decide), if_neg (by decide), if_neg (by decide), if_neg (by decide), if_neg (by decide), if_neg (by decide), if_neg (by decide), if_neg (by decide), if_neg (by decide), if_pos (by decide)]; unfold two; rw [if_neg (by simpa using hx)]
      rw [e] at hQ; exact yt_58n h hx hQ u2 u3 u5 u9 u10 u11 u12 u13 u14 u15 u16 u17 u18 u19 u20 u21 u22 u23 u24 u25 u26 u27 u28 u29 u30 u31 u32 u33 u34 u35 u36 u37 u38 u39 u40 u41 u42 u43 u44 u45 u46 u47 u48 u49 u50 u51 u52 u53 u54 u55 u56 u57 u58 u59 u60 u61 u62 u63 u64 u65 u66 u67 u68 u69 u70 u71 u72 u73 u74 u75 u76 u77 u78 u79 u80 u81 u82 u83 u84 u85 u86 u87 u88 u89 u90 u91 u92 u93 u94 u95 u96 u97 u98 u99 u100 u101 u102 u103 u104 u105 u106 u107 u108 u109 u110 u111 u112 u113 u114 u115 u116 u117 u118 u119 u120 u121 u122 u123 u124 u125 u126 u127 u128 u129 u130 u131 u132 u133 u134 u135 u136 u137 u138 u139 u140 u141 u142 u143 u144 u145 u146 u147 u148 u149 u150 u151 u152 u153 u154 u155 u156 u157 u158 u159 u160 u161 u162 u163 u164 u165 u166 u167 u168 u169 u170 u171 u172 u173 u174 u175 u176 u177 u178 u179 u180 u181 u182 u183 u184 u185 u186 u187 u188 u189 u190 u191 u192 u193 u194 u195 u196 u197 u198 u199 u200 u201 u202 u203 u204 u205 u206 u207 u208 u209 u210 u211 u212 u213 u214 u215 u216 u217 u218 u219 u220 u221 u222 u223 u224 u225 u226 u227
    · have e : tokL 58 st = ((true, 57374, [58, 58], st.nextS) : Bool × Int × List UInt8 × St) := by unfold tokL; rw [if_neg (by decide), if_neg (by decide), if_neg (by decide), if_neg (by decide), if_neg (by decide), if_neg (by decide), if_neg (by decide), if_neg (by decide), if_neg (by decide), if_neg (by decide), if_pos (by decide)]; unfold two; rw [if_pos (by simpa using hx)]
      rw [e] at hQ; exact yt_58y h hx hQ u2 u3 u5 u9 u10 u11 u12 u13 u14 u15 u16 u17 u18 u19 u20 u21 u22 u23 u24 u25 u26 u27 u28 u29 u30 u31 u32 u33 u34 u35 u36 u37 u38 u39 u40 u41 u42 u43 u44 u45 u46 u47 u48 u49 u50 u51 u52 u53 u54 u55 u56 u57 u58 u59 u60 u61 u62 u63 u64 u65 u66 u67 u68 u69 u70 u71 u72 u73 u74 u75 u76 u77 u78 u79 u80 u81 u82 u83 u84 u85 u86 u87 u88 u89 u90 u91 u92 u93 u94 u95 u96 u97 u98 u99 u100 u101 u102 u103 u104 u105 u106 u107 u108 u109 u110 u111 u112 u113 u114 u115 u116 u117 u118 u119 u120 u121 u122 u123 u124 u125 u126 u127 u128 u129 u130 u131 u132 u133 u134 u135 u136 u137 u138 u139 u140 u141 u142 u143 u144 u145 u146 u147 u148 u149 u150 u151 u152 u153 u154 u155 u156 u157 u158 u159 u160 u161 u162 u163 u164 u165 u166 u167 u168 u169 u170 u171 u172 u173 u174 u175 u176 u177 u178 u179 u180 u181 u182 u183 u184 u185 u186 u187 u188 u189 u190 u191 u192 u193 u194 u195 u196 u197 u198 u199 u200 u201 u202 u203 u204 u205 u206 u207 u208 u209 u210 u211 u212 u213 u214 u215 u216 u217 u218 u219 u220 u221 u222 u223 u224 u225 u226 u227
  have e58 : (c == 58) = false := by simpa using q
  clear q
  by_cases q : c = 43
  · subst q
    have e : tokL 43 st = one 43 st := by unfold tokL; rw [if_neg (by decide), if_neg (by decide), if_neg (by decide), if_neg (by decide), if_neg (by decide), if_neg (by decide), if_neg (by decide), if_neg (by decide), if_neg (by decide), if_neg (by decide), if_neg (by decide), if_pos (by decide)]
    rw [e] at hQ; exact yo_43 h  hQ u2 u3 u5 u9 u10 u11 u12 u13 u14 u15 u16 u17 u18 u19 u20 u21 u22 u23 u24 u25 u26 u27 u28 u29 u30 u31 u32 u33 u34 u35 u36 u37 u38 u39 u40 u41 u42 u43 u44 u45 u46 u47 u48 u49 u50 u51 u52 u53 u54 u55 u56 u57 u58 u59 u60 u61 u62 u63 u64 u65 u66 u67 u68 u69 u70 u71 u72 u73 u74 u75 u76 u77 u78 u79 u80 u81 u82 u83 u84 u85 u86 u87 u88 u89 u90 u91 u92 u93 u94 u95 u96 u97 u98 u99 u100 u101 u102 u103 u104 u105 u106 u107 u108 u109 u110 u111 u112 u113 u114 u115 u116 u117 u118 u119 u120 u121 u122 u123 u124 u125 u126 u127 u128 u129 u130 u131 u132 u133 u134 u135 u136 u137 u138 u139 u140 u141 u142 u143 u144 u145 u146 u147 u148 u149 u150 u151 u152 u153 u154 u155 u156 u157 u158 u159 u160 u161 u162 u163 u164 u165 u166 u167 u168 u169 u170 u171 u172 u173 u174 u175 u176 u177 u178 u179 u180 u181 u182 u183 u184 u185 u186 u187 u188 u189 u190 u191 u192 u193 u194 u195 u196 u197 u198 u199 u200 u201 u202 u203 u204 u205 u206 u207 u208 u209 u210 u211 u212 u213 u214 u215 u216 u217 u218 u219 u220 u221 u222 u223 u224 u225 u226 u227
  have e43 : (c == 43) = false := by simpa using q
  clear q
  by_cases q : c = 42
  · subst q
    have e : tokL 42 st = one 42 st := by unfold tokL; rw [if_neg (by decide), if_neg (by decide), if_neg (by decide), if_neg (by decide), if_neg (by decide), if_neg (by decide), if_neg (by decide), if_neg (by decide), if_neg (by decide), if_neg (by decide), if_neg (by decide), if_pos (by decide)]
    rw [e] at hQ; exact yo_42 h  hQ u2 u3 u5 u9 u10 u11 u12 u13 u14 u15 u16 u17 u18 u19 u20 u21 u22 u23 u24 u25 u26 u27 u28 u29 u30 u31 u32 u33 u34 u35 u36 u37 u38 u39 u40 u41 u42 u43 u44 u45 u46 u47 u48 u49 u50 u51 u52 u53 u54 u55 u56 u57 u58 u59 u60 u61 u62 u63 u64 u65 u66 u67 u68 u69 u70 u71 u72 u73 u74 u75 u76 u77 u78 u79 u80 u81 u82 u83 u84 u85 u86 u87 u88 u89 u90 u91 u92 u93 u94 u95 u96 u97 u98 u99 u100 u101 u102 u103 u104 u105 u106 u107 u108 u109 u110 u111 u112 u113 u114 u115 u116 u117 u118 u119 u120 u121 u122 u123 u124 u125 u126 u127 u128 u129 u130 u131 u132 u133 u134 u135 u136 u137 u138 u139 u140 u141 u142 u143 u144 u145 u146 u147 u148 u149 u150 u151 u152 u153 u154 u155 u156 u157 u158 u159 u160 u161 u162 u163 u164 u165 u166 u167 u168 u169 u170 u171 u172 u173 u174 u175 u176 u177 u178 u179 u180 u181 u182 u183 u184 u185 u186 u187 u188 u189 u190 u191 u192 u193 u194 u195 u196 u197 u198 u199 u200 u201 u202 u203 u204 u205 u206 u207 u208 u209 u210 u211 u212 u213 u214 u215 u216 u217 u218 u219 u220 u221 u222 u223 u224 u225 u226 u227
  have e42 : (c == 42) = false := by simpa using q
  clear q
  by_cases q : c = 47
  · subst q
    have e : tokL 47 st = one 47 st := by unfold tokL; rw [if_neg (by decide), if_neg (by decide), if_neg (by decide), if_neg (by decide), if_neg (by decide), if_neg (by decide), if_neg (by decide), if_neg (by decide), if_neg (by decide), if_neg (by decide), if_neg (by decide), if_pos (by decide)]
    rw [e] at hQ; exact yo_47 h  hQ u2 u3 u5 u9 u10 u11 u12 u13 u14 u15 u16 u17 u18 u19 u20 u21 u22 u23 u24 u25 u26 u27 u28 u29 u30 u31 u32 u33 u34 u35 u36 u37 u38 u39 u40 u41 u42 u43 u44 u45 u46 u47 u48 u49 u50 u51 u52 u53 u54 u55 u56 u57 u58 u59 u60 u61 u62 u63 u64 u65 u66 u67 u68 u69 u70 u71 u72 u73 u74 u75 u76 u77 u78 u79 u80 u81 u82 u83 u84 u85 u86 u87 u88 u89 u90 u91 u92 u93 u94 u95 u96 u97 u98 u99 u100 u101 u102 u103 u104 u105 u106 u107 u108 u109 u110 u111 u112 u113 u114 u115 u116 u117 u118 u119 u120 u121 u122 u123 u124 u125 u126 u127 u128 u129 u130 u131 u132 u133 u134 u135 u136 u137 u138 u139 u140 u141 u142 u143 u144 u145 u146 u147 u148 u149 u150 u151 u152 u153 u154 u155 u156 u157 u158 u159 u160 u161 u162 u163 u164 u165 u166 u167 u168 u169 u170 u171 u172 u173 u174 u175 u176 u177 u178 u179 u180 u181 u182 u183 u184 u185 u186 u187 u188 u189 u190 u191 u192 u193 u194 u195 u196 u197 u198 u199 u200 u201 u202 u203 u204 u205 u206 u207 u208 u209 u210 u211 u212 u213 u214 u215 u216 u217 u218 u219 u220 u221 u222 u223 u224 u225 u226 u227
  have e47 : (c == 47) = false := by simpa using q
  clear q
  by_cases q : c = 37
  · subst q
    have e : tokL 37 st = one 37 st := by unfold tokL; rw [if_neg (by decide), if_neg (by decide), if_neg (by decide), if_neg (by decide), if_neg (by decide), if_neg (by decide), if_neg (by decide), if_neg (by decide), if_neg (by decide), if_neg (by decide), if_neg (by decide), if_pos (by decide)]
    rw [e] at hQ; exact yo_37 h  hQ u2 u3 u5 u9 u10 u11 u12 u13 u14 u15 u16 u17 u18 u19 u20 u21 u22 u23 u24 u25 u26 u27 u28 u29 u30 u31 u32 u33 u34 u35 u36 u37 u38 u39 u40 u41 u42 u43 u44 u45 u46 u47 u48 u49 u50 u51 u52 u53 u54 u55 u56 u57 u58 u59 u60 u61 u62 u63 u64 u65 u66 u67 u68 u69 u70 u71 u72 u73 u74 u75 u76 u77 u78 u79 u80 u81 u82 u83 u84 u85 u86 u87 u88 u89 u90 u91 u92 u93 u94 u95 u96 u97 u98 u99 u100 u101 u102 u103 u104 u105 u106 u107 u108 u109 u110 u111 u112 u113 u114 u115 u116 u117 u118 u119 u120 u121 u122 u123 u124 u125 u126 u127 u128 u129 u130 u131 u132 u133 u134 u135 u136 u137 u138 u139 u140 u141 u142 u143 u144 u145 u146 u147 u148 u149 u150 u151 u152 u153 u154 u155 u156 u157 u158 u159 u160 u161 u162 u163 u164 u165 u166 u167 u168 u169 u170 u171 u172 u173 u174 u175 u176 u177 u178 u179 u180 u181 u182 u183 u184 u185 u186 u187 u188 u189 u190 u191 u192 u193 u194 u195 u196 u197 u198 u199 u200 u201 u202 u203 u204 u205 u206 u207 u208 u209 u210 u211 u212 u213 u214 u215 u216 u217 u218 u219 u220 u221 u222 u223 u224 u225 u226 u227
  have e37 : (c == 37) = false := by simpa using q
  clear q
  by_cases q : c = 94
  · subst q
    have e : tokL 94 st = one 94 st := by unfold tokL; rw [if_neg (by decide), if_neg (by decide), if_neg (by decide), if_neg (by decide), if_neg (by decide), if_neg (by decide), if_neg (by decide), if_neg (by decide), if_neg (by decide), if_neg (by decide), if_neg (by decide), if_pos (by decide)]
    rw [e] at hQ; exact yo_94 h  hQ u2 u3 u5 u9 u10 u11 u12 u13 u14 u15 u16 u17 u18 u19 u20 u21 u22 u23 u24 u25 u26 u27 u28 u29 u30 u31 u32 u33 u34 u35 u36 u37 u38 u39 u40 u41 u42 u43 u44 u45 u46 u47 u48 u49 u50 u51 u52 u53 u54 u55 u56 u57 u58 u59 u60 u61 u62 u63 u64 u65 u66 u67 u68 u69 u70 u71 u72 u73 u74 u75 u76 u77 u78 u79 u80 u81 u82 u83 u84 u85 u86 u87 u88 u89 u90 u91 u92 u93 u94 u95 u96 u97 u98 u99 u100 u101 u102 u103 u104 u105 u106 u107 u108 u109 u110 u111 u112 u113 u114 u115 u116 u117 u118 u119 u120 u121 u122 u123 u124 u125 u126 u127 u128 u129 u130 u131 u132 u133 u134 u135 u136 u137 u138 u139 u140 u141 u142 u143 u144 u145 u146 u147 u148 u149 u150 u151 u152 u153 u154 u155 u156 u157 u158 u159 u160 u161 u162 u163 u164 u165 u166 u167 u168 u169 u170 u171 u172 u173 u174 u175 u176 u177 u178 u179 u180 u181 u182 u183 u184 u185 u186 u187 u188 u189 u190 u191 u192 u193 u194 u195 u196 u197 u198 u199 u200 u201 u202 u203 u204 u205 u206 u207 u208 u209 u210 u211 u212 u213 u214 u215 u216 u217 u218 u219 u220 u221 u222 u223 u224 u225 u226 u227
  have e94 : (c == 94) = false := by simpa using q
  clear q
  by_cases q : c = 35
  · subst q
    have e : tokL 35 st = one 35 st := by unfold tokL; rw [if_neg (by decide), if_neg (by decide), if_neg (by decide), if_neg (by decide), if_neg (by decide), if_neg (by decide), if_neg (by decide), if_neg (by decide), if_neg (by decide), if_neg (by decide), if_neg (by decide), if_pos (by decide)]
    rw [e] at hQ; exact yo_35 h  hQ u2 u3 u5 u9 u10 u11 u12 u13 u14 u15 u16 u17 u18 u19 u20 u21 u22 u23 u24 u25 u26 u27 u28 u29 u30 u31 u32 u33 u34 u35 u36 u37 u38 u39 u40 u41 u42 u43 u44 u45 u46 u47 u48 u49 u50 u51 u52 u53 u54 u55 u56 u57 u58 u59 u60 u61 u62 u63 u64 u65 u66 u67 u68 u69 u70 u71 u72 u73 u74 u75 u76 u77 u78 u79 u80 u81 u82 u83 u84 u85 u86 u87 u88 u89 u90 u91 u92 u93 u94 u95 u96 u97 u98 u99 u100 u101 u102 u103 u104 u105 u106 u107 u108 u109 u110 u111 u112 u113 u114 u115 u116 u117 u118 u119 u120 u121 u122 u123 u124 u125 u126 u127 u128 u129 u130 u131 u132 u133 u134 u135 u136 u137 u138 u139 u140 u141 u142 u143 u144 u145 u146 u147 u148 u149 u150 u151 u152 u153 u154 u155 u156 u157 u158 u159 u160 u161 u162 u163 u164 u165 u166 u167 u168 u169 u170 u171 u172 u173 u174 u175 u176 u177 u178 u179 u180 u181 u182 u183 u184 u185 u186 u187 u188 u189 u190 u191 u192 u193 u194 u195 u196 u197 u198 u199 u200 u201 u202 u203 u204 u205 u206 u207 u208 u209 u210 u211 u212 u213 u214 u215 u216 u217 u218 u219 u220 u221 u222 u223 u224 u225 u226 u227
  have e35 : (c == 35) = false := by simpa using q
  clear q
  by_cases q : c = 40
  · subst q
    have e : tokL 40 st = one 40 st := by unfold tokL; rw [if_neg (by decide), if_neg (by decide), if_neg (by decide), if_neg (by decide), if_neg (by decide), if_neg (by decide), if_neg (by decide), if_neg (by decide), if_neg (by decide), if_neg (by decide), if_neg (by decide), if_pos (by decide)]
    rw [e] at hQ; exact yo_40 h  hQ u2 u3 u5 u9 u10 u11 u12 u13 u14 u15 u16 u17 u18 u19 u20 u21 u22 u23 u24 u25 u26 u27 u28 u29 u30 u31 u32 u33 u34 u35 u36 u37 u38 u39 u40 u41 u42 u43 u44 u45 u46 u47 u48 u49 u50 u51 u52 u53 u54 u55 u56 u57 u58 u59 u60 u61 u62 u63 u64 u65 u66 u67 u68 u69 u70 u71 u72 u73 u74 u75 u76 u77 u78 u79 u80 u81 u82 u83 u84 u85 u86 u87 u88 u89 u90 u91 u92 u93 u94 u95 u96 u97 u98 u99 u100 u101 u102 u103 u104 u105 u106 u107 u108 u109 u110 u111 u112 u113 u114 u115 u116 u117 u118 u119 u120 u121 u122 u123 u124 u125 u126 u127 u128 u129 u130 u131 u132 u133 u134 u135 u136 u137 u138 u139 u140 u141 u142 u143 u144 u145 u146 u147 u148 u149 u150 u151 u152 u153 u154 u155 u156 u157 u158 u159 u160 u161 u162 u163 u164 u165 u166 u167 u168 u169 u170 u171 u172 u173 u174 u175 u176 u177 u178 u179 u180 u181 u182 u183 u184 u185 u186 u187 u188 u189 u190 u191 u192 u193 u194 u195 u196 u197 u198 u199 u200 u201 u202 u203 u204 u205 u206 u207 u208 u209 u210 u211 u212 u213 u214 u215 u216 u217 u218 u219 u220 u221 u222 u223 u224 u225 u226 u227
  have e40 : (c == 40) = false := by simpa using q
  clear q
  by_cases q : c = 41
  · subst q
    have e : tokL 41 st = one 41 st := by unfold tokL; rw [if_neg (by decide), if_neg (by decide), if_neg (by decide), if_neg (by decide), if_neg (by decide), if_neg (by decide), if_neg (by decide), if_neg (by decide), if_neg (by decide), if_neg (by decide), if_neg (by decide), if_pos (by decide)]
    rw [e] at hQ; exact yo_41 h  hQ u2 u3 u5 u9 u10 u11 u12 u13 u14 u15 u16 u17 u18 u19 u20 u21 u22 u23 u24 u25 u26 u27 u28 u29 u30 u31 u32 u33 u34 u35 u36 u37 u38 u39 u40 u41 u42 u43 u44 u45 u46 u47 u48 u49 u50 u51 u52 u53 u54 u55 u56 u57 u58 u59 u60 u61 u62 u63 u64 u65 u66 u67 u68 u69 u70 u71 u72 u73 u74 u75 u76 u77 u78 u79 u80 u81 u82 u83 u84 u85 u86 u87 u88 u89 u90 u91 u92 u93 u94 u95 u96 u97 u98 u99 u100 u101 u102 u103 u104 u105 u106 u107 u108 u109 u110 u111 u112 u113 u114 u115 u116 u117 u118 u119 u120 u121 u122 u123 u124 u125 u126 u127 u128 u129 u130 u131 u132 u133 u134 u135 u136 u137 u138 u139 u140 u141 u142 u143 u144 u145 u146 u147 u148 u149 u150 u151 u152 u153 u154 u155 u156 u157 u158 u159 u160 u161 u162 u163 u164 u165 u166 u167 u168 u169 u170 u171 u172 u173 u174 u175 u176 u177 u178 u179 u180 u181 u182 u183 u184 u185 u186 u187 u188 u189 u190 u191 u192 u193 u194 u195 u196 u197 u198 u199 u200 u201 u202 u203 u204 u205 u206 u207 u208 u209 u210 u211 u212 u213 u214 u215 u216 u217 u218 u219 u220 u221 u222 u223 u224 u225 u226 u227
  have e41 : (c == 41) = false := by simpa using q
  clear q
  by_cases q : c = 123
  · subst q
    have e : tokL 123 st = one 123 st := by unfold tokL; rw [if_neg (by decide), if_neg (by decide), if_neg (by decide), if_neg (by decide), if_neg (by decide), if_neg (by decide), if_neg (by decide), if_neg (by decide), if_neg (by decide), if_neg (by decide), if_neg (by decide), if_pos (by decide)]
    rw [e] at hQ; exact yo_123 h  hQ u2 u3 u5 u9 u10 u11 u12 u13 u14 u15 u16 u17 u18 u19 u20 u21 u22 u23 u24 u25 u26 u27 u28 u29 u30 u31 u32 u33 u34 u35 u36 u37 u38 u39 u40 u41 u42 u43 u44 u45 u46 u47 u48 u49 u50 u51 u52 u53 u54 u55 u56 u57 u58 u59 u60 u61 u62 u63 u64 u65 u66 u67 u68 u69 u70 u71 u72 u73 u74 u75 u76 u77 u78 u79 u80 u81 u82 u83 u84 u85 u86 u87 u88 u89 u90 u91 u92 u93 u94 u95 u96 u97 u98 u99 u100 u101 u102 u103 u104 u105 u106 u107 u108 u109 u110 u111 u112 u113 u114 u115 u116 u117 u118 u119 u120 u121 u122 u123 u124 u125 u126 u127 u128 u129 u130 u131 u132 u133 u134 u135 u136 u137 u138 u139 u140 u141 u142 u143 u144 u145 u146 u147 u148 u149 u150 u151 u152 u153 u154 u155 u156 u157 u158 u159 u160 u161 u162 u163 u164 u165 u166 u167 u168 u169 u170 u171 u172 u173 u174 u175 u176 u177 u178 u179 u180 u181 u182 u183 u184 u185 u186 u187 u188 u189 u190 u191 u192 u193 u194 u195 u196 u197 u198 u199 u200 u201 u202 u203 u204 u205 u206 u207 u208 u209 u210 u211 u212 u213 u214 u215 u216 u217 u218 u219 u220 u221 u222 u223 u224 u225 u226 u227
  have e123 : (c == 123) = false := by simpa using q
  clear q
  by_cases q : c = 125
  · subst q
    have e : tokL 125 st = one 125 st := by unfold tokL; rw [if_neg (by decide), if_neg (by decide), if_neg (by decide), if_neg (by decide), if_neg (by decide), if_neg (by decide), if_neg (by decide), if_neg (by decide), if_neg (by decide), if_neg (by decide), if_neg (by decide), if_pos (by decide)]
    rw [e] at hQ; exact yo_125 h  hQ u2 u3 u5 u9 u10 u11 u12 u13 u14 u15 u16 u17 u18 u19 u20 u21 u22 u23 u24 u25 u26 u27 u28 u29 u30 u31 u32 u33 u34 u35 u36 u37 u38 u39 u40 u41 u42 u43 u44 u45 u46 u47 u48 u49 u50 u51 u52 u53 u54 u55 u56 u57 u58 u59 u60 u61 u62 u63 u64 u65 u66 u67 u68 u69 u70 u71 u72 u73 u74 u75 u76 u77 u78 u79 u80 u81 u82 u83 u84 u85 u86 u87 u88 u89 u90 u91 u92 u93 u94 u95 u96 u97 u98 u99 u100 u101 u102 u103 u104 u105 u106 u107 u108 u109 u110 u111 u112 u113 u114 u115 u116 u117 u118 u119 u120 u121 u122 u123 u124 u125 u126 u127 u128 u129 u130 u131 u132 u133 u134 u135 u136 u137 u138 u139 u140 u141 u142 u143 u144 u145 u146 u147 u148 u149 u150 u151 u152 u153 u154 u155 u156 u157 u158 u159 u160 u161 u162 u163 u164 u165 u166 u167 u168 u169 u170 u171 u172 u173 u174 u175 u176 u177 u178 u179 u180 u181 u182 u183 u184 u185 u186 u187 u188 u189 u190 u191 u192 u193 u194 u195 u196 u197 u198 u199 u200 u201 u202 u203 u204 u205 u206 u207 u208 u209 u210 u211 u212 u213 u214 u215 u216 u217 u218 u219 u220 u221 u222 u223 u224 u225 u226 u227
  have e125 : (c == 125) = false := by simpa using q
  clear q
  by_cases q : c = 93
  · subst q
    have e : tokL 93 st = one 93 st := by unfold tokL; rw [if_neg (by decide), if_neg (by decide), if_neg (by decide), if_neg (by decide), if_neg (by decide), if_neg (by decide), if_neg (by decide), if_neg (by decide), if_neg (by decide), if_neg (by decide), if_neg (by decide), if_pos (by decide)]
    rw [e] at hQ; exact yo_93 h  hQ u2 u3 u5 u9 u10 u11 u12 u13 u14 u15 u16 u17 u18 u19 u20 u21 u22 u23 u24 u25 u26 u27 u28 u29 u30 u31 u32 u33 u34 u35 u36 u37 u38 u39 u40 u41 u42 u43 u44 u45 u46 u47 u48 u49 u50 u51 u52 u53 u54 u55 u56 u57 u58 u59 u60 u61 u62 u63 u64 u65 u66 u67 u68 u69 u70 u71 u72 u73 u74 u75 u76 u77 u78 u79 u80 u81 u82 u83 u84 u85 u86 u87 u88 u89 u90 u91 u92 u93 u94 u95 u96 u97 u98 u99 u100 u101 u102 u103 u104 u105 u106 u107 u108 u109 u110 u111 u112 u113 u114 u115 u116 u117 u118 u119 u120 u121 u122 u123 u124 u125 u126 u127 u128 u129 u130 u131 u132 u133 u134 u135 u136 u137 u138 u139 u140 u141 u142 u143 u144 u145 u146 u147 u148 u149 u150 u151 u152 u153 u154 u155 u156 u157 u158 u159 u160 u161 u162 u163 u164 u165 u166 u167 u168 u169 u170 u171 u172 u173 u174 u175 u176 u177 u178 u179 u180 u181 u182 u183 u184 u185 u186 u187 u188 u189 u190 u191 u192 u193 u194 u195 u196 u197 u198 u199 u200 u201 u202 u203 u204 u205 u206 u207 u208 u209 u210 u211 u212 u213 u214 u215 u216 u217 u218 u219 u220 u221 u222 u223 u224 u225 u226 u227
  have e93 : (c == 93) = false := by simpa using q
  clear q
  by_cases q : c = 59
  · subst q
    have e : tokL 59 st = one 59 st := by unfold tokL; rw [if_neg (by decide), if_neg (by decide), if_neg (by decide), if_neg (by decide), if_neg (by decide), if_neg (by decide), if_neg (by decide), if_neg (by decide), if_neg (by decide), if_neg (by decide), if_neg (by decide), if_pos (by decide)]
    rw [e] at hQ; exact yo_59 h  hQ u2 u3 u5 u9 u10 u11 u12 u13 u14 u15 u16 u17 u18 u19 u20 u21 u22 u23 u24 u25 u26 u27 u28 u29 u30 u31 u32 u33 u34 u35 u36 u37 u38 u39 u40 u41 u42 u43 u44 u45 u46 u47 u48 u49 u50 u51 u52 u53 u54 u55 u56 u57 u58 u59 u60 u61 u62 u63 u64 u65 u66 u67 u68 u69 u70 u71 u72 u73 u74 u75 u76 u77 u78 u79 u80 u81 u82 u83 u84 u85 u86 u87 u88 u89 u90 u91 u92 u93 u94 u95 u96 u97 u98 u99 u100 u101 u102 u103 u104 u105 u106 u107 u108 u109 u110 u111 u112 u113 u114 u115 u116 u117 u118 u119 u120 u121 u122 u123 u124 u125 u126 u127 u128 u129 u130 u131 u132 u133 u134 u135 u136 u137 u138 u139 u140 u141 u142 u143 u144 u145 u146 u147 u148 u149 u150 u151 u152 u153 u154 u155 u156 u157 u158 u159 u160 u161 u162 u163 u164 u165 u166 u167 u168 u169 u170 u171 u172 u173 u174 u175 u176 u177 u178 u179 u180 u181 u182 u183 u184 u185 u186 u187 u188 u189 u190 u191 u192 u193 u194 u195 u196 u197 u198 u199 u200 u201 u202 u203 u204 u205 u206 u207 u208 u209 u210 u211 u212 u213 u214 u215 u216 u217 u218 u219 u220 u221 u222 u223 u224 u225 u226 u227
  have e59 : (c == 59) = false := by simpa using q
  clear q
  by_cases q : c = 44
  · subst q
    have e : tokL 44 st = one 44 st := by unfold tokL; rw [if_neg (by decide), if_neg (by decide), if_neg (by decide), if_neg (by decide), if_neg (by decide), if_neg (by decide), if_neg (by decide), if_neg (by decide), if_neg (by decide), if_neg (by decide), if_neg (by decide), if_pos (by decide)]
    rw [e] at hQ; exact yo_44 h  hQ u2 u3 u5 u9 u10 u11 u12 u13 u14 u15 u16 u17 u18 u19 u20 u21 u22 u23 u24 u25 u26 u27 u28 u29 u30 u31 u32 u33 u34 u35 u36 u37 u38 u39 u40 u41 u42 u43 u44 u45 u46 u47 u48 u49 u50 u51 u52 u53 u54 u55 u56 u57 u58 u59 u60 u61 u62 u63 u64 u65 u66 u67 u68 u69 u70 u71 u72 u73 u74 u75 u76 u77 u78 u79 u80 u81 u82 u83 u84 u85 u86 u87 u88 u89 u90 u91 u92 u93 u94 u95 u96 u97 u98 u99 u100 u101 u102 u103 u104 u105 u106 u107 u108 u109 u110 u111 u112 u113 u114 u115 u116 u117 u118 u119 u120 u121 u122 u123 u124 u125 u126 u127 u128 u129 u130 u131 u132 u133 u134 u135 u136 u137 u138 u139 u140 u141 u142 u143 u144 u145 u146 u147 u148 u149 u150 u151 u152 u153 u154 u155 u156 u157 u158 u159 u160 u161 u162 u163 u164 u165 u166 u167 u168 u169 u170 u171 u172 u173 u174 u175 u176 u177 u178 u179 u180 u181 u182 u183 u184 u185 u186 u187 u188 u189 u190 u191 u192 u193 u194 u195 u196 u197 u198 u199 u200 u201 u202 u203 u204 u205 u206 u207 u208 u209 u210 u211 u212 u213 u214 u215 u216 u217 u218 u219 u220 u221 u222 u223 u224 u225 u226 u227
  have e44 : (c == 44) = false := by simpa using q
  clear q
  have f : tokL c st = (false, 0, [], st) := by
    have g := fun (k : Int) (e : (c == k) = false) => (beq_eq_false_iff_ne.1 e : c ≠ k)
    unfold tokL lone
    rw [if_neg HI, if_neg HD, if_neg (g _ em1), if_neg (by have := g _ e34; have := g _ e39; omega), if_neg (g _ e91), if_neg (g _ e61), if_neg (g _ e126), if_neg (g _ e60), if_neg (g _ e62), if_neg (g _ e46), if_neg (g _ e58), if_neg (by simp only [e45, e43, e42, e47, e37, e94, e35, e40, e41, e123, e125, e93, e59, e44, Bool.or_false]; decide)]
  rw [f] at hQ
  exact ys_default h (Lib.hid (by simpa using HI)) (Lib.hid (by simpa using HD)) em1 e45 e34 e39 e91 e61 e126 e60 e62 e46 e58 e43 e42 e47 e37 e94 e35 e40 e41 e123 e125 e93 e59 e44 hQ u2 u3 u5 u9 u10 u11 u12 u13 u14 u15 u16 u17 u18 u19 u20 u21 u22 u23 u24 u25 u26 u27 u28 u29 u30 u31 u32 u33 u34 u35 u36 u37 u38 u39 u40 u41 u42 u43 u44 u45 u46 u47 u48 u49 u50 u51 u52 u53 u54 u55 u56 u57 u58 u59 u60 u61 u62 u63 u64 u65 u66 u67 u68 u69 u70 u71 u72 u73 u74 u75 u76 u77 u78 u79 u80 u81 u82 u83 u84 u85 u86 u87 u88 u89 u90 u91 u92 u93 u94 u95 u96 u97 u98 u99 u100 u101 u102 u103 u104 u105 u106 u107 u108 u109 u110 u111 u112 u113 u114 u115 u116 u117 u118 u119 u120 u121 u122 u123 u124 u125 u126 u127 u128 u129 u130 u131 u132 u133 u134 u135 u136 u137 u138 u139 u140 u141 u142 u143 u144 u145 u146 u147 u148 u149 u150 u151 u152 u153 u154 u155 u156 u157 u158 u159 u160 u161 u162 u163 u164 u165 u166 u167 u168 u169 u170 u171 u172 u173 u174 u175 u176 u177 u178 u179 u180 u181 u182 u183 u184 u185 u186 u187 u188 u189 u190 u191 u192 u193 u194 u195 u196 u197 u198 u199 u200 u201 u202 u203 u204 u205 u206 u207 u208 u209 u210 u211 u212 u213 u214 u215 u216 u217 u218 u219 u220 u221 u222 u223 u224 u225 u226 u227


/-- At scan's end, against Scan's model. -/
def YOut (W0 : World) (R M : Nat) (sv : Value) (all : List UInt8) (rb : Nat) (prev : Int) (st : St) (a : Act) (w : World) : Prop :=
  ∃ (u1 u2 u3 : Value) (tl : List Value) (typ : Int) (str : ByteArray) (line col : Int) (pn : Bool), a = ⟨(Value.pointer (some ⟨R, 0, none⟩) :: u1 :: u2 :: u3 :: Value.pointer (some ⟨rb, 0, none⟩) :: .bool (scanL prev st).ok :: tl).toArray, []⟩ ∧ Blk w rb (ycells typ str line col pn) ∧ Fb [R] W0.heap.size W0 w ∧
    ((scanL prev st).ok = true → typ = (scanL prev st).typ ∧ str = ⟨(scanL prev st).str.toArray⟩ ∧ line = (scanL prev st).line ∧ col = (scanL prev st).col ∧ pn = (scanL prev st).pnl ∧ Rf w R M sv all (scanL prev st).st)
theorem YRet.out {W0 w : World} {R M rb : Nat} {sv : Value} {all : List UInt8} {prev : Int} {st : St} {r : Bool × Int × List UInt8 × St} {a : Act} (h : YRet W0 R M sv all rb (lead st).2.2.line (lead st).2.2.col (decide ((lead st).1 = 40 ∧ prev = 41) && (lead st).2.1) r a w) (h0 : r.1 = (scanL prev st).ok) (hr : r.1 = true → scanL prev st = resOf prev (lead st) r) : YOut W0 R M sv all rb prev st a w := by
  obtain ⟨u1, u2, u3, tl, typ, str, ok, e, h1, h2, h3, h4⟩ := h
  unfold YOut
  rw [← h0, ← h3]
  refine ⟨u1, u2, u3, tl, typ, str, _, _, _, e, h1, h2, fun h5 => ?_⟩
  obtain ⟨g2, g3, g4⟩ := h4 h5
  rw [hr (h3 ▸ h5)]
  exact ⟨g2, g3, rfl, rfl, rfl, g4⟩

set_option maxRecDepth 1000000 in
set_option maxHeartbeats 16000000 in
theorem y_pre {W0 w : World} {R M rb : Nat} {sv : Value} {all : List UInt8} {st : St} {prev : Int} {Q : Exit → Act → World → Prop} (h : Rf w R M sv all st) (hR : Blk w rb (ycells 0 ⟨#[]⟩ 0 0 false)) (fb : Fb [R] W0.heap.size W0 w) (rn : W0.heap.size ≤ rb) (lR : R < W0.heap.size) (lM : M < W0.heap.size)
    (hQ : ∀ (tb : Nat) (w' : World) (u2 u3 u5 u9 u10 u11 u12 u13 u14 u15 u16 u17 u18 u19 u20 u21 u22 u23 u24 u25 u26 u27 u28 u29 u30 u31 u32 u33 u34 u35 u36 u37 u38 u39 u40 u41 u42 u43 u44 u45 u46 u47 u48 u49 u50 u51 u52 u53 u54 u55 u56 u57 u58 u59 u60 u61 u62 u63 u64 u65 u66 u67 u68 u69 u70 u71 u72 u73 u74 u75 u76 u77 u78 u79 u80 u81 u82 u83 u84 u85 u86 u87 u88 u89 u90 u91 u92 u93 u94 u95 u96 u97 u98 u99 u100 u101 u102 u103 u104 u105 u106 u107 u108 u109 u110 u111 u112 u113 u114 u115 u116 u117 u118 u119 u120 u121 u122 u123 u124 u125 u126 u127 u128 u129 u130 u131 u132 u133 u134 u135 u136 u137 u138 u139 u140 u141 u142 u143 u144 u145 u146 u147 u148 u149 u150 u151 u152 u153 u154 u155 u156 u157 u158 u159 u160 u161 u162 u163 u164 u165 u166 u167 u168 u169 u170 u171 u172 u173 u174 u175 u176 u177 u178 u179 u180 u181 u182 u183 u184 u185 u186 u187 u188 u189 u190 u191 u192 u193 u194 u195 u196 u197 u198 u199 u200 u201 u202 u203 u204 u205 u206 u207 u208 u209 u210 u211 u212 u213 u214 u215 u216 u217 u218 u219 u220 u221 u222 u223 u224 u225 u226 u227 : Value), Yk W0 R M sv all rb tb w' (lead st).2.2 0 ⟨#[]⟩ (lead st).2.2.line (lead st).2.2.col (decide ((lead st).1 = 40 ∧ prev = 41) && (lead st).2.1) → Code.wp Tryz.prog yM Q ⟨(Value.pointer (some ⟨R, 0, none⟩) :: Value.int .i64 prev :: u2 :: u3 :: Value.pointer (some ⟨rb, 0, none⟩) :: u5 :: Value.bool (lead st).2.1 :: Value.int .i64 (lead st).1 :: Value.pointer (some ⟨tb, 0, none⟩) :: u9 :: u10 :: u11 :: u12 :: u13 :: u14 :: u15 :: u16 :: u17 :: u18 :: u19 :: u20 :: u21 :: u22 :: u23 :: u24 :: u25 :: u26 :: u27 :: u28 :: u29 :: u30 :: u31 :: u32 :: u33 :: u34 :: u35 :: u36 :: u37 :: u38 :: u39 :: u40 :: u41 :: u42 :: u43 :: u44 :: u45 :: u46 :: u47 :: u48 :: u49 :: u50 :: u51 :: u52 :: u53 :: u54 :: u55 :: u56 :: u57 :: u58 :: u59 :: u60 :: u61 :: u62 :: u63 :: u64 :: u65 :: u66 :: u67 :: u68 :: u69 :: u70 :: u71 :: u72 :: u73 :: u74 :: u75 :: u76 :: u77 :: u78 :: u79 :: u80 :: u81 :: u82 :: u83 :: u84 :: u85 :: u86 :: u87 :: u88 :: u89 :: u90 :: u91 :: u92 :: u93 :: u94 :: u95 :: u96 :: u97 :: u98 :: u99 :: u100 :: u101 :: u102 :: u103 :: u104 :: u105 :: u106 :: u107 :: u108 :: u109 :: u110 :: u111 :: u112 :: u113 :: u114 :: u115 :: u116 :: u117 :: u118 :: u119 :: u120 :: u121 :: u122 :: u123 :: u124 :: u125 :: u126 :: u127 :: u128 :: u129 :: u130 :: u131 :: u132 :: u133 :: u134 :: u135 :: u136 :: u137 :: u138 :: u139 :: u140 :: u141 :: u142 :: u143 :: u144 :: u145 :: u146 :: u147 :: u148 :: u149 :: u150 :: u151 :: u152 :: u153 :: u154 :: u155 :: u156 :: u157 :: u158 :: u159 :: u160 :: u161 :: u162 :: u163 :: u164 :: u165 :: u166 :: u167 :: u168 :: u169 :: u170 :: u171 :: u172 :: u173 :: u174 :: u175 :: u176 :: u177 :: u178 :: u179 :: u180 :: u181 :: u182 :: u183 :: u184 :: u185 :: u186 :: u187 :: u188 :: u189 :: u190 :: u191 :: u192 :: u193 :: u194 :: u195 :: u196 :: u197 :: u198 :: u199 :: u200 :: u201 :: u202 :: u203 :: u204 :: u205 :: u206 :: u207 :: u208 :: u209 :: u210 :: u211 :: u212 :: u213 :: u214 :: u215 :: u216 :: u217 :: u218 :: u219 :: u220 :: u221 :: u222 :: u223 :: u224 :: u225 :: u226 :: u227 :: []).toArray, []⟩ w') (u2 u3 u5 u6 u7 u8 u9 u10 u11 u12 u13 u14 u15 u16 u17 u18 u19 u20 u21 u22 u23 u24 u25 u26 u27 u28 u29 u30 u31 u32 u33 u34 u35 u36 u37 u38 u39 u40 u41 u42 u43 u44 u45 u46 u47 u48 u49 u50 u51 u52 u53 u54 u55 u56 u57 u58 u59 u60 u61 u62 u63 u64 u65 u66 u67 u68 u69 u70 u71 u72 u73 u74 u75 u76 u77 u78 u79 u80 u81 u82 u83 u84 u85 u86 u87 u88 u89 u90 u91 u92 u93 u94 u95 u96 u97 u98 u99 u100 u101 u102 u103 u104 u105 u106 u107 u108 u109 u110 u111 u112 u113 u114 u115 u116 u117 u118 u119 u120 u121 u122 u123 u124 u125 u126 u127 u128 u129 u130 u131 u132 u133 u134 u135 u136 u137 u138 u139 u140 u141 u142 u143 u144 u145 u146 u147 u148 u149 u150 u151 u152 u153 u154 u155 u156 u157 u158 u159 u160 u161 u162 u163 u164 u165 u166 u167 u168 u169 u170 u171 u172 u173 u174 u175 u176 u177 u178 u179 u180 u181 u182 u183 u184 u185 u186 u187 u188 u189 u190 u191 u192 u193 u194 u195 u196 u197 u198 u199 u200 u201 u202 u203 u204 u205 u206 u207 u208 u209 u210 u211 u212 u213 u214 u215 u216 u217 u218 u219 u220 u221 u222 u223 u224 u225 u226 u227 : Value) : Code.wp Tryz.prog yBody Q ⟨(Value.pointer (some ⟨R, 0, none⟩) :: Value.int .i64 prev :: u2 :: u3 :: Value.pointer (some ⟨rb, 0, none⟩) :: u5 :: u6 :: u7 :: u8 :: u9 :: u10 :: u11 :: u12 :: u13 :: u14 :: u15 :: u16 :: u17 :: u18 :: u19 :: u20 :: u21 :: u22 :: u23 :: u24 :: u25 :: u26 :: u27 :: u28 :: u29 :: u30 :: u31 :: u32 :: u33 :: u34 :: u35 :: u36 :: u37 :: u38 :: u39 :: u40 :: u41 :: u42 :: u43 :: u44 :: u45 :: u46 :: u47 :: u48 :: u49 :: u50 :: u51 :: u52 :: u53 :: u54 :: u55 :: u56 :: u57 :: u58 :: u59 :: u60 :: u61 :: u62 :: u63 :: u64 :: u65 :: u66 :: u67 :: u68 :: u69 :: u70 :: u71 :: u72 :: u73 :: u74 :: u75 :: u76 :: u77 :: u78 :: u79 :: u80 :: u81 :: u82 :: u83 :: u84 :: u85 :: u86 :: u87 :: u88 :: u89 :: u90 :: u91 :: u92 :: u93 :: u94 :: u95 :: u96 :: u97 :: u98 :: u99 :: u100 :: u101 :: u102 :: u103 :: u104 :: u105 :: u106 :: u107 :: u108 :: u109 :: u110 :: u111 :: u112 :: u113 :: u114 :: u115 :: u116 :: u117 :: u118 :: u119 :: u120 :: u121 :: u122 :: u123 :: u124 :: u125 :: u126 :: u127 :: u128 :: u129 :: u130 :: u131 :: u132 :: u133 :: u134 :: u135 :: u136 :: u137 :: u138 :: u139 :: u140 :: u141 :: u142 :: u143 :: u144 :: u145 :: u146 :: u147 :: u148 :: u149 :: u150 :: u151 :: u152 :: u153 :: u154 :: u155 :: u156 :: u157 :: u158 :: u159 :: u160 :: u161 :: u162 :: u163 :: u164 :: u165 :: u166 :: u167 :: u168 :: u169 :: u170 :: u171 :: u172 :: u173 :: u174 :: u175 :: u176 :: u177 :: u178 :: u179 :: u180 :: u181 :: u182 :: u183 :: u184 :: u185 :: u186 :: u187 :: u188 :: u189 :: u190 :: u191 :: u192 :: u193 :: u194 :: u195 :: u196 :: u197 :: u198 :: u199 :: u200 :: u201 :: u202 :: u203 :: u204 :: u205 :: u206 :: u207 :: u208 :: u209 :: u210 :: u211 :: u212 :: u213 :: u214 :: u215 :: u216 :: u217 :: u218 :: u219 :: u220 :: u221 :: u222 :: u223 :: u224 :: u225 :: u226 :: u227 :: []).toArray, []⟩ w := by
  have e3 : y3 = .seq (rFst y3) (.seq (rFst y6) yM) := rfl
  refine yp_12 h (fun w2 u2 u3 u5 u8 u9 u10 u11 u12 u13 u14 u15 u16 u17 u18 u19 u20 u21 u22 u23 u24 u25 u26 u27 u28 u29 u30 u31 u32 u33 u34 u35 u36 u37 u38 u39 u40 u41 u42 u43 u44 u45 u46 u47 u48 u49 u50 u51 u52 u53 u54 u55 u56 u57 u58 u59 u60 u61 u62 u63 u64 u65 u66 u67 u68 u69 u70 u71 u72 u73 u74 u75 u76 u77 u78 u79 u80 u81 u82 u83 u84 u85 u86 u87 u88 u89 u90 u91 u92 u93 u94 u95 u96 u97 u98 u99 u100 u101 u102 u103 u104 u105 u106 u107 u108 u109 u110 u111 u112 u113 u114 u115 u116 u117 u118 u119 u120 u121 u122 u123 u124 u125 u126 u127 u128 u129 u130 u131 u132 u133 u134 u135 u136 u137 u138 u139 u140 u141 u142 u143 u144 u145 u146 u147 u148 u149 u150 u151 u152 u153 u154 u155 u156 u157 u158 u159 u160 u161 u162 u163 u164 u165 u166 u167 u168 u169 u170 u171 u172 u173 u174 u175 u176 u177 u178 u179 u180 u181 u182 u183 u184 u185 u186 u187 u188 u189 u190 u191 u192 u193 u194 u195 u196 u197 u198 u199 u200 u201 u202 u203 u204 u205 u206 u207 u208 u209 u210 u211 u212 u213 u214 u215 u216 u217 u218 u219 u220 u221 u222 u223 u224 u225 u226 u227 ⟨h2, f2⟩ => ?_) u2 u3 u5 u6 u7 u8 u9 u10 u11 u12 u13 u14 u15 u16 u17 u18 u19 u20 u21 u22 u23 u24 u25 u26 u27 u28 u29 u30 u31 u32 u33 u34 u35 u36 u37 u38 u39 u40 u41 u42 u43 u44 u45 u46 u47 u48 u49 u50 u51 u52 u53 u54 u55 u56 u57 u58 u59 u60 u61 u62 u63 u64 u65 u66 u67 u68 u69 u70 u71 u72 u73 u74 u75 u76 u77 u78 u79 u80 u81 u82 u83 u84 u85 u86 u87 u88 u89 u90 u91 u92 u93 u94 u95 u96 u97 u98 u99 u100 u101 u102 u103 u104 u105 u106 u107 u108 u109 u110 u111 u112 u113 u114 u115 u116 u117 u118 u119 u120 u121 u122 u123 u124 u125 u126 u127 u128 u129 u130 u131 u132 u133 u134 u135 u136 u137 u138 u139 u140 u141 u142 u143 u144 u145 u146 u147 u148 u149 u150 u151 u152 u153 u154 u155 u156 u157 u158 u159 u160 u161 u162 u163 u164 u165 u166 u167 u168 u169 u170 u171 u172 u173 u174 u175 u176 u177 u178 u179 u180 u181 u182 u183 u184 u185 u186 u187 u188 u189 u190 u191 u192 u193 u194 u195 u196 u197 u198 u199 u200 u201 u202 u203 u204 u205 u206 u207 u208 u209 u210 u211 u212 u213 u214 u215 u216 u217 u218 u219 u220 u221 u222 u223 u224 u225 u226 u227
  rw [e3]
  by_cases q : (st.skip mk1).1 = 10
  · have e : lead st = (((st.skip mk1).2.skip mk2).1, true, ((st.skip mk1).2.skip mk2).2) := by unfold lead; rw [if_pos q]
    rw [q]
    refine wp_seq (yp_c1 h2 (fun w3 u2 u3 u5 u8 u9 u10 u11 u12 u13 u14 u15 u16 u17 u18 u19 u20 u21 u22 u23 u24 u25 u26 u27 u28 u29 u30 u31 u32 u33 u34 u35 u36 u37 u38 u39 u40 u41 u42 u43 u44 u45 u46 u47 u48 u49 u50 u51 u52 u53 u54 u55 u56 u57 u58 u59 u60 u61 u62 u63 u64 u65 u66 u67 u68 u69 u70 u71 u72 u73 u74 u75 u76 u77 u78 u79 u80 u81 u82 u83 u84 u85 u86 u87 u88 u89 u90 u91 u92 u93 u94 u95 u96 u97 u98 u99 u100 u101 u102 u103 u104 u105 u106 u107 u108 u109 u110 u111 u112 u113 u114 u115 u116 u117 u118 u119 u120 u121 u122 u123 u124 u125 u126 u127 u128 u129 u130 u131 u132 u133 u134 u135 u136 u137 u138 u139 u140 u141 u142 u143 u144 u145 u146 u147 u148 u149 u150 u151 u152 u153 u154 u155 u156 u157 u158 u159 u160 u161 u162 u163 u164 u165 u166 u167 u168 u169 u170 u171 u172 u173 u174 u175 u176 u177 u178 u179 u180 u181 u182 u183 u184 u185 u186 u187 u188 u189 u190 u191 u192 u193 u194 u195 u196 u197 u198 u199 u200 u201 u202 u203 u204 u205 u206 u207 u208 u209 u210 u211 u212 u213 u214 u215 u216 u217 u218 u219 u220 u221 u222 u223 u224 u225 u226 u227 ⟨h3, f3⟩ => ?_) u2 u3 u5 u8 u9 u10 u11 u12 u13 u14 u15 u16 u17 u18 u19 u20 u21 u22 u23 u24 u25 u26 u27 u28 u29 u30 u31 u32 u33 u34 u35 u36 u37 u38 u39 u40 u41 u42 u43 u44 u45 u46 u47 u48 u49 u50 u51 u52 u53 u54 u55 u56 u57 u58 u59 u60 u61 u62 u63 u64 u65 u66 u67 u68 u69 u70 u71 u72 u73 u74 u75 u76 u77 u78 u79 u80 u81 u82 u83 u84 u85 u86 u87 u88 u89 u90 u91 u92 u93 u94 u95 u96 u97 u98 u99 u100 u101 u102 u103 u104 u105 u106 u107 u108 u109 u110 u111 u112 u113 u114 u115 u116 u117 u118 u119 u120 u121 u122 u123 u124 u125 u126 u127 u128 u129 u130 u131 u132 u133 u134 u135 u136 u137 u138 u139 u140 u141 u142 u143 u144 u145 u146 u147 u148 u149 u150 u151 u152 u153 u154 u155 u156 u157 u158 u159 u160 u161 u162 u163 u164 u165 u166 u167 u168 u169 u170 u171 u172 u173 u174 u175 u176 u177 u178 u179 u180 u181 u182 u183 u184 u185 u186 u187 u188 u189 u190 u191 u192 u193 u194 u195 u196 u197 u198 u199 u200 u201 u202 u203 u204 u205 u206 u207 u208 u209 u210 u211 u212 u213 u214 u215 u216 u217 u218 u219 u220 u221 u222 u223 u224 u225 u226 u227)
    show Code.wp Tryz.prog (.seq (rFst y6) yM) Q _ w3
    have f23 := f2.trans f3
    have hRx := f23.blk hR (by simp only [List.mem_singleton]; omega)
    have fbx := fb.trans (f23.fb fb.size)
    by_cases h40 : (lead st).1 = 40
    · rw [e] at h40
      replace h40 : ((st.skip mk1).2.skip mk2).1 = 40 := h40
      rw [h40]
      cases h41 : (prev == 41)
      · have ep : (decide ((lead st).1 = 40 ∧ prev = 41) && (lead st).2.1) = false := by rw [e]; have g := beq_eq_false_iff_ne.1 h41; simp [g]
        rw [ep, e] at hQ
        rw [h40] at hQ
        exact wp_seq (yp_t1 (c := 40) h3 hRx fbx rn lR lM h41 (fun tb w4 u2 u3 u5 u9 u10 u11 u12 u13 u14 u15 u16 u17 u18 u19 u20 u21 u22 u23 u24 u25 u26 u27 u28 u29 u30 u31 u32 u33 u34 u35 u36 u37 u38 u39 u40 u41 u42 u43 u44 u45 u46 u47 u48 u49 u50 u51 u52 u53 u54 u55 u56 u57 u58 u59 u60 u61 u62 u63 u64 u65 u66 u67 u68 u69 u70 u71 u72 u73 u74 u75 u76 u77 u78 u79 u80 u81 u82 u83 u84 u85 u86 u87 u88 u89 u90 u91 u92 u93 u94 u95 u96 u97 u98 u99 u100 u101 u102 u103 u104 u105 u106 u107 u108 u109 u110 u111 u112 u113 u114 u115 u116 u117 u118 u119 u120 u121 u122 u123 u124 u125 u126 u127 u128 u129 u130 u131 u132 u133 u134 u135 u136 u137 u138 u139 u140 u141 u142 u143 u144 u145 u146 u147 u148 u149 u150 u151 u152 u153 u154 u155 u156 u157 u158 u159 u160 u161 u162 u163 u164 u165 u166 u167 u168 u169 u170 u171 u172 u173 u174 u175 u176 u177 u178 u179 u180 u181 u182 u183 u184 u185 u186 u187 u188 u189 u190 u191 u192 u193 u194 u195 u196 u197 u198 u199 u200 u201 u202 u203 u204 u205 u206 u207 u208 u209 u210 u211 u212 u213 u214 u215 u216 u217 u218 u219 u220 u221 u222 u223 u224 u225 u226 u227 hk => hQ tb w4 u2 u3 u5 u9 u10 u11 u12 u13 u14 u15 u16 u17 u18 u19 u20 u21 u22 u23 u24 u25 u26 u27 u28 u29 u30 u31 u32 u33 u34 u35 u36 u37 u38 u39 u40 u41 u42 u43 u44 u45 u46 u47 u48 u49 u50 u51 u52 u53 u54 u55 u56 u57 u58 u59 u60 u61 u62 u63 u64 u65 u66 u67 u68 u69 u70 u71 u72 u73 u74 u75 u76 u77 u78 u79 u80 u81 u82 u83 u84 u85 u86 u87 u88 u89 u90 u91 u92 u93 u94 u95 u96 u97 u98 u99 u100 u101 u102 u103 u104 u105 u106 u107 u108 u109 u110 u111 u112 u113 u114 u115 u116 u117 u118 u119 u120 u121 u122 u123 u124 u125 u126 u127 u128 u129 u130 u131 u132 u133 u134 u135 u136 u137 u138 u139 u140 u141 u142 u143 u144 u145 u146 u147 u148 u149 u150 u151 u152 u153 u154 u155 u156 u157 u158 u159 u160 u161 u162 u163 u164 u165 u166 u167 u168 u169 u170 u171 u172 u173 u174 u175 u176 u177 u178 u179 u180 u181 u182 u183 u184 u185 u186 u187 u188 u189 u190 u191 u192 u193 u194 u195 u196 u197 u198 u199 u200 u201 u202 u203 u204 u205 u206 u207 u208 u209 u210 u211 u212 u213 u214 u215 u216 u217 u218 u219 u220 u221 u222 u223 u224 u225 u226 u227 hk) u2 u3 u5 u8 u9 u10 u11 u12 u13 u14 u15 u16 u17 u18 u19 u20 u21 u22 u23 u24 u25 u26 u27 u28 u29 u30 u31 u32 u33 u34 u35 u36 u37 u38 u39 u40 u41 u42 u43 u44 u45 u46 u47 u48 u49 u50 u51 u52 u53 u54 u55 u56 u57 u58 u59 u60 u61 u62 u63 u64 u65 u66 u67 u68 u69 u70 u71 u72 u73 u74 u75 u76 u77 u78 u79 u80 u81 u82 u83 u84 u85 u86 u87 u88 u89 u90 u91 u92 u93 u94 u95 u96 u97 u98 u99 u100 u101 u102 u103 u104 u105 u106 u107 u108 u109 u110 u111 u112 u113 u114 u115 u116 u117 u118 u119 u120 u121 u122 u123 u124 u125 u126 u127 u128 u129 u130 u131 u132 u133 u134 u135 u136 u137 u138 u139 u140 u141 u142 u143 u144 u145 u146 u147 u148 u149 u150 u151 u152 u153 u154 u155 u156 u157 u158 u159 u160 u161 u162 u163 u164 u165 u166 u167 u168 u169 u170 u171 u172 u173 u174 u175 u176 u177 u178 u179 u180 u181 u182 u183 u184 u185 u186 u187 u188 u189 u190 u191 u192 u193 u194 u195 u196 u197 u198 u199 u200 u201 u202 u203 u204 u205 u206 u207 u208 u209 u210 u211 u212 u213 u214 u215 u216 u217 u218 u219 u220 u221 u222 u223 u224 u225 u226 u227)
      · have ep : (decide ((lead st).1 = 40 ∧ prev = 41) && (lead st).2.1) = true := by rw [e]; have g := beq_iff_eq.1 h41; simp [h40, g]
        rw [ep, e] at hQ
        rw [h40] at hQ
        exact wp_seq (yp_t2 (c := 40) h3 hRx fbx rn lR lM h41 (fun tb w4 u2 u3 u5 u9 u10 u11 u12 u13 u14 u15 u16 u17 u18 u19 u20 u21 u22 u23 u24 u25 u26 u27 u28 u29 u30 u31 u32 u33 u34 u35 u36 u37 u38 u39 u40 u41 u42 u43 u44 u45 u46 u47 u48 u49 u50 u51 u52 u53 u54 u55 u56 u57 u58 u59 u60 u61 u62 u63 u64 u65 u66 u67 u68 u69 u70 u71 u72 u73 u74 u75 u76 u77 u78 u79 u80 u81 u82 u83 u84 u85 u86 u87 u88 u89 u90 u91 u92 u93 u94 u95 u96 u97 u98 u99 u100 u101 u102 u103 u104 u105 u106 u107 u108 u109 u110 u111 u112 u113 u114 u115 u116 u117 u118 u119 u120 u121 u122 u123 u124 u125 u126 u127 u128 u129 u130 u131 u132 u133 u134 u135 u136 u137 u138 u139 u140 u141 u142 u143 u144 u145 u146 u147 u148 u149 u150 u151 u152 u153 u154 u155 u156 u157 u158 u159 u160 u161 u162 u163 u164 u165 u166 u167 u168 u169 u170 u171 u172 u173 u174 u175 u176 u177 u178 u179 u180 u181 u182 u183 u184 u185 u186 u187 u188 u189 u190 u191 u192 u193 u194 u195 u196 u197 u198 u199 u200 u201 u202 u203 u204 u205 u206 u207 u208 u209 u210 u211 u212 u213 u214 u215 u216 u217 u218 u219 u220 u221 u222 u223 u224 u225 u226 u227 hk => hQ tb w4 u2 u3 u5 u9 u10 u11 u12 u13 u14 u15 u16 u17 u18 u19 u20 u21 u22 u23 u24 u25 u26 u27 u28 u29 u30 u31 u32 u33 u34 u35 u36 u37 u38 u39 u40 u41 u42 u43 u44 u45 u46 u47 u48 u49 u50 u51 u52 u53 u54 u55 u56 u57 u58 u59 u60 u61 u62 u63 u64 u65 u66 u67 u68 u69 u70 u71 u72 u73 u74 u75 u76 u77 u78 u79 u80 u81 u82 u83 u84 u85 u86 u87 u88 u89 u90 u91 u92 u93 u94 u95 u96 u97 u98 u99 u100 u101 u102 u103 u104 u105 u106 u107 u108 u109 u110 u111 u112 u113 u114 u115 u116 u117 u118 u119 u120 u121 u122 u123 u124 u125 u126 u127 u128 u129 u130 u131 u132 u133 u134 u135 u136 u137 u138 u139 u140 u141 u142 u143 u144 u145 u146 u147 u148 u149 u150 u151 u152 u153 u154 u155 u156 u157 u158 u159 u160 u161 u162 u163 u164 u165 u166 u167 u168 u169 u170 u171 u172 u173 u174 u175 u176 u177 u178 u179 u180 u181 u182 u183 u184 u185 u186 u187 u188 u189 u190 u191 u192 u193 u194 u195 u196 u197 u198 u199 u200 u201 u202 u203 u204 u205 u206 u207 u208 u209 u210 u211 u212 u213 u214 u215 u216 u217 u218 u219 u220 u221 u222 u223 u224 u225 u226 u227 hk) u2 u3 u5 u8 u9 u10 u11 u12 u13 u14 u15 u16 u17 u18 u19 u20 u21 u22 u23 u24 u25 u26 u27 u28 u29 u30 u31 u32 u33 u34 u35 u36 u37 u38 u39 u40 u41 u42 u43 u44 u45 u46 u47 u48 u49 u50 u51 u52 u53 u54 u55 u56 u57 u58 u59 u60 u61 u62 u63 u64 u65 u66 u67 u68 u69 u70 u71 u72 u73 u74 u75 u76 u77 u78 u79 u80 u81 u82 u83 u84 u85 u86 u87 u88 u89 u90 u91 u92 u93 u94 u95 u96 u97 u98 u99 u100 u101 u102 u103 u104 u105 u106 u107 u108 u109 u110 u111 u112 u113 u114 u115 u116 u117 u118 u119 u120 u121 u122 u123 u124 u125 u126 u127 u128 u129 u130 u131 u132 u133 u134 u135 u136 u137 u138 u139 u140 u141 u142 u143 u144 u145 u146 u147 u148 u149 u150 u151 u152 u153 u154 u155 u156 u157 u158 u159 u160 u161 u162 u163 u164 u165 u166 u167 u168 u169 u170 u171 u172 u173 u174 u175 u176 u177 u178 u179 u180 u181 u182 u183 u184 u185 u186 u187 u188 u189 u190 u191 u192 u193 u194 u195 u196 u197 u198 u199 u200 u201 u202 u203 u204 u205 u206 u207 u208 u209 u210 u211 u212 u213 u214 u215 u216 u217 u218 u219 u220 u221 u222 u223 u224 u225 u226 u227)
    · have ep : (decide ((lead st).1 = 40 ∧ prev = 41) && (lead st).2.1) = false := by simp [h40]
      rw [ep, e] at hQ
      rw [e] at h40
      replace h40 : ¬ ((st.skip mk1).2.skip mk2).1 = 40 := h40
      exact wp_seq (yp_t0 h3 hRx fbx rn lR lM (by rw [beq_eq_false_iff_ne]; exact h40) (fun tb w4 u2 u3 u5 u9 u10 u11 u12 u13 u14 u15 u16 u17 u18 u19 u20 u21 u22 u23 u24 u25 u26 u27 u28 u29 u30 u31 u32 u33 u34 u35 u36 u37 u38 u39 u40 u41 u42 u43 u44 u45 u46 u47 u48 u49 u50 u51 u52 u53 u54 u55 u56 u57 u58 u59 u60 u61 u62 u63 u64 u65 u66 u67 u68 u69 u70 u71 u72 u73 u74 u75 u76 u77 u78 u79 u80 u81 u82 u83 u84 u85 u86 u87 u88 u89 u90 u91 u92 u93 u94 u95 u96 u97 u98 u99 u100 u101 u102 u103 u104 u105 u106 u107 u108 u109 u110 u111 u112 u113 u114 u115 u116 u117 u118 u119 u120 u121 u122 u123 u124 u125 u126 u127 u128 u129 u130 u131 u132 u133 u134 u135 u136 u137 u138 u139 u140 u141 u142 u143 u144 u145 u146 u147 u148 u149 u150 u151 u152 u153 u154 u155 u156 u157 u158 u159 u160 u161 u162 u163 u164 u165 u166 u167 u168 u169 u170 u171 u172 u173 u174 u175 u176 u177 u178 u179 u180 u181 u182 u183 u184 u185 u186 u187 u188 u189 u190 u191 u192 u193 u194 u195 u196 u197 u198 u199 u200 u201 u202 u203 u204 u205 u206 u207 u208 u209 u210 u211 u212 u213 u214 u215 u216 u217 u218 u219 u220 u221 u222 u223 u224 u225 u226 u227 hk => hQ tb w4 u2 u3 u5 u9 u10 u11 u12 u13 u14 u15 u16 u17 u18 u19 u20 u21 u22 u23 u24 u25 u26 u27 u28 u29 u30 u31 u32 u33 u34 u35 u36 u37 u38 u39 u40 u41 u42 u43 u44 u45 u46 u47 u48 u49 u50 u51 u52 u53 u54 u55 u56 u57 u58 u59 u60 u61 u62 u63 u64 u65 u66 u67 u68 u69 u70 u71 u72 u73 u74 u75 u76 u77 u78 u79 u80 u81 u82 u83 u84 u85 u86 u87 u88 u89 u90 u91 u92 u93 u94 u95 u96 u97 u98 u99 u100 u101 u102 u103 u104 u105 u106 u107 u108 u109 u110 u111 u112 u113 u114 u115 u116 u117 u118 u119 u120 u121 u122 u123 u124 u125 u126 u127 u128 u129 u130 u131 u132 u133 u134 u135 u136 u137 u138 u139 u140 u141 u142 u143 u144 u145 u146 u147 u148 u149 u150 u151 u152 u153 u154 u155 u156 u157 u158 u159 u160 u161 u162 u163 u164 u165 u166 u167 u168 u169 u170 u171 u172 u173 u174 u175 u176 u177 u178 u179 u180 u181 u182 u183 u184 u185 u186 u187 u188 u189 u190 u191 u192 u193 u194 u195 u196 u197 u198 u199 u200 u201 u202 u203 u204 u205 u206 u207 u208 u209 u210 u211 u212 u213 u214 u215 u216 u217 u218 u219 u220 u221 u222 u223 u224 u225 u226 u227 hk) u2 u3 u5 u8 u9 u10 u11 u12 u13 u14 u15 u16 u17 u18 u19 u20 u21 u22 u23 u24 u25 u26 u27 u28 u29 u30 u31 u32 u33 u34 u35 u36 u37 u38 u39 u40 u41 u42 u43 u44 u45 u46 u47 u48 u49 u50 u51 u52 u53 u54 u55 u56 u57 u58 u59 u60 u61 u62 u63 u64 u65 u66 u67 u68 u69 u70 u71 u72 u73 u74 u75 u76 u77 u78 u79 u80 u81 u82 u83 u84 u85 u86 u87 u88 u89 u90 u91 u92 u93 u94 u95 u96 u97 u98 u99 u100 u101 u102 u103 u104 u105 u106 u107 u108 u109 u110 u111 u112 u113 u114 u115 u116 u117 u118 u119 u120 u121 u122 u123 u124 u125 u126 u127 u128 u129 u130 u131 u132 u133 u134 u135 u136 u137 u138 u139 u140 u141 u142 u143 u144 u145 u146 u147 u148 u149 u150 u151 u152 u153 u154 u155 u156 u157 u158 u159 u160 u161 u162 u163 u164 u165 u166 u167 u168 u169 u170 u171 u172 u173 u174 u175 u176 u177 u178 u179 u180 u181 u182 u183 u184 u185 u186 u187 u188 u189 u190 u191 u192 u193 u194 u195 u196 u197 u198 u199 u200 u201 u202 u203 u204 u205 u206 u207 u208 u209 u210 u211 u212 u213 u214 u215 u216 u217 u218 u219 u220 u221 u222 u223 u224 u225 u226 u227)
  · have e : lead st = ((st.skip mk1).1, false, (st.skip mk1).2) := by unfold lead; rw [if_neg q]
    refine wp_seq (yp_c0 (w := w2) (c := (st.skip mk1).1) (by rw [beq_eq_false_iff_ne]; exact q) (fun u2 u3 u5 u8 u9 u10 u11 u12 u13 u14 u15 u16 u17 u18 u19 u20 u21 u22 u23 u24 u25 u26 u27 u28 u29 u30 u31 u32 u33 u34 u35 u36 u37 u38 u39 u40 u41 u42 u43 u44 u45 u46 u47 u48 u49 u50 u51 u52 u53 u54 u55 u56 u57 u58 u59 u60 u61 u62 u63 u64 u65 u66 u67 u68 u69 u70 u71 u72 u73 u74 u75 u76 u77 u78 u79 u80 u81 u82 u83 u84 u85 u86 u87 u88 u89 u90 u91 u92 u93 u94 u95 u96 u97 u98 u99 u100 u101 u102 u103 u104 u105 u106 u107 u108 u109 u110 u111 u112 u113 u114 u115 u116 u117 u118 u119 u120 u121 u122 u123 u124 u125 u126 u127 u128 u129 u130 u131 u132 u133 u134 u135 u136 u137 u138 u139 u140 u141 u142 u143 u144 u145 u146 u147 u148 u149 u150 u151 u152 u153 u154 u155 u156 u157 u158 u159 u160 u161 u162 u163 u164 u165 u166 u167 u168 u169 u170 u171 u172 u173 u174 u175 u176 u177 u178 u179 u180 u181 u182 u183 u184 u185 u186 u187 u188 u189 u190 u191 u192 u193 u194 u195 u196 u197 u198 u199 u200 u201 u202 u203 u204 u205 u206 u207 u208 u209 u210 u211 u212 u213 u214 u215 u216 u217 u218 u219 u220 u221 u222 u223 u224 u225 u226 u227 _ => ?_) u2 u3 u5 u8 u9 u10 u11 u12 u13 u14 u15 u16 u17 u18 u19 u20 u21 u22 u23 u24 u25 u26 u27 u28 u29 u30 u31 u32 u33 u34 u35 u36 u37 u38 u39 u40 u41 u42 u43 u44 u45 u46 u47 u48 u49 u50 u51 u52 u53 u54 u55 u56 u57 u58 u59 u60 u61 u62 u63 u64 u65 u66 u67 u68 u69 u70 u71 u72 u73 u74 u75 u76 u77 u78 u79 u80 u81 u82 u83 u84 u85 u86 u87 u88 u89 u90 u91 u92 u93 u94 u95 u96 u97 u98 u99 u100 u101 u102 u103 u104 u105 u106 u107 u108 u109 u110 u111 u112 u113 u114 u115 u116 u117 u118 u119 u120 u121 u122 u123 u124 u125 u126 u127 u128 u129 u130 u131 u132 u133 u134 u135 u136 u137 u138 u139 u140 u141 u142 u143 u144 u145 u146 u147 u148 u149 u150 u151 u152 u153 u154 u155 u156 u157 u158 u159 u160 u161 u162 u163 u164 u165 u166 u167 u168 u169 u170 u171 u172 u173 u174 u175 u176 u177 u178 u179 u180 u181 u182 u183 u184 u185 u186 u187 u188 u189 u190 u191 u192 u193 u194 u195 u196 u197 u198 u199 u200 u201 u202 u203 u204 u205 u206 u207 u208 u209 u210 u211 u212 u213 u214 u215 u216 u217 u218 u219 u220 u221 u222 u223 u224 u225 u226 u227)
    show Code.wp Tryz.prog (.seq (rFst y6) yM) Q _ w2
    have hRx := f2.blk hR (by simp only [List.mem_singleton]; omega)
    have fbx := fb.trans (f2.fb fb.size)
    by_cases h40 : (lead st).1 = 40
    · rw [e] at h40
      replace h40 : (st.skip mk1).1 = 40 := h40
      rw [h40]
      cases h41 : (prev == 41)
      · have ep : (decide ((lead st).1 = 40 ∧ prev = 41) && (lead st).2.1) = false := by rw [e]; have g := beq_eq_false_iff_ne.1 h41; simp [g]
        rw [ep, e] at hQ
        rw [h40] at hQ
        exact wp_seq (yp_t1 (c := 40) h2 hRx fbx rn lR lM h41 (fun tb w4 u2 u3 u5 u9 u10 u11 u12 u13 u14 u15 u16 u17 u18 u19 u20 u21 u22 u23 u24 u25 u26 u27 u28 u29 u30 u31 u32 u33 u34 u35 u36 u37 u38 u39 u40 u41 u42 u43 u44 u45 u46 u47 u48 u49 u50 u51 u52 u53 u54 u55 u56 u57 u58 u59 u60 u61 u62 u63 u64 u65 u66 u67 u68 u69 u70 u71 u72 u73 u74 u75 u76 u77 u78 u79 u80 u81 u82 u83 u84 u85 u86 u87 u88 u89 u90 u91 u92 u93 u94 u95 u96 u97 u98 u99 u100 u101 u102 u103 u104 u105 u106 u107 u108 u109 u110 u111 u112 u113 u114 u115 u116 u117 u118 u119 u120 u121 u122 u123 u124 u125 u126 u127 u128 u129 u130 u131 u132 u133 u134 u135 u136 u137 u138 u139 u140 u141 u142 u143 u144 u145 u146 u147 u148 u149 u150 u151 u152 u153 u154 u155 u156 u157 u158 u159 u160 u161 u162 u163 u164 u165 u166 u167 u168 u169 u170 u171 u172 u173 u174 u175 u176 u177 u178 u179 u180 u181 u182 u183 u184 u185 u186 u187 u188 u189 u190 u191 u192 u193 u194 u195 u196 u197 u198 u199 u200 u201 u202 u203 u204 u205 u206 u207 u208 u209 u210 u211 u212 u213 u214 u215 u216 u217 u218 u219 u220 u221 u222 u223 u224 u225 u226 u227 hk => hQ tb w4 u2 u3 u5 u9 u10 u11 u12 u13 u14 u15 u16 u17 u18 u19 u20 u21 u22 u23 u24 u25 u26 u27 u28 u29 u30 u31 u32 u33 u34 u35 u36 u37 u38 u39 u40 u41 u42 u43 u44 u45 u46 u47 u48 u49 u50 u51 u52 u53 u54 u55 u56 u57 u58 u59 u60 u61 u62 u63 u64 u65 u66 u67 u68 u69 u70 u71 u72 u73 u74 u75 u76 u77 u78 u79 u80 u81 u82 u83 u84 u85 u86 u87 u88 u89 u90 u91 u92 u93 u94 u95 u96 u97 u98 u99 u100 u101 u102 u103 u104 u105 u106 u107 u108 u109 u110 u111 u112 u113 u114 u115 u116 u117 u118 u119 u120 u121 u122 u123 u124 u125 u126 u127 u128 u129 u130 u131 u132 u133 u134 u135 u136 u137 u138 u139 u140 u141 u142 u143 u144 u145 u146 u147 u148 u149 u150 u151 u152 u153 u154 u155 u156 u157 u158 u159 u160 u161 u162 u163 u164 u165 u166 u167 u168 u169 u170 u171 u172 u173 u174 u175 u176 u177 u178 u179 u180 u181 u182 u183 u184 u185 u186 u187 u188 u189 u190 u191 u192 u193 u194 u195 u196 u197 u198 u199 u200 u201 u202 u203 u204 u205 u206 u207 u208 u209 u210 u211 u212 u213 u214 u215 u216 u217 u218 u219 u220 u221 u222 u223 u224 u225 u226 u227 hk) u2 u3 u5 u8 u9 u10 u11 u12 u13 u14 u15 u16 u17 u18 u19 u20 u21 u22 u23 u24 u25 u26 u27 u28 u29 u30 u31 u32 u33 u34 u35 u36 u37 u38 u39 u40 u41 u42 u43 u44 u45 u46 u47 u48 u49 u50 u51 u52 u53 u54 u55 u56 u57 u58 u59 u60 u61 u62 u63 u64 u65 u66 u67 u68 u69 u70 u71 u72 u73 u74 u75 u76 u77 u78 u79 u80 u81 u82 u83 u84 u85 u86 u87 u88 u89 u90 u91 u92 u93 u94 u95 u96 u97 u98 u99 u100 u101 u102 u103 u104 u105 u106 u107 u108 u109 u110 u111 u112 u113 u114 u115 u116 u117 u118 u119 u120 u121 u122 u123 u124 u125 u126 u127 u128 u129 u130 u131 u132 u133 u134 u135 u136 u137 u138 u139 u140 u141 u142 u143 u144 u145 u146 u147 u148 u149 u150 u151 u152 u153 u154 u155 u156 u157 u158 u159 u160 u161 u162 u163 u164 u165 u166 u167 u168 u169 u170 u171 u172 u173 u174 u175 u176 u177 u178 u179 u180 u181 u182 u183 u184 u185 u186 u187 u188 u189 u190 u191 u192 u193 u194 u195 u196 u197 u198 u199 u200 u201 u202 u203 u204 u205 u206 u207 u208 u209 u210 u211 u212 u213 u214 u215 u216 u217 u218 u219 u220 u221 u222 u223 u224 u225 u226 u227)
      · have ep : (decide ((lead st).1 = 40 ∧ prev = 41) && (lead st).2.1) = false := by rw [e]; have g := beq_iff_eq.1 h41; simp [h40, g]
        rw [ep, e] at hQ
        rw [h40] at hQ
        exact wp_seq (yp_t2 (c := 40) h2 hRx fbx rn lR lM h41 (fun tb w4 u2 u3 u5 u9 u10 u11 u12 u13 u14 u15 u16 u17 u18 u19 u20 u21 u22 u23 u24 u25 u26 u27 u28 u29 u30 u31 u32 u33 u34 u35 u36 u37 u38 u39 u40 u41 u42 u43 u44 u45 u46 u47 u48 u49 u50 u51 u52 u53 u54 u55 u56 u57 u58 u59 u60 u61 u62 u63 u64 u65 u66 u67 u68 u69 u70 u71 u72 u73 u74 u75 u76 u77 u78 u79 u80 u81 u82 u83 u84 u85 u86 u87 u88 u89 u90 u91 u92 u93 u94 u95 u96 u97 u98 u99 u100 u101 u102 u103 u104 u105 u106 u107 u108 u109 u110 u111 u112 u113 u114 u115 u116 u117 u118 u119 u120 u121 u122 u123 u124 u125 u126 u127 u128 u129 u130 u131 u132 u133 u134 u135 u136 u137 u138 u139 u140 u141 u142 u143 u144 u145 u146 u147 u148 u149 u150 u151 u152 u153 u154 u155 u156 u157 u158 u159 u160 u161 u162 u163 u164 u165 u166 u167 u168 u169 u170 u171 u172 u173 u174 u175 u176 u177 u178 u179 u180 u181 u182 u183 u184 u185 u186 u187 u188 u189 u190 u191 u192 u193 u194 u195 u196 u197 u198 u199 u200 u201 u202 u203 u204 u205 u206 u207 u208 u209 u210 u211 u212 u213 u214 u215 u216 u217 u218 u219 u220 u221 u222 u223 u224 u225 u226 u227 hk => hQ tb w4 u2 u3 u5 u9 u10 u11 u12 u13 u14 u15 u16 u17 u18 u19 u20 u21 u22 u23 u24 u25 u26 u27 u28 u29 u30 u31 u32 u33 u34 u35 u36 u37 u38 u39 u40 u41 u42 u43 u44 u45 u46 u47 u48 u49 u50 u51 u52 u53 u54 u55 u56 u57 u58 u59 u60 u61 u62 u63 u64 u65 u66 u67 u68 u69 u70 u71 u72 u73 u74 u75 u76 u77 u78 u79 u80 u81 u82 u83 u84 u85 u86 u87 u88 u89 u90 u91 u92 u93 u94 u95 u96 u97 u98 u99 u100 u101 u102 u103 u104 u105 u106 u107 u108 u109 u110 u111 u112 u113 u114 u115 u116 u117 u118 u119 u120 u121 u122 u123 u124 u125 u126 u127 u128 u129 u130 u131 u132 u133 u134 u135 u136 u137 u138 u139 u140 u141 u142 u143 u144 u145 u146 u147 u148 u149 u150 u151 u152 u153 u154 u155 u156 u157 u158 u159 u160 u161 u162 u163 u164 u165 u166 u167 u168 u169 u170 u171 u172 u173 u174 u175 u176 u177 u178 u179 u180 u181 u182 u183 u184 u185 u186 u187 u188 u189 u190 u191 u192 u193 u194 u195 u196 u197 u198 u199 u200 u201 u202 u203 u204 u205 u206 u207 u208 u209 u210 u211 u212 u213 u214 u215 u216 u217 u218 u219 u220 u221 u222 u223 u224 u225 u226 u227 hk) u2 u3 u5 u8 u9 u10 u11 u12 u13 u14 u15 u16 u17 u18 u19 u20 u21 u22 u23 u24 u25 u26 u27 u28 u29 u30 u31 u32 u33 u34 u35 u36 u37 u38 u39 u40 u41 u42 u43 u44 u45 u46 u47 u48 u49 u50 u51 u52 u53 u54 u55 u56 u57 u58 u59 u60 u61 u62 u63 u64 u65 u66 u67 u68 u69 u70 u71 u72 u73 u74 u75 u76 u77 u78 u79 u80 u81 u82 u83 u84 u85 u86 u87 u88 u89 u90 u91 u92 u93 u94 u95 u96 u97 u98 u99 u100 u101 u102 u103 u104 u105 u106 u107 u108 u109 u110 u111 u112 u113 u114 u115 u116 u117 u118 u119 u120 u121 u122 u123 u124 u125 u126 u127 u128 u129 u130 u131 u132 u133 u134 u135 u136 u137 u138 u139 u140 u141 u142 u143 u144 u145 u146 u147 u148 u149 u150 u151 u152 u153 u154 u155 u156 u157 u158 u159 u160 u161 u162 u163 u164 u165 u166 u167 u168 u169 u170 u171 u172 u173 u174 u175 u176 u177 u178 u179 u180 u181 u182 u183 u184 u185 u186 u187 u188 u189 u190 u191 u192 u193 u194 u195 u196 u197 u198 u199 u200 u201 u202 u203 u204 u205 u206 u207 u208 u209 u210 u211 u212 u213 u214 u215 u216 u217 u218 u219 u220 u221 u222 u223 u224 u225 u226 u227)
    · have ep : (decide ((lead st).1 = 40 ∧ prev = 41) && (lead st).2.1) = false := by simp [h40]
      rw [ep, e] at hQ
      rw [e] at h40
      replace h40 : ¬ (st.skip mk1).1 = 40 := h40
      exact wp_seq (yp_t0 h2 hRx fbx rn lR lM (by rw [beq_eq_false_iff_ne]; exact h40) (fun tb w4 u2 u3 u5 u9 u10 u11 u12 u13 u14 u15 u16 u17 u18 u19 u20 u21 u22 u23 u24 u25 u26 u27 u28 u29 u30 u31 u32 u33 u34 u35 u36 u37 u38 u39 u40 u41 u42 u43 u44 u45 u46 u47 u48 u49 u50 u51 u52 u53 u54 u55 u56 u57 u58 u59 u60 u61 u62 u63 u64 u65 u66 u67 u68 u69 u70 u71 u72 u73 u74 u75 u76 u77 u78 u79 u80 u81 u82 u83 u84 u85 u86 u87 u88 u89 u90 u91 u92 u93 u94 u95 u96 u97 u98 u99 u100 u101 u102 u103 u104 u105 u106 u107 u108 u109 u110 u111 u112 u113 u114 u115 u116 u117 u118 u119 u120 u121 u122 u123 u124 u125 u126 u127 u128 u129 u130 u131 u132 u133 u134 u135 u136 u137 u138 u139 u140 u141 u142 u143 u144 u145 u146 u147 u148 u149 u150 u151 u152 u153 u154 u155 u156 u157 u158 u159 u160 u161 u162 u163 u164 u165 u166 u167 u168 u169 u170 u171 u172 u173 u174 u175 u176 u177 u178 u179 u180 u181 u182 u183 u184 u185 u186 u187 u188 u189 u190 u191 u192 u193 u194 u195 u196 u197 u198 u199 u200 u201 u202 u203 u204 u205 u206 u207 u208 u209 u210 u211 u212 u213 u214 u215 u216 u217 u218 u219 u220 u221 u222 u223 u224 u225 u226 u227 hk => hQ tb w4 u2 u3 u5 u9 u10 u11 u12 u13 u14 u15 u16 u17 u18 u19 u20 u21 u22 u23 u24 u25 u26 u27 u28 u29 u30 u31 u32 u33 u34 u35 u36 u37 u38 u39 u40 u41 u42 u43 u44 u45 u46 u47 u48 u49 u50 u51 u52 u53 u54 u55 u56 u57 u58 u59 u60 u61 u62 u63 u64 u65 u66 u67 u68 u69 u70 u71 u72 u73 u74 u75 u76 u77 u78 u79 u80 u81 u82 u83 u84 u85 u86 u87 u88 u89 u90 u91 u92 u93 u94 u95 u96 u97 u98 u99 u100 u101 u102 u103 u104 u105 u106 u107 u108 u109 u110 u111 u112 u113 u114 u115 u116 u117 u118 u119 u120 u121 u122 u123 u124 u125 u126 u127 u128 u129 u130 u131 u132 u133 u134 u135 u136 u137 u138 u139 u140 u141 u142 u143 u144 u145 u146 u147 u148 u149 u150 u151 u152 u153 u154 u155 u156 u157 u158 u159 u160 u161 u162 u163 u164 u165 u166 u167 u168 u169 u170 u171 u172 u173 u174 u175 u176 u177 u178 u179 u180 u181 u182 u183 u184 u185 u186 u187 u188 u189 u190 u191 u192 u193 u194 u195 u196 u197 u198 u199 u200 u201 u202 u203 u204 u205 u206 u207 u208 u209 u210 u211 u212 u213 u214 u215 u216 u217 u218 u219 u220 u221 u222 u223 u224 u225 u226 u227 hk) u2 u3 u5 u8 u9 u10 u11 u12 u13 u14 u15 u16 u17 u18 u19 u20 u21 u22 u23 u24 u25 u26 u27 u28 u29 u30 u31 u32 u33 u34 u35 u36 u37 u38 u39 u40 u41 u42 u43 u44 u45 u46 u47 u48 u49 u50 u51 u52 u53 u54 u55 u56 u57 u58 u59 u60 u61 u62 u63 u64 u65 u66 u67 u68 u69 u70 u71 u72 u73 u74 u75 u76 u77 u78 u79 u80 u81 u82 u83 u84 u85 u86 u87 u88 u89 u90 u91 u92 u93 u94 u95 u96 u97 u98 u99 u100 u101 u102 u103 u104 u105 u106 u107 u108 u109 u110 u111 u112 u113 u114 u115 u116 u117 u118 u119 u120 u121 u122 u123 u124 u125 u126 u127 u128 u129 u130 u131 u132 u133 u134 u135 u136 u137 u138 u139 u140 u141 u142 u143 u144 u145 u146 u147 u148 u149 u150 u151 u152 u153 u154 u155 u156 u157 u158 u159 u160 u161 u162 u163 u164 u165 u166 u167 u168 u169 u170 u171 u172 u173 u174 u175 u176 u177 u178 u179 u180 u181 u182 u183 u184 u185 u186 u187 u188 u189 u190 u191 u192 u193 u194 u195 u196 u197 u198 u199 u200 u201 u202 u203 u204 u205 u206 u207 u208 u209 u210 u211 u212 u213 u214 u215 u216 u217 u218 u219 u220 u221 u222 u223 u224 u225 u226 u227)

set_option maxRecDepth 1000000 in
set_option maxHeartbeats 16000000 in
theorem y_round {W0 w : World} {R M rb : Nat} {sv : Value} {all : List UInt8} {st : St} {prev : Int} {Q : Exit → Act → World → Prop} (h : Rf w R M sv all st) (hR : Blk w rb (ycells 0 ⟨#[]⟩ 0 0 false)) (fb : Fb [R] W0.heap.size W0 w) (rn : W0.heap.size ≤ rb) (lR : R < W0.heap.size) (lM : M < W0.heap.size)
    (hQ : ∀ a w, YOut W0 R M sv all rb prev st a w → Q .ret a w) (hC : ∀ a w st', YAgain W0 R M sv all rb prev st' a w → st'.rest.length < st.rest.length → scanL prev st' = scanL prev st → Q (.exit 1) a w) (u2 u3 u5 u6 u7 u8 u9 u10 u11 u12 u13 u14 u15 u16 u17 u18 u19 u20 u21 u22 u23 u24 u25 u26 u27 u28 u29 u30 u31 u32 u33 u34 u35 u36 u37 u38 u39 u40 u41 u42 u43 u44 u45 u46 u47 u48 u49 u50 u51 u52 u53 u54 u55 u56 u57 u58 u59 u60 u61 u62 u63 u64 u65 u66 u67 u68 u69 u70 u71 u72 u73 u74 u75 u76 u77 u78 u79 u80 u81 u82 u83 u84 u85 u86 u87 u88 u89 u90 u91 u92 u93 u94 u95 u96 u97 u98 u99 u100 u101 u102 u103 u104 u105 u106 u107 u108 u109 u110 u111 u112 u113 u114 u115 u116 u117 u118 u119 u120 u121 u122 u123 u124 u125 u126 u127 u128 u129 u130 u131 u132 u133 u134 u135 u136 u137 u138 u139 u140 u141 u142 u143 u144 u145 u146 u147 u148 u149 u150 u151 u152 u153 u154 u155 u156 u157 u158 u159 u160 u161 u162 u163 u164 u165 u166 u167 u168 u169 u170 u171 u172 u173 u174 u175 u176 u177 u178 u179 u180 u181 u182 u183 u184 u185 u186 u187 u188 u189 u190 u191 u192 u193 u194 u195 u196 u197 u198 u199 u200 u201 u202 u203 u204 u205 u206 u207 u208 u209 u210 u211 u212 u213 u214 u215 u216 u217 u218 u219 u220 u221 u222 u223 u224 u225 u226 u227 : Value) : Code.wp Tryz.prog yBody Q ⟨(Value.pointer (some ⟨R, 0, none⟩) :: Value.int .i64 prev :: u2 :: u3 :: Value.pointer (some ⟨rb, 0, none⟩) :: u5 :: u6 :: u7 :: u8 :: u9 :: u10 :: u11 :: u12 :: u13 :: u14 :: u15 :: u16 :: u17 :: u18 :: u19 :: u20 :: u21 :: u22 :: u23 :: u24 :: u25 :: u26 :: u27 :: u28 :: u29 :: u30 :: u31 :: u32 :: u33 :: u34 :: u35 :: u36 :: u37 :: u38 :: u39 :: u40 :: u41 :: u42 :: u43 :: u44 :: u45 :: u46 :: u47 :: u48 :: u49 :: u50 :: u51 :: u52 :: u53 :: u54 :: u55 :: u56 :: u57 :: u58 :: u59 :: u60 :: u61 :: u62 :: u63 :: u64 :: u65 :: u66 :: u67 :: u68 :: u69 :: u70 :: u71 :: u72 :: u73 :: u74 :: u75 :: u76 :: u77 :: u78 :: u79 :: u80 :: u81 :: u82 :: u83 :: u84 :: u85 :: u86 :: u87 :: u88 :: u89 :: u90 :: u91 :: u92 :: u93 :: u94 :: u95 :: u96 :: u97 :: u98 :: u99 :: u100 :: u101 :: u102 :: u103 :: u104 :: u105 :: u106 :: u107 :: u108 :: u109 :: u110 :: u111 :: u112 :: u113 :: u114 :: u115 :: u116 :: u117 :: u118 :: u119 :: u120 :: u121 :: u122 :: u123 :: u124 :: u125 :: u126 :: u127 :: u128 :: u129 :: u130 :: u131 :: u132 :: u133 :: u134 :: u135 :: u136 :: u137 :: u138 :: u139 :: u140 :: u141 :: u142 :: u143 :: u144 :: u145 :: u146 :: u147 :: u148 :: u149 :: u150 :: u151 :: u152 :: u153 :: u154 :: u155 :: u156 :: u157 :: u158 :: u159 :: u160 :: u161 :: u162 :: u163 :: u164 :: u165 :: u166 :: u167 :: u168 :: u169 :: u170 :: u171 :: u172 :: u173 :: u174 :: u175 :: u176 :: u177 :: u178 :: u179 :: u180 :: u181 :: u182 :: u183 :: u184 :: u185 :: u186 :: u187 :: u188 :: u189 :: u190 :: u191 :: u192 :: u193 :: u194 :: u195 :: u196 :: u197 :: u198 :: u199 :: u200 :: u201 :: u202 :: u203 :: u204 :: u205 :: u206 :: u207 :: u208 :: u209 :: u210 :: u211 :: u212 :: u213 :: u214 :: u215 :: u216 :: u217 :: u218 :: u219 :: u220 :: u221 :: u222 :: u223 :: u224 :: u225 :: u226 :: u227 :: []).toArray, []⟩ w := by
  refine y_pre h hR fb rn lR lM (fun tb w' u2 u3 u5 u9 u10 u11 u12 u13 u14 u15 u16 u17 u18 u19 u20 u21 u22 u23 u24 u25 u26 u27 u28 u29 u30 u31 u32 u33 u34 u35 u36 u37 u38 u39 u40 u41 u42 u43 u44 u45 u46 u47 u48 u49 u50 u51 u52 u53 u54 u55 u56 u57 u58 u59 u60 u61 u62 u63 u64 u65 u66 u67 u68 u69 u70 u71 u72 u73 u74 u75 u76 u77 u78 u79 u80 u81 u82 u83 u84 u85 u86 u87 u88 u89 u90 u91 u92 u93 u94 u95 u96 u97 u98 u99 u100 u101 u102 u103 u104 u105 u106 u107 u108 u109 u110 u111 u112 u113 u114 u115 u116 u117 u118 u119 u120 u121 u122 u123 u124 u125 u126 u127 u128 u129 u130 u131 u132 u133 u134 u135 u136 u137 u138 u139 u140 u141 u142 u143 u144 u145 u146 u147 u148 u149 u150 u151 u152 u153 u154 u155 u156 u157 u158 u159 u160 u161 u162 u163 u164 u165 u166 u167 u168 u169 u170 u171 u172 u173 u174 u175 u176 u177 u178 u179 u180 u181 u182 u183 u184 u185 u186 u187 u188 u189 u190 u191 u192 u193 u194 u195 u196 u197 u198 u199 u200 u201 u202 u203 u204 u205 u206 u207 u208 u209 u210 u211 u212 u213 u214 u215 u216 u217 u218 u219 u220 u221 u222 u223 u224 u225 u226 u227 hk => ?_) u2 u3 u5 u6 u7 u8 u9 u10 u11 u12 u13 u14 u15 u16 u17 u18 u19 u20 u21 u22 u23 u24 u25 u26 u27 u28 u29 u30 u31 u32 u33 u34 u35 u36 u37 u38 u39 u40 u41 u42 u43 u44 u45 u46 u47 u48 u49 u50 u51 u52 u53 u54 u55 u56 u57 u58 u59 u60 u61 u62 u63 u64 u65 u66 u67 u68 u69 u70 u71 u72 u73 u74 u75 u76 u77 u78 u79 u80 u81 u82 u83 u84 u85 u86 u87 u88 u89 u90 u91 u92 u93 u94 u95 u96 u97 u98 u99 u100 u101 u102 u103 u104 u105 u106 u107 u108 u109 u110 u111 u112 u113 u114 u115 u116 u117 u118 u119 u120 u121 u122 u123 u124 u125 u126 u127 u128 u129 u130 u131 u132 u133 u134 u135 u136 u137 u138 u139 u140 u141 u142 u143 u144 u145 u146 u147 u148 u149 u150 u151 u152 u153 u154 u155 u156 u157 u158 u159 u160 u161 u162 u163 u164 u165 u166 u167 u168 u169 u170 u171 u172 u173 u174 u175 u176 u177 u178 u179 u180 u181 u182 u183 u184 u185 u186 u187 u188 u189 u190 u191 u192 u193 u194 u195 u196 u197 u198 u199 u200 u201 u202 u203 u204 u205 u206 u207 u208 u209 u210 u211 u212 u213 u214 u215 u216 u217 u218 u219 u220 u221 u222 u223 u224 u225 u226 u227
  by_cases hc : (lead st).1 = 45 ∧ hd (lead st).2.2.rest = 45
  · have hx : (hd (lead st).2.2.rest == 45) = true := by rw [beq_iff_eq]; exact hc.2
    rw [hc.1]
    refine yc_com hk hx (fun hno a w r => hQ a w (YRet.out r (by rw [scanL_bad hc hno]; rfl) (fun e => by cases e))) (fun hyes a w g => ?_) u2 u3 u5 u9 u10 u11 u12 u13 u14 u15 u16 u17 u18 u19 u20 u21 u22 u23 u24 u25 u26 u27 u28 u29 u30 u31 u32 u33 u34 u35 u36 u37 u38 u39 u40 u41 u42 u43 u44 u45 u46 u47 u48 u49 u50 u51 u52 u53 u54 u55 u56 u57 u58 u59 u60 u61 u62 u63 u64 u65 u66 u67 u68 u69 u70 u71 u72 u73 u74 u75 u76 u77 u78 u79 u80 u81 u82 u83 u84 u85 u86 u87 u88 u89 u90 u91 u92 u93 u94 u95 u96 u97 u98 u99 u100 u101 u102 u103 u104 u105 u106 u107 u108 u109 u110 u111 u112 u113 u114 u115 u116 u117 u118 u119 u120 u121 u122 u123 u124 u125 u126 u127 u128 u129 u130 u131 u132 u133 u134 u135 u136 u137 u138 u139 u140 u141 u142 u143 u144 u145 u146 u147 u148 u149 u150 u151 u152 u153 u154 u155 u156 u157 u158 u159 u160 u161 u162 u163 u164 u165 u166 u167 u168 u169 u170 u171 u172 u173 u174 u175 u176 u177 u178 u179 u180 u181 u182 u183 u184 u185 u186 u187 u188 u189 u190 u191 u192 u193 u194 u195 u196 u197 u198 u199 u200 u201 u202 u203 u204 u205 u206 u207 u208 u209 u210 u211 u212 u213 u214 u215 u216 u217 u218 u219 u220 u221 u222 u223 u224 u225 u226 u227
    refine hC a w _ g ?_ (scanL_again hc hyes).symm
    have l1 := (lead_rest st).2.1 (by rw [hc.1]; decide)
    have l2 := comment_rest (lead st).2.2.nextC (lead st).2.2.nextS
    have l4 := rest_next_le (lead st).2.2
    omega
  · exact y_tok hk hc (fun a w r => hQ a w (YRet.out r (by rw [scanL_tok hc]; rfl) (fun _ => scanL_tok hc))) u2 u3 u5 u9 u10 u11 u12 u13 u14 u15 u16 u17 u18 u19 u20 u21 u22 u23 u24 u25 u26 u27 u28 u29 u30 u31 u32 u33 u34 u35 u36 u37 u38 u39 u40 u41 u42 u43 u44 u45 u46 u47 u48 u49 u50 u51 u52 u53 u54 u55 u56 u57 u58 u59 u60 u61 u62 u63 u64 u65 u66 u67 u68 u69 u70 u71 u72 u73 u74 u75 u76 u77 u78 u79 u80 u81 u82 u83 u84 u85 u86 u87 u88 u89 u90 u91 u92 u93 u94 u95 u96 u97 u98 u99 u100 u101 u102 u103 u104 u105 u106 u107 u108 u109 u110 u111 u112 u113 u114 u115 u116 u117 u118 u119 u120 u121 u122 u123 u124 u125 u126 u127 u128 u129 u130 u131 u132 u133 u134 u135 u136 u137 u138 u139 u140 u141 u142 u143 u144 u145 u146 u147 u148 u149 u150 u151 u152 u153 u154 u155 u156 u157 u158 u159 u160 u161 u162 u163 u164 u165 u166 u167 u168 u169 u170 u171 u172 u173 u174 u175 u176 u177 u178 u179 u180 u181 u182 u183 u184 u185 u186 u187 u188 u189 u190 u191 u192 u193 u194 u195 u196 u197 u198 u199 u200 u201 u202 u203 u204 u205 u206 u207 u208 u209 u210 u211 u212 u213 u214 u215 u216 u217 u218 u219 u220 u221 u222 u223 u224 u225 u226 u227

def AllY : Nat → (List Value → Prop) → Prop
  | 0, P => P []
  | n + 1, P => ∀ x, AllY n (fun t => P (x :: t))
theorem allY_tail : ∀ (n : Nat) (P : List Value → Prop), AllY n P → ∀ tl, tl.length = n → P tl
  | 0, P, h, tl, hl => by
    rw [List.length_eq_zero_iff] at hl
    rw [hl]; exact h
  | n + 1, P, h, tl, hl => by
    cases tl with
    | nil => simp at hl
    | cons x t => exact allY_tail n (fun t => P (x :: t)) (h x) t (by simpa using hl)
set_option maxRecDepth 100000 in
set_option maxHeartbeats 4000000 in
theorem tailY {P : List Value → Prop} (h : ∀ (v0 v1 v2 v3 v4 v5 v6 v7 v8 v9 v10 v11 v12 v13 v14 v15 v16 v17 v18 v19 v20 v21 v22 v23 v24 v25 v26 v27 v28 v29 v30 v31 v32 v33 v34 v35 v36 v37 v38 v39 v40 v41 v42 v43 v44 v45 v46 v47 v48 v49 v50 v51 v52 v53 v54 v55 v56 v57 v58 v59 v60 v61 v62 v63 v64 v65 v66 v67 v68 v69 v70 v71 v72 v73 v74 v75 v76 v77 v78 v79 v80 v81 v82 v83 v84 v85 v86 v87 v88 v89 v90 v91 v92 v93 v94 v95 v96 v97 v98 v99 v100 v101 v102 v103 v104 v105 v106 v107 v108 v109 v110 v111 v112 v113 v114 v115 v116 v117 v118 v119 v120 v121 v122 v123 v124 v125 v126 v127 v128 v129 v130 v131 v132 v133 v134 v135 v136 v137 v138 v139 v140 v141 v142 v143 v144 v145 v146 v147 v148 v149 v150 v151 v152 v153 v154 v155 v156 v157 v158 v159 v160 v161 v162 v163 v164 v165 v166 v167 v168 v169 v170 v171 v172 v173 v174 v175 v176 v177 v178 v179 v180 v181 v182 v183 v184 v185 v186 v187 v188 v189 v190 v191 v192 v193 v194 v195 v196 v197 v198 v199 v200 v201 v202 v203 v204 v205 v206 v207 v208 v209 v210 v211 v212 v213 v214 v215 v216 v217 v218 v219 v220 v221 v222 : Value), P (v0 :: v1 :: v2 :: v3 :: v4 :: v5 :: v6 :: v7 :: v8 :: v9 :: v10 :: v11 :: v12 :: v13 :: v14 :: v15 :: v16 :: v17 :: v18 :: v19 :: v20 :: v21 :: v22 :: v23 :: v24 :: v25 :: v26 :: v27 :: v28 :: v29 :: v30 :: v31 :: v32 :: v33 :: v34 :: v35 :: v36 :: v37 :: v38 :: v39 :: v40 :: v41 :: v42 :: v43 :: v44 :: v45 :: v46 :: v47 :: v48 :: v49 :: v50 :: v51 :: v52 :: v53 :: v54 :: v55 :: v56 :: v57 :: v58 :: v59 :: v60 :: v61 :: v62 :: v63 :: v64 :: v65 :: v66 :: v67 :: v68 :: v69 :: v70 :: v71 :: v72 :: v73 :: v74 :: v75 :: v76 :: v77 :: v78 :: v79 :: v80 :: v81 :: v82 :: v83 :: v84 :: v85 :: v86 :: v87 :: v88 :: v89 :: v90 :: v91 :: v92 :: v93 :: v94 :: v95 :: v96 :: v97 :: v98 :: v99 :: v100 :: v101 :: v102 :: v103 :: v104 :: v105 :: v106 :: v107 :: v108 :: v109 :: v110 :: v111 :: v112 :: v113 :: v114 :: v115 :: v116 :: v117 :: v118 :: v119 :: v120 :: v121 :: v122 :: v123 :: v124 :: v125 :: v126 :: v127 :: v128 :: v129 :: v130 :: v131 :: v132 :: v133 :: v134 :: v135 :: v136 :: v137 :: v138 :: v139 :: v140 :: v141 :: v142 :: v143 :: v144 :: v145 :: v146 :: v147 :: v148 :: v149 :: v150 :: v151 :: v152 :: v153 :: v154 :: v155 :: v156 :: v157 :: v158 :: v159 :: v160 :: v161 :: v162 :: v163 :: v164 :: v165 :: v166 :: v167 :: v168 :: v169 :: v170 :: v171 :: v172 :: v173 :: v174 :: v175 :: v176 :: v177 :: v178 :: v179 :: v180 :: v181 :: v182 :: v183 :: v184 :: v185 :: v186 :: v187 :: v188 :: v189 :: v190 :: v191 :: v192 :: v193 :: v194 :: v195 :: v196 :: v197 :: v198 :: v199 :: v200 :: v201 :: v202 :: v203 :: v204 :: v205 :: v206 :: v207 :: v208 :: v209 :: v210 :: v211 :: v212 :: v213 :: v214 :: v215 :: v216 :: v217 :: v218 :: v219 :: v220 :: v221 :: v222 :: [])) (tl : List Value) (hl : tl.length = 223) : P tl := by
  refine allY_tail 223 P ?_ tl hl
  intro v0 v1 v2 v3 v4 v5 v6 v7 v8 v9 v10 v11 v12 v13 v14 v15 v16 v17 v18 v19 v20 v21 v22 v23 v24 v25 v26 v27 v28 v29 v30 v31 v32 v33 v34 v35 v36 v37 v38 v39 v40 v41 v42 v43 v44 v45 v46 v47 v48 v49 v50 v51 v52 v53 v54 v55 v56 v57 v58 v59 v60 v61 v62 v63 v64 v65 v66 v67 v68 v69 v70 v71 v72 v73 v74 v75 v76 v77 v78 v79 v80 v81 v82 v83 v84 v85 v86 v87 v88 v89 v90 v91 v92 v93 v94 v95 v96 v97 v98 v99 v100 v101 v102 v103 v104 v105 v106 v107 v108 v109 v110 v111 v112 v113 v114 v115 v116 v117 v118 v119 v120 v121 v122 v123 v124 v125 v126 v127 v128 v129 v130 v131 v132 v133 v134 v135 v136 v137 v138 v139 v140 v141 v142 v143 v144 v145 v146 v147 v148 v149 v150 v151 v152 v153 v154 v155 v156 v157 v158 v159 v160 v161 v162 v163 v164 v165 v166 v167 v168 v169 v170 v171 v172 v173 v174 v175 v176 v177 v178 v179 v180 v181 v182 v183 v184 v185 v186 v187 v188 v189 v190 v191 v192 v193 v194 v195 v196 v197 v198 v199 v200 v201 v202 v203 v204 v205 v206 v207 v208 v209 v210 v211 v212 v213 v214 v215 v216 v217 v218 v219 v220 v221 v222
  exact h v0 v1 v2 v3 v4 v5 v6 v7 v8 v9 v10 v11 v12 v13 v14 v15 v16 v17 v18 v19 v20 v21 v22 v23 v24 v25 v26 v27 v28 v29 v30 v31 v32 v33 v34 v35 v36 v37 v38 v39 v40 v41 v42 v43 v44 v45 v46 v47 v48 v49 v50 v51 v52 v53 v54 v55 v56 v57 v58 v59 v60 v61 v62 v63 v64 v65 v66 v67 v68 v69 v70 v71 v72 v73 v74 v75 v76 v77 v78 v79 v80 v81 v82 v83 v84 v85 v86 v87 v88 v89 v90 v91 v92 v93 v94 v95 v96 v97 v98 v99 v100 v101 v102 v103 v104 v105 v106 v107 v108 v109 v110 v111 v112 v113 v114 v115 v116 v117 v118 v119 v120 v121 v122 v123 v124 v125 v126 v127 v128 v129 v130 v131 v132 v133 v134 v135 v136 v137 v138 v139 v140 v141 v142 v143 v144 v145 v146 v147 v148 v149 v150 v151 v152 v153 v154 v155 v156 v157 v158 v159 v160 v161 v162 v163 v164 v165 v166 v167 v168 v169 v170 v171 v172 v173 v174 v175 v176 v177 v178 v179 v180 v181 v182 v183 v184 v185 v186 v187 v188 v189 v190 v191 v192 v193 v194 v195 v196 v197 v198 v199 v200 v201 v202 v203 v204 v205 v206 v207 v208 v209 v210 v211 v212 v213 v214 v215 v216 v217 v218 v219 v220 v221 v222

/-- What the reference's scan answers: what Scan would. -/
def YScan (w : World) (R M : Nat) (sv : Value) (all : List UInt8) (prev : Int) (st : St) (e : Ending) (w' : World) : Prop :=
  ∃ (typ : Int) (str : ByteArray) (line col : Int) (pn : Bool), e = .returned (.tuple #[.agg (ycells typ str line col pn).toArray, .bool (scanL prev st).ok]) ∧ Fr [R] w w' ∧
    ((scanL prev st).ok = true → typ = (scanL prev st).typ ∧ str = ⟨(scanL prev st).str.toArray⟩ ∧ line = (scanL prev st).line ∧ col = (scanL prev st).col ∧ pn = (scanL prev st).pnl ∧ Rf w' R M sv all (scanL prev st).st)
set_option maxRecDepth 1000000 in
set_option maxHeartbeats 16000000 in
theorem yscan_any (w : World) (R M : Nat) (sv : Value) (all : List UInt8) (prev : Int) (st : St) (h : Rf w R M sv all st) :
    Calls Tryz.prog 7 #[.pointer (some ⟨R, 0, none⟩), .int .i64 prev] w (YScan w R M sv all prev st) := by
  have H := Lib.hid h
  clear h
  go_enter Tryz.func7, Tryz.ntmps7
  go_wp2
  have h := H.out
  have fa : Fr [] w (w.alloc (.cells #[.int .i64 0, .string ⟨#[]⟩, .int .i64 0, .int .i64 0, .bool false] 43)) := (Fr.refl _ w).alloc _
  have hb : Blk (w.alloc (.cells #[.int .i64 0, .string ⟨#[]⟩, .int .i64 0, .int .i64 0, .bool false] 43)) w.heap.size (ycells 0 ⟨#[]⟩ 0 0 false) := Blk.new w _ _
  have hf : Fb [R] w.heap.size w (w.alloc (.cells #[.int .i64 0, .string ⟨#[]⟩, .int .i64 0, .int .i64 0, .bool false] 43)) := (fa.mono (by simp)).fb (Nat.le_refl _)
  refine wp_loop_ghost (fun n a w2 => ∃ st', YAgain w R M sv all w.heap.size prev st' a w2 ∧ st'.rest.length < n ∧ scanL prev st' = scanL prev st) (st.rest.length + 1) ⟨st, ⟨_, _, _, rfl, rfl, h.fr fa (by simp) (by simp), hb, hf⟩, Nat.lt_succ_self _, rfl⟩ ?_
  rintro n a w2 ⟨st', ⟨u2, u3, tl, rfl, htl, g1, g2, g3⟩, g4, g5⟩
  refine wp_block ?_
  refine tailY (P := fun tl => Code.wp Tryz.prog yBody _ ⟨(Value.pointer (some ⟨R, 0, none⟩) :: .int .i64 prev :: u2 :: u3 :: Value.pointer (some ⟨w.heap.size, 0, none⟩) :: tl).toArray, []⟩ w2) ?_ tl htl
  intro u5 u6 u7 u8 u9 u10 u11 u12 u13 u14 u15 u16 u17 u18 u19 u20 u21 u22 u23 u24 u25 u26 u27 u28 u29 u30 u31 u32 u33 u34 u35 u36 u37 u38 u39 u40 u41 u42 u43 u44 u45 u46 u47 u48 u49 u50 u51 u52 u53 u54 u55 u56 u57 u58 u59 u60 u61 u62 u63 u64 u65 u66 u67 u68 u69 u70 u71 u72 u73 u74 u75 u76 u77 u78 u79 u80 u81 u82 u83 u84 u85 u86 u87 u88 u89 u90 u91 u92 u93 u94 u95 u96 u97 u98 u99 u100 u101 u102 u103 u104 u105 u106 u107 u108 u109 u110 u111 u112 u113 u114 u115 u116 u117 u118 u119 u120 u121 u122 u123 u124 u125 u126 u127 u128 u129 u130 u131 u132 u133 u134 u135 u136 u137 u138 u139 u140 u141 u142 u143 u144 u145 u146 u147 u148 u149 u150 u151 u152 u153 u154 u155 u156 u157 u158 u159 u160 u161 u162 u163 u164 u165 u166 u167 u168 u169 u170 u171 u172 u173 u174 u175 u176 u177 u178 u179 u180 u181 u182 u183 u184 u185 u186 u187 u188 u189 u190 u191 u192 u193 u194 u195 u196 u197 u198 u199 u200 u201 u202 u203 u204 u205 u206 u207 u208 u209 u210 u211 u212 u213 u214 u215 u216 u217 u218 u219 u220 u221 u222 u223 u224 u225 u226 u227
  refine y_round g1 g2 g3 (Nat.le_refl _) h.lt.1 h.lt.2 (fun a3 w3 o => ?_) (fun a3 w3 st3 o o1 o2 => ?_) u2 u3 u5 u6 u7 u8 u9 u10 u11 u12 u13 u14 u15 u16 u17 u18 u19 u20 u21 u22 u23 u24 u25 u26 u27 u28 u29 u30 u31 u32 u33 u34 u35 u36 u37 u38 u39 u40 u41 u42 u43 u44 u45 u46 u47 u48 u49 u50 u51 u52 u53 u54 u55 u56 u57 u58 u59 u60 u61 u62 u63 u64 u65 u66 u67 u68 u69 u70 u71 u72 u73 u74 u75 u76 u77 u78 u79 u80 u81 u82 u83 u84 u85 u86 u87 u88 u89 u90 u91 u92 u93 u94 u95 u96 u97 u98 u99 u100 u101 u102 u103 u104 u105 u106 u107 u108 u109 u110 u111 u112 u113 u114 u115 u116 u117 u118 u119 u120 u121 u122 u123 u124 u125 u126 u127 u128 u129 u130 u131 u132 u133 u134 u135 u136 u137 u138 u139 u140 u141 u142 u143 u144 u145 u146 u147 u148 u149 u150 u151 u152 u153 u154 u155 u156 u157 u158 u159 u160 u161 u162 u163 u164 u165 u166 u167 u168 u169 u170 u171 u172 u173 u174 u175 u176 u177 u178 u179 u180 u181 u182 u183 u184 u185 u186 u187 u188 u189 u190 u191 u192 u193 u194 u195 u196 u197 u198 u199 u200 u201 u202 u203 u204 u205 u206 u207 u208 u209 u210 u211 u212 u213 u214 u215 u216 u217 u218 u219 u220 u221 u222 u223 u224 u225 u226 u227
  · obtain ⟨v1, v2, v3, tl3, typ, str, line, col, pn, rfl, q1, q2, q3⟩ := o
    rw [g5] at q3 ⊢
    refine bodyPost_ret (v := .tuple #[.agg (ycells typ str line col pn).toArray, .bool (scanL prev st).ok]) ?_ rfl ⟨typ, str, line, col, pn, rfl, q2.fr, q3⟩
    rw [results_cell_tmp rfl]
    unfold ycells at q1 ⊢
    have c0 := q1.cell 0 _ rfl
    have c1 := q1.cell 1 _ rfl
    have c2 := q1.cell 2 _ rfl
    have c3 := q1.cell 3 _ rfl
    have c4 := q1.cell 4 _ rfl
    go_simp
  · exact ⟨st'.rest.length, g4, st3, o, o1, o2.trans g5⟩
end Go.Proofs.YtgiklkapedlckaaGreatDoor

namespace Go.Proofs.YtgiklkapedlckaaGreatDoor
open Go.RowKit

theorem HasTok.fr {w w' : World} (h : HasTok w) (f : Fr [] w w') : HasTok w' := h.of_block (f.block _ h.1 (by simp)) f.size
theorem HasTok.fr2 {w w' : World} {own : List Nat} (h : HasTok w) (f : Fr own w w') (ho : 0 ∉ own) : HasTok w' := h.of_block (f.block _ h.1 ho) f.size
theorem ErrIs.yes {er : Value} (h : ErrIs true er) : er = .nilIface := by
  rcases h with ⟨-, h⟩ | ⟨h, -⟩
  · exact h
  · cases h
theorem ErrIs.no {er : Value} (h : ErrIs false er) : ∃ k : Nat, er = .iface 46 (.pointer (some ⟨k, 0, none⟩)) := by
  rcases h with ⟨h, -⟩ | ⟨-, h⟩
  · cases h
  · exact h
/-- A scan that finds a token takes a byte. -/
theorem scan_less {p : Int} {st : St} (hok : (scanL p st).ok = true) (ht : (scanL p st).typ ≠ -1) : (scanL p st).st.rest.length < st.rest.length := by
  obtain ⟨s, h1, h2, h3, h4, h5, h6⟩ := scan_at p st
  have e1 : s.nextC ≠ -1 := fun e => ht ((h6 hok).1.1 e)
  have e2 : s.rest ≠ [] := fun e => e1 (St.nextC_eof e)
  have e3 := (St.nextS_len e2).1
  have e4 := reach_len h4
  have e5 := reach_len h1
  omega
/-- The argument's slice, its block. -/
theorem Sm.of_sl {w : World} {a : Addr} {v : Value} {l : List UInt8} (h : Sl w v l) (he : HasEof w a) : ∃ M, Sm w M v l := by
  obtain ⟨a0, c0, h1, h2, h3, h4⟩ := h
  by_cases hp : 0 < l.length
  · obtain ⟨ad, h5, h6, h7⟩ := h4 hp
    exact ⟨ad.block, h6, a0, c0, h1, h2, fun _ => ⟨ad, h5, rfl, h7⟩⟩
  · exact ⟨1, he.2, a0, c0, h1, h2, fun h => absurd h hp⟩
/-- A *parse.Error is one. -/
theorem is_err (u : Addr) (wx : World) : (Instr.typeAssert (.iface 46 (.pointer (some u))) 39 46 true).run Tryz.prog wx = .ok (.tuple #[.pointer (some u), .bool true]) wx := by kernel_rfl
def lexZ (pn : Bool) (p0 : Int) : List Value := [.pointer none, .slice none 0 0, .bool pn, .int .i64 0, .string ⟨#[]⟩, .string ⟨#[]⟩, .string ⟨#[]⟩, .int .i64 0, .int .i64 0, .int .i64 p0]
theorem Rf.start {w : World} {M : Nat} {v : Value} {all : List UInt8} (hm : Sm w M v all) (hal : all.length ≤ 1048576) (T : TypeId) :
    Rf (w.alloc (.cells #[v, .int .i64 0, .int .i64 1, .int .i64 0] T)) w.heap.size M v all ⟨all, 1, 0⟩ := by
  have f : Fr [] w (w.alloc (.cells #[v, .int .i64 0, .int .i64 1, .int .i64 0] T)) := (Fr.refl _ w).alloc _
  refine ⟨0, Blk.new w _ _, hm.of_block (f.block _ hm.1 (by simp)) f.size, Nat.zero_le _, by omega, rfl, ⟨?_, Int.le_refl 0, ?_⟩, fun e => by have := hm.1; omega⟩
  · show (-1 : Int) ≤ 1; omega
  · show (1 : Int) + 0 + (all.length : Nat) ≤ 2305843009213693951; omega
/-- Who lies where. -/
structure TopW (w0 : World) (L : Loc) (lx R M : Nat) : Prop where
  own : ∀ k ∈ L.own, w0.heap.size ≤ k
  lxn : w0.heap.size ≤ lx
  ax : lx ∉ L.all
  rn : w0.heap.size ≤ R
  ar : R ∉ L.all
  rl : R ≠ lx
  mn : M < w0.heap.size
section
variable {w0 w : World} {L : Loc} {lx R M : Nat}
theorem TopW.new (h : TopW w0 L lx R M) : ∀ j ∈ lx :: L.own, w0.heap.size ≤ j := fun j hj => by
  rcases List.mem_cons.1 hj with h7 | h7
  · rw [h7]; exact h.lxn
  · exact h.own _ h7
theorem TopW.tok (h : TopW w0 L lx R M) (ht : HasTok w0) : 0 ∉ lx :: L.own := fun hm => by
  have := h.new _ hm
  have := ht.1
  omega
theorem TopW.rx (h : TopW w0 L lx R M) : R ∉ lx :: L.own := fun hm => by
  rcases List.mem_cons.1 hm with h7 | h7
  · exact h.rl h7
  · exact h.ar (Loc.own_all _ h7)
theorem TopW.mx (h : TopW w0 L lx R M) : M ∉ lx :: L.own := fun hm => by
  have := h.new _ hm
  have := h.mn
  omega
theorem TopW.ml (h : TopW w0 L lx R M) : M ≠ lx := fun e => h.mx (by rw [e]; simp)
end
set_option maxRecDepth 100000 in
set_option maxHeartbeats 12800000 in
theorem top_long (w : World) (a : Option Addr) (n c : Nat) (hn : (1048576 : Int) < (n : Int)) :
    Calls Tryz.prog 3 #[.slice a n c] w fun e w' => e = .returned (.bool true) ∧ w = w' := by
  go_enter Tryz.func3, Tryz.ntmps3
  go_wp2
  go_ret
  exact ⟨rfl, rfl⟩
/-- One round's reference. -/
def TRound (w : World) (R M : Nat) (sv : Value) (all : List UInt8) (r : Res) (e : Ending) (w' : World) : Prop :=
  ∃ (typ : Int) (str : ByteArray) (line col : Int) (pn : Bool), e = .returned (.tuple #[.agg #[.int .i64 typ, .string str, .int .i64 line, .int .i64 col, .bool pn], .bool r.ok]) ∧ Fr [R] w w' ∧
    (r.ok = true → typ = r.typ ∧ str = ⟨r.str.toArray⟩ ∧ line = r.line ∧ col = r.col ∧ pn = r.pnl ∧ Rf w' R M sv all r.st)
set_option maxRecDepth 100000 in
set_option maxHeartbeats 12800000 in
theorem top_yes (w : World) (a : Addr) (v : Value) (l : List UInt8) (h : Sl w v l) (he : HasEof w a) (ht : HasTok w) (h1 : l.length ≤ 1048576) :
    Calls Tryz.prog 3 #[v] w fun e w' => e = .returned (.bool true) ∧ Fr [] w w' := by
  obtain ⟨M, hsm⟩ := Sm.of_sl h he
  obtain ⟨a0, c0, rfl, -⟩ := h
  have b1 : decide ((1048576 : Int) < (l.length : Int)) = false := by rw [decide_eq_false_iff_not]; omega
  have hli : (l.length : Int) ≤ 1048576 := by omega
  have HZ := Lib.hid (And.intro hsm (And.intro he (And.intro ht h1)))
  have HTA := Lib.hid is_err
  clear hsm he ht h1
  go_enter Tryz.func3, Tryz.ntmps3
  go_upto_region 4 with fail
  have f1 : Fr [] w (w.alloc (.cells #[.pointer none, .slice none 0 0, .bool false, .int .i64 0, .string ⟨#[]⟩, .string ⟨#[]⟩, .string ⟨#[]⟩, .int .i64 0, .int .i64 0, .int .i64 0] 31)) := (Fr.refl _ w).alloc _
  have q1 : Blk (w.alloc (.cells #[.pointer none, .slice none 0 0, .bool false, .int .i64 0, .string ⟨#[]⟩, .string ⟨#[]⟩, .string ⟨#[]⟩, .int .i64 0, .int .i64 0, .int .i64 0] 31)) w.heap.size (lexZ false 0) := Blk.new w _ _
  obtain ⟨lx, hlx⟩ : ∃ lx, lx = w.heap.size := ⟨_, rfl⟩
  have z1 : (w.alloc (.cells #[.pointer none, .slice none 0 0, .bool false, .int .i64 0, .string ⟨#[]⟩, .string ⟨#[]⟩, .string ⟨#[]⟩, .int .i64 0, .int .i64 0, .int .i64 0] 31)).heap.size = lx + 1 := by rw [hlx, size_alloc]
  rw [← hlx] at q1 ⊢
  have HX := Lib.hid (And.intro hlx z1)
  clear hlx z1
  generalize w.alloc (.cells #[.pointer none, .slice none 0 0, .bool false, .int .i64 0, .string ⟨#[]⟩, .string ⟨#[]⟩, .string ⟨#[]⟩, .int .i64 0, .int .i64 0, .int .i64 0] 31) = w1 at f1 q1 HX ⊢
  have H1 := Lib.hid (And.intro f1 q1)
  have HSM1 := Lib.hid (HZ.out.1.of_block (f1.block _ HZ.out.1.1 (by simp)) f1.size)
  have HE1 := Lib.hid (HZ.out.2.1.fr f1 (by simp))
  clear f1 q1
  go_wp2_with (go_at_call 5; refine (newReader _ M _ l HSM1.out (by have := HZ.out.2.2.2; omega)).mono ?_; rintro e w2 ⟨rfl, hU, hz2, fr2⟩; refine Hid.out ?_)
  refine Lib.hid ?_
  have HNS := Lib.hid (newScanner w2 _ a ⟨#[122]⟩ _ M hU (HE1.out.fr fr2 (by simp)) (by have := HE1.out.2; omega) (by have := HSM1.out.1; omega))
  have HU := Lib.hid (And.intro hz2 fr2)
  clear hU hz2 fr2
  go_wp2_with (go_at_call 4; refine (HNS.out).mono ?_; rintro e w3 hN; obtain ⟨L, hLU, hLM, hLa, hLs, hS, hR, hD, rfl, hSc, fr3⟩ := hN; refine Hid.out ?_)
  refine Lib.hid ?_
  have FR3 := Lib.hid ((H1.out.1.trans HU.out.2).trans fr3)
  have HSM3 := Lib.hid (HZ.out.1.of_block (FR3.out.block _ HZ.out.1.1 (by simp)) FR3.out.size)
  have HX3 := Lib.hid (fr3.blk (HU.out.2.blk H1.out.2 (by simp)) (by simp))
  have HL := Lib.hid (And.intro hLU (And.intro hLM (And.intro hLs (And.intro hS (And.intro hR (And.intro hD (And.intro hSc fr3.size)))))))
  clear hLU hLM hLa hLs hS hR hD hSc fr3
  go_upto_region 6 with fail
  have hrf := Rf.start HSM3.out HZ.out.2.2.2 37
  have f4 : Fr [] w3 (w3.alloc (.cells #[.slice a0 l.length c0, .int .i64 0, .int .i64 1, .int .i64 0] 37)) := (Fr.refl _ w3).alloc _
  obtain ⟨R, hR⟩ : ∃ R, R = w3.heap.size := ⟨_, rfl⟩
  rw [← hR] at hrf ⊢
  have HT := Lib.hid (show TopW w L lx R M ∧ L.src = ⟨#[122]⟩ from by
    obtain ⟨e1, e2, e3, e4, e5, e6, e7, e8⟩ := HL.out
    obtain ⟨x1, x2⟩ := HX.out
    have x3 := HU.out.1
    have x4 := HZ.out.1.1
    have x5 := HZ.out.2.1.2
    have x6 := FR3.out.size
    refine ⟨⟨Loc.own_new (by omega) (by omega) (by omega) (by omega), by omega, ?_, by omega, fun hm => by have := e7.lt _ hm; omega, by omega, x4⟩, e3⟩
    simp only [Loc.all, List.mem_cons, List.not_mem_nil, or_false, not_or]
    refine ⟨?_, ?_, ?_, ?_, ?_, ?_⟩ <;> omega)
  have HS4 := Lib.hid (And.intro (HL.out.2.2.2.2.2.2.1.fr f4) (And.intro hrf (And.intro (f4.blk HX3.out (by simp)) (FR3.out.trans f4))))
  clear hrf f4 hR HX3 HSM3 FR3 HL HU H1 HNS HSM1 HE1 HX
  generalize w3.alloc (.cells #[.slice a0 l.length c0, .int .i64 0, .int .i64 1, .int .i64 0] 37) = w4 at HS4 ⊢
  go_wp2
  go_loopg [6, 7] (l.length + 2) (fun g pv kv wr => ∃ (st : St) (k : Nat) (prev p0 : Int) (pn : Bool), l.length + 2 - k ≤ g ∧ pv = .int .i64 prev ∧ kv = .int .i64 k ∧ st.rest.length + k ≤ l.length ∧ Sc wr L st none ∧ Rf wr R M (.slice a0 l.length c0) l st ∧ Blk wr lx (lexZ pn p0) ∧ Fr [] w wr)
  case atStart => exact ⟨⟨l, 1, 0⟩, 0, 0, 0, false, by omega, rfl, rfl, Nat.le_refl _, HS4.out.1, HS4.out.2.1, HS4.out.2.2.1, HS4.out.2.2.2⟩
  case round =>
    clear HS4
    obtain ⟨st, k, prev, p0, pn, hg, rfl, rfl, hrl, hSc, hRf, hLx, hfr⟩ := hrel
    have hki : (k : Int) ≤ (l.length : Int) := by omega
    have dk : decide ((k : Int) ≤ (l.length : Int) + 1) = true := by rw [decide_eq_true_eq]; omega
    have x9 := hLx.cell 9 _ rfl
    have g9 := hLx.free 9
    have fS : Fr [lx] wr (wr.setCell ⟨lx, 9, none⟩ (.int .i64 prev)) := (Fr.refl _ wr).setCell (by simp) _
    have hX1 : Blk (wr.setCell ⟨lx, 9, none⟩ (.int .i64 prev)) lx (lexZ pn prev) := hLx.set 9 (.int .i64 prev)
    have hS1 : Sc (wr.setCell ⟨lx, 9, none⟩ (.int .i64 prev)) L st none := hSc.keep fS.size (fun k hk => fS.block k (hSc.lt k hk) (by simp only [List.mem_singleton]; exact fun e => HT.out.1.ax (by rw [← e]; exact hk)))
    have hR1 := hRf.fr fS (by simp only [List.mem_singleton]; exact HT.out.1.rl) (by simp only [List.mem_singleton]; exact HT.out.1.ml)
    have ht1 := (HZ.out.2.2.1.fr hfr).fr2 fS (by simp only [List.mem_singleton]; exact fun e => HT.out.1.tok HZ.out.2.2.1 (by rw [e]; simp))
    have hf1 : Fr [] w (wr.setCell ⟨lx, 9, none⟩ (.int .i64 prev)) := Fr.new hfr fS (fun j hj => by rw [List.mem_singleton.1 hj]; exact HT.out.1.lxn)
    have hsc := scan_any _ L st lx _ prev hS1 hX1 rfl HT.out.1.ax ht1 (HT.out.1.tok HZ.out.2.2.1) (by have := HZ.out.2.2.2; omega)
    have hys : ∀ w2 : World, Rf w2 R M (.slice a0 l.length c0) l st → Calls Tryz.prog 7 #[.pointer (some ⟨R, 0, none⟩), .int .i64 prev] w2 (TRound w2 R M (.slice a0 l.length c0) l (scanL prev st)) := fun w2 h2 => yscan_any w2 R M _ l prev st h2
    have hle := fun h0 h1 => scan_less (p := prev) (st := st) h0 h1
    obtain ⟨r, hr⟩ : ∃ r, r = scanL prev st := ⟨_, rfl⟩
    rw [← hr] at hsc hys hle
    have HSC := Lib.hid hsc
    have HYS := Lib.hid hys
    have HLE := Lib.hid hle
    have HG := Lib.hid (And.intro hg hrl)
    have HW := Lib.hid (And.intro hR1 hf1)
    clear hsc hys hle hr hg hrl hSc hRf hLx hfr fS hX1 hS1 hR1 ht1 hf1
    cases hok : r.ok
    · go_wp2_with (go_at_call 6; refine (HSC.out).mono ?_; rintro e w2 ⟨er, typ, nm, str, rfl, her, -, hS2, hB2, f2⟩; rw [hok] at her; obtain ⟨pp, rfl⟩ := her.no; unfold tkCells; refine Hid.out ?_)
      refine Lib.hid ?_
      have H2 := Lib.hid (show Sc w2 L r.st none ∧ Blk w2 lx (lexZ r.pnl prev) ∧ Rf w2 R M (.slice a0 l.length c0) l st ∧ Fr [] w w2 from
        ⟨hS2, hB2, HW.out.1.fr f2 HT.out.1.rx HT.out.1.mx, Fr.new HW.out.2 f2 HT.out.1.new⟩)
      clear her hS2 hB2 f2 x9 g9
      go_upto_region 12 with fail
      have fT : Fr [] w2 (w2.alloc (.cells #[.int .i64 typ, .string nm, .string str, .string L.src, .int .i64 r.line, .int .i64 r.col] 29)) := (Fr.refl _ w2).alloc _
      have hT : Blk (w2.alloc (.cells #[.int .i64 typ, .string nm, .string str, .string L.src, .int .i64 r.line, .int .i64 r.col] 29)) w2.heap.size [.int .i64 typ, .string nm, .string str, .string L.src, .int .i64 r.line, .int .i64 r.col] := Blk.new w2 _ _
      obtain ⟨tb, htb⟩ : ∃ tb, tb = w2.heap.size := ⟨_, rfl⟩
      rw [← htb] at hT ⊢
      have HTB := Lib.hid htb
      clear htb
      generalize w2.alloc (.cells #[.int .i64 typ, .string nm, .string str, .string L.src, .int .i64 r.line, .int .i64 r.col] 29) = w3 at fT hT ⊢
      have H3 := Lib.hid (And.intro fT hT)
      have HY := Lib.hid (HYS.out w3 (H2.out.2.2.1.fr fT (by simp) (by simp)))
      clear fT hT
      go_wp2_with (go_at_call 7; refine (HY.out).mono ?_; rintro e w4 ⟨ty, sr, li, co, pl, rfl, f4, -⟩; rw [hok]; refine Hid.out ?_)
      refine Lib.hid ?_
      have HF := Lib.hid (Fr.new (H2.out.2.2.2.trans H3.out.1) f4 (fun j hj => by rw [List.mem_singleton.1 hj]; exact HT.out.1.rn))
      have hta := HTA.out
      clear f4
      go_wp2
      go_ret
      exact ⟨rfl, HF.out.alloc _⟩
    · go_wp2_with (go_at_call 6; refine (HSC.out).mono ?_; rintro e w2 ⟨er, typ, nm, str, rfl, her, hk, hS2, hB2, f2⟩; rw [hok] at her; obtain rfl := her.yes; obtain ⟨rfl, rfl⟩ := hk hok; rw [HT.out.2]; unfold tkCells; refine Hid.out ?_)
      refine Lib.hid ?_
      have H2 := Lib.hid (show Sc w2 L r.st none ∧ Blk w2 lx (lexZ r.pnl prev) ∧ Rf w2 R M (.slice a0 l.length c0) l st ∧ Fr [] w w2 from
        ⟨hS2, hB2, HW.out.1.fr f2 HT.out.1.rx HT.out.1.mx, Fr.new HW.out.2 f2 HT.out.1.new⟩)
      clear her hk hS2 hB2 f2 x9 g9
      go_upto_region 12 with fail
      have fT : Fr [] w2 (w2.alloc (.cells #[.int .i64 r.typ, .string nm, .string ⟨r.str.toArray⟩, .string ⟨#[122]⟩, .int .i64 r.line, .int .i64 r.col] 29)) := (Fr.refl _ w2).alloc _
      have hT : Blk (w2.alloc (.cells #[.int .i64 r.typ, .string nm, .string ⟨r.str.toArray⟩, .string ⟨#[122]⟩, .int .i64 r.line, .int .i64 r.col] 29)) w2.heap.size [.int .i64 r.typ, .string nm, .string ⟨r.str.toArray⟩, .string ⟨#[122]⟩, .int .i64 r.line, .int .i64 r.col] := Blk.new w2 _ _
      obtain ⟨tb, htb⟩ : ∃ tb, tb = w2.heap.size := ⟨_, rfl⟩
      rw [← htb] at hT ⊢
      have HTB := Lib.hid htb
      clear htb
      generalize w2.alloc (.cells #[.int .i64 r.typ, .string nm, .string ⟨r.str.toArray⟩, .string ⟨#[122]⟩, .int .i64 r.line, .int .i64 r.col] 29) = w3 at fT hT ⊢
      have H3 := Lib.hid (And.intro fT hT)
      have HY := Lib.hid (HYS.out w3 (H2.out.2.2.1.fr fT (by simp) (by simp)))
      clear fT hT
      go_wp2_with (go_at_call 7; refine (HY.out).mono ?_; rintro e w4 ⟨ty, sr, li, co, pl, rfl, f4, h4⟩; obtain ⟨rfl, rfl, rfl, rfl, rfl, rf4⟩ := h4 hok; rw [hok]; refine Hid.out ?_)
      refine Lib.hid ?_
      have hLE : w3.heap.size ≤ w3.heap.size := Nat.le_refl _
      have H4 := Lib.hid (show Sc w4 L r.st none ∧ Blk w4 lx (lexZ r.pnl prev) ∧ Rf w4 R M (.slice a0 l.length c0) l r.st ∧ Fr [] w w4 from by
        obtain ⟨s1, s2, s3, s4⟩ := H2.out
        have s5 := s1.fr H3.out.1
        exact ⟨s5.keep f4.size (fun k hk => f4.block k (s5.lt k hk) (by simp only [List.mem_singleton]; exact fun e => HT.out.1.ar (by rw [← e]; exact hk))), f4.blk (H3.out.1.blk s2 (by simp)) (by simp only [List.mem_singleton]; exact HT.out.1.rl.symm), rf4, Fr.new (s4.trans H3.out.1) f4 (fun j hj => by rw [List.mem_singleton.1 hj]; exact HT.out.1.rn)⟩)
      have hT4 := f4.blk H3.out.2 (by simp only [List.mem_singleton]; have := H2.out.2.2.1.lt.1; have := HTB.out; omega)
      have HT4 := Lib.hid hT4
      clear hLE rf4 f4 h4 hT4
      go_upto_region 13 with fail
      have fY : Fr [] w4 (w4.alloc (.cells #[.int .i64 r.typ, .string ⟨r.str.toArray⟩, .int .i64 r.line, .int .i64 r.col, .bool r.pnl] 43)) := (Fr.refl _ w4).alloc _
      have hY : Blk (w4.alloc (.cells #[.int .i64 r.typ, .string ⟨r.str.toArray⟩, .int .i64 r.line, .int .i64 r.col, .bool r.pnl] 43)) w4.heap.size [.int .i64 r.typ, .string ⟨r.str.toArray⟩, .int .i64 r.line, .int .i64 r.col, .bool r.pnl] := Blk.new w4 _ _
      obtain ⟨wb, hwb⟩ : ∃ wb, wb = w4.heap.size := ⟨_, rfl⟩
      rw [← hwb] at hY ⊢
      clear hwb
      generalize w4.alloc (.cells #[.int .i64 r.typ, .string ⟨r.str.toArray⟩, .int .i64 r.line, .int .i64 r.col, .bool r.pnl] 43) = w5 at fY hY ⊢
      have hT5 := fY.blk HT4.out (by simp)
      have hX5 := fY.blk H4.out.2.1 (by simp)
      have H5 := Lib.hid (And.intro fY (And.intro hX5 (H4.out.2.2.1.fr fY (by simp) (by simp))))
      have t0 := hT5.cell 0 _ rfl
      have t2 := hT5.cell 2 _ rfl
      have t3 := hT5.cell 3 _ rfl
      have t4 := hT5.cell 4 _ rfl
      have t5 := hT5.cell 5 _ rfl
      have y0 := hY.cell 0 _ rfl
      have y1 := hY.cell 1 _ rfl
      have y2 := hY.cell 2 _ rfl
      have y3 := hY.cell 3 _ rfl
      have y4 := hY.cell 4 _ rfl
      have x2 := hX5.cell 2 _ rfl
      clear fY hY hT5 hX5
      by_cases hty : r.typ = -1
      · have e1 : (r.typ == -1) = true := by rw [beq_iff_eq]; exact hty
        clear hty
        go_wp2
        go_quiet (fail)
        go_wp2
        go_ret
        exact ⟨rfl, ((H4.out.2.2.2.trans H5.out.1).trans ((Fr.refl _ _).drewN nq))⟩
      · have e1 : (r.typ == -1) = false := by rw [beq_eq_false_iff_ne]; exact hty
        have HTY := Lib.hid hty
        clear hty
        go_wp2
        go_quiet (fail)
        go_wp2
        go_roundg (l.length + 2 - (k + 1))
        case measure => have := HG.out.1; have := HG.out.2; omega
        case rel =>
          have m4 : Fr [] w5 (w5.drewN nq) := (Fr.refl _ _).drewN nq
          exact ⟨r.st, k + 1, r.typ, prev, r.pnl, Nat.le_refl _, rfl, by go_num, by have := HLE.out hok HTY.out; have := HG.out.2; omega, (H4.out.1.fr H5.out.1).fr m4, H5.out.2.2.fr m4 (by simp) (by simp), m4.blk H5.out.2.1 (by simp), (H4.out.2.2.2.trans H5.out.1).trans m4⟩
theorem top_walk (W : World) (a : Addr) (he : HasEof W a) (ht : HasTok W) (v : Value) (l : List UInt8) (hv : Sl W v l) :
    Calls Tryz.prog 3 #[v] W fun e w' => e = .returned (.bool true) ∧ Below W.heap.size W w' := by
  by_cases h1 : l.length ≤ 1048576
  · exact (top_yes W a v l hv he ht h1).mono fun _ _ ⟨p1, p2⟩ => ⟨p1, p2.below (Nat.le_refl _) (by simp)⟩
  · obtain ⟨a0, c0, rfl, -⟩ := hv
    exact (top_long W a0 _ c0 (by omega)).mono fun _ _ ⟨p1, p2⟩ => ⟨p1, p2 ▸ Below.refl _ _⟩
end Go.Proofs.YtgiklkapedlckaaGreatDoor
