/- The token model's scan, walked: words, digits, strings, comments. -/
import Derived.Test.YtnmpeipccpgkpaaGreatDoorZk77
namespace Go.Proofs.YtnmpeipccpgkpaaGreatDoor
open Go.RowKit

set_option maxRecDepth 1000000 in
set_option maxHeartbeats 16000000 in
theorem zi_ident {W0 w : World} {R M rb tb : Nat} {sv : Value} {all : List UInt8} {st : St} {line col : Int} {nl : Bool} {Q : Exit → Act → World → Prop} {c : Int} (h : Zk W0 R M sv all rb tb w st 0 ⟨#[]⟩ line col nl 0) (HI : Hid (identS c = true)) (e45 : (c == 45) = false)
    (hQ : ∀ a w, ZRet W0 R M sv all rb line col nl (identK c st) a w → Q .ret a w) (u1 u6 u7 u8 u9 u10 u11 u12 u13 u14 u15 u16 u17 u18 u19 u20 u21 u22 u23 u24 u25 u26 u27 u28 u29 u30 u31 u32 u33 u34 u35 u36 u37 u38 u39 u40 u41 u42 u43 u44 u45 u46 u47 u48 u49 u50 u51 u52 u53 u54 u55 u56 u57 u58 u59 u60 u61 u62 u63 u64 u65 u66 u67 u68 u69 u70 u71 u72 u73 u74 u75 u76 u77 u78 u79 u80 u81 u82 u83 u84 u85 u86 u87 u88 u89 u90 u91 u92 u93 u94 u95 u96 u97 u98 u99 u100 u101 u102 u103 u104 u105 u106 u107 u108 u109 u110 u111 u112 u113 u114 u115 u116 u117 u118 u119 u120 u121 u122 u123 u124 u125 u126 u127 u128 u129 u130 u131 u132 u133 u134 u135 u136 u137 u138 u139 u140 u141 u142 u143 u144 u145 u146 u147 u148 u149 u150 u151 u152 u153 u154 u155 u156 u157 u158 u159 u160 u161 u162 u163 u164 u165 u166 u167 u168 u169 u170 u171 u172 u173 u174 u175 u176 u177 u178 u179 u180 u181 u182 u183 u184 u185 u186 u187 u188 u189 u190 u191 u192 u193 u194 u195 u196 u197 u198 u199 u200 u201 u202 u203 u204 u205 u206 u207 u208 u209 u210 u211 u212 u213 u214 u215 u216 u217 u218 u219 u220 u221 u222 u223 u224 u225 u226 u227 u228 u229 u230 u231 u232 u233 u234 u235 u236 u237 u238 u239 u240 u241 u242 u243 u244 u245 u246 u247 u248 u249 u250 u251 u252 u253 u254 u255 u256 u257 u258 u259 u260 u261 u262 u263 u264 u265 u266 u267 u268 u269 u270 u271 u272 u273 u274 u275 u276 u277 u278 u279 u280 u281 u282 u283 u284 u285 u286 u287 u288 u289 u290 u291 u292 u293 u294 u295 u296 u297 u298 u299 u300 u301 u302 u303 u304 : Value) : Code.wp Tryz.prog zM Q ⟨#[Value.pointer (some ⟨R, 0, none⟩), u1, Value.pointer (some ⟨rb, 0, none⟩), Value.bool nl, Value.int .i64 c, Value.pointer (some ⟨tb, 0, none⟩), u6, u7, u8, u9, u10, u11, u12, u13, u14, u15, u16, u17, u18, u19, u20, u21, u22, u23, u24, u25, u26, u27, u28, u29, u30, u31, u32, u33, u34, u35, u36, u37, u38, u39, u40, u41, u42, u43, u44, u45, u46, u47, u48, u49, u50, u51, u52, u53, u54, u55, u56, u57, u58, u59, u60, u61, u62, u63, u64, u65, u66, u67, u68, u69, u70, u71, u72, u73, u74, u75, u76, u77, u78, u79, u80, u81, u82, u83, u84, u85, u86, u87, u88, u89, u90, u91, u92, u93, u94, u95, u96, u97, u98, u99, u100, u101, u102, u103, u104, u105, u106, u107, u108, u109, u110, u111, u112, u113, u114, u115, u116, u117, u118, u119, u120, u121, u122, u123, u124, u125, u126, u127, u128, u129, u130, u131, u132, u133, u134, u135, u136, u137, u138, u139, u140, u141, u142, u143, u144, u145, u146, u147, u148, u149, u150, u151, u152, u153, u154, u155, u156, u157, u158, u159, u160, u161, u162, u163, u164, u165, u166, u167, u168, u169, u170, u171, u172, u173, u174, u175, u176, u177, u178, u179, u180, u181, u182, u183, u184, u185, u186, u187, u188, u189, u190, u191, u192, u193, u194, u195, u196, u197, u198, u199, u200, u201, u202, u203, u204, u205, u206, u207, u208, u209, u210, u211, u212, u213, u214, u215, u216, u217, u218, u219, u220, u221, u222, u223, u224, u225, u226, u227, u228, u229, u230, u231, u232, u233, u234, u235, u236, u237, u238, u239, u240, u241, u242, u243, u244, u245, u246, u247, u248, u249, u250, u251, u252, u253, u254, u255, u256, u257, u258, u259, u260, u261, u262, u263, u264, u265, u266, u267, u268, u269, u270, u271, u272, u273, u274, u275, u276, u277, u278, u279, u280, u281, u282, u283, u284, u285, u286, u287, u288, u289, u290, u291, u292, u293, u294, u295, u296, u297, u298, u299, u300, u301, u302, u303, u304], []⟩ w := by
  conv => arg 2; whnf
  go_upto_block 8 with (go_at_call 17; refine (rstart_true _ _ HI.out).mono ?_; rintro e w' ⟨rfl, rfl⟩)
  have hb0 := Bs.one w (c % 256) (by8 c) (by rw [by8_toNat])
  have H0 := Lib.hid (And.intro (h.still ((Fr.refl _ w).alloc (.cells #[.int .u8 (c % 256)] 5))) hb0)
  obtain ⟨B, hB⟩ : ∃ B, B = w.heap.size := ⟨_, rfl⟩
  have HB := Lib.hid (show tb < B by rw [hB]; exact h.hT.lt)
  have HSZ := Lib.hid (show B ≤ (w.alloc (.cells #[.int .u8 (c % 256)] 5)).heap.size by rw [hB, size_alloc]; omega)
  have HST := Lib.hid h.rf.bd.2
  rw [← hB] at H0 ⊢
  clear h hb0 hB
  go_wp2
  go_loopg [7] st.rest.length (fun n sw wr => ∃ (sp : St) (ds : List UInt8), sp.rest.length ≤ n ∧ Zk W0 R M sv all rb tb wr sp 0 ⟨#[]⟩ line col nl 0 ∧ Bs wr B sw (by8 c :: ds) ∧ B ≤ wr.heap.size ∧ ds ++ sp.run identI = st.run identI ∧ sp.adv identI = st.adv identI ∧ ds.length + sp.rest.length ≤ st.rest.length)
  case atStart => exact ⟨st, [], Nat.le_refl _, H0.out.1, H0.out.2, HSZ.out, rfl, rfl, by simp⟩
  case round =>
    clear H0
    obtain ⟨sp, ds, hg, hz, hb, hle, h1, h2, h3⟩ := hrel
    have HLE0 := Lib.hid hle
    have hlim := hz.rf.bd.2
    have HLM := Lib.hid (show (by8 c :: ds).length + 1 ≤ 140737488355328 by have := HST.out; simp; omega)
    have HG := Lib.hid hg
    have hRB : R < B := by have := hz.rn; have := hz.rt; have := hz.lR; have := HB.out; omega
    have HRB := Lib.hid hRB
    clear hlim hg hle hRB
    cases hp : identI (hd sp.rest)
    · have hds : st.run identI = ds := by rw [← h1, run_no hp, List.append_nil]
      have hsp : st.adv identI = sp := by rw [← h2, adv_no hp]
      have HP := Lib.hid hp
      have HDS := Lib.hid (And.intro hds hsp)
      clear hp h1 h2 h3 hds hsp
      go_wp2_with (go_at_call 16; refine (peek_rf _ R M sv all _ hz.rf).mono ?_; rintro e w1 ⟨rfl, fx⟩; refine Hid.out ?_)
      refine Lib.hid ?_
      have hz1 := hz.still fx
      have hb1 := hb.fr fx (by simp)
      clear hz hb fx
      obtain ⟨S, hS⟩ : ∃ S : ByteArray, S = ⟨(by8 c :: ds).toArray⟩ := ⟨_, rfl⟩
      have htx := hb1.text
      rw [← hS] at htx
      have HKW := Lib.hid (show ∀ wz : World, Calls Tryz.prog 19 #[.string S] wz fun e w' => e = .returned (.int .i64 (kw (by8 c :: ds))) ∧ wz = w' from fun wz => by rw [hS]; exact kw_any wz _)
      obtain ⟨K, hK⟩ : ∃ K, K = kw (by8 c :: ds) := ⟨_, rfl⟩
      rw [← hK] at HKW
      have HS := Lib.hid (And.intro hS hK)
      clear hS hK
      obtain ⟨t0, t1, t2, t3, t4, t5, f0, f1, f5⟩ := hz1.facts
      go_upto_region 24 with (go_at_call 18; refine (rcont_false _ _ HP.out).mono ?_; rintro e w' ⟨rfl, rfl⟩)
      have g1 := hz1.setStr S
      clear t0 t1 t2 t3 t4 t5 f0 f1 f5 htx hb1 hz1
      generalize w1.setCell ⟨tb, 1, none⟩ (.string S) = w3 at g1 ⊢
      obtain ⟨t0, t1, t2, t3, t4, t5, f0, f1, f5⟩ := g1.facts
      go_upto_region 25 with (go_at_call 19; refine (HKW.out _).mono ?_; rintro e w' ⟨rfl, rfl⟩)
      have g2 := g1.setTyp K
      clear t0 t1 t2 t3 t4 t5 f0 f1 f5 g1
      generalize w3.setCell ⟨tb, 0, none⟩ (.int .i64 K) = w4 at g2 ⊢
      obtain ⟨t0, t1, t2, t3, t4, t5, f0, f1, f5⟩ := g2.facts
      obtain ⟨⟨r0, r1, r2, r3, r4, r5⟩, q0, q1, q2, q3, q4, q5⟩ := g2.rfacts
      go_wp2
      refine ⟨_, _, _, _, _, rfl, g2.fin.hR, g2.fin.fb, fun _ => ⟨rfl, ?_, ?_, ?_⟩⟩
      · show K = kw (by8 c :: st.run identI)
        rw [HDS.out.1]; exact HS.out.2
      · show S = ⟨(by8 c :: st.run identI).toArray⟩
        rw [HDS.out.1]; exact HS.out.1
      · show Rf _ R M sv all (st.adv identI)
        rw [HDS.out.2]; exact g2.fin.rf
    · obtain ⟨x, n1, n2, n3, n4⟩ := cls_step cls_ident hp
      have HP := Lib.hid hp
      have HXX := Lib.hid (show sp.nextC % 256 = (x.toNat : Int) by rw [n1]; have := x.toNat_lt; omega)
      have HN := Lib.hid (And.intro (show (ds ++ [x]) ++ sp.nextS.run identI = st.run identI by rw [← h1, n2, List.append_assoc]; rfl) (And.intro (n3.symm.trans h2) (And.intro n4 (show (ds ++ [x]).length + sp.nextS.rest.length ≤ st.rest.length by rw [List.length_append]; simp only [List.length_cons, List.length_nil]; omega))))
      clear hp h1 h2 h3 n1 n2 n3 n4
      go_wp2_with (go_at_call 16; refine (peek_rf _ R M sv all _ hz.rf).mono ?_; rintro e w1 ⟨rfl, fx⟩; refine Hid.out ?_)
      refine Lib.hid ?_
      have hz1 := hz.still fx
      have hb1 := hb.fr fx (by simp)
      have HLE1 := Lib.hid (Nat.le_trans HLE0.out fx.size)
      clear hz hb fx
      go_wp2_with (first | (go_at_call 18; refine (rcont_true _ _ HP.out).mono ?_; rintro e w' ⟨rfl, rfl⟩) | (go_at_call 15; refine (next_rf _ R M sv all _ hz1.rf).mono ?_; rintro e w2 ⟨rfl, rx, fx⟩; refine Hid.out ?_))
      refine Lib.hid ?_
      have hz2 := hz1.step rx fx
      have hb2 := hb1.fr fx (by simpa using HRB.out)
      have HLE := Nat.le_trans HLE1.out fx.size
      clear hz1 hb1 rx fx
      go_wp2_with (at_builtin; refine wpList_app1 rfl (.tmp 82) (.tmp 86) rfl _ B _ (by8 c :: ds) _ x rfl rfl hb2 HXX HLE HLM ?_; intro v9 w9 hb9 hl9; refine Hid.out ?_)
      refine Lib.hid ?_
      have H9 := Lib.hid (And.intro (hz2.low HB.out hl9) (And.intro hb9 (Nat.le_trans HLE hl9.size)))
      clear hz2 hb2 HLE hb9 hl9
      go_wp2
      go_roundg sp.nextS.rest.length
      case measure => have h8 := HN.out.2.2.1; have h9 := HG.out; omega
      case rel => exact ⟨sp.nextS, ds ++ [x], Nat.le_refl _, H9.out.1, H9.out.2.1, H9.out.2.2, HN.out.1, HN.out.2.1, HN.out.2.2.2⟩


set_option maxRecDepth 1000000 in
set_option maxHeartbeats 16000000 in
theorem zn_hex1 {W0 w : World} {R M rb tb : Nat} {sv : Value} {all : List UInt8} {st : St} {line col : Int} {nl : Bool} {Q : Exit → Act → World → Prop} {c : Int} (h : Zk W0 R M sv all rb tb w st 0 ⟨#[]⟩ line col nl 0) (HI : Hid (identS c = false)) (HD : Hid (decI c = true)) (e45 : (c == 45) = false) (e48 : (c == 48) = true) (hx : (hd st.rest == 120) = true) (r : Bool × Int × List UInt8 × St)
    (hQ : ∀ a w, ZRet W0 R M sv all rb line col nl r a w → Q .ret a w) (u1 u6 u7 u8 u9 u10 u11 u12 u13 u14 u15 u16 u17 u18 u19 u20 u21 u22 u23 u24 u25 u26 u27 u28 u29 u30 u31 u32 u33 u34 u35 u36 u37 u38 u39 u40 u41 u42 u43 u44 u45 u46 u47 u48 u49 u50 u51 u52 u53 u54 u55 u56 u57 u58 u59 u60 u61 u62 u63 u64 u65 u66 u67 u68 u69 u70 u71 u72 u73 u74 u75 u76 u77 u78 u79 u80 u81 u82 u83 u84 u85 u86 u87 u88 u89 u90 u91 u92 u93 u94 u95 u96 u97 u98 u99 u100 u101 u102 u103 u104 u105 u106 u107 u108 u109 u110 u111 u112 u113 u114 u115 u116 u117 u118 u119 u120 u121 u122 u123 u124 u125 u126 u127 u128 u129 u130 u131 u132 u133 u134 u135 u136 u137 u138 u139 u140 u141 u142 u143 u144 u145 u146 u147 u148 u149 u150 u151 u152 u153 u154 u155 u156 u157 u158 u159 u160 u161 u162 u163 u164 u165 u166 u167 u168 u169 u170 u171 u172 u173 u174 u175 u176 u177 u178 u179 u180 u181 u182 u183 u184 u185 u186 u187 u188 u189 u190 u191 u192 u193 u194 u195 u196 u197 u198 u199 u200 u201 u202 u203 u204 u205 u206 u207 u208 u209 u210 u211 u212 u213 u214 u215 u216 u217 u218 u219 u220 u221 u222 u223 u224 u225 u226 u227 u228 u229 u230 u231 u232 u233 u234 u235 u236 u237 u238 u239 u240 u241 u242 u243 u244 u245 u246 u247 u248 u249 u250 u251 u252 u253 u254 u255 u256 u257 u258 u259 u260 u261 u262 u263 u264 u265 u266 u267 u268 u269 u270 u271 u272 u273 u274 u275 u276 u277 u278 u279 u280 u281 u282 u283 u284 u285 u286 u287 u288 u289 u290 u291 u292 u293 u294 u295 u296 u297 u298 u299 u300 u301 u302 u303 u304 : Value) : Code.wp Tryz.prog zM Q ⟨#[Value.pointer (some ⟨R, 0, none⟩), u1, Value.pointer (some ⟨rb, 0, none⟩), Value.bool nl, Value.int .i64 c, Value.pointer (some ⟨tb, 0, none⟩), u6, u7, u8, u9, u10, u11, u12, u13, u14, u15, u16, u17, u18, u19, u20, u21, u22, u23, u24, u25, u26, u27, u28, u29, u30, u31, u32, u33, u34, u35, u36, u37, u38, u39, u40, u41, u42, u43, u44, u45, u46, u47, u48, u49, u50, u51, u52, u53, u54, u55, u56, u57, u58, u59, u60, u61, u62, u63, u64, u65, u66, u67, u68, u69, u70, u71, u72, u73, u74, u75, u76, u77, u78, u79, u80, u81, u82, u83, u84, u85, u86, u87, u88, u89, u90, u91, u92, u93, u94, u95, u96, u97, u98, u99, u100, u101, u102, u103, u104, u105, u106, u107, u108, u109, u110, u111, u112, u113, u114, u115, u116, u117, u118, u119, u120, u121, u122, u123, u124, u125, u126, u127, u128, u129, u130, u131, u132, u133, u134, u135, u136, u137, u138, u139, u140, u141, u142, u143, u144, u145, u146, u147, u148, u149, u150, u151, u152, u153, u154, u155, u156, u157, u158, u159, u160, u161, u162, u163, u164, u165, u166, u167, u168, u169, u170, u171, u172, u173, u174, u175, u176, u177, u178, u179, u180, u181, u182, u183, u184, u185, u186, u187, u188, u189, u190, u191, u192, u193, u194, u195, u196, u197, u198, u199, u200, u201, u202, u203, u204, u205, u206, u207, u208, u209, u210, u211, u212, u213, u214, u215, u216, u217, u218, u219, u220, u221, u222, u223, u224, u225, u226, u227, u228, u229, u230, u231, u232, u233, u234, u235, u236, u237, u238, u239, u240, u241, u242, u243, u244, u245, u246, u247, u248, u249, u250, u251, u252, u253, u254, u255, u256, u257, u258, u259, u260, u261, u262, u263, u264, u265, u266, u267, u268, u269, u270, u271, u272, u273, u274, u275, u276, u277, u278, u279, u280, u281, u282, u283, u284, u285, u286, u287, u288, u289, u290, u291, u292, u293, u294, u295, u296, u297, u298, u299, u300, u301, u302, u303, u304], []⟩ w := by
  conv => arg 2; whnf
  go_wp2_with (first | (go_at_call 17; refine (rstart_false _ _ HI.out).mono ?_; rintro e w' ⟨rfl, rfl⟩) | (go_at_call 20; refine (rdec_true _ _ HD.out).mono ?_; rintro e w' ⟨rfl, rfl⟩) | (go_at_call 16; refine (peek_rf _ R M sv all _ h.rf).mono ?_; rintro e x1 ⟨rfl, fx⟩; refine Hid.out ?_))
  refine Lib.hid ?_
  have k1 := h.still fx
  clear h fx
  obtain ⟨t0, t1, t2, t3, t4, t5, f0, f1, f5⟩ := k1.facts
  go_upto_region 29 with fail
  have g2 := k1.setSta 2
  clear t0 t1 t2 t3 t4 t5 f0 f1 f5
  generalize x1.setCell ⟨tb, 5, none⟩ (.int .i64 2) = wq at g2 ⊢
  obtain ⟨t0, t1, t2, t3, t4, t5, f0, f1, f5⟩ := g2.facts
  obtain ⟨⟨r0, r1, r2, r3, r4, r5⟩, q0, q1, q2, q3, q4, q5⟩ := g2.rfacts
  go_wp2
  exact ⟨_, _, _, _, _, rfl, g2.fin.hR, g2.fin.fb, fun e => absurd e (by decide)⟩


set_option maxRecDepth 1000000 in
set_option maxHeartbeats 16000000 in
theorem zn_hex2 {W0 w : World} {R M rb tb : Nat} {sv : Value} {all : List UInt8} {st : St} {line col : Int} {nl : Bool} {Q : Exit → Act → World → Prop} {c : Int} (h : Zk W0 R M sv all rb tb w st 0 ⟨#[]⟩ line col nl 0) (HI : Hid (identS c = false)) (HD : Hid (decI c = true)) (e45 : (c == 45) = false) (e48 : (c == 48) = true) (hx : (hd st.rest == 120) = false) (hy : (hd st.rest == 88) = true) (r : Bool × Int × List UInt8 × St)
    (hQ : ∀ a w, ZRet W0 R M sv all rb line col nl r a w → Q .ret a w) (u1 u6 u7 u8 u9 u10 u11 u12 u13 u14 u15 u16 u17 u18 u19 u20 u21 u22 u23 u24 u25 u26 u27 u28 u29 u30 u31 u32 u33 u34 u35 u36 u37 u38 u39 u40 u41 u42 u43 u44 u45 u46 u47 u48 u49 u50 u51 u52 u53 u54 u55 u56 u57 u58 u59 u60 u61 u62 u63 u64 u65 u66 u67 u68 u69 u70 u71 u72 u73 u74 u75 u76 u77 u78 u79 u80 u81 u82 u83 u84 u85 u86 u87 u88 u89 u90 u91 u92 u93 u94 u95 u96 u97 u98 u99 u100 u101 u102 u103 u104 u105 u106 u107 u108 u109 u110 u111 u112 u113 u114 u115 u116 u117 u118 u119 u120 u121 u122 u123 u124 u125 u126 u127 u128 u129 u130 u131 u132 u133 u134 u135 u136 u137 u138 u139 u140 u141 u142 u143 u144 u145 u146 u147 u148 u149 u150 u151 u152 u153 u154 u155 u156 u157 u158 u159 u160 u161 u162 u163 u164 u165 u166 u167 u168 u169 u170 u171 u172 u173 u174 u175 u176 u177 u178 u179 u180 u181 u182 u183 u184 u185 u186 u187 u188 u189 u190 u191 u192 u193 u194 u195 u196 u197 u198 u199 u200 u201 u202 u203 u204 u205 u206 u207 u208 u209 u210 u211 u212 u213 u214 u215 u216 u217 u218 u219 u220 u221 u222 u223 u224 u225 u226 u227 u228 u229 u230 u231 u232 u233 u234 u235 u236 u237 u238 u239 u240 u241 u242 u243 u244 u245 u246 u247 u248 u249 u250 u251 u252 u253 u254 u255 u256 u257 u258 u259 u260 u261 u262 u263 u264 u265 u266 u267 u268 u269 u270 u271 u272 u273 u274 u275 u276 u277 u278 u279 u280 u281 u282 u283 u284 u285 u286 u287 u288 u289 u290 u291 u292 u293 u294 u295 u296 u297 u298 u299 u300 u301 u302 u303 u304 : Value) : Code.wp Tryz.prog zM Q ⟨#[Value.pointer (some ⟨R, 0, none⟩), u1, Value.pointer (some ⟨rb, 0, none⟩), Value.bool nl, Value.int .i64 c, Value.pointer (some ⟨tb, 0, none⟩), u6, u7, u8, u9, u10, u11, u12, u13, u14, u15, u16, u17, u18, u19, u20, u21, u22, u23, u24, u25, u26, u27, u28, u29, u30, u31, u32, u33, u34, u35, u36, u37, u38, u39, u40, u41, u42, u43, u44, u45, u46, u47, u48, u49, u50, u51, u52, u53, u54, u55, u56, u57, u58, u59, u60, u61, u62, u63, u64, u65, u66, u67, u68, u69, u70, u71, u72, u73, u74, u75, u76, u77, u78, u79, u80, u81, u82, u83, u84, u85, u86, u87, u88, u89, u90, u91, u92, u93, u94, u95, u96, u97, u98, u99, u100, u101, u102, u103, u104, u105, u106, u107, u108, u109, u110, u111, u112, u113, u114, u115, u116, u117, u118, u119, u120, u121, u122, u123, u124, u125, u126, u127, u128, u129, u130, u131, u132, u133, u134, u135, u136, u137, u138, u139, u140, u141, u142, u143, u144, u145, u146, u147, u148, u149, u150, u151, u152, u153, u154, u155, u156, u157, u158, u159, u160, u161, u162, u163, u164, u165, u166, u167, u168, u169, u170, u171, u172, u173, u174, u175, u176, u177, u178, u179, u180, u181, u182, u183, u184, u185, u186, u187, u188, u189, u190, u191, u192, u193, u194, u195, u196, u197, u198, u199, u200, u201, u202, u203, u204, u205, u206, u207, u208, u209, u210, u211, u212, u213, u214, u215, u216, u217, u218, u219, u220, u221, u222, u223, u224, u225, u226, u227, u228, u229, u230, u231, u232, u233, u234, u235, u236, u237, u238, u239, u240, u241, u242, u243, u244, u245, u246, u247, u248, u249, u250, u251, u252, u253, u254, u255, u256, u257, u258, u259, u260, u261, u262, u263, u264, u265, u266, u267, u268, u269, u270, u271, u272, u273, u274, u275, u276, u277, u278, u279, u280, u281, u282, u283, u284, u285, u286, u287, u288, u289, u290, u291, u292, u293, u294, u295, u296, u297, u298, u299, u300, u301, u302, u303, u304], []⟩ w := by
  conv => arg 2; whnf
  go_wp2_with (first | (go_at_call 17; refine (rstart_false _ _ HI.out).mono ?_; rintro e w' ⟨rfl, rfl⟩) | (go_at_call 20; refine (rdec_true _ _ HD.out).mono ?_; rintro e w' ⟨rfl, rfl⟩) | (go_at_call 16; refine (peek_rf _ R M sv all _ h.rf).mono ?_; rintro e x1 ⟨rfl, fx⟩; refine Hid.out ?_))
  refine Lib.hid ?_
  have k1 := h.still fx
  clear h fx
  go_wp2_with (go_at_call 16; refine (peek_rf _ R M sv all _ k1.rf).mono ?_; rintro e x2 ⟨rfl, fx⟩; refine Hid.out ?_)
  refine Lib.hid ?_
  have k2 := k1.still fx
  clear k1 fx
  obtain ⟨t0, t1, t2, t3, t4, t5, f0, f1, f5⟩ := k2.facts
  go_upto_region 29 with fail
  have g2 := k2.setSta 2
  clear t0 t1 t2 t3 t4 t5 f0 f1 f5
  generalize x2.setCell ⟨tb, 5, none⟩ (.int .i64 2) = wq at g2 ⊢
  obtain ⟨t0, t1, t2, t3, t4, t5, f0, f1, f5⟩ := g2.facts
  obtain ⟨⟨r0, r1, r2, r3, r4, r5⟩, q0, q1, q2, q3, q4, q5⟩ := g2.rfacts
  go_wp2
  exact ⟨_, _, _, _, _, rfl, g2.fin.hR, g2.fin.fb, fun e => absurd e (by decide)⟩


set_option maxRecDepth 1000000 in
set_option maxHeartbeats 16000000 in
theorem zn_ok0 {W0 w : World} {R M rb tb : Nat} {sv : Value} {all : List UInt8} {st : St} {line col : Int} {nl : Bool} {Q : Exit → Act → World → Prop} {c : Int} (h : Zk W0 R M sv all rb tb w st 0 ⟨#[]⟩ line col nl 0) (HI : Hid (identS c = false)) (HD : Hid (decI c = true)) (e45 : (c == 45) = false) (e48 : (c == 48) = false) (hc48 : Hid (c ≠ 48))
    (hQ : ∀ a w, ZRet W0 R M sv all rb line col nl (numK c st) a w → Q .ret a w) (u1 u6 u7 u8 u9 u10 u11 u12 u13 u14 u15 u16 u17 u18 u19 u20 u21 u22 u23 u24 u25 u26 u27 u28 u29 u30 u31 u32 u33 u34 u35 u36 u37 u38 u39 u40 u41 u42 u43 u44 u45 u46 u47 u48 u49 u50 u51 u52 u53 u54 u55 u56 u57 u58 u59 u60 u61 u62 u63 u64 u65 u66 u67 u68 u69 u70 u71 u72 u73 u74 u75 u76 u77 u78 u79 u80 u81 u82 u83 u84 u85 u86 u87 u88 u89 u90 u91 u92 u93 u94 u95 u96 u97 u98 u99 u100 u101 u102 u103 u104 u105 u106 u107 u108 u109 u110 u111 u112 u113 u114 u115 u116 u117 u118 u119 u120 u121 u122 u123 u124 u125 u126 u127 u128 u129 u130 u131 u132 u133 u134 u135 u136 u137 u138 u139 u140 u141 u142 u143 u144 u145 u146 u147 u148 u149 u150 u151 u152 u153 u154 u155 u156 u157 u158 u159 u160 u161 u162 u163 u164 u165 u166 u167 u168 u169 u170 u171 u172 u173 u174 u175 u176 u177 u178 u179 u180 u181 u182 u183 u184 u185 u186 u187 u188 u189 u190 u191 u192 u193 u194 u195 u196 u197 u198 u199 u200 u201 u202 u203 u204 u205 u206 u207 u208 u209 u210 u211 u212 u213 u214 u215 u216 u217 u218 u219 u220 u221 u222 u223 u224 u225 u226 u227 u228 u229 u230 u231 u232 u233 u234 u235 u236 u237 u238 u239 u240 u241 u242 u243 u244 u245 u246 u247 u248 u249 u250 u251 u252 u253 u254 u255 u256 u257 u258 u259 u260 u261 u262 u263 u264 u265 u266 u267 u268 u269 u270 u271 u272 u273 u274 u275 u276 u277 u278 u279 u280 u281 u282 u283 u284 u285 u286 u287 u288 u289 u290 u291 u292 u293 u294 u295 u296 u297 u298 u299 u300 u301 u302 u303 u304 : Value) : Code.wp Tryz.prog zM Q ⟨#[Value.pointer (some ⟨R, 0, none⟩), u1, Value.pointer (some ⟨rb, 0, none⟩), Value.bool nl, Value.int .i64 c, Value.pointer (some ⟨tb, 0, none⟩), u6, u7, u8, u9, u10, u11, u12, u13, u14, u15, u16, u17, u18, u19, u20, u21, u22, u23, u24, u25, u26, u27, u28, u29, u30, u31, u32, u33, u34, u35, u36, u37, u38, u39, u40, u41, u42, u43, u44, u45, u46, u47, u48, u49, u50, u51, u52, u53, u54, u55, u56, u57, u58, u59, u60, u61, u62, u63, u64, u65, u66, u67, u68, u69, u70, u71, u72, u73, u74, u75, u76, u77, u78, u79, u80, u81, u82, u83, u84, u85, u86, u87, u88, u89, u90, u91, u92, u93, u94, u95, u96, u97, u98, u99, u100, u101, u102, u103, u104, u105, u106, u107, u108, u109, u110, u111, u112, u113, u114, u115, u116, u117, u118, u119, u120, u121, u122, u123, u124, u125, u126, u127, u128, u129, u130, u131, u132, u133, u134, u135, u136, u137, u138, u139, u140, u141, u142, u143, u144, u145, u146, u147, u148, u149, u150, u151, u152, u153, u154, u155, u156, u157, u158, u159, u160, u161, u162, u163, u164, u165, u166, u167, u168, u169, u170, u171, u172, u173, u174, u175, u176, u177, u178, u179, u180, u181, u182, u183, u184, u185, u186, u187, u188, u189, u190, u191, u192, u193, u194, u195, u196, u197, u198, u199, u200, u201, u202, u203, u204, u205, u206, u207, u208, u209, u210, u211, u212, u213, u214, u215, u216, u217, u218, u219, u220, u221, u222, u223, u224, u225, u226, u227, u228, u229, u230, u231, u232, u233, u234, u235, u236, u237, u238, u239, u240, u241, u242, u243, u244, u245, u246, u247, u248, u249, u250, u251, u252, u253, u254, u255, u256, u257, u258, u259, u260, u261, u262, u263, u264, u265, u266, u267, u268, u269, u270, u271, u272, u273, u274, u275, u276, u277, u278, u279, u280, u281, u282, u283, u284, u285, u286, u287, u288, u289, u290, u291, u292, u293, u294, u295, u296, u297, u298, u299, u300, u301, u302, u303, u304], []⟩ w := by
  conv => arg 2; whnf
  go_upto_block 10 with (first | (go_at_call 17; refine (rstart_false _ _ HI.out).mono ?_; rintro e w' ⟨rfl, rfl⟩) | (go_at_call 20; refine (rdec_true _ _ HD.out).mono ?_; rintro e w' ⟨rfl, rfl⟩))
  have hb0 := Bs.one w (c % 256) (by8 c) (by rw [by8_toNat])
  have H0 := Lib.hid (And.intro (h.still ((Fr.refl _ w).alloc (.cells #[.int .u8 (c % 256)] 5))) hb0)
  obtain ⟨B, hB⟩ : ∃ B, B = w.heap.size := ⟨_, rfl⟩
  have HB := Lib.hid (show tb < B by rw [hB]; exact h.hT.lt)
  have HSZ := Lib.hid (show B ≤ (w.alloc (.cells #[.int .u8 (c % 256)] 5)).heap.size by rw [hB, size_alloc]; omega)
  have HST := Lib.hid h.rf.bd.2
  rw [← hB] at H0 ⊢
  clear h hb0 hB
  go_wp2
  go_loopg [8] st.rest.length (fun n sw wr => ∃ (sp : St) (ds : List UInt8), sp.rest.length ≤ n ∧ Zk W0 R M sv all rb tb wr sp 0 ⟨#[]⟩ line col nl 0 ∧ Bs wr B sw (by8 c :: ds) ∧ B ≤ wr.heap.size ∧ ds ++ sp.run decI = st.run decI ∧ sp.adv decI = st.adv decI ∧ ds.length + sp.rest.length ≤ st.rest.length)
  case atStart => exact ⟨st, [], Nat.le_refl _, H0.out.1, H0.out.2, HSZ.out, rfl, rfl, by simp⟩
  case round =>
    clear H0
    obtain ⟨sp, ds, hg, hz, hb, hle, h1, h2, h3⟩ := hrel
    have HLE0 := Lib.hid hle
    have hlim := hz.rf.bd.2
    have HLM := Lib.hid (show (by8 c :: ds).length + 1 ≤ 140737488355328 by have := HST.out; simp; omega)
    have HG := Lib.hid hg
    have hRB : R < B := by have := hz.rn; have := hz.rt; have := hz.lR; have := HB.out; omega
    have HRB := Lib.hid hRB
    clear hlim hg hle hRB
    cases hp : decI (hd sp.rest)
    · have hds : st.run decI = ds := by rw [← h1, run_no hp, List.append_nil]
      have hsp : st.adv decI = sp := by rw [← h2, adv_no hp]
      have HP := Lib.hid hp
      have HDS := Lib.hid (And.intro hds hsp)
      clear hp h1 h2 h3 hds hsp
      go_wp2_with (go_at_call 16; refine (peek_rf _ R M sv all _ hz.rf).mono ?_; rintro e w1 ⟨rfl, fx⟩; refine Hid.out ?_)
      refine Lib.hid ?_
      have hz1 := hz.still fx
      have hb1 := hb.fr fx (by simp)
      clear hz hb fx
      by_cases p46 : hd sp.rest = 46
      · have q46 : (hd sp.rest == 46) = true := by rw [beq_iff_eq]; omega
        have q101 : (hd sp.rest == 101) = false := by rw [beq_eq_false_iff_ne]; omega
        have q69 : (hd sp.rest == 69) = false := by rw [beq_eq_false_iff_ne]; omega
        clear p46
        go_wp2_with (first | (go_at_call 20; refine (rdec_false _ _ HP.out).mono ?_; rintro e w' ⟨rfl, rfl⟩) | (go_at_call 16; refine (peek_rf _ R M sv all _ hz1.rf).mono ?_; rintro e w2 ⟨rfl, fx⟩; refine Hid.out ?_))
        refine Lib.hid ?_
        have hz2 := hz1.still fx
        clear hz1 fx hb1
        obtain ⟨t0, t1, t2, t3, t4, t5, f0, f1, f5⟩ := hz2.facts
        go_upto_region 36 with fail
        have g2 := hz2.setSta 2
        clear t0 t1 t2 t3 t4 t5 f0 f1 f5
        generalize w2.setCell ⟨tb, 5, none⟩ (.int .i64 2) = wq at g2 ⊢
        obtain ⟨t0, t1, t2, t3, t4, t5, f0, f1, f5⟩ := g2.facts
        obtain ⟨⟨r0, r1, r2, r3, r4, r5⟩, q0, q1, q2, q3, q4, q5⟩ := g2.rfacts
        go_wp2
        exact ⟨_, _, _, _, _, rfl, g2.fin.hR, g2.fin.fb, fun e => absurd e (by decide)⟩
      by_cases p101 : hd sp.rest = 101
      · have q46 : (hd sp.rest == 46) = false := by rw [beq_eq_false_iff_ne]; omega
        have q101 : (hd sp.rest == 101) = true := by rw [beq_iff_eq]; omega
        have q69 : (hd sp.rest == 69) = false := by rw [beq_eq_false_iff_ne]; omega
        clear p46 p101
        go_wp2_with (first | (go_at_call 20; refine (rdec_false _ _ HP.out).mono ?_; rintro e w' ⟨rfl, rfl⟩) | (go_at_call 16; refine (peek_rf _ R M sv all _ hz1.rf).mono ?_; rintro e w2 ⟨rfl, fx⟩; refine Hid.out ?_))
        refine Lib.hid ?_
        have hz2 := hz1.still fx
        clear hz1 fx hb1
        obtain ⟨t0, t1, t2, t3, t4, t5, f0, f1, f5⟩ := hz2.facts
        go_upto_region 36 with fail
        have g2 := hz2.setSta 2
        clear t0 t1 t2 t3 t4 t5 f0 f1 f5
        generalize w2.setCell ⟨tb, 5, none⟩ (.int .i64 2) = wq at g2 ⊢
        obtain ⟨t0, t1, t2, t3, t4, t5, f0, f1, f5⟩ := g2.facts
        obtain ⟨⟨r0, r1, r2, r3, r4, r5⟩, q0, q1, q2, q3, q4, q5⟩ := g2.rfacts
        go_wp2
        exact ⟨_, _, _, _, _, rfl, g2.fin.hR, g2.fin.fb, fun e => absurd e (by decide)⟩
      by_cases p69 : hd sp.rest = 69
      · have q46 : (hd sp.rest == 46) = false := by rw [beq_eq_false_iff_ne]; omega
        have q101 : (hd sp.rest == 101) = false := by rw [beq_eq_false_iff_ne]; omega
        have q69 : (hd sp.rest == 69) = true := by rw [beq_iff_eq]; omega
        clear p46 p101 p69
        go_wp2_with (first | (go_at_call 20; refine (rdec_false _ _ HP.out).mono ?_; rintro e w' ⟨rfl, rfl⟩) | (go_at_call 16; refine (peek_rf _ R M sv all _ hz1.rf).mono ?_; rintro e w2 ⟨rfl, fx⟩; refine Hid.out ?_))
        refine Lib.hid ?_
        have hz2 := hz1.still fx
        clear hz1 fx hb1
        obtain ⟨t0, t1, t2, t3, t4, t5, f0, f1, f5⟩ := hz2.facts
        go_upto_region 36 with fail
        have g2 := hz2.setSta 2
        clear t0 t1 t2 t3 t4 t5 f0 f1 f5
        generalize w2.setCell ⟨tb, 5, none⟩ (.int .i64 2) = wq at g2 ⊢
        obtain ⟨t0, t1, t2, t3, t4, t5, f0, f1, f5⟩ := g2.facts
        obtain ⟨⟨r0, r1, r2, r3, r4, r5⟩, q0, q1, q2, q3, q4, q5⟩ := g2.rfacts
        go_wp2
        exact ⟨_, _, _, _, _, rfl, g2.fin.hR, g2.fin.fb, fun e => absurd e (by decide)⟩
      have q46 : (hd sp.rest == 46) = false := by rw [beq_eq_false_iff_ne]; exact p46
      have q101 : (hd sp.rest == 101) = false := by rw [beq_eq_false_iff_ne]; exact p101
      have q69 : (hd sp.rest == 69) = false := by rw [beq_eq_false_iff_ne]; exact p69
      have hnum := num_digits HD.out (fun e => hc48.out e.1) (by rw [HDS.out.2]; exact ⟨p46, p101, p69⟩)
      rw [HDS.out.1, HDS.out.2] at hnum
      clear p46 p101 p69
      go_wp2_with (first | (go_at_call 20; refine (rdec_false _ _ HP.out).mono ?_; rintro e w' ⟨rfl, rfl⟩) | (go_at_call 16; refine (peek_rf _ R M sv all _ hz1.rf).mono ?_; rintro e w2 ⟨rfl, fx⟩; refine Hid.out ?_))
      refine Lib.hid ?_
      have hz2 := hz1.still fx
      have hb2 := hb1.fr fx (by simp)
      clear hz1 fx hb1
      obtain ⟨g, cap, rfl⟩ := hb2.some (by simp)
      have hfar : tb < g := Nat.lt_of_lt_of_le HB.out (hb2.own g rfl)
      have HKEEP := Lib.hid (show ∀ v : Value, (w2.setCell ⟨tb, 0, none⟩ v).heap[g]? = w2.heap[g]? from fun v => Below.heap_setCell _ _ _ _ (by simp only [ne_eq]; omega))
      have hcells : ∀ j (hj : j < (by8 c :: ds).length), w2.cell? ((⟨g, 0, none⟩ : Addr).add j) = some (.int .u8 ((by8 c :: ds)[j].toNat : Int)) := fun j hj => hb2.cells j _ (by unfold Lib.byteCells; rw [List.getElem?_map, List.getElem?_eq_getElem hj]; rfl)
      have hc0 : w2.cell? ⟨g, 0, none⟩ = some (.int .u8 ((by8 c).toNat : Int)) := hcells 0 (by simp)
      have hcapn : (by8 c :: ds).length ≤ cap := by
        rcases hb2.2 with ⟨h0, -⟩ | ⟨g', cap', cur, e1, -, -, e4, -⟩
        · cases h0
        · cases e1; exact e4
      obtain ⟨x0, hx0⟩ : ∃ x0 : Int, x0 = ((by8 c).toNat : Int) := ⟨_, rfl⟩
      rw [← hx0] at hc0
      obtain ⟨n, hn⟩ : ∃ n, n = (by8 c :: ds).length := ⟨_, rfl⟩
      rw [← hn] at hcapn ⊢
      have hdl : ds.length ≤ 1099511627776 := by have := HLM.out; have := HDS.out.1; have h8 := run_len decI st; rw [this] at h8; have := HST.out; omega
      have hn1 : n = ds.length + 1 := by rw [hn]; simp
      have hn0 : (0 : Int) < (n : Int) := by omega
      have hnn : 0 < n := by omega
      have hni : (n : Int) ≤ 1099511627777 := by omega
      have hxc : x0 = c % 256 := by rw [hx0]; exact by8_toNat c
      have hdc : (48 : Int) ≤ c ∧ c ≤ 57 := by
        have := HD.out
        unfold decI at this
        simp only [Bool.and_eq_true, decide_eq_true_eq] at this
        exact this
      have hcap0 : 0 < cap := by omega
      have hc1 : 1 ≤ cap := by omega
      have hn2 : 1 ≤ n := by omega
      have hne := hc48.out
      have z48 : (x0 == 48) = false := by rw [beq_eq_false_iff_ne]; omega
      rw [if_neg (fun e => hne e.1)] at hnum
      have HNUM := Lib.hid hnum
      have htx : ∀ wz : World, wz.heap[g]? = w2.heap[g]? → (convert 22 9 (.slice (some ⟨g, 0, none⟩) n cap)).run Tryz.prog wz = .ok (.string ⟨(by8 c :: ds).toArray⟩) wz := fun wz hwz => by
        rw [hn]
        exact run_convert_bytes_back wz _ _ _ ⟨g, 0, none⟩ cap (by8 c :: ds) Tryz.underlying22 Tryz.underlying5 Tryz.underlying9 (fun j hj => (World.cell?_of_block (w := w2) (a := (⟨g, 0, none⟩ : Addr).add j) (by rw [block_add']; exact hwz)).trans (hcells j hj))
      clear hnum hcells hx0 hn hn1 hxc hdc hdl hb2 hfar hne
      obtain ⟨S, hS⟩ : ∃ S : ByteArray, S = ⟨(by8 c :: ds).toArray⟩ := ⟨_, rfl⟩
      rw [← hS] at htx
      have HS := Lib.hid hS
      clear hS
      obtain ⟨t0, t1, t2, t3, t4, t5, f0, f1, f5⟩ := hz2.facts
      go_upto_region 40 with fail
      have g1 := hz2.setTyp 57376
      have htx2 := htx (w2.setCell ⟨tb, 0, none⟩ (.int .i64 57376)) (HKEEP.out _)
      clear t0 t1 t2 t3 t4 t5 f0 f1 f5 htx hz2
      generalize w2.setCell ⟨tb, 0, none⟩ (.int .i64 57376) = w3 at g1 htx2 ⊢
      obtain ⟨t0, t1, t2, t3, t4, t5, f0, f1, f5⟩ := g1.facts
      go_upto_region 41 with fail
      have g2 := g1.setStr S
      clear t0 t1 t2 t3 t4 t5 f0 f1 f5 htx2 g1
      generalize w3.setCell ⟨tb, 1, none⟩ (.string S) = w4 at g2 ⊢
      obtain ⟨t0, t1, t2, t3, t4, t5, f0, f1, f5⟩ := g2.facts
      obtain ⟨⟨r0, r1, r2, r3, r4, r5⟩, q0, q1, q2, q3, q4, q5⟩ := g2.rfacts
      go_wp2
      refine ⟨_, _, _, _, _, rfl, g2.fin.hR, g2.fin.fb, fun _ => ⟨?_, rfl, ?_, ?_⟩⟩
      · show (num c st).1 = true
        rw [HNUM.out]
      · show S = ⟨(num c st).2.1.toArray⟩
        rw [HNUM.out, HS.out]
      · show Rf _ R M sv all (num c st).2.2
        rw [HNUM.out]; exact g2.fin.rf

    · obtain ⟨x, n1, n2, n3, n4⟩ := cls_step cls_dec hp
      have HP := Lib.hid hp
      have HXX := Lib.hid (show sp.nextC % 256 = (x.toNat : Int) by rw [n1]; have := x.toNat_lt; omega)
      have HN := Lib.hid (And.intro (show (ds ++ [x]) ++ sp.nextS.run decI = st.run decI by rw [← h1, n2, List.append_assoc]; rfl) (And.intro (n3.symm.trans h2) (And.intro n4 (show (ds ++ [x]).length + sp.nextS.rest.length ≤ st.rest.length by rw [List.length_append]; simp only [List.length_cons, List.length_nil]; omega))))
      clear hp h1 h2 h3 n1 n2 n3 n4
      go_wp2_with (go_at_call 16; refine (peek_rf _ R M sv all _ hz.rf).mono ?_; rintro e w1 ⟨rfl, fx⟩; refine Hid.out ?_)
      refine Lib.hid ?_
      have hz1 := hz.still fx
      have hb1 := hb.fr fx (by simp)
      have HLE1 := Lib.hid (Nat.le_trans HLE0.out fx.size)
      clear hz hb fx
      go_wp2_with (first | (go_at_call 20; refine (rdec_true _ _ HP.out).mono ?_; rintro e w' ⟨rfl, rfl⟩) | (go_at_call 15; refine (next_rf _ R M sv all _ hz1.rf).mono ?_; rintro e w2 ⟨rfl, rx, fx⟩; refine Hid.out ?_))
      refine Lib.hid ?_
      have hz2 := hz1.step rx fx
      have hb2 := hb1.fr fx (by simpa using HRB.out)
      have HLE := Nat.le_trans HLE1.out fx.size
      clear hz1 hb1 rx fx
      go_wp2_with (at_builtin; refine wpList_app1 rfl (.tmp 118) (.tmp 122) rfl _ B _ (by8 c :: ds) _ x rfl rfl hb2 HXX HLE HLM ?_; intro v9 w9 hb9 hl9; refine Hid.out ?_)
      refine Lib.hid ?_
      have H9 := Lib.hid (And.intro (hz2.low HB.out hl9) (And.intro hb9 (Nat.le_trans HLE hl9.size)))
      clear hz2 hb2 HLE hb9 hl9
      go_wp2
      go_roundg sp.nextS.rest.length
      case measure => have h8 := HN.out.2.2.1; have h9 := HG.out; omega
      case rel => exact ⟨sp.nextS, ds ++ [x], Nat.le_refl _, H9.out.1, H9.out.2.1, H9.out.2.2, HN.out.1, HN.out.2.1, HN.out.2.2.2⟩


set_option maxRecDepth 1000000 in
set_option maxHeartbeats 16000000 in
theorem zn_ok2 {W0 w : World} {R M rb tb : Nat} {sv : Value} {all : List UInt8} {st : St} {line col : Int} {nl : Bool} {Q : Exit → Act → World → Prop} {c : Int} (h : Zk W0 R M sv all rb tb w st 0 ⟨#[]⟩ line col nl 0) (HI : Hid (identS c = false)) (HD : Hid (decI c = true)) (e45 : (c == 45) = false) (e48 : (c == 48) = true) (hx : (hd st.rest == 120) = false) (hy : (hd st.rest == 88) = false)
    (hQ : ∀ a w, ZRet W0 R M sv all rb line col nl (numK c st) a w → Q .ret a w) (u1 u6 u7 u8 u9 u10 u11 u12 u13 u14 u15 u16 u17 u18 u19 u20 u21 u22 u23 u24 u25 u26 u27 u28 u29 u30 u31 u32 u33 u34 u35 u36 u37 u38 u39 u40 u41 u42 u43 u44 u45 u46 u47 u48 u49 u50 u51 u52 u53 u54 u55 u56 u57 u58 u59 u60 u61 u62 u63 u64 u65 u66 u67 u68 u69 u70 u71 u72 u73 u74 u75 u76 u77 u78 u79 u80 u81 u82 u83 u84 u85 u86 u87 u88 u89 u90 u91 u92 u93 u94 u95 u96 u97 u98 u99 u100 u101 u102 u103 u104 u105 u106 u107 u108 u109 u110 u111 u112 u113 u114 u115 u116 u117 u118 u119 u120 u121 u122 u123 u124 u125 u126 u127 u128 u129 u130 u131 u132 u133 u134 u135 u136 u137 u138 u139 u140 u141 u142 u143 u144 u145 u146 u147 u148 u149 u150 u151 u152 u153 u154 u155 u156 u157 u158 u159 u160 u161 u162 u163 u164 u165 u166 u167 u168 u169 u170 u171 u172 u173 u174 u175 u176 u177 u178 u179 u180 u181 u182 u183 u184 u185 u186 u187 u188 u189 u190 u191 u192 u193 u194 u195 u196 u197 u198 u199 u200 u201 u202 u203 u204 u205 u206 u207 u208 u209 u210 u211 u212 u213 u214 u215 u216 u217 u218 u219 u220 u221 u222 u223 u224 u225 u226 u227 u228 u229 u230 u231 u232 u233 u234 u235 u236 u237 u238 u239 u240 u241 u242 u243 u244 u245 u246 u247 u248 u249 u250 u251 u252 u253 u254 u255 u256 u257 u258 u259 u260 u261 u262 u263 u264 u265 u266 u267 u268 u269 u270 u271 u272 u273 u274 u275 u276 u277 u278 u279 u280 u281 u282 u283 u284 u285 u286 u287 u288 u289 u290 u291 u292 u293 u294 u295 u296 u297 u298 u299 u300 u301 u302 u303 u304 : Value) : Code.wp Tryz.prog zM Q ⟨#[Value.pointer (some ⟨R, 0, none⟩), u1, Value.pointer (some ⟨rb, 0, none⟩), Value.bool nl, Value.int .i64 c, Value.pointer (some ⟨tb, 0, none⟩), u6, u7, u8, u9, u10, u11, u12, u13, u14, u15, u16, u17, u18, u19, u20, u21, u22, u23, u24, u25, u26, u27, u28, u29, u30, u31, u32, u33, u34, u35, u36, u37, u38, u39, u40, u41, u42, u43, u44, u45, u46, u47, u48, u49, u50, u51, u52, u53, u54, u55, u56, u57, u58, u59, u60, u61, u62, u63, u64, u65, u66, u67, u68, u69, u70, u71, u72, u73, u74, u75, u76, u77, u78, u79, u80, u81, u82, u83, u84, u85, u86, u87, u88, u89, u90, u91, u92, u93, u94, u95, u96, u97, u98, u99, u100, u101, u102, u103, u104, u105, u106, u107, u108, u109, u110, u111, u112, u113, u114, u115, u116, u117, u118, u119, u120, u121, u122, u123, u124, u125, u126, u127, u128, u129, u130, u131, u132, u133, u134, u135, u136, u137, u138, u139, u140, u141, u142, u143, u144, u145, u146, u147, u148, u149, u150, u151, u152, u153, u154, u155, u156, u157, u158, u159, u160, u161, u162, u163, u164, u165, u166, u167, u168, u169, u170, u171, u172, u173, u174, u175, u176, u177, u178, u179, u180, u181, u182, u183, u184, u185, u186, u187, u188, u189, u190, u191, u192, u193, u194, u195, u196, u197, u198, u199, u200, u201, u202, u203, u204, u205, u206, u207, u208, u209, u210, u211, u212, u213, u214, u215, u216, u217, u218, u219, u220, u221, u222, u223, u224, u225, u226, u227, u228, u229, u230, u231, u232, u233, u234, u235, u236, u237, u238, u239, u240, u241, u242, u243, u244, u245, u246, u247, u248, u249, u250, u251, u252, u253, u254, u255, u256, u257, u258, u259, u260, u261, u262, u263, u264, u265, u266, u267, u268, u269, u270, u271, u272, u273, u274, u275, u276, u277, u278, u279, u280, u281, u282, u283, u284, u285, u286, u287, u288, u289, u290, u291, u292, u293, u294, u295, u296, u297, u298, u299, u300, u301, u302, u303, u304], []⟩ w := by
  conv => arg 2; whnf
  have HHX := Lib.hid (show ¬ (c = 48 ∧ (hd st.rest = 120 ∨ hd st.rest = 88)) from fun q => by
    rcases q.2 with q | q
    · exact beq_eq_false_iff_ne.1 hx q
    · exact beq_eq_false_iff_ne.1 hy q)
  go_wp2_with (first | (go_at_call 17; refine (rstart_false _ _ HI.out).mono ?_; rintro e w' ⟨rfl, rfl⟩) | (go_at_call 20; refine (rdec_true _ _ HD.out).mono ?_; rintro e w' ⟨rfl, rfl⟩) | (go_at_call 16; refine (peek_rf _ R M sv all _ h.rf).mono ?_; rintro e x1 ⟨rfl, fx⟩; refine Hid.out ?_))
  refine Lib.hid ?_
  have k1 := h.still fx
  clear h fx
  go_wp2_with (go_at_call 16; refine (peek_rf _ R M sv all _ k1.rf).mono ?_; rintro e x2 ⟨rfl, fx⟩; refine Hid.out ?_)
  refine Lib.hid ?_
  have k2 := k1.still fx
  clear k1 fx
  go_upto_block 10 with fail
  clear hx hy
  have hb0 := Bs.one x2 (c % 256) (by8 c) (by rw [by8_toNat])
  have H0 := Lib.hid (And.intro (k2.still ((Fr.refl _ x2).alloc (.cells #[.int .u8 (c % 256)] 5))) hb0)
  obtain ⟨B, hB⟩ : ∃ B, B = x2.heap.size := ⟨_, rfl⟩
  have HB := Lib.hid (show tb < B by rw [hB]; exact k2.hT.lt)
  have HSZ := Lib.hid (show B ≤ (x2.alloc (.cells #[.int .u8 (c % 256)] 5)).heap.size by rw [hB, size_alloc]; omega)
  have HST := Lib.hid k2.rf.bd.2
  rw [← hB] at H0 ⊢
  clear k2 hb0 hB
  go_wp2
  go_loopg [8] st.rest.length (fun n sw wr => ∃ (sp : St) (ds : List UInt8), sp.rest.length ≤ n ∧ Zk W0 R M sv all rb tb wr sp 0 ⟨#[]⟩ line col nl 0 ∧ Bs wr B sw (by8 c :: ds) ∧ B ≤ wr.heap.size ∧ ds ++ sp.run decI = st.run decI ∧ sp.adv decI = st.adv decI ∧ ds.length + sp.rest.length ≤ st.rest.length)
  case atStart => exact ⟨st, [], Nat.le_refl _, H0.out.1, H0.out.2, HSZ.out, rfl, rfl, by simp⟩
  case round =>
    clear H0
    obtain ⟨sp, ds, hg, hz, hb, hle, h1, h2, h3⟩ := hrel
    have HLE0 := Lib.hid hle
    have hlim := hz.rf.bd.2
    have HLM := Lib.hid (show (by8 c :: ds).length + 1 ≤ 140737488355328 by have := HST.out; simp; omega)
    have HG := Lib.hid hg
    have hRB : R < B := by have := hz.rn; have := hz.rt; have := hz.lR; have := HB.out; omega
    have HRB := Lib.hid hRB
    clear hlim hg hle hRB
    cases hp : decI (hd sp.rest)
    · have hds : st.run decI = ds := by rw [← h1, run_no hp, List.append_nil]
      have hsp : st.adv decI = sp := by rw [← h2, adv_no hp]
      have HP := Lib.hid hp
      have HDS := Lib.hid (And.intro hds hsp)
      clear hp h1 h2 h3 hds hsp
      go_wp2_with (go_at_call 16; refine (peek_rf _ R M sv all _ hz.rf).mono ?_; rintro e w1 ⟨rfl, fx⟩; refine Hid.out ?_)
      refine Lib.hid ?_
      have hz1 := hz.still fx
      have hb1 := hb.fr fx (by simp)
      clear hz hb fx
      by_cases p46 : hd sp.rest = 46
      · have q46 : (hd sp.rest == 46) = true := by rw [beq_iff_eq]; omega
        have q101 : (hd sp.rest == 101) = false := by rw [beq_eq_false_iff_ne]; omega
        have q69 : (hd sp.rest == 69) = false := by rw [beq_eq_false_iff_ne]; omega
        clear p46
        go_wp2_with (first | (go_at_call 20; refine (rdec_false _ _ HP.out).mono ?_; rintro e w' ⟨rfl, rfl⟩) | (go_at_call 16; refine (peek_rf _ R M sv all _ hz1.rf).mono ?_; rintro e w2 ⟨rfl, fx⟩; refine Hid.out ?_))
        refine Lib.hid ?_
        have hz2 := hz1.still fx
        clear hz1 fx hb1
        obtain ⟨t0, t1, t2, t3, t4, t5, f0, f1, f5⟩ := hz2.facts
        go_upto_region 36 with fail
        have g2 := hz2.setSta 2
        clear t0 t1 t2 t3 t4 t5 f0 f1 f5
        generalize w2.setCell ⟨tb, 5, none⟩ (.int .i64 2) = wq at g2 ⊢
        obtain ⟨t0, t1, t2, t3, t4, t5, f0, f1, f5⟩ := g2.facts
        obtain ⟨⟨r0, r1, r2, r3, r4, r5⟩, q0, q1, q2, q3, q4, q5⟩ := g2.rfacts
        go_wp2
        exact ⟨_, _, _, _, _, rfl, g2.fin.hR, g2.fin.fb, fun e => absurd e (by decide)⟩
      by_cases p101 : hd sp.rest = 101
      · have q46 : (hd sp.rest == 46) = false := by rw [beq_eq_false_iff_ne]; omega
        have q101 : (hd sp.rest == 101) = true := by rw [beq_iff_eq]; omega
        have q69 : (hd sp.rest == 69) = false := by rw [beq_eq_false_iff_ne]; omega
        clear p46 p101
        go_wp2_with (first | (go_at_call 20; refine (rdec_false _ _ HP.out).mono ?_; rintro e w' ⟨rfl, rfl⟩) | (go_at_call 16; refine (peek_rf _ R M sv all _ hz1.rf).mono ?_; rintro e w2 ⟨rfl, fx⟩; refine Hid.out ?_))
        refine Lib.hid ?_
        have hz2 := hz1.still fx
        clear hz1 fx hb1
        obtain ⟨t0, t1, t2, t3, t4, t5, f0, f1, f5⟩ := hz2.facts
        go_upto_region 36 with fail
        have g2 := hz2.setSta 2
        clear t0 t1 t2 t3 t4 t5 f0 f1 f5
        generalize w2.setCell ⟨tb, 5, none⟩ (.int .i64 2) = wq at g2 ⊢
        obtain ⟨t0, t1, t2, t3, t4, t5, f0, f1, f5⟩ := g2.facts
        obtain ⟨⟨r0, r1, r2, r3, r4, r5⟩, q0, q1, q2, q3, q4, q5⟩ := g2.rfacts
        go_wp2
        exact ⟨_, _, _, _, _, rfl, g2.fin.hR, g2.fin.fb, fun e => absurd e (by decide)⟩
      by_cases p69 : hd sp.rest = 69
      · have q46 : (hd sp.rest == 46) = false := by rw [beq_eq_false_iff_ne]; omega
        have q101 : (hd sp.rest == 101) = false := by rw [beq_eq_false_iff_ne]; omega
        have q69 : (hd sp.rest == 69) = true := by rw [beq_iff_eq]; omega
        clear p46 p101 p69
        go_wp2_with (first | (go_at_call 20; refine (rdec_false _ _ HP.out).mono ?_; rintro e w' ⟨rfl, rfl⟩) | (go_at_call 16; refine (peek_rf _ R M sv all _ hz1.rf).mono ?_; rintro e w2 ⟨rfl, fx⟩; refine Hid.out ?_))
        refine Lib.hid ?_
        have hz2 := hz1.still fx
        clear hz1 fx hb1
        obtain ⟨t0, t1, t2, t3, t4, t5, f0, f1, f5⟩ := hz2.facts
        go_upto_region 36 with fail
        have g2 := hz2.setSta 2
        clear t0 t1 t2 t3 t4 t5 f0 f1 f5
        generalize w2.setCell ⟨tb, 5, none⟩ (.int .i64 2) = wq at g2 ⊢
        obtain ⟨t0, t1, t2, t3, t4, t5, f0, f1, f5⟩ := g2.facts
        obtain ⟨⟨r0, r1, r2, r3, r4, r5⟩, q0, q1, q2, q3, q4, q5⟩ := g2.rfacts
        go_wp2
        exact ⟨_, _, _, _, _, rfl, g2.fin.hR, g2.fin.fb, fun e => absurd e (by decide)⟩
      have q46 : (hd sp.rest == 46) = false := by rw [beq_eq_false_iff_ne]; exact p46
      have q101 : (hd sp.rest == 101) = false := by rw [beq_eq_false_iff_ne]; exact p101
      have q69 : (hd sp.rest == 69) = false := by rw [beq_eq_false_iff_ne]; exact p69
      have hnum := num_digits HD.out HHX.out (by rw [HDS.out.2]; exact ⟨p46, p101, p69⟩)
      rw [HDS.out.1, HDS.out.2] at hnum
      clear p46 p101 p69
      go_wp2_with (first | (go_at_call 20; refine (rdec_false _ _ HP.out).mono ?_; rintro e w' ⟨rfl, rfl⟩) | (go_at_call 16; refine (peek_rf _ R M sv all _ hz1.rf).mono ?_; rintro e w2 ⟨rfl, fx⟩; refine Hid.out ?_))
      refine Lib.hid ?_
      have hz2 := hz1.still fx
      have hb2 := hb1.fr fx (by simp)
      clear hz1 fx hb1
      obtain ⟨g, cap, rfl⟩ := hb2.some (by simp)
      have hfar : tb < g := Nat.lt_of_lt_of_le HB.out (hb2.own g rfl)
      have HKEEP := Lib.hid (show ∀ v : Value, (w2.setCell ⟨tb, 0, none⟩ v).heap[g]? = w2.heap[g]? from fun v => Below.heap_setCell _ _ _ _ (by simp only [ne_eq]; omega))
      have hcells : ∀ j (hj : j < (by8 c :: ds).length), w2.cell? ((⟨g, 0, none⟩ : Addr).add j) = some (.int .u8 ((by8 c :: ds)[j].toNat : Int)) := fun j hj => hb2.cells j _ (by unfold Lib.byteCells; rw [List.getElem?_map, List.getElem?_eq_getElem hj]; rfl)
      have hc0 : w2.cell? ⟨g, 0, none⟩ = some (.int .u8 ((by8 c).toNat : Int)) := hcells 0 (by simp)
      have hcapn : (by8 c :: ds).length ≤ cap := by
        rcases hb2.2 with ⟨h0, -⟩ | ⟨g', cap', cur, e1, -, -, e4, -⟩
        · cases h0
        · cases e1; exact e4
      obtain ⟨x0, hx0⟩ : ∃ x0 : Int, x0 = ((by8 c).toNat : Int) := ⟨_, rfl⟩
      rw [← hx0] at hc0
      obtain ⟨n, hn⟩ : ∃ n, n = (by8 c :: ds).length := ⟨_, rfl⟩
      rw [← hn] at hcapn ⊢
      have hdl : ds.length ≤ 1099511627776 := by have := HLM.out; have := HDS.out.1; have h8 := run_len decI st; rw [this] at h8; have := HST.out; omega
      have hn1 : n = ds.length + 1 := by rw [hn]; simp
      have hn0 : (0 : Int) < (n : Int) := by omega
      have hnn : 0 < n := by omega
      have hni : (n : Int) ≤ 1099511627777 := by omega
      have hxc : x0 = c % 256 := by rw [hx0]; exact by8_toNat c
      have hdc : (48 : Int) ≤ c ∧ c ≤ 57 := by
        have := HD.out
        unfold decI at this
        simp only [Bool.and_eq_true, decide_eq_true_eq] at this
        exact this
      have hcap0 : 0 < cap := by omega
      have hc1 : 1 ≤ cap := by omega
      have hn2 : 1 ≤ n := by omega
      have h48 := beq_iff_eq.1 e48
      have z48 : (x0 == 48) = true := by rw [beq_iff_eq]; omega
      by_cases hdnil : ds = []
      · rw [if_neg (fun e => e.2 hdnil)] at hnum
        have HNUM := Lib.hid hnum
        have hl0 : ds.length = 0 := by rw [hdnil]; rfl
        have d2 : decide (2 ≤ (n : Int)) = false := by rw [decide_eq_false_iff_not]; omega
        have htx : ∀ wz : World, wz.heap[g]? = w2.heap[g]? → (convert 22 9 (.slice (some ⟨g, 0, none⟩) n cap)).run Tryz.prog wz = .ok (.string ⟨(by8 c :: ds).toArray⟩) wz := fun wz hwz => by
          rw [hn]
          exact run_convert_bytes_back wz _ _ _ ⟨g, 0, none⟩ cap (by8 c :: ds) Tryz.underlying22 Tryz.underlying5 Tryz.underlying9 (fun j hj => (World.cell?_of_block (w := w2) (a := (⟨g, 0, none⟩ : Addr).add j) (by rw [block_add']; exact hwz)).trans (hcells j hj))
        clear hnum hcells hx0 hn hn1 hxc hdc hdl hb2 hfar h48 hdnil hl0
        obtain ⟨S, hS⟩ : ∃ S : ByteArray, S = ⟨(by8 c :: ds).toArray⟩ := ⟨_, rfl⟩
        rw [← hS] at htx
        have HS := Lib.hid hS
        clear hS
        obtain ⟨t0, t1, t2, t3, t4, t5, f0, f1, f5⟩ := hz2.facts
        go_upto_region 40 with fail
        have g1 := hz2.setTyp 57376
        have htx2 := htx (w2.setCell ⟨tb, 0, none⟩ (.int .i64 57376)) (HKEEP.out _)
        clear t0 t1 t2 t3 t4 t5 f0 f1 f5 htx hz2
        generalize w2.setCell ⟨tb, 0, none⟩ (.int .i64 57376) = w3 at g1 htx2 ⊢
        obtain ⟨t0, t1, t2, t3, t4, t5, f0, f1, f5⟩ := g1.facts
        go_upto_region 41 with fail
        have g2 := g1.setStr S
        clear t0 t1 t2 t3 t4 t5 f0 f1 f5 htx2 g1
        generalize w3.setCell ⟨tb, 1, none⟩ (.string S) = w4 at g2 ⊢
        obtain ⟨t0, t1, t2, t3, t4, t5, f0, f1, f5⟩ := g2.facts
        obtain ⟨⟨r0, r1, r2, r3, r4, r5⟩, q0, q1, q2, q3, q4, q5⟩ := g2.rfacts
        go_wp2
        refine ⟨_, _, _, _, _, rfl, g2.fin.hR, g2.fin.fb, fun _ => ⟨?_, rfl, ?_, ?_⟩⟩
        · show (num c st).1 = true
          rw [HNUM.out]
        · show S = ⟨(num c st).2.1.toArray⟩
          rw [HNUM.out, HS.out]
        · show Rf _ R M sv all (num c st).2.2
          rw [HNUM.out]; exact g2.fin.rf
      · rw [if_pos ⟨h48, hdnil⟩] at hnum
        have HNUM := Lib.hid hnum
        have hl1 : 1 ≤ ds.length := by
          cases ds with
          | nil => exact absurd rfl hdnil
          | cons d0 dr => simp
        have d2 : decide (2 ≤ (n : Int)) = true := by rw [decide_eq_true_eq]; omega
        have c2 : 2 ≤ cap := by omega
        have c3 : ¬ cap ≤ 1 := by omega
        have c4 : cap - 1 ≠ 0 := by omega
        have c5 : (cap == 1) = false := by rw [beq_eq_false_iff_ne]; omega
        have c6 : (1 == cap) = false := by rw [beq_eq_false_iff_ne]; omega
        have c7 : ¬ cap = 1 := by omega
        have c8 : ¬ 1 = cap := by omega
        have htx : ∀ wz : World, wz.heap[g]? = w2.heap[g]? → (convert 22 9 (.slice (some ⟨g, 1, none⟩) (n - 1) (cap - 1))).run Tryz.prog wz = .ok (.string ⟨ds.toArray⟩) wz := fun wz hwz => by
          rw [show n - 1 = ds.length by omega]
          exact run_convert_bytes_back wz _ _ _ ⟨g, 1, none⟩ (cap - 1) ds Tryz.underlying22 Tryz.underlying5 Tryz.underlying9 (fun j hj => (World.cell?_of_block (w := w2) (a := (⟨g, 1, none⟩ : Addr).add j) (by rw [block_add']; exact hwz)).trans (by
            have := hcells (j + 1) (by simp; omega)
            rw [Lib.addr_add] at this ⊢
            rw [show 1 + j = 0 + (j + 1) by omega]
            simpa using this))
        clear hnum hcells hx0 hn hn1 hxc hdc hdl hb2 hfar h48 hdnil hl1
        obtain ⟨S, hS⟩ : ∃ S : ByteArray, S = ⟨ds.toArray⟩ := ⟨_, rfl⟩
        rw [← hS] at htx
        have HS := Lib.hid hS
        clear hS
        obtain ⟨t0, t1, t2, t3, t4, t5, f0, f1, f5⟩ := hz2.facts
        go_upto_region 40 with fail
        have g1 := hz2.setTyp 57376
        have htx2 := htx (w2.setCell ⟨tb, 0, none⟩ (.int .i64 57376)) (HKEEP.out _)
        clear t0 t1 t2 t3 t4 t5 f0 f1 f5 htx hz2
        generalize w2.setCell ⟨tb, 0, none⟩ (.int .i64 57376) = w3 at g1 htx2 ⊢
        obtain ⟨t0, t1, t2, t3, t4, t5, f0, f1, f5⟩ := g1.facts
        go_upto_region 41 with fail
        have g2 := g1.setStr S
        clear t0 t1 t2 t3 t4 t5 f0 f1 f5 htx2 g1
        generalize w3.setCell ⟨tb, 1, none⟩ (.string S) = w4 at g2 ⊢
        obtain ⟨t0, t1, t2, t3, t4, t5, f0, f1, f5⟩ := g2.facts
        obtain ⟨⟨r0, r1, r2, r3, r4, r5⟩, q0, q1, q2, q3, q4, q5⟩ := g2.rfacts
        go_wp2
        refine ⟨_, _, _, _, _, rfl, g2.fin.hR, g2.fin.fb, fun _ => ⟨?_, rfl, ?_, ?_⟩⟩
        · show (num c st).1 = true
          rw [HNUM.out]
        · show S = ⟨(num c st).2.1.toArray⟩
          rw [HNUM.out, HS.out]
        · show Rf _ R M sv all (num c st).2.2
          rw [HNUM.out]; exact g2.fin.rf

    · obtain ⟨x, n1, n2, n3, n4⟩ := cls_step cls_dec hp
      have HP := Lib.hid hp
      have HXX := Lib.hid (show sp.nextC % 256 = (x.toNat : Int) by rw [n1]; have := x.toNat_lt; omega)
      have HN := Lib.hid (And.intro (show (ds ++ [x]) ++ sp.nextS.run decI = st.run decI by rw [← h1, n2, List.append_assoc]; rfl) (And.intro (n3.symm.trans h2) (And.intro n4 (show (ds ++ [x]).length + sp.nextS.rest.length ≤ st.rest.length by rw [List.length_append]; simp only [List.length_cons, List.length_nil]; omega))))
      clear hp h1 h2 h3 n1 n2 n3 n4
      go_wp2_with (go_at_call 16; refine (peek_rf _ R M sv all _ hz.rf).mono ?_; rintro e w1 ⟨rfl, fx⟩; refine Hid.out ?_)
      refine Lib.hid ?_
      have hz1 := hz.still fx
      have hb1 := hb.fr fx (by simp)
      have HLE1 := Lib.hid (Nat.le_trans HLE0.out fx.size)
      clear hz hb fx
      go_wp2_with (first | (go_at_call 20; refine (rdec_true _ _ HP.out).mono ?_; rintro e w' ⟨rfl, rfl⟩) | (go_at_call 15; refine (next_rf _ R M sv all _ hz1.rf).mono ?_; rintro e w2 ⟨rfl, rx, fx⟩; refine Hid.out ?_))
      refine Lib.hid ?_
      have hz2 := hz1.step rx fx
      have hb2 := hb1.fr fx (by simpa using HRB.out)
      have HLE := Nat.le_trans HLE1.out fx.size
      clear hz1 hb1 rx fx
      go_wp2_with (at_builtin; refine wpList_app1 rfl (.tmp 118) (.tmp 122) rfl _ B _ (by8 c :: ds) _ x rfl rfl hb2 HXX HLE HLM ?_; intro v9 w9 hb9 hl9; refine Hid.out ?_)
      refine Lib.hid ?_
      have H9 := Lib.hid (And.intro (hz2.low HB.out hl9) (And.intro hb9 (Nat.le_trans HLE hl9.size)))
      clear hz2 hb2 HLE hb9 hl9
      go_wp2
      go_roundg sp.nextS.rest.length
      case measure => have h8 := HN.out.2.2.1; have h9 := HG.out; omega
      case rel => exact ⟨sp.nextS, ds ++ [x], Nat.le_refl _, H9.out.1, H9.out.2.1, H9.out.2.2, HN.out.1, HN.out.2.1, HN.out.2.2.2⟩


set_option maxRecDepth 1000000 in
set_option maxHeartbeats 16000000 in
theorem zq_34 {W0 w : World} {R M rb tb : Nat} {sv : Value} {all : List UInt8} {st : St} {line col : Int} {nl : Bool} {Q : Exit → Act → World → Prop} (h : Zk W0 R M sv all rb tb w st 0 ⟨#[]⟩ line col nl 0) 
    (hQ : ∀ a w, ZRet W0 R M sv all rb line col nl (strK 34 st) a w → Q .ret a w) (u1 u6 u7 u8 u9 u10 u11 u12 u13 u14 u15 u16 u17 u18 u19 u20 u21 u22 u23 u24 u25 u26 u27 u28 u29 u30 u31 u32 u33 u34 u35 u36 u37 u38 u39 u40 u41 u42 u43 u44 u45 u46 u47 u48 u49 u50 u51 u52 u53 u54 u55 u56 u57 u58 u59 u60 u61 u62 u63 u64 u65 u66 u67 u68 u69 u70 u71 u72 u73 u74 u75 u76 u77 u78 u79 u80 u81 u82 u83 u84 u85 u86 u87 u88 u89 u90 u91 u92 u93 u94 u95 u96 u97 u98 u99 u100 u101 u102 u103 u104 u105 u106 u107 u108 u109 u110 u111 u112 u113 u114 u115 u116 u117 u118 u119 u120 u121 u122 u123 u124 u125 u126 u127 u128 u129 u130 u131 u132 u133 u134 u135 u136 u137 u138 u139 u140 u141 u142 u143 u144 u145 u146 u147 u148 u149 u150 u151 u152 u153 u154 u155 u156 u157 u158 u159 u160 u161 u162 u163 u164 u165 u166 u167 u168 u169 u170 u171 u172 u173 u174 u175 u176 u177 u178 u179 u180 u181 u182 u183 u184 u185 u186 u187 u188 u189 u190 u191 u192 u193 u194 u195 u196 u197 u198 u199 u200 u201 u202 u203 u204 u205 u206 u207 u208 u209 u210 u211 u212 u213 u214 u215 u216 u217 u218 u219 u220 u221 u222 u223 u224 u225 u226 u227 u228 u229 u230 u231 u232 u233 u234 u235 u236 u237 u238 u239 u240 u241 u242 u243 u244 u245 u246 u247 u248 u249 u250 u251 u252 u253 u254 u255 u256 u257 u258 u259 u260 u261 u262 u263 u264 u265 u266 u267 u268 u269 u270 u271 u272 u273 u274 u275 u276 u277 u278 u279 u280 u281 u282 u283 u284 u285 u286 u287 u288 u289 u290 u291 u292 u293 u294 u295 u296 u297 u298 u299 u300 u301 u302 u303 u304 : Value) : Code.wp Tryz.prog zM Q ⟨#[Value.pointer (some ⟨R, 0, none⟩), u1, Value.pointer (some ⟨rb, 0, none⟩), Value.bool nl, Value.int .i64 (34), Value.pointer (some ⟨tb, 0, none⟩), u6, u7, u8, u9, u10, u11, u12, u13, u14, u15, u16, u17, u18, u19, u20, u21, u22, u23, u24, u25, u26, u27, u28, u29, u30, u31, u32, u33, u34, u35, u36, u37, u38, u39, u40, u41, u42, u43, u44, u45, u46, u47, u48, u49, u50, u51, u52, u53, u54, u55, u56, u57, u58, u59, u60, u61, u62, u63, u64, u65, u66, u67, u68, u69, u70, u71, u72, u73, u74, u75, u76, u77, u78, u79, u80, u81, u82, u83, u84, u85, u86, u87, u88, u89, u90, u91, u92, u93, u94, u95, u96, u97, u98, u99, u100, u101, u102, u103, u104, u105, u106, u107, u108, u109, u110, u111, u112, u113, u114, u115, u116, u117, u118, u119, u120, u121, u122, u123, u124, u125, u126, u127, u128, u129, u130, u131, u132, u133, u134, u135, u136, u137, u138, u139, u140, u141, u142, u143, u144, u145, u146, u147, u148, u149, u150, u151, u152, u153, u154, u155, u156, u157, u158, u159, u160, u161, u162, u163, u164, u165, u166, u167, u168, u169, u170, u171, u172, u173, u174, u175, u176, u177, u178, u179, u180, u181, u182, u183, u184, u185, u186, u187, u188, u189, u190, u191, u192, u193, u194, u195, u196, u197, u198, u199, u200, u201, u202, u203, u204, u205, u206, u207, u208, u209, u210, u211, u212, u213, u214, u215, u216, u217, u218, u219, u220, u221, u222, u223, u224, u225, u226, u227, u228, u229, u230, u231, u232, u233, u234, u235, u236, u237, u238, u239, u240, u241, u242, u243, u244, u245, u246, u247, u248, u249, u250, u251, u252, u253, u254, u255, u256, u257, u258, u259, u260, u261, u262, u263, u264, u265, u266, u267, u268, u269, u270, u271, u272, u273, u274, u275, u276, u277, u278, u279, u280, u281, u282, u283, u284, u285, u286, u287, u288, u289, u290, u291, u292, u293, u294, u295, u296, u297, u298, u299, u300, u301, u302, u303, u304], []⟩ w := by
  conv => arg 2; whnf
  have HI := Lib.hid (show identS (34) = false by decide)
  have HD := Lib.hid (show decI (34) = false by decide)
  have HST := Lib.hid h.rf.bd.2
  go_upto_region 43 with (first | (go_at_call 17; refine (rstart_false _ _ HI.out).mono ?_; rintro e w' ⟨rfl, rfl⟩) | (go_at_call 20; refine (rdec_false _ _ HD.out).mono ?_; rintro e w' ⟨rfl, rfl⟩))
  have k0 := Zu.start h
  clear h
  obtain ⟨ub, hub⟩ : ∃ ub, ub = w.heap.size := ⟨_, rfl⟩
  rw [← hub] at k0 ⊢
  generalize w.alloc (.cells #[.int .i64 0, .string ⟨#[]⟩, .int .i64 0, .int .i64 0, .bool false, .int .i64 0] 31) = x0 at k0 ⊢
  clear hub
  go_upto_region 66 with fail
  have hb0 : Bs (x0.alloc (.cells #[] 5)) x0.heap.size (.slice (some ⟨x0.heap.size, 0, none⟩) 0 0) [] :=
    ⟨rfl, Or.inr ⟨x0.heap.size, 0, #[], rfl, Nat.le_refl _, heap_alloc_new x0 _, Nat.le_refl _, by decide, rfl, rfl⟩⟩
  obtain ⟨B, hB⟩ : ∃ B, B = x0.heap.size := ⟨_, rfl⟩
  have HB := Lib.hid (show ub < B by rw [hB]; exact k0.hU.lt)
  have HLE0 := Lib.hid (show B ≤ (x0.alloc (.cells #[] 5)).heap.size by rw [hB, size_alloc]; omega)
  have k1 := k0.still ((Fr.refl _ x0).alloc (.cells #[] 5))
  rw [← hB] at hb0 ⊢
  clear k0 hB
  generalize x0.alloc (.cells #[] 5) = x1 at k1 hb0 HLE0 ⊢
  have HRB := Lib.hid (show R < B by have := k1.zk.rn; have := k1.zk.rt; have := k1.zk.lR; have := k1.tu; have := HB.out; omega)
  go_wp2_with (go_at_call 15; refine (next_rf _ R M sv all _ k1.zk.rf).mono ?_; rintro e x2 ⟨rfl, rx, fx⟩; refine Hid.out ?_)
  refine Lib.hid ?_
  have HK := Lib.hid (And.intro (k1.step rx fx) (And.intro (hb0.fr fx (by simpa using HRB.out)) (Nat.le_trans HLE0.out fx.size)))
  clear k1 hb0 rx fx HLE0
  go_wp2
  go_loopg [11, 12] st.rest.length (fun n sw cv wr => ∃ (sp : St) (ds : List UInt8), sp.rest.length ≤ n ∧ cv = .int .i64 sp.nextC ∧ Zu W0 R M sv all rb tb ub wr sp.nextS line col nl 0 ⟨#[]⟩ ∧ Bs wr B sw ds ∧ B ≤ wr.heap.size ∧ strL 34 sp.nextC sp.nextS ds = strL 34 st.nextC st.nextS [] ∧ ds.length + sp.rest.length ≤ st.rest.length)
  case atStart => exact ⟨st, [], Nat.le_refl _, rfl, HK.out.1, HK.out.2.1, HK.out.2.2, rfl, by simp⟩
  case round =>
    clear HK
    obtain ⟨sp, ds, hg, rfl, hz, hb, hle, hs, hl⟩ := hrel
    have hcr := sp.nextC_cr
    have hlo := sp.nextC_lo
    have hhi := sp.nextC_hi
    have HG := Lib.hid (And.intro hg (And.intro hs hl))
    have HLM := Lib.hid (show ds.length + 1 ≤ 140737488355328 by have := HST.out; omega)
    obtain ⟨cc, hcc⟩ : ∃ cc, cc = sp.nextC := ⟨_, rfl⟩
    have HCC := Lib.hid hcc
    rw [← hcc] at hs hcr hlo hhi ⊢
    by_cases hq : cc = 34
    · have HE := Lib.hid (show strL 34 st.nextC st.nextS [] = (true, ds, sp.nextS) by rw [← hs, hq, strL_close])
      obtain ⟨n1, n2⟩ : (cc == 34) = true ∧ (cc != 34) = false := ⟨by rw [beq_iff_eq]; exact hq, by rw [bne_eq_false_iff_eq]; exact hq⟩
      have htx := hb.text
      obtain ⟨S, hS⟩ : ∃ S : ByteArray, S = ⟨ds.toArray⟩ := ⟨_, rfl⟩
      rw [← hS] at htx
      have HS := Lib.hid hS
      clear hg hs hl hcr hlo hhi hq hb hle hcc hS
      obtain ⟨⟨a0, a1, a2, a3, a4, a5⟩, b0, b1, b2, b3, b4, b5⟩ := hz.facts
      go_upto_region 120 with fail
      have g1 := hz.put (57377) S
      clear a0 a1 a2 a3 a4 a5 b0 b1 b2 b3 b4 b5 hz
      unfold zput at g1
      generalize ((((((wr.setCell ⟨ub, 0, none⟩ (.int .i64 57377)).setCell ⟨ub, 1, none⟩ (.string S)).setCell ⟨ub, 2, none⟩ (.int .i64 0)).setCell ⟨ub, 3, none⟩ (.int .i64 0)).setCell ⟨ub, 4, none⟩ (.bool false)).setCell ⟨ub, 5, none⟩ (.int .i64 0)) = wp at g1 ⊢
      obtain ⟨⟨a0, a1, -⟩, -⟩ := g1.facts
      obtain ⟨t0, t1, t2, t3, t4, t5, f0, f1, f5⟩ := g1.zk.facts
      go_upto_region 122 with fail
      have g2 := (g1.zk.setTyp (57377)).setStr S
      clear a0 a1 t0 t1 t2 t3 t4 t5 f0 f1 f5 g1
      generalize (wp.setCell ⟨tb, 0, none⟩ (.int .i64 (57377))).setCell ⟨tb, 1, none⟩ (.string S) = wq at g2 ⊢
      obtain ⟨t0, t1, t2, t3, t4, t5, f0, f1, f5⟩ := g2.facts
      obtain ⟨⟨r0, r1, r2, r3, r4, r5⟩, q0, q1, q2, q3, q4, q5⟩ := g2.rfacts
      go_wp2
      refine ⟨_, _, _, _, _, rfl, g2.fin.hR, g2.fin.fb, fun _ => ⟨?_, rfl, ?_, ?_⟩⟩
      · show (strL 34 st.nextC st.nextS []).1 = true
        rw [HE.out]
      · show S = ⟨(strL 34 st.nextC st.nextS []).2.1.toArray⟩
        rw [HE.out, HS.out]
      · show Rf _ R M sv all (strL 34 st.nextC st.nextS []).2.2
        rw [HE.out]; exact g2.fin.rf
    by_cases h10 : cc = 10
    · obtain ⟨n1, n2⟩ : (cc == 34) = false ∧ (cc != 34) = true := ⟨by rw [beq_eq_false_iff_ne]; exact hq, by rw [bne_iff_ne]; exact hq⟩
      obtain ⟨m1, m2⟩ := b_yes h10
      clear h10
      clear hg hs hl hcr hlo hhi hq hb hle hcc HG HLM HCC 
      have hk := hz.zk
      clear hz
      obtain ⟨t0, t1, t2, t3, t4, t5, f0, f1, f5⟩ := hk.facts
      go_upto_region 70 with fail
      have g2 := hk.setSta 1
      clear t0 t1 t2 t3 t4 t5 f0 f1 f5
      generalize wr.setCell ⟨tb, 5, none⟩ (.int .i64 1) = wq at g2 ⊢
      obtain ⟨t0, t1, t2, t3, t4, t5, f0, f1, f5⟩ := g2.facts
      obtain ⟨⟨r0, r1, r2, r3, r4, r5⟩, q0, q1, q2, q3, q4, q5⟩ := g2.rfacts
      go_wp2
      exact ⟨_, _, _, _, _, rfl, g2.fin.hR, g2.fin.fb, fun e => absurd e (by decide)⟩
    by_cases hng : cc < 0
    · obtain ⟨n1, n2⟩ : (cc == 34) = false ∧ (cc != 34) = true := ⟨by rw [beq_eq_false_iff_ne]; exact hq, by rw [bne_iff_ne]; exact hq⟩
      obtain ⟨m1, m2⟩ := b_no h10
      clear h10
      clear hg hs hl hcr hlo hhi hq hb hle hcc HG HLM HCC 
      have hk := hz.zk
      clear hz
      obtain ⟨t0, t1, t2, t3, t4, t5, f0, f1, f5⟩ := hk.facts
      go_upto_region 70 with fail
      have g2 := hk.setSta 1
      clear t0 t1 t2 t3 t4 t5 f0 f1 f5
      generalize wr.setCell ⟨tb, 5, none⟩ (.int .i64 1) = wq at g2 ⊢
      obtain ⟨t0, t1, t2, t3, t4, t5, f0, f1, f5⟩ := g2.facts
      obtain ⟨⟨r0, r1, r2, r3, r4, r5⟩, q0, q1, q2, q3, q4, q5⟩ := g2.rfacts
      go_wp2
      exact ⟨_, _, _, _, _, rfl, g2.fin.hR, g2.fin.fb, fun e => absurd e (by decide)⟩
    by_cases h92 : cc = 92
    · obtain ⟨n1, n2⟩ : (cc == 34) = false ∧ (cc != 34) = true := ⟨by rw [beq_eq_false_iff_ne]; exact hq, by rw [bne_iff_ne]; exact hq⟩
      obtain ⟨m1, m2⟩ := b_no h10
      have m3 : decide (cc < 0) = false := by rw [decide_eq_false_iff_not]; exact hng
      obtain ⟨m4, m5⟩ := b_yes h92
      clear h10 hng h92
      clear hg hs hl hcr hlo hhi hq hb hle hcc HG HLM HCC 
      have hk := hz.zk
      clear hz
      obtain ⟨t0, t1, t2, t3, t4, t5, f0, f1, f5⟩ := hk.facts
      go_upto_region 73 with fail
      have g2 := hk.setSta 2
      clear t0 t1 t2 t3 t4 t5 f0 f1 f5
      generalize wr.setCell ⟨tb, 5, none⟩ (.int .i64 2) = wq at g2 ⊢
      obtain ⟨t0, t1, t2, t3, t4, t5, f0, f1, f5⟩ := g2.facts
      obtain ⟨⟨r0, r1, r2, r3, r4, r5⟩, q0, q1, q2, q3, q4, q5⟩ := g2.rfacts
      go_wp2
      exact ⟨_, _, _, _, _, rfl, g2.fin.hR, g2.fin.fb, fun e => absurd e (by decide)⟩
    obtain ⟨n1, n2⟩ : (cc == 34) = false ∧ (cc != 34) = true := ⟨by rw [beq_eq_false_iff_ne]; exact hq, by rw [bne_iff_ne]; exact hq⟩
    obtain ⟨m1, m2⟩ := b_no h10
    have m3 : decide (cc < 0) = false := by rw [decide_eq_false_iff_not]; exact hng
    obtain ⟨m4, m5⟩ := b_no h92
    have hne : sp.rest ≠ [] := fun e => hng (by rw [hcc]; exact St.nextC_neg.2 e)
    have hstr := hs
    rw [strL_byte hq (by omega) h92] at hstr
    obtain ⟨x, hx⟩ : ∃ x : UInt8, (x.toNat : Int) = cc := ⟨by8 cc, by rw [by8_toNat]; omega⟩
    have hbx : by8 cc = x := by rw [← hx]; exact by8_u8 x
    rw [hbx] at hstr
    have HXX := Lib.hid (show cc % 256 = (x.toNat : Int) by rw [hx]; omega)
    have HN := Lib.hid (And.intro hstr (And.intro (St.nextS_len hne).1 (show (ds ++ [x]).length + sp.nextS.rest.length ≤ st.rest.length by have := (St.nextS_len hne).1; rw [List.length_append]; simp only [List.length_cons, List.length_nil]; omega)))
    have HLE := hle
    clear hg hs hl hcr hlo hhi hq h10 hng h92 hcc hne hstr hx hbx hle
    go_wp2_with (at_builtin; refine wpList_app1 rfl (.tmp 199) (.tmp 202) rfl _ B _ ds _ x rfl rfl hb HXX HLE HLM ?_; intro v9 w9 hb9 hl9; refine Hid.out ?_)
    refine Lib.hid ?_
    have hz9 := hz.low HB.out hl9
    have HLE9 := Nat.le_trans HLE hl9.size
    clear hz hb HLE hl9
    go_wp2_with (go_at_call 15; refine (next_rf _ R M sv all _ hz9.zk.rf).mono ?_; rintro e w8 ⟨rfl, rx, fx⟩; refine Hid.out ?_)
    refine Lib.hid ?_
    have H9 := Lib.hid (And.intro (hz9.step rx fx) (And.intro (hb9.fr fx (by simpa using HRB.out)) (Nat.le_trans HLE9 fx.size)))
    clear hz9 hb9 HLE9 rx fx
    go_wp2
    go_roundg sp.nextS.rest.length
    case measure => have h8 := HN.out.2.1; have h9 := HG.out.1; omega
    case rel => exact ⟨sp.nextS, ds ++ [x], Nat.le_refl _, rfl, H9.out.1, H9.out.2.1, H9.out.2.2, HN.out.1, HN.out.2.2⟩


set_option maxRecDepth 1000000 in
set_option maxHeartbeats 16000000 in
theorem zq_39 {W0 w : World} {R M rb tb : Nat} {sv : Value} {all : List UInt8} {st : St} {line col : Int} {nl : Bool} {Q : Exit → Act → World → Prop} (h : Zk W0 R M sv all rb tb w st 0 ⟨#[]⟩ line col nl 0) 
    (hQ : ∀ a w, ZRet W0 R M sv all rb line col nl (strK 39 st) a w → Q .ret a w) (u1 u6 u7 u8 u9 u10 u11 u12 u13 u14 u15 u16 u17 u18 u19 u20 u21 u22 u23 u24 u25 u26 u27 u28 u29 u30 u31 u32 u33 u34 u35 u36 u37 u38 u39 u40 u41 u42 u43 u44 u45 u46 u47 u48 u49 u50 u51 u52 u53 u54 u55 u56 u57 u58 u59 u60 u61 u62 u63 u64 u65 u66 u67 u68 u69 u70 u71 u72 u73 u74 u75 u76 u77 u78 u79 u80 u81 u82 u83 u84 u85 u86 u87 u88 u89 u90 u91 u92 u93 u94 u95 u96 u97 u98 u99 u100 u101 u102 u103 u104 u105 u106 u107 u108 u109 u110 u111 u112 u113 u114 u115 u116 u117 u118 u119 u120 u121 u122 u123 u124 u125 u126 u127 u128 u129 u130 u131 u132 u133 u134 u135 u136 u137 u138 u139 u140 u141 u142 u143 u144 u145 u146 u147 u148 u149 u150 u151 u152 u153 u154 u155 u156 u157 u158 u159 u160 u161 u162 u163 u164 u165 u166 u167 u168 u169 u170 u171 u172 u173 u174 u175 u176 u177 u178 u179 u180 u181 u182 u183 u184 u185 u186 u187 u188 u189 u190 u191 u192 u193 u194 u195 u196 u197 u198 u199 u200 u201 u202 u203 u204 u205 u206 u207 u208 u209 u210 u211 u212 u213 u214 u215 u216 u217 u218 u219 u220 u221 u222 u223 u224 u225 u226 u227 u228 u229 u230 u231 u232 u233 u234 u235 u236 u237 u238 u239 u240 u241 u242 u243 u244 u245 u246 u247 u248 u249 u250 u251 u252 u253 u254 u255 u256 u257 u258 u259 u260 u261 u262 u263 u264 u265 u266 u267 u268 u269 u270 u271 u272 u273 u274 u275 u276 u277 u278 u279 u280 u281 u282 u283 u284 u285 u286 u287 u288 u289 u290 u291 u292 u293 u294 u295 u296 u297 u298 u299 u300 u301 u302 u303 u304 : Value) : Code.wp Tryz.prog zM Q ⟨#[Value.pointer (some ⟨R, 0, none⟩), u1, Value.pointer (some ⟨rb, 0, none⟩), Value.bool nl, Value.int .i64 (39), Value.pointer (some ⟨tb, 0, none⟩), u6, u7, u8, u9, u10, u11, u12, u13, u14, u15, u16, u17, u18, u19, u20, u21, u22, u23, u24, u25, u26, u27, u28, u29, u30, u31, u32, u33, u34, u35, u36, u37, u38, u39, u40, u41, u42, u43, u44, u45, u46, u47, u48, u49, u50, u51, u52, u53, u54, u55, u56, u57, u58, u59, u60, u61, u62, u63, u64, u65, u66, u67, u68, u69, u70, u71, u72, u73, u74, u75, u76, u77, u78, u79, u80, u81, u82, u83, u84, u85, u86, u87, u88, u89, u90, u91, u92, u93, u94, u95, u96, u97, u98, u99, u100, u101, u102, u103, u104, u105, u106, u107, u108, u109, u110, u111, u112, u113, u114, u115, u116, u117, u118, u119, u120, u121, u122, u123, u124, u125, u126, u127, u128, u129, u130, u131, u132, u133, u134, u135, u136, u137, u138, u139, u140, u141, u142, u143, u144, u145, u146, u147, u148, u149, u150, u151, u152, u153, u154, u155, u156, u157, u158, u159, u160, u161, u162, u163, u164, u165, u166, u167, u168, u169, u170, u171, u172, u173, u174, u175, u176, u177, u178, u179, u180, u181, u182, u183, u184, u185, u186, u187, u188, u189, u190, u191, u192, u193, u194, u195, u196, u197, u198, u199, u200, u201, u202, u203, u204, u205, u206, u207, u208, u209, u210, u211, u212, u213, u214, u215, u216, u217, u218, u219, u220, u221, u222, u223, u224, u225, u226, u227, u228, u229, u230, u231, u232, u233, u234, u235, u236, u237, u238, u239, u240, u241, u242, u243, u244, u245, u246, u247, u248, u249, u250, u251, u252, u253, u254, u255, u256, u257, u258, u259, u260, u261, u262, u263, u264, u265, u266, u267, u268, u269, u270, u271, u272, u273, u274, u275, u276, u277, u278, u279, u280, u281, u282, u283, u284, u285, u286, u287, u288, u289, u290, u291, u292, u293, u294, u295, u296, u297, u298, u299, u300, u301, u302, u303, u304], []⟩ w := by
  conv => arg 2; whnf
  have HI := Lib.hid (show identS (39) = false by decide)
  have HD := Lib.hid (show decI (39) = false by decide)
  have HST := Lib.hid h.rf.bd.2
  go_upto_region 43 with (first | (go_at_call 17; refine (rstart_false _ _ HI.out).mono ?_; rintro e w' ⟨rfl, rfl⟩) | (go_at_call 20; refine (rdec_false _ _ HD.out).mono ?_; rintro e w' ⟨rfl, rfl⟩))
  have k0 := Zu.start h
  clear h
  obtain ⟨ub, hub⟩ : ∃ ub, ub = w.heap.size := ⟨_, rfl⟩
  rw [← hub] at k0 ⊢
  generalize w.alloc (.cells #[.int .i64 0, .string ⟨#[]⟩, .int .i64 0, .int .i64 0, .bool false, .int .i64 0] 31) = x0 at k0 ⊢
  clear hub
  go_upto_region 66 with fail
  have hb0 : Bs (x0.alloc (.cells #[] 5)) x0.heap.size (.slice (some ⟨x0.heap.size, 0, none⟩) 0 0) [] :=
    ⟨rfl, Or.inr ⟨x0.heap.size, 0, #[], rfl, Nat.le_refl _, heap_alloc_new x0 _, Nat.le_refl _, by decide, rfl, rfl⟩⟩
  obtain ⟨B, hB⟩ : ∃ B, B = x0.heap.size := ⟨_, rfl⟩
  have HB := Lib.hid (show ub < B by rw [hB]; exact k0.hU.lt)
  have HLE0 := Lib.hid (show B ≤ (x0.alloc (.cells #[] 5)).heap.size by rw [hB, size_alloc]; omega)
  have k1 := k0.still ((Fr.refl _ x0).alloc (.cells #[] 5))
  rw [← hB] at hb0 ⊢
  clear k0 hB
  generalize x0.alloc (.cells #[] 5) = x1 at k1 hb0 HLE0 ⊢
  have HRB := Lib.hid (show R < B by have := k1.zk.rn; have := k1.zk.rt; have := k1.zk.lR; have := k1.tu; have := HB.out; omega)
  go_wp2_with (go_at_call 15; refine (next_rf _ R M sv all _ k1.zk.rf).mono ?_; rintro e x2 ⟨rfl, rx, fx⟩; refine Hid.out ?_)
  refine Lib.hid ?_
  have HK := Lib.hid (And.intro (k1.step rx fx) (And.intro (hb0.fr fx (by simpa using HRB.out)) (Nat.le_trans HLE0.out fx.size)))
  clear k1 hb0 rx fx HLE0
  go_wp2
  go_loopg [11, 12] st.rest.length (fun n sw cv wr => ∃ (sp : St) (ds : List UInt8), sp.rest.length ≤ n ∧ cv = .int .i64 sp.nextC ∧ Zu W0 R M sv all rb tb ub wr sp.nextS line col nl 0 ⟨#[]⟩ ∧ Bs wr B sw ds ∧ B ≤ wr.heap.size ∧ strL 39 sp.nextC sp.nextS ds = strL 39 st.nextC st.nextS [] ∧ ds.length + sp.rest.length ≤ st.rest.length)
  case atStart => exact ⟨st, [], Nat.le_refl _, rfl, HK.out.1, HK.out.2.1, HK.out.2.2, rfl, by simp⟩
  case round =>
    clear HK
    obtain ⟨sp, ds, hg, rfl, hz, hb, hle, hs, hl⟩ := hrel
    have hcr := sp.nextC_cr
    have hlo := sp.nextC_lo
    have hhi := sp.nextC_hi
    have HG := Lib.hid (And.intro hg (And.intro hs hl))
    have HLM := Lib.hid (show ds.length + 1 ≤ 140737488355328 by have := HST.out; omega)
    obtain ⟨cc, hcc⟩ : ∃ cc, cc = sp.nextC := ⟨_, rfl⟩
    have HCC := Lib.hid hcc
    rw [← hcc] at hs hcr hlo hhi ⊢
    by_cases hq : cc = 39
    · have HE := Lib.hid (show strL 39 st.nextC st.nextS [] = (true, ds, sp.nextS) by rw [← hs, hq, strL_close])
      obtain ⟨n1, n2⟩ : (cc == 39) = true ∧ (cc != 39) = false := ⟨by rw [beq_iff_eq]; exact hq, by rw [bne_eq_false_iff_eq]; exact hq⟩
      have htx := hb.text
      obtain ⟨S, hS⟩ : ∃ S : ByteArray, S = ⟨ds.toArray⟩ := ⟨_, rfl⟩
      rw [← hS] at htx
      have HS := Lib.hid hS
      clear hg hs hl hcr hlo hhi hq hb hle hcc hS
      obtain ⟨⟨a0, a1, a2, a3, a4, a5⟩, b0, b1, b2, b3, b4, b5⟩ := hz.facts
      go_upto_region 120 with fail
      have g1 := hz.put (57377) S
      clear a0 a1 a2 a3 a4 a5 b0 b1 b2 b3 b4 b5 hz
      unfold zput at g1
      generalize ((((((wr.setCell ⟨ub, 0, none⟩ (.int .i64 57377)).setCell ⟨ub, 1, none⟩ (.string S)).setCell ⟨ub, 2, none⟩ (.int .i64 0)).setCell ⟨ub, 3, none⟩ (.int .i64 0)).setCell ⟨ub, 4, none⟩ (.bool false)).setCell ⟨ub, 5, none⟩ (.int .i64 0)) = wp at g1 ⊢
      obtain ⟨⟨a0, a1, -⟩, -⟩ := g1.facts
      obtain ⟨t0, t1, t2, t3, t4, t5, f0, f1, f5⟩ := g1.zk.facts
      go_upto_region 122 with fail
      have g2 := (g1.zk.setTyp (57377)).setStr S
      clear a0 a1 t0 t1 t2 t3 t4 t5 f0 f1 f5 g1
      generalize (wp.setCell ⟨tb, 0, none⟩ (.int .i64 (57377))).setCell ⟨tb, 1, none⟩ (.string S) = wq at g2 ⊢
      obtain ⟨t0, t1, t2, t3, t4, t5, f0, f1, f5⟩ := g2.facts
      obtain ⟨⟨r0, r1, r2, r3, r4, r5⟩, q0, q1, q2, q3, q4, q5⟩ := g2.rfacts
      go_wp2
      refine ⟨_, _, _, _, _, rfl, g2.fin.hR, g2.fin.fb, fun _ => ⟨?_, rfl, ?_, ?_⟩⟩
      · show (strL 39 st.nextC st.nextS []).1 = true
        rw [HE.out]
      · show S = ⟨(strL 39 st.nextC st.nextS []).2.1.toArray⟩
        rw [HE.out, HS.out]
      · show Rf _ R M sv all (strL 39 st.nextC st.nextS []).2.2
        rw [HE.out]; exact g2.fin.rf
    by_cases h10 : cc = 10
    · obtain ⟨n1, n2⟩ : (cc == 39) = false ∧ (cc != 39) = true := ⟨by rw [beq_eq_false_iff_ne]; exact hq, by rw [bne_iff_ne]; exact hq⟩
      obtain ⟨m1, m2⟩ := b_yes h10
      clear h10
      clear hg hs hl hcr hlo hhi hq hb hle hcc HG HLM HCC 
      have hk := hz.zk
      clear hz
      obtain ⟨t0, t1, t2, t3, t4, t5, f0, f1, f5⟩ := hk.facts
      go_upto_region 70 with fail
      have g2 := hk.setSta 1
      clear t0 t1 t2 t3 t4 t5 f0 f1 f5
      generalize wr.setCell ⟨tb, 5, none⟩ (.int .i64 1) = wq at g2 ⊢
      obtain ⟨t0, t1, t2, t3, t4, t5, f0, f1, f5⟩ := g2.facts
      obtain ⟨⟨r0, r1, r2, r3, r4, r5⟩, q0, q1, q2, q3, q4, q5⟩ := g2.rfacts
      go_wp2
      exact ⟨_, _, _, _, _, rfl, g2.fin.hR, g2.fin.fb, fun e => absurd e (by decide)⟩
    by_cases hng : cc < 0
    · obtain ⟨n1, n2⟩ : (cc == 39) = false ∧ (cc != 39) = true := ⟨by rw [beq_eq_false_iff_ne]; exact hq, by rw [bne_iff_ne]; exact hq⟩
      obtain ⟨m1, m2⟩ := b_no h10
      clear h10
      clear hg hs hl hcr hlo hhi hq hb hle hcc HG HLM HCC 
      have hk := hz.zk
      clear hz
      obtain ⟨t0, t1, t2, t3, t4, t5, f0, f1, f5⟩ := hk.facts
      go_upto_region 70 with fail
      have g2 := hk.setSta 1
      clear t0 t1 t2 t3 t4 t5 f0 f1 f5
      generalize wr.setCell ⟨tb, 5, none⟩ (.int .i64 1) = wq at g2 ⊢
      obtain ⟨t0, t1, t2, t3, t4, t5, f0, f1, f5⟩ := g2.facts
      obtain ⟨⟨r0, r1, r2, r3, r4, r5⟩, q0, q1, q2, q3, q4, q5⟩ := g2.rfacts
      go_wp2
      exact ⟨_, _, _, _, _, rfl, g2.fin.hR, g2.fin.fb, fun e => absurd e (by decide)⟩
    by_cases h92 : cc = 92
    · obtain ⟨n1, n2⟩ : (cc == 39) = false ∧ (cc != 39) = true := ⟨by rw [beq_eq_false_iff_ne]; exact hq, by rw [bne_iff_ne]; exact hq⟩
      obtain ⟨m1, m2⟩ := b_no h10
      have m3 : decide (cc < 0) = false := by rw [decide_eq_false_iff_not]; exact hng
      obtain ⟨m4, m5⟩ := b_yes h92
      clear h10 hng h92
      clear hg hs hl hcr hlo hhi hq hb hle hcc HG HLM HCC 
      have hk := hz.zk
      clear hz
      obtain ⟨t0, t1, t2, t3, t4, t5, f0, f1, f5⟩ := hk.facts
      go_upto_region 73 with fail
      have g2 := hk.setSta 2
      clear t0 t1 t2 t3 t4 t5 f0 f1 f5
      generalize wr.setCell ⟨tb, 5, none⟩ (.int .i64 2) = wq at g2 ⊢
      obtain ⟨t0, t1, t2, t3, t4, t5, f0, f1, f5⟩ := g2.facts
      obtain ⟨⟨r0, r1, r2, r3, r4, r5⟩, q0, q1, q2, q3, q4, q5⟩ := g2.rfacts
      go_wp2
      exact ⟨_, _, _, _, _, rfl, g2.fin.hR, g2.fin.fb, fun e => absurd e (by decide)⟩
    obtain ⟨n1, n2⟩ : (cc == 39) = false ∧ (cc != 39) = true := ⟨by rw [beq_eq_false_iff_ne]; exact hq, by rw [bne_iff_ne]; exact hq⟩
    obtain ⟨m1, m2⟩ := b_no h10
    have m3 : decide (cc < 0) = false := by rw [decide_eq_false_iff_not]; exact hng
    obtain ⟨m4, m5⟩ := b_no h92
    have hne : sp.rest ≠ [] := fun e => hng (by rw [hcc]; exact St.nextC_neg.2 e)
    have hstr := hs
    rw [strL_byte hq (by omega) h92] at hstr
    obtain ⟨x, hx⟩ : ∃ x : UInt8, (x.toNat : Int) = cc := ⟨by8 cc, by rw [by8_toNat]; omega⟩
    have hbx : by8 cc = x := by rw [← hx]; exact by8_u8 x
    rw [hbx] at hstr
    have HXX := Lib.hid (show cc % 256 = (x.toNat : Int) by rw [hx]; omega)
    have HN := Lib.hid (And.intro hstr (And.intro (St.nextS_len hne).1 (show (ds ++ [x]).length + sp.nextS.rest.length ≤ st.rest.length by have := (St.nextS_len hne).1; rw [List.length_append]; simp only [List.length_cons, List.length_nil]; omega)))
    have HLE := hle
    clear hg hs hl hcr hlo hhi hq h10 hng h92 hcc hne hstr hx hbx hle
    go_wp2_with (at_builtin; refine wpList_app1 rfl (.tmp 199) (.tmp 202) rfl _ B _ ds _ x rfl rfl hb HXX HLE HLM ?_; intro v9 w9 hb9 hl9; refine Hid.out ?_)
    refine Lib.hid ?_
    have hz9 := hz.low HB.out hl9
    have HLE9 := Nat.le_trans HLE hl9.size
    clear hz hb HLE hl9
    go_wp2_with (go_at_call 15; refine (next_rf _ R M sv all _ hz9.zk.rf).mono ?_; rintro e w8 ⟨rfl, rx, fx⟩; refine Hid.out ?_)
    refine Lib.hid ?_
    have H9 := Lib.hid (And.intro (hz9.step rx fx) (And.intro (hb9.fr fx (by simpa using HRB.out)) (Nat.le_trans HLE9 fx.size)))
    clear hz9 hb9 HLE9 rx fx
    go_wp2
    go_roundg sp.nextS.rest.length
    case measure => have h8 := HN.out.2.1; have h9 := HG.out.1; omega
    case rel => exact ⟨sp.nextS, ds ++ [x], Nat.le_refl _, rfl, H9.out.1, H9.out.2.1, H9.out.2.2, HN.out.1, HN.out.2.2⟩


set_option maxRecDepth 1000000 in
set_option maxHeartbeats 16000000 in
theorem zm_out {W0 w : World} {R M rb tb : Nat} {sv : Value} {all : List UInt8} {st : St} {line col : Int} {nl : Bool} {Q : Exit → Act → World → Prop} (h : Zk W0 R M sv all rb tb w st 0 ⟨#[]⟩ line col nl 0) (hx : (hd st.rest == 45) = true) (hy : (hd st.nextS.rest == 91) = true) (r : Bool × Int × List UInt8 × St)
    (hQ : ∀ a w, ZRet W0 R M sv all rb line col nl r a w → Q .ret a w) (u1 u6 u7 u8 u9 u10 u11 u12 u13 u14 u15 u16 u17 u18 u19 u20 u21 u22 u23 u24 u25 u26 u27 u28 u29 u30 u31 u32 u33 u34 u35 u36 u37 u38 u39 u40 u41 u42 u43 u44 u45 u46 u47 u48 u49 u50 u51 u52 u53 u54 u55 u56 u57 u58 u59 u60 u61 u62 u63 u64 u65 u66 u67 u68 u69 u70 u71 u72 u73 u74 u75 u76 u77 u78 u79 u80 u81 u82 u83 u84 u85 u86 u87 u88 u89 u90 u91 u92 u93 u94 u95 u96 u97 u98 u99 u100 u101 u102 u103 u104 u105 u106 u107 u108 u109 u110 u111 u112 u113 u114 u115 u116 u117 u118 u119 u120 u121 u122 u123 u124 u125 u126 u127 u128 u129 u130 u131 u132 u133 u134 u135 u136 u137 u138 u139 u140 u141 u142 u143 u144 u145 u146 u147 u148 u149 u150 u151 u152 u153 u154 u155 u156 u157 u158 u159 u160 u161 u162 u163 u164 u165 u166 u167 u168 u169 u170 u171 u172 u173 u174 u175 u176 u177 u178 u179 u180 u181 u182 u183 u184 u185 u186 u187 u188 u189 u190 u191 u192 u193 u194 u195 u196 u197 u198 u199 u200 u201 u202 u203 u204 u205 u206 u207 u208 u209 u210 u211 u212 u213 u214 u215 u216 u217 u218 u219 u220 u221 u222 u223 u224 u225 u226 u227 u228 u229 u230 u231 u232 u233 u234 u235 u236 u237 u238 u239 u240 u241 u242 u243 u244 u245 u246 u247 u248 u249 u250 u251 u252 u253 u254 u255 u256 u257 u258 u259 u260 u261 u262 u263 u264 u265 u266 u267 u268 u269 u270 u271 u272 u273 u274 u275 u276 u277 u278 u279 u280 u281 u282 u283 u284 u285 u286 u287 u288 u289 u290 u291 u292 u293 u294 u295 u296 u297 u298 u299 u300 u301 u302 u303 u304 : Value) : Code.wp Tryz.prog zM Q ⟨#[Value.pointer (some ⟨R, 0, none⟩), u1, Value.pointer (some ⟨rb, 0, none⟩), Value.bool nl, Value.int .i64 (45), Value.pointer (some ⟨tb, 0, none⟩), u6, u7, u8, u9, u10, u11, u12, u13, u14, u15, u16, u17, u18, u19, u20, u21, u22, u23, u24, u25, u26, u27, u28, u29, u30, u31, u32, u33, u34, u35, u36, u37, u38, u39, u40, u41, u42, u43, u44, u45, u46, u47, u48, u49, u50, u51, u52, u53, u54, u55, u56, u57, u58, u59, u60, u61, u62, u63, u64, u65, u66, u67, u68, u69, u70, u71, u72, u73, u74, u75, u76, u77, u78, u79, u80, u81, u82, u83, u84, u85, u86, u87, u88, u89, u90, u91, u92, u93, u94, u95, u96, u97, u98, u99, u100, u101, u102, u103, u104, u105, u106, u107, u108, u109, u110, u111, u112, u113, u114, u115, u116, u117, u118, u119, u120, u121, u122, u123, u124, u125, u126, u127, u128, u129, u130, u131, u132, u133, u134, u135, u136, u137, u138, u139, u140, u141, u142, u143, u144, u145, u146, u147, u148, u149, u150, u151, u152, u153, u154, u155, u156, u157, u158, u159, u160, u161, u162, u163, u164, u165, u166, u167, u168, u169, u170, u171, u172, u173, u174, u175, u176, u177, u178, u179, u180, u181, u182, u183, u184, u185, u186, u187, u188, u189, u190, u191, u192, u193, u194, u195, u196, u197, u198, u199, u200, u201, u202, u203, u204, u205, u206, u207, u208, u209, u210, u211, u212, u213, u214, u215, u216, u217, u218, u219, u220, u221, u222, u223, u224, u225, u226, u227, u228, u229, u230, u231, u232, u233, u234, u235, u236, u237, u238, u239, u240, u241, u242, u243, u244, u245, u246, u247, u248, u249, u250, u251, u252, u253, u254, u255, u256, u257, u258, u259, u260, u261, u262, u263, u264, u265, u266, u267, u268, u269, u270, u271, u272, u273, u274, u275, u276, u277, u278, u279, u280, u281, u282, u283, u284, u285, u286, u287, u288, u289, u290, u291, u292, u293, u294, u295, u296, u297, u298, u299, u300, u301, u302, u303, u304], []⟩ w := by
  conv => arg 2; whnf
  have HI := Lib.hid (show identS (45) = false by decide)
  have HD := Lib.hid (show decI (45) = false by decide)
  go_wp2_with (go_at_call 16; refine (peek_rf _ R M sv all _ h.rf).mono ?_; rintro e w1 ⟨rfl, fx⟩; refine Hid.out ?_)
  refine Lib.hid ?_
  have h1 := h.still fx
  clear h fx
  go_wp2_with (go_at_call 15; refine (next_rf _ R M sv all _ h1.rf).mono ?_; rintro e w2 ⟨rfl, rx, fx⟩; refine Hid.out ?_)
  refine Lib.hid ?_
  have h2 := h1.step rx fx
  clear h1 rx fx
  go_wp2_with (go_at_call 16; refine (peek_rf _ R M sv all _ h2.rf).mono ?_; rintro e w3 ⟨rfl, fx⟩; refine Hid.out ?_)
  refine Lib.hid ?_
  have h3 := h2.still fx
  clear h2 fx
  obtain ⟨t0, t1, t2, t3, t4, t5, f0, f1, f5⟩ := h3.facts
  go_upto_region 15 with fail
  have g2 := h3.setSta 2
  clear t0 t1 t2 t3 t4 t5 f0 f1 f5
  generalize w3.setCell ⟨tb, 5, none⟩ (.int .i64 2) = wq at g2 ⊢
  obtain ⟨t0, t1, t2, t3, t4, t5, f0, f1, f5⟩ := g2.facts
  obtain ⟨⟨r0, r1, r2, r3, r4, r5⟩, q0, q1, q2, q3, q4, q5⟩ := g2.rfacts
  go_wp2
  exact ⟨_, _, _, _, _, rfl, g2.fin.hR, g2.fin.fb, fun e => absurd e (by decide)⟩


set_option maxRecDepth 1000000 in
set_option maxHeartbeats 16000000 in
theorem zm_line {W0 w : World} {R M rb tb : Nat} {sv : Value} {all : List UInt8} {st : St} {line col : Int} {nl : Bool} {Q : Exit → Act → World → Prop} (h : Zk W0 R M sv all rb tb w st 0 ⟨#[]⟩ line col nl 0) (hx : (hd st.rest == 45) = true) (hy : (hd st.nextS.rest == 91) = false)
    (hQ : ∀ a w, ZRet W0 R M sv all rb line col nl ((false, 0, [], st) : Bool × Int × List UInt8 × St) a w → Q .ret a w) (hC : ∀ a w, ZAgain W0 R M sv all rb (lineL st.nextS.nextC st.nextS.nextS) a w → Q (.exit 1) a w) (u1 u6 u7 u8 u9 u10 u11 u12 u13 u14 u15 u16 u17 u18 u19 u20 u21 u22 u23 u24 u25 u26 u27 u28 u29 u30 u31 u32 u33 u34 u35 u36 u37 u38 u39 u40 u41 u42 u43 u44 u45 u46 u47 u48 u49 u50 u51 u52 u53 u54 u55 u56 u57 u58 u59 u60 u61 u62 u63 u64 u65 u66 u67 u68 u69 u70 u71 u72 u73 u74 u75 u76 u77 u78 u79 u80 u81 u82 u83 u84 u85 u86 u87 u88 u89 u90 u91 u92 u93 u94 u95 u96 u97 u98 u99 u100 u101 u102 u103 u104 u105 u106 u107 u108 u109 u110 u111 u112 u113 u114 u115 u116 u117 u118 u119 u120 u121 u122 u123 u124 u125 u126 u127 u128 u129 u130 u131 u132 u133 u134 u135 u136 u137 u138 u139 u140 u141 u142 u143 u144 u145 u146 u147 u148 u149 u150 u151 u152 u153 u154 u155 u156 u157 u158 u159 u160 u161 u162 u163 u164 u165 u166 u167 u168 u169 u170 u171 u172 u173 u174 u175 u176 u177 u178 u179 u180 u181 u182 u183 u184 u185 u186 u187 u188 u189 u190 u191 u192 u193 u194 u195 u196 u197 u198 u199 u200 u201 u202 u203 u204 u205 u206 u207 u208 u209 u210 u211 u212 u213 u214 u215 u216 u217 u218 u219 u220 u221 u222 u223 u224 u225 u226 u227 u228 u229 u230 u231 u232 u233 u234 u235 u236 u237 u238 u239 u240 u241 u242 u243 u244 u245 u246 u247 u248 u249 u250 u251 u252 u253 u254 u255 u256 u257 u258 u259 u260 u261 u262 u263 u264 u265 u266 u267 u268 u269 u270 u271 u272 u273 u274 u275 u276 u277 u278 u279 u280 u281 u282 u283 u284 u285 u286 u287 u288 u289 u290 u291 u292 u293 u294 u295 u296 u297 u298 u299 u300 u301 u302 u303 u304 : Value) : Code.wp Tryz.prog zM Q ⟨#[Value.pointer (some ⟨R, 0, none⟩), u1, Value.pointer (some ⟨rb, 0, none⟩), Value.bool nl, Value.int .i64 (45), Value.pointer (some ⟨tb, 0, none⟩), u6, u7, u8, u9, u10, u11, u12, u13, u14, u15, u16, u17, u18, u19, u20, u21, u22, u23, u24, u25, u26, u27, u28, u29, u30, u31, u32, u33, u34, u35, u36, u37, u38, u39, u40, u41, u42, u43, u44, u45, u46, u47, u48, u49, u50, u51, u52, u53, u54, u55, u56, u57, u58, u59, u60, u61, u62, u63, u64, u65, u66, u67, u68, u69, u70, u71, u72, u73, u74, u75, u76, u77, u78, u79, u80, u81, u82, u83, u84, u85, u86, u87, u88, u89, u90, u91, u92, u93, u94, u95, u96, u97, u98, u99, u100, u101, u102, u103, u104, u105, u106, u107, u108, u109, u110, u111, u112, u113, u114, u115, u116, u117, u118, u119, u120, u121, u122, u123, u124, u125, u126, u127, u128, u129, u130, u131, u132, u133, u134, u135, u136, u137, u138, u139, u140, u141, u142, u143, u144, u145, u146, u147, u148, u149, u150, u151, u152, u153, u154, u155, u156, u157, u158, u159, u160, u161, u162, u163, u164, u165, u166, u167, u168, u169, u170, u171, u172, u173, u174, u175, u176, u177, u178, u179, u180, u181, u182, u183, u184, u185, u186, u187, u188, u189, u190, u191, u192, u193, u194, u195, u196, u197, u198, u199, u200, u201, u202, u203, u204, u205, u206, u207, u208, u209, u210, u211, u212, u213, u214, u215, u216, u217, u218, u219, u220, u221, u222, u223, u224, u225, u226, u227, u228, u229, u230, u231, u232, u233, u234, u235, u236, u237, u238, u239, u240, u241, u242, u243, u244, u245, u246, u247, u248, u249, u250, u251, u252, u253, u254, u255, u256, u257, u258, u259, u260, u261, u262, u263, u264, u265, u266, u267, u268, u269, u270, u271, u272, u273, u274, u275, u276, u277, u278, u279, u280, u281, u282, u283, u284, u285, u286, u287, u288, u289, u290, u291, u292, u293, u294, u295, u296, u297, u298, u299, u300, u301, u302, u303, u304], []⟩ w := by
  conv => arg 2; whnf
  have HI := Lib.hid (show identS (45) = false by decide)
  have HD := Lib.hid (show decI (45) = false by decide)
  go_wp2_with (go_at_call 16; refine (peek_rf _ R M sv all _ h.rf).mono ?_; rintro e w1 ⟨rfl, fx⟩; refine Hid.out ?_)
  refine Lib.hid ?_
  have h1 := h.still fx
  clear h fx
  go_wp2_with (go_at_call 15; refine (next_rf _ R M sv all _ h1.rf).mono ?_; rintro e w2 ⟨rfl, rx, fx⟩; refine Hid.out ?_)
  refine Lib.hid ?_
  have h2 := h1.step rx fx
  clear h1 rx fx
  go_wp2_with (go_at_call 16; refine (peek_rf _ R M sv all _ h2.rf).mono ?_; rintro e w3 ⟨rfl, fx⟩; refine Hid.out ?_)
  refine Lib.hid ?_
  have h3 := h2.still fx
  clear h2 fx
  go_wp2_with (go_at_call 15; refine (next_rf _ R M sv all _ h3.rf).mono ?_; rintro e w4 ⟨rfl, rx, fx⟩; refine Hid.out ?_)
  refine Lib.hid ?_
  have h4 := h3.step rx fx
  clear h3 rx fx
  have H4 := Lib.hid h4
  clear h4
  go_wp2
  go_loopg [6] st.nextS.rest.length (fun n cv wr => ∃ q : St, q.rest.length ≤ n ∧ cv = .int .i64 q.nextC ∧ Zk W0 R M sv all rb tb wr q.nextS 0 ⟨#[]⟩ line col nl 0 ∧ lineL q.nextC q.nextS = lineL st.nextS.nextC st.nextS.nextS)
  case atStart => exact ⟨st.nextS, Nat.le_refl _, rfl, H4.out, rfl⟩
  case round =>
    clear H4
    obtain ⟨q, hg, rfl, hz, he⟩ := hrel
    have hcr := q.nextC_cr
    have HQ := Lib.hid (And.intro hg he)
    by_cases hs : q.nextC = 10 ∨ q.nextC < 0
    · have HE := Lib.hid (show q.nextS = lineL st.nextS.nextC st.nextS.nextS by rw [← he, lineL_stop (by omega)])
      obtain ⟨cc, hcc⟩ : ∃ cc, cc = q.nextC := ⟨_, rfl⟩
      rw [← hcc] at hs ⊢
      have HZ := Lib.hid hz
      clear hg he hcr hz hcc
      rcases hs with hs | hs
      · obtain ⟨e1, e2⟩ := b_yes hs
        clear hs
        go_wp2
        refine ⟨_, _, rfl, rfl, ?_, HZ.out.hR, HZ.out.fb⟩
        have h9 := HZ.out.rf
        rw [HE.out] at h9
        exact h9
      · obtain ⟨e1, e2⟩ := b_no (show cc ≠ 10 by omega)
        have e3 : decide (0 ≤ cc) = false := by rw [decide_eq_false_iff_not]; omega
        clear hs
        go_wp2
        refine ⟨_, _, rfl, rfl, ?_, HZ.out.hR, HZ.out.fb⟩
        have h9 := HZ.out.rf
        rw [HE.out] at h9
        exact h9
    · obtain ⟨e1, e2⟩ := b_no (show q.nextC ≠ 10 by omega)
      have e3 : decide (0 ≤ q.nextC) = true := by rw [decide_eq_true_eq]; omega
      have hne : q.rest ≠ [] := fun e => hs (Or.inr (St.nextC_neg.2 e))
      have HL := Lib.hid (And.intro (St.nextS_len hne).1 ((lineL_more (c := q.nextC) (st := q.nextS) (by omega)).symm.trans he))
      obtain ⟨cc, hcc⟩ : ∃ cc, cc = q.nextC := ⟨_, rfl⟩
      rw [← hcc] at e1 e2 e3 ⊢
      clear hg he hcr hs hne hcc
      go_wp2_with (go_at_call 15; refine (next_rf _ R M sv all _ hz.rf).mono ?_; rintro e w5 ⟨rfl, rx, fx⟩; refine Hid.out ?_)
      refine Lib.hid ?_
      have hz5 := Lib.hid (hz.step rx fx)
      clear hz rx fx
      go_wp2
      go_roundg q.nextS.rest.length
      case measure => have h8 := HL.out.1; have h9 := HQ.out.1; omega
      case rel => exact ⟨q.nextS, Nat.le_refl _, rfl, hz5.out, HL.out.2⟩

end Go.Proofs.YtnmpeipccpgkpaaGreatDoor
