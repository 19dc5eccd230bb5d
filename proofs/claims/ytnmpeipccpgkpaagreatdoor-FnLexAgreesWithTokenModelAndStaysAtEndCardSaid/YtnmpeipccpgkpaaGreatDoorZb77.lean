/- The token model's scan, walked: one or two characters, errors. -/
import Derived.Test.YtnmpeipccpgkpaaGreatDoorZk77
namespace Go.Proofs.YtnmpeipccpgkpaaGreatDoor
open Go.RowKit

set_option maxRecDepth 1000000 in
set_option maxHeartbeats 16000000 in
theorem zt_61 {W0 w : World} {R M rb tb : Nat} {sv : Value} {all : List UInt8} {st : St} {line col : Int} {nl : Bool} {Q : Exit → Act → World → Prop} (h : Zk W0 R M sv all rb tb w st 0 ⟨#[]⟩ line col nl 0) (hx : (hd st.rest == 61) = true)
    (hQ : ∀ a w, ZRet W0 R M sv all rb line col nl ((true, 57368, [61, 61], st.nextS) : Bool × Int × List UInt8 × St) a w → Q .ret a w) (u1 u6 u7 u8 u9 u10 u11 u12 u13 u14 u15 u16 u17 u18 u19 u20 u21 u22 u23 u24 u25 u26 u27 u28 u29 u30 u31 u32 u33 u34 u35 u36 u37 u38 u39 u40 u41 u42 u43 u44 u45 u46 u47 u48 u49 u50 u51 u52 u53 u54 u55 u56 u57 u58 u59 u60 u61 u62 u63 u64 u65 u66 u67 u68 u69 u70 u71 u72 u73 u74 u75 u76 u77 u78 u79 u80 u81 u82 u83 u84 u85 u86 u87 u88 u89 u90 u91 u92 u93 u94 u95 u96 u97 u98 u99 u100 u101 u102 u103 u104 u105 u106 u107 u108 u109 u110 u111 u112 u113 u114 u115 u116 u117 u118 u119 u120 u121 u122 u123 u124 u125 u126 u127 u128 u129 u130 u131 u132 u133 u134 u135 u136 u137 u138 u139 u140 u141 u142 u143 u144 u145 u146 u147 u148 u149 u150 u151 u152 u153 u154 u155 u156 u157 u158 u159 u160 u161 u162 u163 u164 u165 u166 u167 u168 u169 u170 u171 u172 u173 u174 u175 u176 u177 u178 u179 u180 u181 u182 u183 u184 u185 u186 u187 u188 u189 u190 u191 u192 u193 u194 u195 u196 u197 u198 u199 u200 u201 u202 u203 u204 u205 u206 u207 u208 u209 u210 u211 u212 u213 u214 u215 u216 u217 u218 u219 u220 u221 u222 u223 u224 u225 u226 u227 u228 u229 u230 u231 u232 u233 u234 u235 u236 u237 u238 u239 u240 u241 u242 u243 u244 u245 u246 u247 u248 u249 u250 u251 u252 u253 u254 u255 u256 u257 u258 u259 u260 u261 u262 u263 u264 u265 u266 u267 u268 u269 u270 u271 u272 u273 u274 u275 u276 u277 u278 u279 u280 u281 u282 u283 u284 u285 u286 u287 u288 u289 u290 u291 u292 u293 u294 u295 u296 u297 u298 u299 u300 u301 u302 u303 u304 : Value) : Code.wp Tryz.prog zM Q ⟨#[Value.pointer (some ⟨R, 0, none⟩), u1, Value.pointer (some ⟨rb, 0, none⟩), Value.bool nl, Value.int .i64 (61), Value.pointer (some ⟨tb, 0, none⟩), u6, u7, u8, u9, u10, u11, u12, u13, u14, u15, u16, u17, u18, u19, u20, u21, u22, u23, u24, u25, u26, u27, u28, u29, u30, u31, u32, u33, u34, u35, u36, u37, u38, u39, u40, u41, u42, u43, u44, u45, u46, u47, u48, u49, u50, u51, u52, u53, u54, u55, u56, u57, u58, u59, u60, u61, u62, u63, u64, u65, u66, u67, u68, u69, u70, u71, u72, u73, u74, u75, u76, u77, u78, u79, u80, u81, u82, u83, u84, u85, u86, u87, u88, u89, u90, u91, u92, u93, u94, u95, u96, u97, u98, u99, u100, u101, u102, u103, u104, u105, u106, u107, u108, u109, u110, u111, u112, u113, u114, u115, u116, u117, u118, u119, u120, u121, u122, u123, u124, u125, u126, u127, u128, u129, u130, u131, u132, u133, u134, u135, u136, u137, u138, u139, u140, u141, u142, u143, u144, u145, u146, u147, u148, u149, u150, u151, u152, u153, u154, u155, u156, u157, u158, u159, u160, u161, u162, u163, u164, u165, u166, u167, u168, u169, u170, u171, u172, u173, u174, u175, u176, u177, u178, u179, u180, u181, u182, u183, u184, u185, u186, u187, u188, u189, u190, u191, u192, u193, u194, u195, u196, u197, u198, u199, u200, u201, u202, u203, u204, u205, u206, u207, u208, u209, u210, u211, u212, u213, u214, u215, u216, u217, u218, u219, u220, u221, u222, u223, u224, u225, u226, u227, u228, u229, u230, u231, u232, u233, u234, u235, u236, u237, u238, u239, u240, u241, u242, u243, u244, u245, u246, u247, u248, u249, u250, u251, u252, u253, u254, u255, u256, u257, u258, u259, u260, u261, u262, u263, u264, u265, u266, u267, u268, u269, u270, u271, u272, u273, u274, u275, u276, u277, u278, u279, u280, u281, u282, u283, u284, u285, u286, u287, u288, u289, u290, u291, u292, u293, u294, u295, u296, u297, u298, u299, u300, u301, u302, u303, u304], []⟩ w := by
  conv => arg 2; whnf
  have HI := Lib.hid (show identS (61) = false by decide)
  have HD := Lib.hid (show decI (61) = false by decide)
  go_upto_region 43 with (first | (go_at_call 17; refine (rstart_false _ _ HI.out).mono ?_; rintro e w' ⟨rfl, rfl⟩) | (go_at_call 20; refine (rdec_false _ _ HD.out).mono ?_; rintro e w' ⟨rfl, rfl⟩))
  have k0 := Zu.start h
  clear h
  obtain ⟨ub, hub⟩ : ∃ ub, ub = w.heap.size := ⟨_, rfl⟩
  rw [← hub] at k0 ⊢
  generalize w.alloc (.cells #[.int .i64 0, .string ⟨#[]⟩, .int .i64 0, .int .i64 0, .bool false, .int .i64 0] 31) = x0 at k0 ⊢
  clear hub
  go_wp2_with (go_at_call 16; refine (peek_rf _ R M sv all _ k0.zk.rf).mono ?_; rintro e x1 ⟨rfl, fx⟩; refine Hid.out ?_)
  refine Lib.hid ?_
  have k1 := k0.still fx
  clear k0 fx
  go_wp2_with (go_at_call 15; refine (next_rf _ R M sv all _ k1.zk.rf).mono ?_; rintro e x2 ⟨rfl, rx, fx⟩; refine Hid.out ?_)
  refine Lib.hid ?_
  have k2 := k1.step rx fx
  clear k1 rx fx
  obtain ⟨⟨a0, a1, a2, a3, a4, a5⟩, b0, b1, b2, b3, b4, b5⟩ := k2.facts
  go_upto_region 120 with fail
  have g1 := k2.put (57368) ⟨#[61, 61]⟩
  clear a0 a1 a2 a3 a4 a5 b0 b1 b2 b3 b4 b5 k2
  unfold zput at g1
  generalize ((((((x2.setCell ⟨ub, 0, none⟩ (.int .i64 57368)).setCell ⟨ub, 1, none⟩ (.string ⟨#[61, 61]⟩)).setCell ⟨ub, 2, none⟩ (.int .i64 0)).setCell ⟨ub, 3, none⟩ (.int .i64 0)).setCell ⟨ub, 4, none⟩ (.bool false)).setCell ⟨ub, 5, none⟩ (.int .i64 0)) = wp at g1 ⊢
  obtain ⟨⟨a0, a1, -⟩, -⟩ := g1.facts
  obtain ⟨t0, t1, t2, t3, t4, t5, f0, f1, f5⟩ := g1.zk.facts
  go_upto_region 122 with fail
  have g2 := (g1.zk.setTyp (57368)).setStr ⟨#[61, 61]⟩
  clear a0 a1 t0 t1 t2 t3 t4 t5 f0 f1 f5 g1
  generalize (wp.setCell ⟨tb, 0, none⟩ (.int .i64 (57368))).setCell ⟨tb, 1, none⟩ (.string ⟨#[61, 61]⟩) = wq at g2 ⊢
  obtain ⟨t0, t1, t2, t3, t4, t5, f0, f1, f5⟩ := g2.facts
  obtain ⟨⟨r0, r1, r2, r3, r4, r5⟩, q0, q1, q2, q3, q4, q5⟩ := g2.rfacts
  go_wp2
  exact ⟨_, _, _, _, _, rfl, g2.fin.hR, g2.fin.fb, fun _ => ⟨rfl, rfl, rfl, g2.fin.rf⟩⟩


set_option maxRecDepth 1000000 in
set_option maxHeartbeats 16000000 in
theorem zt_60 {W0 w : World} {R M rb tb : Nat} {sv : Value} {all : List UInt8} {st : St} {line col : Int} {nl : Bool} {Q : Exit → Act → World → Prop} (h : Zk W0 R M sv all rb tb w st 0 ⟨#[]⟩ line col nl 0) (hx : (hd st.rest == 61) = true)
    (hQ : ∀ a w, ZRet W0 R M sv all rb line col nl ((true, 57370, [60, 61], st.nextS) : Bool × Int × List UInt8 × St) a w → Q .ret a w) (u1 u6 u7 u8 u9 u10 u11 u12 u13 u14 u15 u16 u17 u18 u19 u20 u21 u22 u23 u24 u25 u26 u27 u28 u29 u30 u31 u32 u33 u34 u35 u36 u37 u38 u39 u40 u41 u42 u43 u44 u45 u46 u47 u48 u49 u50 u51 u52 u53 u54 u55 u56 u57 u58 u59 u60 u61 u62 u63 u64 u65 u66 u67 u68 u69 u70 u71 u72 u73 u74 u75 u76 u77 u78 u79 u80 u81 u82 u83 u84 u85 u86 u87 u88 u89 u90 u91 u92 u93 u94 u95 u96 u97 u98 u99 u100 u101 u102 u103 u104 u105 u106 u107 u108 u109 u110 u111 u112 u113 u114 u115 u116 u117 u118 u119 u120 u121 u122 u123 u124 u125 u126 u127 u128 u129 u130 u131 u132 u133 u134 u135 u136 u137 u138 u139 u140 u141 u142 u143 u144 u145 u146 u147 u148 u149 u150 u151 u152 u153 u154 u155 u156 u157 u158 u159 u160 u161 u162 u163 u164 u165 u166 u167 u168 u169 u170 u171 u172 u173 u174 u175 u176 u177 u178 u179 u180 u181 u182 u183 u184 u185 u186 u187 u188 u189 u190 u191 u192 u193 u194 u195 u196 u197 u198 u199 u200 u201 u202 u203 u204 u205 u206 u207 u208 u209 u210 u211 u212 u213 u214 u215 u216 u217 u218 u219 u220 u221 u222 u223 u224 u225 u226 u227 u228 u229 u230 u231 u232 u233 u234 u235 u236 u237 u238 u239 u240 u241 u242 u243 u244 u245 u246 u247 u248 u249 u250 u251 u252 u253 u254 u255 u256 u257 u258 u259 u260 u261 u262 u263 u264 u265 u266 u267 u268 u269 u270 u271 u272 u273 u274 u275 u276 u277 u278 u279 u280 u281 u282 u283 u284 u285 u286 u287 u288 u289 u290 u291 u292 u293 u294 u295 u296 u297 u298 u299 u300 u301 u302 u303 u304 : Value) : Code.wp Tryz.prog zM Q ⟨#[Value.pointer (some ⟨R, 0, none⟩), u1, Value.pointer (some ⟨rb, 0, none⟩), Value.bool nl, Value.int .i64 (60), Value.pointer (some ⟨tb, 0, none⟩), u6, u7, u8, u9, u10, u11, u12, u13, u14, u15, u16, u17, u18, u19, u20, u21, u22, u23, u24, u25, u26, u27, u28, u29, u30, u31, u32, u33, u34, u35, u36, u37, u38, u39, u40, u41, u42, u43, u44, u45, u46, u47, u48, u49, u50, u51, u52, u53, u54, u55, u56, u57, u58, u59, u60, u61, u62, u63, u64, u65, u66, u67, u68, u69, u70, u71, u72, u73, u74, u75, u76, u77, u78, u79, u80, u81, u82, u83, u84, u85, u86, u87, u88, u89, u90, u91, u92, u93, u94, u95, u96, u97, u98, u99, u100, u101, u102, u103, u104, u105, u106, u107, u108, u109, u110, u111, u112, u113, u114, u115, u116, u117, u118, u119, u120, u121, u122, u123, u124, u125, u126, u127, u128, u129, u130, u131, u132, u133, u134, u135, u136, u137, u138, u139, u140, u141, u142, u143, u144, u145, u146, u147, u148, u149, u150, u151, u152, u153, u154, u155, u156, u157, u158, u159, u160, u161, u162, u163, u164, u165, u166, u167, u168, u169, u170, u171, u172, u173, u174, u175, u176, u177, u178, u179, u180, u181, u182, u183, u184, u185, u186, u187, u188, u189, u190, u191, u192, u193, u194, u195, u196, u197, u198, u199, u200, u201, u202, u203, u204, u205, u206, u207, u208, u209, u210, u211, u212, u213, u214, u215, u216, u217, u218, u219, u220, u221, u222, u223, u224, u225, u226, u227, u228, u229, u230, u231, u232, u233, u234, u235, u236, u237, u238, u239, u240, u241, u242, u243, u244, u245, u246, u247, u248, u249, u250, u251, u252, u253, u254, u255, u256, u257, u258, u259, u260, u261, u262, u263, u264, u265, u266, u267, u268, u269, u270, u271, u272, u273, u274, u275, u276, u277, u278, u279, u280, u281, u282, u283, u284, u285, u286, u287, u288, u289, u290, u291, u292, u293, u294, u295, u296, u297, u298, u299, u300, u301, u302, u303, u304], []⟩ w := by
  conv => arg 2; whnf
  have HI := Lib.hid (show identS (60) = false by decide)
  have HD := Lib.hid (show decI (60) = false by decide)
  go_upto_region 43 with (first | (go_at_call 17; refine (rstart_false _ _ HI.out).mono ?_; rintro e w' ⟨rfl, rfl⟩) | (go_at_call 20; refine (rdec_false _ _ HD.out).mono ?_; rintro e w' ⟨rfl, rfl⟩))
  have k0 := Zu.start h
  clear h
  obtain ⟨ub, hub⟩ : ∃ ub, ub = w.heap.size := ⟨_, rfl⟩
  rw [← hub] at k0 ⊢
  generalize w.alloc (.cells #[.int .i64 0, .string ⟨#[]⟩, .int .i64 0, .int .i64 0, .bool false, .int .i64 0] 31) = x0 at k0 ⊢
  clear hub
  go_wp2_with (go_at_call 16; refine (peek_rf _ R M sv all _ k0.zk.rf).mono ?_; rintro e x1 ⟨rfl, fx⟩; refine Hid.out ?_)
  refine Lib.hid ?_
  have k1 := k0.still fx
  clear k0 fx
  go_wp2_with (go_at_call 15; refine (next_rf _ R M sv all _ k1.zk.rf).mono ?_; rintro e x2 ⟨rfl, rx, fx⟩; refine Hid.out ?_)
  refine Lib.hid ?_
  have k2 := k1.step rx fx
  clear k1 rx fx
  obtain ⟨⟨a0, a1, a2, a3, a4, a5⟩, b0, b1, b2, b3, b4, b5⟩ := k2.facts
  go_upto_region 120 with fail
  have g1 := k2.put (57370) ⟨#[60, 61]⟩
  clear a0 a1 a2 a3 a4 a5 b0 b1 b2 b3 b4 b5 k2
  unfold zput at g1
  generalize ((((((x2.setCell ⟨ub, 0, none⟩ (.int .i64 57370)).setCell ⟨ub, 1, none⟩ (.string ⟨#[60, 61]⟩)).setCell ⟨ub, 2, none⟩ (.int .i64 0)).setCell ⟨ub, 3, none⟩ (.int .i64 0)).setCell ⟨ub, 4, none⟩ (.bool false)).setCell ⟨ub, 5, none⟩ (.int .i64 0)) = wp at g1 ⊢
  obtain ⟨⟨a0, a1, -⟩, -⟩ := g1.facts
  obtain ⟨t0, t1, t2, t3, t4, t5, f0, f1, f5⟩ := g1.zk.facts
  go_upto_region 122 with fail
  have g2 := (g1.zk.setTyp (57370)).setStr ⟨#[60, 61]⟩
  clear a0 a1 t0 t1 t2 t3 t4 t5 f0 f1 f5 g1
  generalize (wp.setCell ⟨tb, 0, none⟩ (.int .i64 (57370))).setCell ⟨tb, 1, none⟩ (.string ⟨#[60, 61]⟩) = wq at g2 ⊢
  obtain ⟨t0, t1, t2, t3, t4, t5, f0, f1, f5⟩ := g2.facts
  obtain ⟨⟨r0, r1, r2, r3, r4, r5⟩, q0, q1, q2, q3, q4, q5⟩ := g2.rfacts
  go_wp2
  exact ⟨_, _, _, _, _, rfl, g2.fin.hR, g2.fin.fb, fun _ => ⟨rfl, rfl, rfl, g2.fin.rf⟩⟩


set_option maxRecDepth 1000000 in
set_option maxHeartbeats 16000000 in
theorem zt_62 {W0 w : World} {R M rb tb : Nat} {sv : Value} {all : List UInt8} {st : St} {line col : Int} {nl : Bool} {Q : Exit → Act → World → Prop} (h : Zk W0 R M sv all rb tb w st 0 ⟨#[]⟩ line col nl 0) (hx : (hd st.rest == 61) = true)
    (hQ : ∀ a w, ZRet W0 R M sv all rb line col nl ((true, 57371, [62, 61], st.nextS) : Bool × Int × List UInt8 × St) a w → Q .ret a w) (u1 u6 u7 u8 u9 u10 u11 u12 u13 u14 u15 u16 u17 u18 u19 u20 u21 u22 u23 u24 u25 u26 u27 u28 u29 u30 u31 u32 u33 u34 u35 u36 u37 u38 u39 u40 u41 u42 u43 u44 u45 u46 u47 u48 u49 u50 u51 u52 u53 u54 u55 u56 u57 u58 u59 u60 u61 u62 u63 u64 u65 u66 u67 u68 u69 u70 u71 u72 u73 u74 u75 u76 u77 u78 u79 u80 u81 u82 u83 u84 u85 u86 u87 u88 u89 u90 u91 u92 u93 u94 u95 u96 u97 u98 u99 u100 u101 u102 u103 u104 u105 u106 u107 u108 u109 u110 u111 u112 u113 u114 u115 u116 u117 u118 u119 u120 u121 u122 u123 u124 u125 u126 u127 u128 u129 u130 u131 u132 u133 u134 u135 u136 u137 u138 u139 u140 u141 u142 u143 u144 u145 u146 u147 u148 u149 u150 u151 u152 u153 u154 u155 u156 u157 u158 u159 u160 u161 u162 u163 u164 u165 u166 u167 u168 u169 u170 u171 u172 u173 u174 u175 u176 u177 u178 u179 u180 u181 u182 u183 u184 u185 u186 u187 u188 u189 u190 u191 u192 u193 u194 u195 u196 u197 u198 u199 u200 u201 u202 u203 u204 u205 u206 u207 u208 u209 u210 u211 u212 u213 u214 u215 u216 u217 u218 u219 u220 u221 u222 u223 u224 u225 u226 u227 u228 u229 u230 u231 u232 u233 u234 u235 u236 u237 u238 u239 u240 u241 u242 u243 u244 u245 u246 u247 u248 u249 u250 u251 u252 u253 u254 u255 u256 u257 u258 u259 u260 u261 u262 u263 u264 u265 u266 u267 u268 u269 u270 u271 u272 u273 u274 u275 u276 u277 u278 u279 u280 u281 u282 u283 u284 u285 u286 u287 u288 u289 u290 u291 u292 u293 u294 u295 u296 u297 u298 u299 u300 u301 u302 u303 u304 : Value) : Code.wp Tryz.prog zM Q ⟨#[Value.pointer (some ⟨R, 0, none⟩), u1, Value.pointer (some ⟨rb, 0, none⟩), Value.bool nl, Value.int .i64 (62), Value.pointer (some ⟨tb, 0, none⟩), u6, u7, u8, u9, u10, u11, u12, u13, u14, u15, u16, u17, u18, u19, u20, u21, u22, u23, u24, u25, u26, u27, u28, u29, u30, u31, u32, u33, u34, u35, u36, u37, u38, u39, u40, u41, u42, u43, u44, u45, u46, u47, u48, u49, u50, u51, u52, u53, u54, u55, u56, u57, u58, u59, u60, u61, u62, u63, u64, u65, u66, u67, u68, u69, u70, u71, u72, u73, u74, u75, u76, u77, u78, u79, u80, u81, u82, u83, u84, u85, u86, u87, u88, u89, u90, u91, u92, u93, u94, u95, u96, u97, u98, u99, u100, u101, u102, u103, u104, u105, u106, u107, u108, u109, u110, u111, u112, u113, u114, u115, u116, u117, u118, u119, u120, u121, u122, u123, u124, u125, u126, u127, u128, u129, u130, u131, u132, u133, u134, u135, u136, u137, u138, u139, u140, u141, u142, u143, u144, u145, u146, u147, u148, u149, u150, u151, u152, u153, u154, u155, u156, u157, u158, u159, u160, u161, u162, u163, u164, u165, u166, u167, u168, u169, u170, u171, u172, u173, u174, u175, u176, u177, u178, u179, u180, u181, u182, u183, u184, u185, u186, u187, u188, u189, u190, u191, u192, u193, u194, u195, u196, u197, u198, u199, u200, u201, u202, u203, u204, u205, u206, u207, u208, u209, u210, u211, u212, u213, u214, u215, u216, u217, u218, u219, u220, u221, u222, u223, u224, u225, u226, u227, u228, u229, u230, u231, u232, u233, u234, u235, u236, u237, u238, u239, u240, u241, u242, u243, u244, u245, u246, u247, u248, u249, u250, u251, u252, u253, u254, u255, u256, u257, u258, u259, u260, u261, u262, u263, u264, u265, u266, u267, u268, u269, u270, u271, u272, u273, u274, u275, u276, u277, u278, u279, u280, u281, u282, u283, u284, u285, u286, u287, u288, u289, u290, u291, u292, u293, u294, u295, u296, u297, u298, u299, u300, u301, u302, u303, u304], []⟩ w := by
  conv => arg 2; whnf
  have HI := Lib.hid (show identS (62) = false by decide)
  have HD := Lib.hid (show decI (62) = false by decide)
  go_upto_region 43 with (first | (go_at_call 17; refine (rstart_false _ _ HI.out).mono ?_; rintro e w' ⟨rfl, rfl⟩) | (go_at_call 20; refine (rdec_false _ _ HD.out).mono ?_; rintro e w' ⟨rfl, rfl⟩))
  have k0 := Zu.start h
  clear h
  obtain ⟨ub, hub⟩ : ∃ ub, ub = w.heap.size := ⟨_, rfl⟩
  rw [← hub] at k0 ⊢
  generalize w.alloc (.cells #[.int .i64 0, .string ⟨#[]⟩, .int .i64 0, .int .i64 0, .bool false, .int .i64 0] 31) = x0 at k0 ⊢
  clear hub
  go_wp2_with (go_at_call 16; refine (peek_rf _ R M sv all _ k0.zk.rf).mono ?_; rintro e x1 ⟨rfl, fx⟩; refine Hid.out ?_)
  refine Lib.hid ?_
  have k1 := k0.still fx
  clear k0 fx
  go_wp2_with (go_at_call 15; refine (next_rf _ R M sv all _ k1.zk.rf).mono ?_; rintro e x2 ⟨rfl, rx, fx⟩; refine Hid.out ?_)
  refine Lib.hid ?_
  have k2 := k1.step rx fx
  clear k1 rx fx
  obtain ⟨⟨a0, a1, a2, a3, a4, a5⟩, b0, b1, b2, b3, b4, b5⟩ := k2.facts
  go_upto_region 120 with fail
  have g1 := k2.put (57371) ⟨#[62, 61]⟩
  clear a0 a1 a2 a3 a4 a5 b0 b1 b2 b3 b4 b5 k2
  unfold zput at g1
  generalize ((((((x2.setCell ⟨ub, 0, none⟩ (.int .i64 57371)).setCell ⟨ub, 1, none⟩ (.string ⟨#[62, 61]⟩)).setCell ⟨ub, 2, none⟩ (.int .i64 0)).setCell ⟨ub, 3, none⟩ (.int .i64 0)).setCell ⟨ub, 4, none⟩ (.bool false)).setCell ⟨ub, 5, none⟩ (.int .i64 0)) = wp at g1 ⊢
  obtain ⟨⟨a0, a1, -⟩, -⟩ := g1.facts
  obtain ⟨t0, t1, t2, t3, t4, t5, f0, f1, f5⟩ := g1.zk.facts
  go_upto_region 122 with fail
  have g2 := (g1.zk.setTyp (57371)).setStr ⟨#[62, 61]⟩
  clear a0 a1 t0 t1 t2 t3 t4 t5 f0 f1 f5 g1
  generalize (wp.setCell ⟨tb, 0, none⟩ (.int .i64 (57371))).setCell ⟨tb, 1, none⟩ (.string ⟨#[62, 61]⟩) = wq at g2 ⊢
  obtain ⟨t0, t1, t2, t3, t4, t5, f0, f1, f5⟩ := g2.facts
  obtain ⟨⟨r0, r1, r2, r3, r4, r5⟩, q0, q1, q2, q3, q4, q5⟩ := g2.rfacts
  go_wp2
  exact ⟨_, _, _, _, _, rfl, g2.fin.hR, g2.fin.fb, fun _ => ⟨rfl, rfl, rfl, g2.fin.rf⟩⟩


set_option maxRecDepth 1000000 in
set_option maxHeartbeats 16000000 in
theorem zt_58 {W0 w : World} {R M rb tb : Nat} {sv : Value} {all : List UInt8} {st : St} {line col : Int} {nl : Bool} {Q : Exit → Act → World → Prop} (h : Zk W0 R M sv all rb tb w st 0 ⟨#[]⟩ line col nl 0) (hx : (hd st.rest == 58) = true)
    (hQ : ∀ a w, ZRet W0 R M sv all rb line col nl ((true, 57374, [58, 58], st.nextS) : Bool × Int × List UInt8 × St) a w → Q .ret a w) (u1 u6 u7 u8 u9 u10 u11 u12 u13 u14 u15 u16 u17 u18 u19 u20 u21 u22 u23 u24 u25 u26 u27 u28 u29 u30 u31 u32 u33 u34 u35 u36 u37 u38 u39 u40 u41 u42 u43 u44 u45 u46 u47 u48 u49 u50 u51 u52 u53 u54 u55 u56 u57 u58 u59 u60 u61 u62 u63 u64 u65 u66 u67 u68 u69 u70 u71 u72 u73 u74 u75 u76 u77 u78 u79 u80 u81 u82 u83 u84 u85 u86 u87 u88 u89 u90 u91 u92 u93 u94 u95 u96 u97 u98 u99 u100 u101 u102 u103 u104 u105 u106 u107 u108 u109 u110 u111 u112 u113 u114 u115 u116 u117 u118 u119 u120 u121 u122 u123 u124 u125 u126 u127 u128 u129 u130 u131 u132 u133 u134 u135 u136 u137 u138 u139 u140 u141 u142 u143 u144 u145 u146 u147 u148 u149 u150 u151 u152 u153 u154 u155 u156 u157 u158 u159 u160 u161 u162 u163 u164 u165 u166 u167 u168 u169 u170 u171 u172 u173 u174 u175 u176 u177 u178 u179 u180 u181 u182 u183 u184 u185 u186 u187 u188 u189 u190 u191 u192 u193 u194 u195 u196 u197 u198 u199 u200 u201 u202 u203 u204 u205 u206 u207 u208 u209 u210 u211 u212 u213 u214 u215 u216 u217 u218 u219 u220 u221 u222 u223 u224 u225 u226 u227 u228 u229 u230 u231 u232 u233 u234 u235 u236 u237 u238 u239 u240 u241 u242 u243 u244 u245 u246 u247 u248 u249 u250 u251 u252 u253 u254 u255 u256 u257 u258 u259 u260 u261 u262 u263 u264 u265 u266 u267 u268 u269 u270 u271 u272 u273 u274 u275 u276 u277 u278 u279 u280 u281 u282 u283 u284 u285 u286 u287 u288 u289 u290 u291 u292 u293 u294 u295 u296 u297 u298 u299 u300 u301 u302 u303 u304 : Value) : Code.wp Tryz.prog zM Q ⟨#[Value.pointer (some ⟨R, 0, none⟩), u1, Value.pointer (some ⟨rb, 0, none⟩), Value.bool nl, Value.int .i64 (58), Value.pointer (some ⟨tb, 0, none⟩), u6, u7, u8, u9, u10, u11, u12, u13, u14, u15, u16, u17, u18, u19, u20, u21, u22, u23, u24, u25, u26, u27, u28, u29, u30, u31, u32, u33, u34, u35, u36, u37, u38, u39, u40, u41, u42, u43, u44, u45, u46, u47, u48, u49, u50, u51, u52, u53, u54, u55, u56, u57, u58, u59, u60, u61, u62, u63, u64, u65, u66, u67, u68, u69, u70, u71, u72, u73, u74, u75, u76, u77, u78, u79, u80, u81, u82, u83, u84, u85, u86, u87, u88, u89, u90, u91, u92, u93, u94, u95, u96, u97, u98, u99, u100, u101, u102, u103, u104, u105, u106, u107, u108, u109, u110, u111, u112, u113, u114, u115, u116, u117, u118, u119, u120, u121, u122, u123, u124, u125, u126, u127, u128, u129, u130, u131, u132, u133, u134, u135, u136, u137, u138, u139, u140, u141, u142, u143, u144, u145, u146, u147, u148, u149, u150, u151, u152, u153, u154, u155, u156, u157, u158, u159, u160, u161, u162, u163, u164, u165, u166, u167, u168, u169, u170, u171, u172, u173, u174, u175, u176, u177, u178, u179, u180, u181, u182, u183, u184, u185, u186, u187, u188, u189, u190, u191, u192, u193, u194, u195, u196, u197, u198, u199, u200, u201, u202, u203, u204, u205, u206, u207, u208, u209, u210, u211, u212, u213, u214, u215, u216, u217, u218, u219, u220, u221, u222, u223, u224, u225, u226, u227, u228, u229, u230, u231, u232, u233, u234, u235, u236, u237, u238, u239, u240, u241, u242, u243, u244, u245, u246, u247, u248, u249, u250, u251, u252, u253, u254, u255, u256, u257, u258, u259, u260, u261, u262, u263, u264, u265, u266, u267, u268, u269, u270, u271, u272, u273, u274, u275, u276, u277, u278, u279, u280, u281, u282, u283, u284, u285, u286, u287, u288, u289, u290, u291, u292, u293, u294, u295, u296, u297, u298, u299, u300, u301, u302, u303, u304], []⟩ w := by
  conv => arg 2; whnf
  have HI := Lib.hid (show identS (58) = false by decide)
  have HD := Lib.hid (show decI (58) = false by decide)
  go_upto_region 43 with (first | (go_at_call 17; refine (rstart_false _ _ HI.out).mono ?_; rintro e w' ⟨rfl, rfl⟩) | (go_at_call 20; refine (rdec_false _ _ HD.out).mono ?_; rintro e w' ⟨rfl, rfl⟩))
  have k0 := Zu.start h
  clear h
  obtain ⟨ub, hub⟩ : ∃ ub, ub = w.heap.size := ⟨_, rfl⟩
  rw [← hub] at k0 ⊢
  generalize w.alloc (.cells #[.int .i64 0, .string ⟨#[]⟩, .int .i64 0, .int .i64 0, .bool false, .int .i64 0] 31) = x0 at k0 ⊢
  clear hub
  go_wp2_with (go_at_call 16; refine (peek_rf _ R M sv all _ k0.zk.rf).mono ?_; rintro e x1 ⟨rfl, fx⟩; refine Hid.out ?_)
  refine Lib.hid ?_
  have k1 := k0.still fx
  clear k0 fx
  go_wp2_with (go_at_call 15; refine (next_rf _ R M sv all _ k1.zk.rf).mono ?_; rintro e x2 ⟨rfl, rx, fx⟩; refine Hid.out ?_)
  refine Lib.hid ?_
  have k2 := k1.step rx fx
  clear k1 rx fx
  obtain ⟨⟨a0, a1, a2, a3, a4, a5⟩, b0, b1, b2, b3, b4, b5⟩ := k2.facts
  go_upto_region 120 with fail
  have g1 := k2.put (57374) ⟨#[58, 58]⟩
  clear a0 a1 a2 a3 a4 a5 b0 b1 b2 b3 b4 b5 k2
  unfold zput at g1
  generalize ((((((x2.setCell ⟨ub, 0, none⟩ (.int .i64 57374)).setCell ⟨ub, 1, none⟩ (.string ⟨#[58, 58]⟩)).setCell ⟨ub, 2, none⟩ (.int .i64 0)).setCell ⟨ub, 3, none⟩ (.int .i64 0)).setCell ⟨ub, 4, none⟩ (.bool false)).setCell ⟨ub, 5, none⟩ (.int .i64 0)) = wp at g1 ⊢
  obtain ⟨⟨a0, a1, -⟩, -⟩ := g1.facts
  obtain ⟨t0, t1, t2, t3, t4, t5, f0, f1, f5⟩ := g1.zk.facts
  go_upto_region 122 with fail
  have g2 := (g1.zk.setTyp (57374)).setStr ⟨#[58, 58]⟩
  clear a0 a1 t0 t1 t2 t3 t4 t5 f0 f1 f5 g1
  generalize (wp.setCell ⟨tb, 0, none⟩ (.int .i64 (57374))).setCell ⟨tb, 1, none⟩ (.string ⟨#[58, 58]⟩) = wq at g2 ⊢
  obtain ⟨t0, t1, t2, t3, t4, t5, f0, f1, f5⟩ := g2.facts
  obtain ⟨⟨r0, r1, r2, r3, r4, r5⟩, q0, q1, q2, q3, q4, q5⟩ := g2.rfacts
  go_wp2
  exact ⟨_, _, _, _, _, rfl, g2.fin.hR, g2.fin.fb, fun _ => ⟨rfl, rfl, rfl, g2.fin.rf⟩⟩


set_option maxRecDepth 1000000 in
set_option maxHeartbeats 16000000 in
theorem zt_126 {W0 w : World} {R M rb tb : Nat} {sv : Value} {all : List UInt8} {st : St} {line col : Int} {nl : Bool} {Q : Exit → Act → World → Prop} (h : Zk W0 R M sv all rb tb w st 0 ⟨#[]⟩ line col nl 0) (hx : (hd st.rest == 61) = true)
    (hQ : ∀ a w, ZRet W0 R M sv all rb line col nl ((true, 57369, [126, 61], st.nextS) : Bool × Int × List UInt8 × St) a w → Q .ret a w) (u1 u6 u7 u8 u9 u10 u11 u12 u13 u14 u15 u16 u17 u18 u19 u20 u21 u22 u23 u24 u25 u26 u27 u28 u29 u30 u31 u32 u33 u34 u35 u36 u37 u38 u39 u40 u41 u42 u43 u44 u45 u46 u47 u48 u49 u50 u51 u52 u53 u54 u55 u56 u57 u58 u59 u60 u61 u62 u63 u64 u65 u66 u67 u68 u69 u70 u71 u72 u73 u74 u75 u76 u77 u78 u79 u80 u81 u82 u83 u84 u85 u86 u87 u88 u89 u90 u91 u92 u93 u94 u95 u96 u97 u98 u99 u100 u101 u102 u103 u104 u105 u106 u107 u108 u109 u110 u111 u112 u113 u114 u115 u116 u117 u118 u119 u120 u121 u122 u123 u124 u125 u126 u127 u128 u129 u130 u131 u132 u133 u134 u135 u136 u137 u138 u139 u140 u141 u142 u143 u144 u145 u146 u147 u148 u149 u150 u151 u152 u153 u154 u155 u156 u157 u158 u159 u160 u161 u162 u163 u164 u165 u166 u167 u168 u169 u170 u171 u172 u173 u174 u175 u176 u177 u178 u179 u180 u181 u182 u183 u184 u185 u186 u187 u188 u189 u190 u191 u192 u193 u194 u195 u196 u197 u198 u199 u200 u201 u202 u203 u204 u205 u206 u207 u208 u209 u210 u211 u212 u213 u214 u215 u216 u217 u218 u219 u220 u221 u222 u223 u224 u225 u226 u227 u228 u229 u230 u231 u232 u233 u234 u235 u236 u237 u238 u239 u240 u241 u242 u243 u244 u245 u246 u247 u248 u249 u250 u251 u252 u253 u254 u255 u256 u257 u258 u259 u260 u261 u262 u263 u264 u265 u266 u267 u268 u269 u270 u271 u272 u273 u274 u275 u276 u277 u278 u279 u280 u281 u282 u283 u284 u285 u286 u287 u288 u289 u290 u291 u292 u293 u294 u295 u296 u297 u298 u299 u300 u301 u302 u303 u304 : Value) : Code.wp Tryz.prog zM Q ⟨#[Value.pointer (some ⟨R, 0, none⟩), u1, Value.pointer (some ⟨rb, 0, none⟩), Value.bool nl, Value.int .i64 (126), Value.pointer (some ⟨tb, 0, none⟩), u6, u7, u8, u9, u10, u11, u12, u13, u14, u15, u16, u17, u18, u19, u20, u21, u22, u23, u24, u25, u26, u27, u28, u29, u30, u31, u32, u33, u34, u35, u36, u37, u38, u39, u40, u41, u42, u43, u44, u45, u46, u47, u48, u49, u50, u51, u52, u53, u54, u55, u56, u57, u58, u59, u60, u61, u62, u63, u64, u65, u66, u67, u68, u69, u70, u71, u72, u73, u74, u75, u76, u77, u78, u79, u80, u81, u82, u83, u84, u85, u86, u87, u88, u89, u90, u91, u92, u93, u94, u95, u96, u97, u98, u99, u100, u101, u102, u103, u104, u105, u106, u107, u108, u109, u110, u111, u112, u113, u114, u115, u116, u117, u118, u119, u120, u121, u122, u123, u124, u125, u126, u127, u128, u129, u130, u131, u132, u133, u134, u135, u136, u137, u138, u139, u140, u141, u142, u143, u144, u145, u146, u147, u148, u149, u150, u151, u152, u153, u154, u155, u156, u157, u158, u159, u160, u161, u162, u163, u164, u165, u166, u167, u168, u169, u170, u171, u172, u173, u174, u175, u176, u177, u178, u179, u180, u181, u182, u183, u184, u185, u186, u187, u188, u189, u190, u191, u192, u193, u194, u195, u196, u197, u198, u199, u200, u201, u202, u203, u204, u205, u206, u207, u208, u209, u210, u211, u212, u213, u214, u215, u216, u217, u218, u219, u220, u221, u222, u223, u224, u225, u226, u227, u228, u229, u230, u231, u232, u233, u234, u235, u236, u237, u238, u239, u240, u241, u242, u243, u244, u245, u246, u247, u248, u249, u250, u251, u252, u253, u254, u255, u256, u257, u258, u259, u260, u261, u262, u263, u264, u265, u266, u267, u268, u269, u270, u271, u272, u273, u274, u275, u276, u277, u278, u279, u280, u281, u282, u283, u284, u285, u286, u287, u288, u289, u290, u291, u292, u293, u294, u295, u296, u297, u298, u299, u300, u301, u302, u303, u304], []⟩ w := by
  conv => arg 2; whnf
  have HI := Lib.hid (show identS (126) = false by decide)
  have HD := Lib.hid (show decI (126) = false by decide)
  go_upto_region 43 with (first | (go_at_call 17; refine (rstart_false _ _ HI.out).mono ?_; rintro e w' ⟨rfl, rfl⟩) | (go_at_call 20; refine (rdec_false _ _ HD.out).mono ?_; rintro e w' ⟨rfl, rfl⟩))
  have k0 := Zu.start h
  clear h
  obtain ⟨ub, hub⟩ : ∃ ub, ub = w.heap.size := ⟨_, rfl⟩
  rw [← hub] at k0 ⊢
  generalize w.alloc (.cells #[.int .i64 0, .string ⟨#[]⟩, .int .i64 0, .int .i64 0, .bool false, .int .i64 0] 31) = x0 at k0 ⊢
  clear hub
  go_wp2_with (go_at_call 16; refine (peek_rf _ R M sv all _ k0.zk.rf).mono ?_; rintro e x1 ⟨rfl, fx⟩; refine Hid.out ?_)
  refine Lib.hid ?_
  have k1 := k0.still fx
  clear k0 fx
  go_wp2_with (go_at_call 15; refine (next_rf _ R M sv all _ k1.zk.rf).mono ?_; rintro e x2 ⟨rfl, rx, fx⟩; refine Hid.out ?_)
  refine Lib.hid ?_
  have k2 := k1.step rx fx
  clear k1 rx fx
  obtain ⟨⟨a0, a1, a2, a3, a4, a5⟩, b0, b1, b2, b3, b4, b5⟩ := k2.facts
  go_upto_region 120 with fail
  have g1 := k2.put (57369) ⟨#[126, 61]⟩
  clear a0 a1 a2 a3 a4 a5 b0 b1 b2 b3 b4 b5 k2
  unfold zput at g1
  generalize ((((((x2.setCell ⟨ub, 0, none⟩ (.int .i64 57369)).setCell ⟨ub, 1, none⟩ (.string ⟨#[126, 61]⟩)).setCell ⟨ub, 2, none⟩ (.int .i64 0)).setCell ⟨ub, 3, none⟩ (.int .i64 0)).setCell ⟨ub, 4, none⟩ (.bool false)).setCell ⟨ub, 5, none⟩ (.int .i64 0)) = wp at g1 ⊢
  obtain ⟨⟨a0, a1, -⟩, -⟩ := g1.facts
  obtain ⟨t0, t1, t2, t3, t4, t5, f0, f1, f5⟩ := g1.zk.facts
  go_upto_region 122 with fail
  have g2 := (g1.zk.setTyp (57369)).setStr ⟨#[126, 61]⟩
  clear a0 a1 t0 t1 t2 t3 t4 t5 f0 f1 f5 g1
  generalize (wp.setCell ⟨tb, 0, none⟩ (.int .i64 (57369))).setCell ⟨tb, 1, none⟩ (.string ⟨#[126, 61]⟩) = wq at g2 ⊢
  obtain ⟨t0, t1, t2, t3, t4, t5, f0, f1, f5⟩ := g2.facts
  obtain ⟨⟨r0, r1, r2, r3, r4, r5⟩, q0, q1, q2, q3, q4, q5⟩ := g2.rfacts
  go_wp2
  exact ⟨_, _, _, _, _, rfl, g2.fin.hR, g2.fin.fb, fun _ => ⟨rfl, rfl, rfl, g2.fin.rf⟩⟩


set_option maxRecDepth 1000000 in
set_option maxHeartbeats 16000000 in
theorem zo_61 {W0 w : World} {R M rb tb : Nat} {sv : Value} {all : List UInt8} {st : St} {line col : Int} {nl : Bool} {Q : Exit → Act → World → Prop} (h : Zk W0 R M sv all rb tb w st 0 ⟨#[]⟩ line col nl 0) (hx : (hd st.rest == 61) = false)
    (hQ : ∀ a w, ZRet W0 R M sv all rb line col nl (one 61 st) a w → Q .ret a w) (u1 u6 u7 u8 u9 u10 u11 u12 u13 u14 u15 u16 u17 u18 u19 u20 u21 u22 u23 u24 u25 u26 u27 u28 u29 u30 u31 u32 u33 u34 u35 u36 u37 u38 u39 u40 u41 u42 u43 u44 u45 u46 u47 u48 u49 u50 u51 u52 u53 u54 u55 u56 u57 u58 u59 u60 u61 u62 u63 u64 u65 u66 u67 u68 u69 u70 u71 u72 u73 u74 u75 u76 u77 u78 u79 u80 u81 u82 u83 u84 u85 u86 u87 u88 u89 u90 u91 u92 u93 u94 u95 u96 u97 u98 u99 u100 u101 u102 u103 u104 u105 u106 u107 u108 u109 u110 u111 u112 u113 u114 u115 u116 u117 u118 u119 u120 u121 u122 u123 u124 u125 u126 u127 u128 u129 u130 u131 u132 u133 u134 u135 u136 u137 u138 u139 u140 u141 u142 u143 u144 u145 u146 u147 u148 u149 u150 u151 u152 u153 u154 u155 u156 u157 u158 u159 u160 u161 u162 u163 u164 u165 u166 u167 u168 u169 u170 u171 u172 u173 u174 u175 u176 u177 u178 u179 u180 u181 u182 u183 u184 u185 u186 u187 u188 u189 u190 u191 u192 u193 u194 u195 u196 u197 u198 u199 u200 u201 u202 u203 u204 u205 u206 u207 u208 u209 u210 u211 u212 u213 u214 u215 u216 u217 u218 u219 u220 u221 u222 u223 u224 u225 u226 u227 u228 u229 u230 u231 u232 u233 u234 u235 u236 u237 u238 u239 u240 u241 u242 u243 u244 u245 u246 u247 u248 u249 u250 u251 u252 u253 u254 u255 u256 u257 u258 u259 u260 u261 u262 u263 u264 u265 u266 u267 u268 u269 u270 u271 u272 u273 u274 u275 u276 u277 u278 u279 u280 u281 u282 u283 u284 u285 u286 u287 u288 u289 u290 u291 u292 u293 u294 u295 u296 u297 u298 u299 u300 u301 u302 u303 u304 : Value) : Code.wp Tryz.prog zM Q ⟨#[Value.pointer (some ⟨R, 0, none⟩), u1, Value.pointer (some ⟨rb, 0, none⟩), Value.bool nl, Value.int .i64 (61), Value.pointer (some ⟨tb, 0, none⟩), u6, u7, u8, u9, u10, u11, u12, u13, u14, u15, u16, u17, u18, u19, u20, u21, u22, u23, u24, u25, u26, u27, u28, u29, u30, u31, u32, u33, u34, u35, u36, u37, u38, u39, u40, u41, u42, u43, u44, u45, u46, u47, u48, u49, u50, u51, u52, u53, u54, u55, u56, u57, u58, u59, u60, u61, u62, u63, u64, u65, u66, u67, u68, u69, u70, u71, u72, u73, u74, u75, u76, u77, u78, u79, u80, u81, u82, u83, u84, u85, u86, u87, u88, u89, u90, u91, u92, u93, u94, u95, u96, u97, u98, u99, u100, u101, u102, u103, u104, u105, u106, u107, u108, u109, u110, u111, u112, u113, u114, u115, u116, u117, u118, u119, u120, u121, u122, u123, u124, u125, u126, u127, u128, u129, u130, u131, u132, u133, u134, u135, u136, u137, u138, u139, u140, u141, u142, u143, u144, u145, u146, u147, u148, u149, u150, u151, u152, u153, u154, u155, u156, u157, u158, u159, u160, u161, u162, u163, u164, u165, u166, u167, u168, u169, u170, u171, u172, u173, u174, u175, u176, u177, u178, u179, u180, u181, u182, u183, u184, u185, u186, u187, u188, u189, u190, u191, u192, u193, u194, u195, u196, u197, u198, u199, u200, u201, u202, u203, u204, u205, u206, u207, u208, u209, u210, u211, u212, u213, u214, u215, u216, u217, u218, u219, u220, u221, u222, u223, u224, u225, u226, u227, u228, u229, u230, u231, u232, u233, u234, u235, u236, u237, u238, u239, u240, u241, u242, u243, u244, u245, u246, u247, u248, u249, u250, u251, u252, u253, u254, u255, u256, u257, u258, u259, u260, u261, u262, u263, u264, u265, u266, u267, u268, u269, u270, u271, u272, u273, u274, u275, u276, u277, u278, u279, u280, u281, u282, u283, u284, u285, u286, u287, u288, u289, u290, u291, u292, u293, u294, u295, u296, u297, u298, u299, u300, u301, u302, u303, u304], []⟩ w := by
  conv => arg 2; whnf
  have HI := Lib.hid (show identS (61) = false by decide)
  have HD := Lib.hid (show decI (61) = false by decide)
  go_upto_region 43 with (first | (go_at_call 17; refine (rstart_false _ _ HI.out).mono ?_; rintro e w' ⟨rfl, rfl⟩) | (go_at_call 20; refine (rdec_false _ _ HD.out).mono ?_; rintro e w' ⟨rfl, rfl⟩))
  have k0 := Zu.start h
  clear h
  obtain ⟨ub, hub⟩ : ∃ ub, ub = w.heap.size := ⟨_, rfl⟩
  rw [← hub] at k0 ⊢
  generalize w.alloc (.cells #[.int .i64 0, .string ⟨#[]⟩, .int .i64 0, .int .i64 0, .bool false, .int .i64 0] 31) = x0 at k0 ⊢
  clear hub
  go_wp2_with (go_at_call 16; refine (peek_rf _ R M sv all _ k0.zk.rf).mono ?_; rintro e x1 ⟨rfl, fx⟩; refine Hid.out ?_)
  refine Lib.hid ?_
  have k1 := k0.still fx
  clear k0 fx
  go_wp2_with (go_at_call 21; refine (zone_any _ _ _).mono ?_; rintro e y1 ⟨rfl, fx⟩; unfold zcells; refine Hid.out ?_)
  refine Lib.hid ?_
  have m1 := k1.still fx
  clear k1 fx
  obtain ⟨⟨a0, a1, a2, a3, a4, a5⟩, b0, b1, b2, b3, b4, b5⟩ := m1.facts
  go_upto_region 120 with fail
  have g1 := m1.put (61) ⟨[by8 61].toArray⟩
  clear a0 a1 a2 a3 a4 a5 b0 b1 b2 b3 b4 b5 m1
  unfold zput at g1
  generalize ((((((y1.setCell ⟨ub, 0, none⟩ (.int .i64 61)).setCell ⟨ub, 1, none⟩ (.string ⟨[by8 61].toArray⟩)).setCell ⟨ub, 2, none⟩ (.int .i64 0)).setCell ⟨ub, 3, none⟩ (.int .i64 0)).setCell ⟨ub, 4, none⟩ (.bool false)).setCell ⟨ub, 5, none⟩ (.int .i64 0)) = wp at g1 ⊢
  obtain ⟨⟨a0, a1, -⟩, -⟩ := g1.facts
  obtain ⟨t0, t1, t2, t3, t4, t5, f0, f1, f5⟩ := g1.zk.facts
  go_upto_region 122 with fail
  have g2 := (g1.zk.setTyp (61)).setStr ⟨[by8 61].toArray⟩
  clear a0 a1 t0 t1 t2 t3 t4 t5 f0 f1 f5 g1
  generalize (wp.setCell ⟨tb, 0, none⟩ (.int .i64 (61))).setCell ⟨tb, 1, none⟩ (.string ⟨[by8 61].toArray⟩) = wq at g2 ⊢
  obtain ⟨t0, t1, t2, t3, t4, t5, f0, f1, f5⟩ := g2.facts
  obtain ⟨⟨r0, r1, r2, r3, r4, r5⟩, q0, q1, q2, q3, q4, q5⟩ := g2.rfacts
  go_wp2
  exact ⟨_, _, _, _, _, rfl, g2.fin.hR, g2.fin.fb, fun _ => ⟨rfl, rfl, rfl, g2.fin.rf⟩⟩


set_option maxRecDepth 1000000 in
set_option maxHeartbeats 16000000 in
theorem zo_60 {W0 w : World} {R M rb tb : Nat} {sv : Value} {all : List UInt8} {st : St} {line col : Int} {nl : Bool} {Q : Exit → Act → World → Prop} (h : Zk W0 R M sv all rb tb w st 0 ⟨#[]⟩ line col nl 0) (hx : (hd st.rest == 61) = false)
    (hQ : ∀ a w, ZRet W0 R M sv all rb line col nl (one 60 st) a w → Q .ret a w) (u1 u6 u7 u8 u9 u10 u11 u12 u13 u14 u15 u16 u17 u18 u19 u20 u21 u22 u23 u24 u25 u26 u27 u28 u29 u30 u31 u32 u33 u34 u35 u36 u37 u38 u39 u40 u41 u42 u43 u44 u45 u46 u47 u48 u49 u50 u51 u52 u53 u54 u55 u56 u57 u58 u59 u60 u61 u62 u63 u64 u65 u66 u67 u68 u69 u70 u71 u72 u73 u74 u75 u76 u77 u78 u79 u80 u81 u82 u83 u84 u85 u86 u87 u88 u89 u90 u91 u92 u93 u94 u95 u96 u97 u98 u99 u100 u101 u102 u103 u104 u105 u106 u107 u108 u109 u110 u111 u112 u113 u114 u115 u116 u117 u118 u119 u120 u121 u122 u123 u124 u125 u126 u127 u128 u129 u130 u131 u132 u133 u134 u135 u136 u137 u138 u139 u140 u141 u142 u143 u144 u145 u146 u147 u148 u149 u150 u151 u152 u153 u154 u155 u156 u157 u158 u159 u160 u161 u162 u163 u164 u165 u166 u167 u168 u169 u170 u171 u172 u173 u174 u175 u176 u177 u178 u179 u180 u181 u182 u183 u184 u185 u186 u187 u188 u189 u190 u191 u192 u193 u194 u195 u196 u197 u198 u199 u200 u201 u202 u203 u204 u205 u206 u207 u208 u209 u210 u211 u212 u213 u214 u215 u216 u217 u218 u219 u220 u221 u222 u223 u224 u225 u226 u227 u228 u229 u230 u231 u232 u233 u234 u235 u236 u237 u238 u239 u240 u241 u242 u243 u244 u245 u246 u247 u248 u249 u250 u251 u252 u253 u254 u255 u256 u257 u258 u259 u260 u261 u262 u263 u264 u265 u266 u267 u268 u269 u270 u271 u272 u273 u274 u275 u276 u277 u278 u279 u280 u281 u282 u283 u284 u285 u286 u287 u288 u289 u290 u291 u292 u293 u294 u295 u296 u297 u298 u299 u300 u301 u302 u303 u304 : Value) : Code.wp Tryz.prog zM Q ⟨#[Value.pointer (some ⟨R, 0, none⟩), u1, Value.pointer (some ⟨rb, 0, none⟩), Value.bool nl, Value.int .i64 (60), Value.pointer (some ⟨tb, 0, none⟩), u6, u7, u8, u9, u10, u11, u12, u13, u14, u15, u16, u17, u18, u19, u20, u21, u22, u23, u24, u25, u26, u27, u28, u29, u30, u31, u32, u33, u34, u35, u36, u37, u38, u39, u40, u41, u42, u43, u44, u45, u46, u47, u48, u49, u50, u51, u52, u53, u54, u55, u56, u57, u58, u59, u60, u61, u62, u63, u64, u65, u66, u67, u68, u69, u70, u71, u72, u73, u74, u75, u76, u77, u78, u79, u80, u81, u82, u83, u84, u85, u86, u87, u88, u89, u90, u91, u92, u93, u94, u95, u96, u97, u98, u99, u100, u101, u102, u103, u104, u105, u106, u107, u108, u109, u110, u111, u112, u113, u114, u115, u116, u117, u118, u119, u120, u121, u122, u123, u124, u125, u126, u127, u128, u129, u130, u131, u132, u133, u134, u135, u136, u137, u138, u139, u140, u141, u142, u143, u144, u145, u146, u147, u148, u149, u150, u151, u152, u153, u154, u155, u156, u157, u158, u159, u160, u161, u162, u163, u164, u165, u166, u167, u168, u169, u170, u171, u172, u173, u174, u175, u176, u177, u178, u179, u180, u181, u182, u183, u184, u185, u186, u187, u188, u189, u190, u191, u192, u193, u194, u195, u196, u197, u198, u199, u200, u201, u202, u203, u204, u205, u206, u207, u208, u209, u210, u211, u212, u213, u214, u215, u216, u217, u218, u219, u220, u221, u222, u223, u224, u225, u226, u227, u228, u229, u230, u231, u232, u233, u234, u235, u236, u237, u238, u239, u240, u241, u242, u243, u244, u245, u246, u247, u248, u249, u250, u251, u252, u253, u254, u255, u256, u257, u258, u259, u260, u261, u262, u263, u264, u265, u266, u267, u268, u269, u270, u271, u272, u273, u274, u275, u276, u277, u278, u279, u280, u281, u282, u283, u284, u285, u286, u287, u288, u289, u290, u291, u292, u293, u294, u295, u296, u297, u298, u299, u300, u301, u302, u303, u304], []⟩ w := by
  conv => arg 2; whnf
  have HI := Lib.hid (show identS (60) = false by decide)
  have HD := Lib.hid (show decI (60) = false by decide)
  go_upto_region 43 with (first | (go_at_call 17; refine (rstart_false _ _ HI.out).mono ?_; rintro e w' ⟨rfl, rfl⟩) | (go_at_call 20; refine (rdec_false _ _ HD.out).mono ?_; rintro e w' ⟨rfl, rfl⟩))
  have k0 := Zu.start h
  clear h
  obtain ⟨ub, hub⟩ : ∃ ub, ub = w.heap.size := ⟨_, rfl⟩
  rw [← hub] at k0 ⊢
  generalize w.alloc (.cells #[.int .i64 0, .string ⟨#[]⟩, .int .i64 0, .int .i64 0, .bool false, .int .i64 0] 31) = x0 at k0 ⊢
  clear hub
  go_wp2_with (go_at_call 16; refine (peek_rf _ R M sv all _ k0.zk.rf).mono ?_; rintro e x1 ⟨rfl, fx⟩; refine Hid.out ?_)
  refine Lib.hid ?_
  have k1 := k0.still fx
  clear k0 fx
  go_wp2_with (go_at_call 21; refine (zone_any _ _ _).mono ?_; rintro e y1 ⟨rfl, fx⟩; unfold zcells; refine Hid.out ?_)
  refine Lib.hid ?_
  have m1 := k1.still fx
  clear k1 fx
  obtain ⟨⟨a0, a1, a2, a3, a4, a5⟩, b0, b1, b2, b3, b4, b5⟩ := m1.facts
  go_upto_region 120 with fail
  have g1 := m1.put (60) ⟨[by8 60].toArray⟩
  clear a0 a1 a2 a3 a4 a5 b0 b1 b2 b3 b4 b5 m1
  unfold zput at g1
  generalize ((((((y1.setCell ⟨ub, 0, none⟩ (.int .i64 60)).setCell ⟨ub, 1, none⟩ (.string ⟨[by8 60].toArray⟩)).setCell ⟨ub, 2, none⟩ (.int .i64 0)).setCell ⟨ub, 3, none⟩ (.int .i64 0)).setCell ⟨ub, 4, none⟩ (.bool false)).setCell ⟨ub, 5, none⟩ (.int .i64 0)) = wp at g1 ⊢
  obtain ⟨⟨a0, a1, -⟩, -⟩ := g1.facts
  obtain ⟨t0, t1, t2, t3, t4, t5, f0, f1, f5⟩ := g1.zk.facts
  go_upto_region 122 with fail
  have g2 := (g1.zk.setTyp (60)).setStr ⟨[by8 60].toArray⟩
  clear a0 a1 t0 t1 t2 t3 t4 t5 f0 f1 f5 g1
  generalize (wp.setCell ⟨tb, 0, none⟩ (.int .i64 (60))).setCell ⟨tb, 1, none⟩ (.string ⟨[by8 60].toArray⟩) = wq at g2 ⊢
  obtain ⟨t0, t1, t2, t3, t4, t5, f0, f1, f5⟩ := g2.facts
  obtain ⟨⟨r0, r1, r2, r3, r4, r5⟩, q0, q1, q2, q3, q4, q5⟩ := g2.rfacts
  go_wp2
  exact ⟨_, _, _, _, _, rfl, g2.fin.hR, g2.fin.fb, fun _ => ⟨rfl, rfl, rfl, g2.fin.rf⟩⟩


set_option maxRecDepth 1000000 in
set_option maxHeartbeats 16000000 in
theorem zo_62 {W0 w : World} {R M rb tb : Nat} {sv : Value} {all : List UInt8} {st : St} {line col : Int} {nl : Bool} {Q : Exit → Act → World → Prop} (h : Zk W0 R M sv all rb tb w st 0 ⟨#[]⟩ line col nl 0) (hx : (hd st.rest == 61) = false)
    (hQ : ∀ a w, ZRet W0 R M sv all rb line col nl (one 62 st) a w → Q .ret a w) (u1 u6 u7 u8 u9 u10 u11 u12 u13 u14 u15 u16 u17 u18 u19 u20 u21 u22 u23 u24 u25 u26 u27 u28 u29 u30 u31 u32 u33 u34 u35 u36 u37 u38 u39 u40 u41 u42 u43 u44 u45 u46 u47 u48 u49 u50 u51 u52 u53 u54 u55 u56 u57 u58 u59 u60 u61 u62 u63 u64 u65 u66 u67 u68 u69 u70 u71 u72 u73 u74 u75 u76 u77 u78 u79 u80 u81 u82 u83 u84 u85 u86 u87 u88 u89 u90 u91 u92 u93 u94 u95 u96 u97 u98 u99 u100 u101 u102 u103 u104 u105 u106 u107 u108 u109 u110 u111 u112 u113 u114 u115 u116 u117 u118 u119 u120 u121 u122 u123 u124 u125 u126 u127 u128 u129 u130 u131 u132 u133 u134 u135 u136 u137 u138 u139 u140 u141 u142 u143 u144 u145 u146 u147 u148 u149 u150 u151 u152 u153 u154 u155 u156 u157 u158 u159 u160 u161 u162 u163 u164 u165 u166 u167 u168 u169 u170 u171 u172 u173 u174 u175 u176 u177 u178 u179 u180 u181 u182 u183 u184 u185 u186 u187 u188 u189 u190 u191 u192 u193 u194 u195 u196 u197 u198 u199 u200 u201 u202 u203 u204 u205 u206 u207 u208 u209 u210 u211 u212 u213 u214 u215 u216 u217 u218 u219 u220 u221 u222 u223 u224 u225 u226 u227 u228 u229 u230 u231 u232 u233 u234 u235 u236 u237 u238 u239 u240 u241 u242 u243 u244 u245 u246 u247 u248 u249 u250 u251 u252 u253 u254 u255 u256 u257 u258 u259 u260 u261 u262 u263 u264 u265 u266 u267 u268 u269 u270 u271 u272 u273 u274 u275 u276 u277 u278 u279 u280 u281 u282 u283 u284 u285 u286 u287 u288 u289 u290 u291 u292 u293 u294 u295 u296 u297 u298 u299 u300 u301 u302 u303 u304 : Value) : Code.wp Tryz.prog zM Q ⟨#[Value.pointer (some ⟨R, 0, none⟩), u1, Value.pointer (some ⟨rb, 0, none⟩), Value.bool nl, Value.int .i64 (62), Value.pointer (some ⟨tb, 0, none⟩), u6, u7, u8, u9, u10, u11, u12, u13, u14, u15, u16, u17, u18, u19, u20, u21, u22, u23, u24, u25, u26, u27, u28, u29, u30, u31, u32, u33, u34, u35, u36, u37, u38, u39, u40, u41, u42, u43, u44, u45, u46, u47, u48, u49, u50, u51, u52, u53, u54, u55, u56, u57, u58, u59, u60, u61, u62, u63, u64, u65, u66, u67, u68, u69, u70, u71, u72, u73, u74, u75, u76, u77, u78, u79, u80, u81, u82, u83, u84, u85, u86, u87, u88, u89, u90, u91, u92, u93, u94, u95, u96, u97, u98, u99, u100, u101, u102, u103, u104, u105, u106, u107, u108, u109, u110, u111, u112, u113, u114, u115, u116, u117, u118, u119, u120, u121, u122, u123, u124, u125, u126, u127, u128, u129, u130, u131, u132, u133, u134, u135, u136, u137, u138, u139, u140, u141, u142, u143, u144, u145, u146, u147, u148, u149, u150, u151, u152, u153, u154, u155, u156, u157, u158, u159, u160, u161, u162, u163, u164, u165, u166, u167, u168, u169, u170, u171, u172, u173, u174, u175, u176, u177, u178, u179, u180, u181, u182, u183, u184, u185, u186, u187, u188, u189, u190, u191, u192, u193, u194, u195, u196, u197, u198, u199, u200, u201, u202, u203, u204, u205, u206, u207, u208, u209, u210, u211, u212, u213, u214, u215, u216, u217, u218, u219, u220, u221, u222, u223, u224, u225, u226, u227, u228, u229, u230, u231, u232, u233, u234, u235, u236, u237, u238, u239, u240, u241, u242, u243, u244, u245, u246, u247, u248, u249, u250, u251, u252, u253, u254, u255, u256, u257, u258, u259, u260, u261, u262, u263, u264, u265, u266, u267, u268, u269, u270, u271, u272, u273, u274, u275, u276, u277, u278, u279, u280, u281, u282, u283, u284, u285, u286, u287, u288, u289, u290, u291, u292, u293, u294, u295, u296, u297, u298, u299, u300, u301, u302, u303, u304], []⟩ w := by
  conv => arg 2; whnf
  have HI := Lib.hid (show identS (62) = false by decide)
  have HD := Lib.hid (show decI (62) = false by decide)
  go_upto_region 43 with (first | (go_at_call 17; refine (rstart_false _ _ HI.out).mono ?_; rintro e w' ⟨rfl, rfl⟩) | (go_at_call 20; refine (rdec_false _ _ HD.out).mono ?_; rintro e w' ⟨rfl, rfl⟩))
  have k0 := Zu.start h
  clear h
  obtain ⟨ub, hub⟩ : ∃ ub, ub = w.heap.size := ⟨_, rfl⟩
  rw [← hub] at k0 ⊢
  generalize w.alloc (.cells #[.int .i64 0, .string ⟨#[]⟩, .int .i64 0, .int .i64 0, .bool false, .int .i64 0] 31) = x0 at k0 ⊢
  clear hub
  go_wp2_with (go_at_call 16; refine (peek_rf _ R M sv all _ k0.zk.rf).mono ?_; rintro e x1 ⟨rfl, fx⟩; refine Hid.out ?_)
  refine Lib.hid ?_
  have k1 := k0.still fx
  clear k0 fx
  go_wp2_with (go_at_call 21; refine (zone_any _ _ _).mono ?_; rintro e y1 ⟨rfl, fx⟩; unfold zcells; refine Hid.out ?_)
  refine Lib.hid ?_
  have m1 := k1.still fx
  clear k1 fx
  obtain ⟨⟨a0, a1, a2, a3, a4, a5⟩, b0, b1, b2, b3, b4, b5⟩ := m1.facts
  go_upto_region 120 with fail
  have g1 := m1.put (62) ⟨[by8 62].toArray⟩
  clear a0 a1 a2 a3 a4 a5 b0 b1 b2 b3 b4 b5 m1
  unfold zput at g1
  generalize ((((((y1.setCell ⟨ub, 0, none⟩ (.int .i64 62)).setCell ⟨ub, 1, none⟩ (.string ⟨[by8 62].toArray⟩)).setCell ⟨ub, 2, none⟩ (.int .i64 0)).setCell ⟨ub, 3, none⟩ (.int .i64 0)).setCell ⟨ub, 4, none⟩ (.bool false)).setCell ⟨ub, 5, none⟩ (.int .i64 0)) = wp at g1 ⊢
  obtain ⟨⟨a0, a1, -⟩, -⟩ := g1.facts
  obtain ⟨t0, t1, t2, t3, t4, t5, f0, f1, f5⟩ := g1.zk.facts
  go_upto_region 122 with fail
  have g2 := (g1.zk.setTyp (62)).setStr ⟨[by8 62].toArray⟩
  clear a0 a1 t0 t1 t2 t3 t4 t5 f0 f1 f5 g1
  generalize (wp.setCell ⟨tb, 0, none⟩ (.int .i64 (62))).setCell ⟨tb, 1, none⟩ (.string ⟨[by8 62].toArray⟩) = wq at g2 ⊢
  obtain ⟨t0, t1, t2, t3, t4, t5, f0, f1, f5⟩ := g2.facts
  obtain ⟨⟨r0, r1, r2, r3, r4, r5⟩, q0, q1, q2, q3, q4, q5⟩ := g2.rfacts
  go_wp2
  exact ⟨_, _, _, _, _, rfl, g2.fin.hR, g2.fin.fb, fun _ => ⟨rfl, rfl, rfl, g2.fin.rf⟩⟩


set_option maxRecDepth 1000000 in
set_option maxHeartbeats 16000000 in
theorem zo_58 {W0 w : World} {R M rb tb : Nat} {sv : Value} {all : List UInt8} {st : St} {line col : Int} {nl : Bool} {Q : Exit → Act → World → Prop} (h : Zk W0 R M sv all rb tb w st 0 ⟨#[]⟩ line col nl 0) (hx : (hd st.rest == 58) = false)
    (hQ : ∀ a w, ZRet W0 R M sv all rb line col nl (one 58 st) a w → Q .ret a w) (u1 u6 u7 u8 u9 u10 u11 u12 u13 u14 u15 u16 u17 u18 u19 u20 u21 u22 u23 u24 u25 u26 u27 u28 u29 u30 u31 u32 u33 u34 u35 u36 u37 u38 u39 u40 u41 u42 u43 u44 u45 u46 u47 u48 u49 u50 u51 u52 u53 u54 u55 u56 u57 u58 u59 u60 u61 u62 u63 u64 u65 u66 u67 u68 u69 u70 u71 u72 u73 u74 u75 u76 u77 u78 u79 u80 u81 u82 u83 u84 u85 u86 u87 u88 u89 u90 u91 u92 u93 u94 u95 u96 u97 u98 u99 u100 u101 u102 u103 u104 u105 u106 u107 u108 u109 u110 u111 u112 u113 u114 u115 u116 u117 u118 u119 u120 u121 u122 u123 u124 u125 u126 u127 u128 u129 u130 u131 u132 u133 u134 u135 u136 u137 u138 u139 u140 u141 u142 u143 u144 u145 u146 u147 u148 u149 u150 u151 u152 u153 u154 u155 u156 u157 u158 u159 u160 u161 u162 u163 u164 u165 u166 u167 u168 u169 u170 u171 u172 u173 u174 u175 u176 u177 u178 u179 u180 u181 u182 u183 u184 u185 u186 u187 u188 u189 u190 u191 u192 u193 u194 u195 u196 u197 u198 u199 u200 u201 u202 u203 u204 u205 u206 u207 u208 u209 u210 u211 u212 u213 u214 u215 u216 u217 u218 u219 u220 u221 u222 u223 u224 u225 u226 u227 u228 u229 u230 u231 u232 u233 u234 u235 u236 u237 u238 u239 u240 u241 u242 u243 u244 u245 u246 u247 u248 u249 u250 u251 u252 u253 u254 u255 u256 u257 u258 u259 u260 u261 u262 u263 u264 u265 u266 u267 u268 u269 u270 u271 u272 u273 u274 u275 u276 u277 u278 u279 u280 u281 u282 u283 u284 u285 u286 u287 u288 u289 u290 u291 u292 u293 u294 u295 u296 u297 u298 u299 u300 u301 u302 u303 u304 : Value) : Code.wp Tryz.prog zM Q ⟨#[Value.pointer (some ⟨R, 0, none⟩), u1, Value.pointer (some ⟨rb, 0, none⟩), Value.bool nl, Value.int .i64 (58), Value.pointer (some ⟨tb, 0, none⟩), u6, u7, u8, u9, u10, u11, u12, u13, u14, u15, u16, u17, u18, u19, u20, u21, u22, u23, u24, u25, u26, u27, u28, u29, u30, u31, u32, u33, u34, u35, u36, u37, u38, u39, u40, u41, u42, u43, u44, u45, u46, u47, u48, u49, u50, u51, u52, u53, u54, u55, u56, u57, u58, u59, u60, u61, u62, u63, u64, u65, u66, u67, u68, u69, u70, u71, u72, u73, u74, u75, u76, u77, u78, u79, u80, u81, u82, u83, u84, u85, u86, u87, u88, u89, u90, u91, u92, u93, u94, u95, u96, u97, u98, u99, u100, u101, u102, u103, u104, u105, u106, u107, u108, u109, u110, u111, u112, u113, u114, u115, u116, u117, u118, u119, u120, u121, u122, u123, u124, u125, u126, u127, u128, u129, u130, u131, u132, u133, u134, u135, u136, u137, u138, u139, u140, u141, u142, u143, u144, u145, u146, u147, u148, u149, u150, u151, u152, u153, u154, u155, u156, u157, u158, u159, u160, u161, u162, u163, u164, u165, u166, u167, u168, u169, u170, u171, u172, u173, u174, u175, u176, u177, u178, u179, u180, u181, u182, u183, u184, u185, u186, u187, u188, u189, u190, u191, u192, u193, u194, u195, u196, u197, u198, u199, u200, u201, u202, u203, u204, u205, u206, u207, u208, u209, u210, u211, u212, u213, u214, u215, u216, u217, u218, u219, u220, u221, u222, u223, u224, u225, u226, u227, u228, u229, u230, u231, u232, u233, u234, u235, u236, u237, u238, u239, u240, u241, u242, u243, u244, u245, u246, u247, u248, u249, u250, u251, u252, u253, u254, u255, u256, u257, u258, u259, u260, u261, u262, u263, u264, u265, u266, u267, u268, u269, u270, u271, u272, u273, u274, u275, u276, u277, u278, u279, u280, u281, u282, u283, u284, u285, u286, u287, u288, u289, u290, u291, u292, u293, u294, u295, u296, u297, u298, u299, u300, u301, u302, u303, u304], []⟩ w := by
  conv => arg 2; whnf
  have HI := Lib.hid (show identS (58) = false by decide)
  have HD := Lib.hid (show decI (58) = false by decide)
  go_upto_region 43 with (first | (go_at_call 17; refine (rstart_false _ _ HI.out).mono ?_; rintro e w' ⟨rfl, rfl⟩) | (go_at_call 20; refine (rdec_false _ _ HD.out).mono ?_; rintro e w' ⟨rfl, rfl⟩))
  have k0 := Zu.start h
  clear h
  obtain ⟨ub, hub⟩ : ∃ ub, ub = w.heap.size := ⟨_, rfl⟩
  rw [← hub] at k0 ⊢
  generalize w.alloc (.cells #[.int .i64 0, .string ⟨#[]⟩, .int .i64 0, .int .i64 0, .bool false, .int .i64 0] 31) = x0 at k0 ⊢
  clear hub
  go_wp2_with (go_at_call 16; refine (peek_rf _ R M sv all _ k0.zk.rf).mono ?_; rintro e x1 ⟨rfl, fx⟩; refine Hid.out ?_)
  refine Lib.hid ?_
  have k1 := k0.still fx
  clear k0 fx
  go_wp2_with (go_at_call 21; refine (zone_any _ _ _).mono ?_; rintro e y1 ⟨rfl, fx⟩; unfold zcells; refine Hid.out ?_)
  refine Lib.hid ?_
  have m1 := k1.still fx
  clear k1 fx
  obtain ⟨⟨a0, a1, a2, a3, a4, a5⟩, b0, b1, b2, b3, b4, b5⟩ := m1.facts
  go_upto_region 120 with fail
  have g1 := m1.put (58) ⟨[by8 58].toArray⟩
  clear a0 a1 a2 a3 a4 a5 b0 b1 b2 b3 b4 b5 m1
  unfold zput at g1
  generalize ((((((y1.setCell ⟨ub, 0, none⟩ (.int .i64 58)).setCell ⟨ub, 1, none⟩ (.string ⟨[by8 58].toArray⟩)).setCell ⟨ub, 2, none⟩ (.int .i64 0)).setCell ⟨ub, 3, none⟩ (.int .i64 0)).setCell ⟨ub, 4, none⟩ (.bool false)).setCell ⟨ub, 5, none⟩ (.int .i64 0)) = wp at g1 ⊢
  obtain ⟨⟨a0, a1, -⟩, -⟩ := g1.facts
  obtain ⟨t0, t1, t2, t3, t4, t5, f0, f1, f5⟩ := g1.zk.facts
  go_upto_region 122 with fail
  have g2 := (g1.zk.setTyp (58)).setStr ⟨[by8 58].toArray⟩
  clear a0 a1 t0 t1 t2 t3 t4 t5 f0 f1 f5 g1
  generalize (wp.setCell ⟨tb, 0, none⟩ (.int .i64 (58))).setCell ⟨tb, 1, none⟩ (.string ⟨[by8 58].toArray⟩) = wq at g2 ⊢
  obtain ⟨t0, t1, t2, t3, t4, t5, f0, f1, f5⟩ := g2.facts
  obtain ⟨⟨r0, r1, r2, r3, r4, r5⟩, q0, q1, q2, q3, q4, q5⟩ := g2.rfacts
  go_wp2
  exact ⟨_, _, _, _, _, rfl, g2.fin.hR, g2.fin.fb, fun _ => ⟨rfl, rfl, rfl, g2.fin.rf⟩⟩


set_option maxRecDepth 1000000 in
set_option maxHeartbeats 16000000 in
theorem zo_91 {W0 w : World} {R M rb tb : Nat} {sv : Value} {all : List UInt8} {st : St} {line col : Int} {nl : Bool} {Q : Exit → Act → World → Prop} (h : Zk W0 R M sv all rb tb w st 0 ⟨#[]⟩ line col nl 0) (hx : (hd st.rest == 91) = false) (hy : (hd st.rest == 61) = false)
    (hQ : ∀ a w, ZRet W0 R M sv all rb line col nl (one 91 st) a w → Q .ret a w) (u1 u6 u7 u8 u9 u10 u11 u12 u13 u14 u15 u16 u17 u18 u19 u20 u21 u22 u23 u24 u25 u26 u27 u28 u29 u30 u31 u32 u33 u34 u35 u36 u37 u38 u39 u40 u41 u42 u43 u44 u45 u46 u47 u48 u49 u50 u51 u52 u53 u54 u55 u56 u57 u58 u59 u60 u61 u62 u63 u64 u65 u66 u67 u68 u69 u70 u71 u72 u73 u74 u75 u76 u77 u78 u79 u80 u81 u82 u83 u84 u85 u86 u87 u88 u89 u90 u91 u92 u93 u94 u95 u96 u97 u98 u99 u100 u101 u102 u103 u104 u105 u106 u107 u108 u109 u110 u111 u112 u113 u114 u115 u116 u117 u118 u119 u120 u121 u122 u123 u124 u125 u126 u127 u128 u129 u130 u131 u132 u133 u134 u135 u136 u137 u138 u139 u140 u141 u142 u143 u144 u145 u146 u147 u148 u149 u150 u151 u152 u153 u154 u155 u156 u157 u158 u159 u160 u161 u162 u163 u164 u165 u166 u167 u168 u169 u170 u171 u172 u173 u174 u175 u176 u177 u178 u179 u180 u181 u182 u183 u184 u185 u186 u187 u188 u189 u190 u191 u192 u193 u194 u195 u196 u197 u198 u199 u200 u201 u202 u203 u204 u205 u206 u207 u208 u209 u210 u211 u212 u213 u214 u215 u216 u217 u218 u219 u220 u221 u222 u223 u224 u225 u226 u227 u228 u229 u230 u231 u232 u233 u234 u235 u236 u237 u238 u239 u240 u241 u242 u243 u244 u245 u246 u247 u248 u249 u250 u251 u252 u253 u254 u255 u256 u257 u258 u259 u260 u261 u262 u263 u264 u265 u266 u267 u268 u269 u270 u271 u272 u273 u274 u275 u276 u277 u278 u279 u280 u281 u282 u283 u284 u285 u286 u287 u288 u289 u290 u291 u292 u293 u294 u295 u296 u297 u298 u299 u300 u301 u302 u303 u304 : Value) : Code.wp Tryz.prog zM Q ⟨#[Value.pointer (some ⟨R, 0, none⟩), u1, Value.pointer (some ⟨rb, 0, none⟩), Value.bool nl, Value.int .i64 (91), Value.pointer (some ⟨tb, 0, none⟩), u6, u7, u8, u9, u10, u11, u12, u13, u14, u15, u16, u17, u18, u19, u20, u21, u22, u23, u24, u25, u26, u27, u28, u29, u30, u31, u32, u33, u34, u35, u36, u37, u38, u39, u40, u41, u42, u43, u44, u45, u46, u47, u48, u49, u50, u51, u52, u53, u54, u55, u56, u57, u58, u59, u60, u61, u62, u63, u64, u65, u66, u67, u68, u69, u70, u71, u72, u73, u74, u75, u76, u77, u78, u79, u80, u81, u82, u83, u84, u85, u86, u87, u88, u89, u90, u91, u92, u93, u94, u95, u96, u97, u98, u99, u100, u101, u102, u103, u104, u105, u106, u107, u108, u109, u110, u111, u112, u113, u114, u115, u116, u117, u118, u119, u120, u121, u122, u123, u124, u125, u126, u127, u128, u129, u130, u131, u132, u133, u134, u135, u136, u137, u138, u139, u140, u141, u142, u143, u144, u145, u146, u147, u148, u149, u150, u151, u152, u153, u154, u155, u156, u157, u158, u159, u160, u161, u162, u163, u164, u165, u166, u167, u168, u169, u170, u171, u172, u173, u174, u175, u176, u177, u178, u179, u180, u181, u182, u183, u184, u185, u186, u187, u188, u189, u190, u191, u192, u193, u194, u195, u196, u197, u198, u199, u200, u201, u202, u203, u204, u205, u206, u207, u208, u209, u210, u211, u212, u213, u214, u215, u216, u217, u218, u219, u220, u221, u222, u223, u224, u225, u226, u227, u228, u229, u230, u231, u232, u233, u234, u235, u236, u237, u238, u239, u240, u241, u242, u243, u244, u245, u246, u247, u248, u249, u250, u251, u252, u253, u254, u255, u256, u257, u258, u259, u260, u261, u262, u263, u264, u265, u266, u267, u268, u269, u270, u271, u272, u273, u274, u275, u276, u277, u278, u279, u280, u281, u282, u283, u284, u285, u286, u287, u288, u289, u290, u291, u292, u293, u294, u295, u296, u297, u298, u299, u300, u301, u302, u303, u304], []⟩ w := by
  conv => arg 2; whnf
  have HI := Lib.hid (show identS (91) = false by decide)
  have HD := Lib.hid (show decI (91) = false by decide)
  go_upto_region 43 with (first | (go_at_call 17; refine (rstart_false _ _ HI.out).mono ?_; rintro e w' ⟨rfl, rfl⟩) | (go_at_call 20; refine (rdec_false _ _ HD.out).mono ?_; rintro e w' ⟨rfl, rfl⟩))
  have k0 := Zu.start h
  clear h
  obtain ⟨ub, hub⟩ : ∃ ub, ub = w.heap.size := ⟨_, rfl⟩
  rw [← hub] at k0 ⊢
  generalize w.alloc (.cells #[.int .i64 0, .string ⟨#[]⟩, .int .i64 0, .int .i64 0, .bool false, .int .i64 0] 31) = x0 at k0 ⊢
  clear hub
  go_wp2_with (go_at_call 16; refine (peek_rf _ R M sv all _ k0.zk.rf).mono ?_; rintro e x1 ⟨rfl, fx⟩; refine Hid.out ?_)
  refine Lib.hid ?_
  have k1 := k0.still fx
  clear k0 fx
  go_wp2_with (go_at_call 16; refine (peek_rf _ R M sv all _ k1.zk.rf).mono ?_; rintro e x2 ⟨rfl, fx⟩; refine Hid.out ?_)
  refine Lib.hid ?_
  have k2 := k1.still fx
  clear k1 fx
  go_wp2_with (go_at_call 21; refine (zone_any _ _ _).mono ?_; rintro e y1 ⟨rfl, fx⟩; unfold zcells; refine Hid.out ?_)
  refine Lib.hid ?_
  have m1 := k2.still fx
  clear k2 fx
  obtain ⟨⟨a0, a1, a2, a3, a4, a5⟩, b0, b1, b2, b3, b4, b5⟩ := m1.facts
  go_upto_region 120 with fail
  have g1 := m1.put (91) ⟨[by8 91].toArray⟩
  clear a0 a1 a2 a3 a4 a5 b0 b1 b2 b3 b4 b5 m1
  unfold zput at g1
  generalize ((((((y1.setCell ⟨ub, 0, none⟩ (.int .i64 91)).setCell ⟨ub, 1, none⟩ (.string ⟨[by8 91].toArray⟩)).setCell ⟨ub, 2, none⟩ (.int .i64 0)).setCell ⟨ub, 3, none⟩ (.int .i64 0)).setCell ⟨ub, 4, none⟩ (.bool false)).setCell ⟨ub, 5, none⟩ (.int .i64 0)) = wp at g1 ⊢
  obtain ⟨⟨a0, a1, -⟩, -⟩ := g1.facts
  obtain ⟨t0, t1, t2, t3, t4, t5, f0, f1, f5⟩ := g1.zk.facts
  go_upto_region 122 with fail
  have g2 := (g1.zk.setTyp (91)).setStr ⟨[by8 91].toArray⟩
  clear a0 a1 t0 t1 t2 t3 t4 t5 f0 f1 f5 g1
  generalize (wp.setCell ⟨tb, 0, none⟩ (.int .i64 (91))).setCell ⟨tb, 1, none⟩ (.string ⟨[by8 91].toArray⟩) = wq at g2 ⊢
  obtain ⟨t0, t1, t2, t3, t4, t5, f0, f1, f5⟩ := g2.facts
  obtain ⟨⟨r0, r1, r2, r3, r4, r5⟩, q0, q1, q2, q3, q4, q5⟩ := g2.rfacts
  go_wp2
  exact ⟨_, _, _, _, _, rfl, g2.fin.hR, g2.fin.fb, fun _ => ⟨rfl, rfl, rfl, g2.fin.rf⟩⟩


set_option maxRecDepth 1000000 in
set_option maxHeartbeats 16000000 in
theorem zs_126 {W0 w : World} {R M rb tb : Nat} {sv : Value} {all : List UInt8} {st : St} {line col : Int} {nl : Bool} {Q : Exit → Act → World → Prop} (h : Zk W0 R M sv all rb tb w st 0 ⟨#[]⟩ line col nl 0) (hx : (hd st.rest == 61) = false)
    (hQ : ∀ a w, ZRet W0 R M sv all rb line col nl ((false, 0, [], st) : Bool × Int × List UInt8 × St) a w → Q .ret a w) (u1 u6 u7 u8 u9 u10 u11 u12 u13 u14 u15 u16 u17 u18 u19 u20 u21 u22 u23 u24 u25 u26 u27 u28 u29 u30 u31 u32 u33 u34 u35 u36 u37 u38 u39 u40 u41 u42 u43 u44 u45 u46 u47 u48 u49 u50 u51 u52 u53 u54 u55 u56 u57 u58 u59 u60 u61 u62 u63 u64 u65 u66 u67 u68 u69 u70 u71 u72 u73 u74 u75 u76 u77 u78 u79 u80 u81 u82 u83 u84 u85 u86 u87 u88 u89 u90 u91 u92 u93 u94 u95 u96 u97 u98 u99 u100 u101 u102 u103 u104 u105 u106 u107 u108 u109 u110 u111 u112 u113 u114 u115 u116 u117 u118 u119 u120 u121 u122 u123 u124 u125 u126 u127 u128 u129 u130 u131 u132 u133 u134 u135 u136 u137 u138 u139 u140 u141 u142 u143 u144 u145 u146 u147 u148 u149 u150 u151 u152 u153 u154 u155 u156 u157 u158 u159 u160 u161 u162 u163 u164 u165 u166 u167 u168 u169 u170 u171 u172 u173 u174 u175 u176 u177 u178 u179 u180 u181 u182 u183 u184 u185 u186 u187 u188 u189 u190 u191 u192 u193 u194 u195 u196 u197 u198 u199 u200 u201 u202 u203 u204 u205 u206 u207 u208 u209 u210 u211 u212 u213 u214 u215 u216 u217 u218 u219 u220 u221 u222 u223 u224 u225 u226 u227 u228 u229 u230 u231 u232 u233 u234 u235 u236 u237 u238 u239 u240 u241 u242 u243 u244 u245 u246 u247 u248 u249 u250 u251 u252 u253 u254 u255 u256 u257 u258 u259 u260 u261 u262 u263 u264 u265 u266 u267 u268 u269 u270 u271 u272 u273 u274 u275 u276 u277 u278 u279 u280 u281 u282 u283 u284 u285 u286 u287 u288 u289 u290 u291 u292 u293 u294 u295 u296 u297 u298 u299 u300 u301 u302 u303 u304 : Value) : Code.wp Tryz.prog zM Q ⟨#[Value.pointer (some ⟨R, 0, none⟩), u1, Value.pointer (some ⟨rb, 0, none⟩), Value.bool nl, Value.int .i64 (126), Value.pointer (some ⟨tb, 0, none⟩), u6, u7, u8, u9, u10, u11, u12, u13, u14, u15, u16, u17, u18, u19, u20, u21, u22, u23, u24, u25, u26, u27, u28, u29, u30, u31, u32, u33, u34, u35, u36, u37, u38, u39, u40, u41, u42, u43, u44, u45, u46, u47, u48, u49, u50, u51, u52, u53, u54, u55, u56, u57, u58, u59, u60, u61, u62, u63, u64, u65, u66, u67, u68, u69, u70, u71, u72, u73, u74, u75, u76, u77, u78, u79, u80, u81, u82, u83, u84, u85, u86, u87, u88, u89, u90, u91, u92, u93, u94, u95, u96, u97, u98, u99, u100, u101, u102, u103, u104, u105, u106, u107, u108, u109, u110, u111, u112, u113, u114, u115, u116, u117, u118, u119, u120, u121, u122, u123, u124, u125, u126, u127, u128, u129, u130, u131, u132, u133, u134, u135, u136, u137, u138, u139, u140, u141, u142, u143, u144, u145, u146, u147, u148, u149, u150, u151, u152, u153, u154, u155, u156, u157, u158, u159, u160, u161, u162, u163, u164, u165, u166, u167, u168, u169, u170, u171, u172, u173, u174, u175, u176, u177, u178, u179, u180, u181, u182, u183, u184, u185, u186, u187, u188, u189, u190, u191, u192, u193, u194, u195, u196, u197, u198, u199, u200, u201, u202, u203, u204, u205, u206, u207, u208, u209, u210, u211, u212, u213, u214, u215, u216, u217, u218, u219, u220, u221, u222, u223, u224, u225, u226, u227, u228, u229, u230, u231, u232, u233, u234, u235, u236, u237, u238, u239, u240, u241, u242, u243, u244, u245, u246, u247, u248, u249, u250, u251, u252, u253, u254, u255, u256, u257, u258, u259, u260, u261, u262, u263, u264, u265, u266, u267, u268, u269, u270, u271, u272, u273, u274, u275, u276, u277, u278, u279, u280, u281, u282, u283, u284, u285, u286, u287, u288, u289, u290, u291, u292, u293, u294, u295, u296, u297, u298, u299, u300, u301, u302, u303, u304], []⟩ w := by
  conv => arg 2; whnf
  have HI := Lib.hid (show identS (126) = false by decide)
  have HD := Lib.hid (show decI (126) = false by decide)
  go_upto_region 43 with (first | (go_at_call 17; refine (rstart_false _ _ HI.out).mono ?_; rintro e w' ⟨rfl, rfl⟩) | (go_at_call 20; refine (rdec_false _ _ HD.out).mono ?_; rintro e w' ⟨rfl, rfl⟩))
  have k0 := Zu.start h
  clear h
  obtain ⟨ub, hub⟩ : ∃ ub, ub = w.heap.size := ⟨_, rfl⟩
  rw [← hub] at k0 ⊢
  generalize w.alloc (.cells #[.int .i64 0, .string ⟨#[]⟩, .int .i64 0, .int .i64 0, .bool false, .int .i64 0] 31) = x0 at k0 ⊢
  clear hub
  go_wp2_with (go_at_call 16; refine (peek_rf _ R M sv all _ k0.zk.rf).mono ?_; rintro e x1 ⟨rfl, fx⟩; refine Hid.out ?_)
  refine Lib.hid ?_
  have k1 := k0.still fx
  clear k0 fx
  have kz := k1.zk
  clear k1
  obtain ⟨t0, t1, t2, t3, t4, t5, f0, f1, f5⟩ := kz.facts
  go_upto_region 92 with fail
  have g2 := kz.setSta 1
  clear t0 t1 t2 t3 t4 t5 f0 f1 f5
  generalize x1.setCell ⟨tb, 5, none⟩ (.int .i64 1) = wq at g2 ⊢
  obtain ⟨t0, t1, t2, t3, t4, t5, f0, f1, f5⟩ := g2.facts
  obtain ⟨⟨r0, r1, r2, r3, r4, r5⟩, q0, q1, q2, q3, q4, q5⟩ := g2.rfacts
  go_wp2
  exact ⟨_, _, _, _, _, rfl, g2.fin.hR, g2.fin.fb, fun e => absurd e (by decide)⟩


set_option maxRecDepth 1000000 in
set_option maxHeartbeats 16000000 in
theorem zs_91_91 {W0 w : World} {R M rb tb : Nat} {sv : Value} {all : List UInt8} {st : St} {line col : Int} {nl : Bool} {Q : Exit → Act → World → Prop} (h : Zk W0 R M sv all rb tb w st 0 ⟨#[]⟩ line col nl 0) (hx : (hd st.rest == 91) = true) (r : Bool × Int × List UInt8 × St)
    (hQ : ∀ a w, ZRet W0 R M sv all rb line col nl r a w → Q .ret a w) (u1 u6 u7 u8 u9 u10 u11 u12 u13 u14 u15 u16 u17 u18 u19 u20 u21 u22 u23 u24 u25 u26 u27 u28 u29 u30 u31 u32 u33 u34 u35 u36 u37 u38 u39 u40 u41 u42 u43 u44 u45 u46 u47 u48 u49 u50 u51 u52 u53 u54 u55 u56 u57 u58 u59 u60 u61 u62 u63 u64 u65 u66 u67 u68 u69 u70 u71 u72 u73 u74 u75 u76 u77 u78 u79 u80 u81 u82 u83 u84 u85 u86 u87 u88 u89 u90 u91 u92 u93 u94 u95 u96 u97 u98 u99 u100 u101 u102 u103 u104 u105 u106 u107 u108 u109 u110 u111 u112 u113 u114 u115 u116 u117 u118 u119 u120 u121 u122 u123 u124 u125 u126 u127 u128 u129 u130 u131 u132 u133 u134 u135 u136 u137 u138 u139 u140 u141 u142 u143 u144 u145 u146 u147 u148 u149 u150 u151 u152 u153 u154 u155 u156 u157 u158 u159 u160 u161 u162 u163 u164 u165 u166 u167 u168 u169 u170 u171 u172 u173 u174 u175 u176 u177 u178 u179 u180 u181 u182 u183 u184 u185 u186 u187 u188 u189 u190 u191 u192 u193 u194 u195 u196 u197 u198 u199 u200 u201 u202 u203 u204 u205 u206 u207 u208 u209 u210 u211 u212 u213 u214 u215 u216 u217 u218 u219 u220 u221 u222 u223 u224 u225 u226 u227 u228 u229 u230 u231 u232 u233 u234 u235 u236 u237 u238 u239 u240 u241 u242 u243 u244 u245 u246 u247 u248 u249 u250 u251 u252 u253 u254 u255 u256 u257 u258 u259 u260 u261 u262 u263 u264 u265 u266 u267 u268 u269 u270 u271 u272 u273 u274 u275 u276 u277 u278 u279 u280 u281 u282 u283 u284 u285 u286 u287 u288 u289 u290 u291 u292 u293 u294 u295 u296 u297 u298 u299 u300 u301 u302 u303 u304 : Value) : Code.wp Tryz.prog zM Q ⟨#[Value.pointer (some ⟨R, 0, none⟩), u1, Value.pointer (some ⟨rb, 0, none⟩), Value.bool nl, Value.int .i64 (91), Value.pointer (some ⟨tb, 0, none⟩), u6, u7, u8, u9, u10, u11, u12, u13, u14, u15, u16, u17, u18, u19, u20, u21, u22, u23, u24, u25, u26, u27, u28, u29, u30, u31, u32, u33, u34, u35, u36, u37, u38, u39, u40, u41, u42, u43, u44, u45, u46, u47, u48, u49, u50, u51, u52, u53, u54, u55, u56, u57, u58, u59, u60, u61, u62, u63, u64, u65, u66, u67, u68, u69, u70, u71, u72, u73, u74, u75, u76, u77, u78, u79, u80, u81, u82, u83, u84, u85, u86, u87, u88, u89, u90, u91, u92, u93, u94, u95, u96, u97, u98, u99, u100, u101, u102, u103, u104, u105, u106, u107, u108, u109, u110, u111, u112, u113, u114, u115, u116, u117, u118, u119, u120, u121, u122, u123, u124, u125, u126, u127, u128, u129, u130, u131, u132, u133, u134, u135, u136, u137, u138, u139, u140, u141, u142, u143, u144, u145, u146, u147, u148, u149, u150, u151, u152, u153, u154, u155, u156, u157, u158, u159, u160, u161, u162, u163, u164, u165, u166, u167, u168, u169, u170, u171, u172, u173, u174, u175, u176, u177, u178, u179, u180, u181, u182, u183, u184, u185, u186, u187, u188, u189, u190, u191, u192, u193, u194, u195, u196, u197, u198, u199, u200, u201, u202, u203, u204, u205, u206, u207, u208, u209, u210, u211, u212, u213, u214, u215, u216, u217, u218, u219, u220, u221, u222, u223, u224, u225, u226, u227, u228, u229, u230, u231, u232, u233, u234, u235, u236, u237, u238, u239, u240, u241, u242, u243, u244, u245, u246, u247, u248, u249, u250, u251, u252, u253, u254, u255, u256, u257, u258, u259, u260, u261, u262, u263, u264, u265, u266, u267, u268, u269, u270, u271, u272, u273, u274, u275, u276, u277, u278, u279, u280, u281, u282, u283, u284, u285, u286, u287, u288, u289, u290, u291, u292, u293, u294, u295, u296, u297, u298, u299, u300, u301, u302, u303, u304], []⟩ w := by
  conv => arg 2; whnf
  have HI := Lib.hid (show identS (91) = false by decide)
  have HD := Lib.hid (show decI (91) = false by decide)
  go_upto_region 43 with (first | (go_at_call 17; refine (rstart_false _ _ HI.out).mono ?_; rintro e w' ⟨rfl, rfl⟩) | (go_at_call 20; refine (rdec_false _ _ HD.out).mono ?_; rintro e w' ⟨rfl, rfl⟩))
  have k0 := Zu.start h
  clear h
  obtain ⟨ub, hub⟩ : ∃ ub, ub = w.heap.size := ⟨_, rfl⟩
  rw [← hub] at k0 ⊢
  generalize w.alloc (.cells #[.int .i64 0, .string ⟨#[]⟩, .int .i64 0, .int .i64 0, .bool false, .int .i64 0] 31) = x0 at k0 ⊢
  clear hub
  go_wp2_with (go_at_call 16; refine (peek_rf _ R M sv all _ k0.zk.rf).mono ?_; rintro e x1 ⟨rfl, fx⟩; refine Hid.out ?_)
  refine Lib.hid ?_
  have k1 := k0.still fx
  clear k0 fx
  have kz := k1.zk
  clear k1
  obtain ⟨t0, t1, t2, t3, t4, t5, f0, f1, f5⟩ := kz.facts
  go_upto_region 80 with fail
  have g2 := kz.setSta 2
  clear t0 t1 t2 t3 t4 t5 f0 f1 f5
  generalize x1.setCell ⟨tb, 5, none⟩ (.int .i64 2) = wq at g2 ⊢
  obtain ⟨t0, t1, t2, t3, t4, t5, f0, f1, f5⟩ := g2.facts
  obtain ⟨⟨r0, r1, r2, r3, r4, r5⟩, q0, q1, q2, q3, q4, q5⟩ := g2.rfacts
  go_wp2
  exact ⟨_, _, _, _, _, rfl, g2.fin.hR, g2.fin.fb, fun e => absurd e (by decide)⟩


set_option maxRecDepth 1000000 in
set_option maxHeartbeats 16000000 in
theorem zs_91_61 {W0 w : World} {R M rb tb : Nat} {sv : Value} {all : List UInt8} {st : St} {line col : Int} {nl : Bool} {Q : Exit → Act → World → Prop} (h : Zk W0 R M sv all rb tb w st 0 ⟨#[]⟩ line col nl 0) (hx : (hd st.rest == 91) = false) (hy : (hd st.rest == 61) = true) (r : Bool × Int × List UInt8 × St)
    (hQ : ∀ a w, ZRet W0 R M sv all rb line col nl r a w → Q .ret a w) (u1 u6 u7 u8 u9 u10 u11 u12 u13 u14 u15 u16 u17 u18 u19 u20 u21 u22 u23 u24 u25 u26 u27 u28 u29 u30 u31 u32 u33 u34 u35 u36 u37 u38 u39 u40 u41 u42 u43 u44 u45 u46 u47 u48 u49 u50 u51 u52 u53 u54 u55 u56 u57 u58 u59 u60 u61 u62 u63 u64 u65 u66 u67 u68 u69 u70 u71 u72 u73 u74 u75 u76 u77 u78 u79 u80 u81 u82 u83 u84 u85 u86 u87 u88 u89 u90 u91 u92 u93 u94 u95 u96 u97 u98 u99 u100 u101 u102 u103 u104 u105 u106 u107 u108 u109 u110 u111 u112 u113 u114 u115 u116 u117 u118 u119 u120 u121 u122 u123 u124 u125 u126 u127 u128 u129 u130 u131 u132 u133 u134 u135 u136 u137 u138 u139 u140 u141 u142 u143 u144 u145 u146 u147 u148 u149 u150 u151 u152 u153 u154 u155 u156 u157 u158 u159 u160 u161 u162 u163 u164 u165 u166 u167 u168 u169 u170 u171 u172 u173 u174 u175 u176 u177 u178 u179 u180 u181 u182 u183 u184 u185 u186 u187 u188 u189 u190 u191 u192 u193 u194 u195 u196 u197 u198 u199 u200 u201 u202 u203 u204 u205 u206 u207 u208 u209 u210 u211 u212 u213 u214 u215 u216 u217 u218 u219 u220 u221 u222 u223 u224 u225 u226 u227 u228 u229 u230 u231 u232 u233 u234 u235 u236 u237 u238 u239 u240 u241 u242 u243 u244 u245 u246 u247 u248 u249 u250 u251 u252 u253 u254 u255 u256 u257 u258 u259 u260 u261 u262 u263 u264 u265 u266 u267 u268 u269 u270 u271 u272 u273 u274 u275 u276 u277 u278 u279 u280 u281 u282 u283 u284 u285 u286 u287 u288 u289 u290 u291 u292 u293 u294 u295 u296 u297 u298 u299 u300 u301 u302 u303 u304 : Value) : Code.wp Tryz.prog zM Q ⟨#[Value.pointer (some ⟨R, 0, none⟩), u1, Value.pointer (some ⟨rb, 0, none⟩), Value.bool nl, Value.int .i64 (91), Value.pointer (some ⟨tb, 0, none⟩), u6, u7, u8, u9, u10, u11, u12, u13, u14, u15, u16, u17, u18, u19, u20, u21, u22, u23, u24, u25, u26, u27, u28, u29, u30, u31, u32, u33, u34, u35, u36, u37, u38, u39, u40, u41, u42, u43, u44, u45, u46, u47, u48, u49, u50, u51, u52, u53, u54, u55, u56, u57, u58, u59, u60, u61, u62, u63, u64, u65, u66, u67, u68, u69, u70, u71, u72, u73, u74, u75, u76, u77, u78, u79, u80, u81, u82, u83, u84, u85, u86, u87, u88, u89, u90, u91, u92, u93, u94, u95, u96, u97, u98, u99, u100, u101, u102, u103, u104, u105, u106, u107, u108, u109, u110, u111, u112, u113, u114, u115, u116, u117, u118, u119, u120, u121, u122, u123, u124, u125, u126, u127, u128, u129, u130, u131, u132, u133, u134, u135, u136, u137, u138, u139, u140, u141, u142, u143, u144, u145, u146, u147, u148, u149, u150, u151, u152, u153, u154, u155, u156, u157, u158, u159, u160, u161, u162, u163, u164, u165, u166, u167, u168, u169, u170, u171, u172, u173, u174, u175, u176, u177, u178, u179, u180, u181, u182, u183, u184, u185, u186, u187, u188, u189, u190, u191, u192, u193, u194, u195, u196, u197, u198, u199, u200, u201, u202, u203, u204, u205, u206, u207, u208, u209, u210, u211, u212, u213, u214, u215, u216, u217, u218, u219, u220, u221, u222, u223, u224, u225, u226, u227, u228, u229, u230, u231, u232, u233, u234, u235, u236, u237, u238, u239, u240, u241, u242, u243, u244, u245, u246, u247, u248, u249, u250, u251, u252, u253, u254, u255, u256, u257, u258, u259, u260, u261, u262, u263, u264, u265, u266, u267, u268, u269, u270, u271, u272, u273, u274, u275, u276, u277, u278, u279, u280, u281, u282, u283, u284, u285, u286, u287, u288, u289, u290, u291, u292, u293, u294, u295, u296, u297, u298, u299, u300, u301, u302, u303, u304], []⟩ w := by
  conv => arg 2; whnf
  have HI := Lib.hid (show identS (91) = false by decide)
  have HD := Lib.hid (show decI (91) = false by decide)
  go_upto_region 43 with (first | (go_at_call 17; refine (rstart_false _ _ HI.out).mono ?_; rintro e w' ⟨rfl, rfl⟩) | (go_at_call 20; refine (rdec_false _ _ HD.out).mono ?_; rintro e w' ⟨rfl, rfl⟩))
  have k0 := Zu.start h
  clear h
  obtain ⟨ub, hub⟩ : ∃ ub, ub = w.heap.size := ⟨_, rfl⟩
  rw [← hub] at k0 ⊢
  generalize w.alloc (.cells #[.int .i64 0, .string ⟨#[]⟩, .int .i64 0, .int .i64 0, .bool false, .int .i64 0] 31) = x0 at k0 ⊢
  clear hub
  go_wp2_with (go_at_call 16; refine (peek_rf _ R M sv all _ k0.zk.rf).mono ?_; rintro e x1 ⟨rfl, fx⟩; refine Hid.out ?_)
  refine Lib.hid ?_
  have k1 := k0.still fx
  clear k0 fx
  go_wp2_with (go_at_call 16; refine (peek_rf _ R M sv all _ k1.zk.rf).mono ?_; rintro e x2 ⟨rfl, fx⟩; refine Hid.out ?_)
  refine Lib.hid ?_
  have k2 := k1.still fx
  clear k1 fx
  have kz := k2.zk
  clear k2
  obtain ⟨t0, t1, t2, t3, t4, t5, f0, f1, f5⟩ := kz.facts
  go_upto_region 80 with fail
  have g2 := kz.setSta 2
  clear t0 t1 t2 t3 t4 t5 f0 f1 f5
  generalize x2.setCell ⟨tb, 5, none⟩ (.int .i64 2) = wq at g2 ⊢
  obtain ⟨t0, t1, t2, t3, t4, t5, f0, f1, f5⟩ := g2.facts
  obtain ⟨⟨r0, r1, r2, r3, r4, r5⟩, q0, q1, q2, q3, q4, q5⟩ := g2.rfacts
  go_wp2
  exact ⟨_, _, _, _, _, rfl, g2.fin.hR, g2.fin.fb, fun e => absurd e (by decide)⟩


set_option maxRecDepth 1000000 in
set_option maxHeartbeats 16000000 in
theorem zd_num {W0 w : World} {R M rb tb : Nat} {sv : Value} {all : List UInt8} {st : St} {line col : Int} {nl : Bool} {Q : Exit → Act → World → Prop} (h : Zk W0 R M sv all rb tb w st 0 ⟨#[]⟩ line col nl 0) (HDP : Hid (decI (hd st.rest) = true)) (r : Bool × Int × List UInt8 × St)
    (hQ : ∀ a w, ZRet W0 R M sv all rb line col nl r a w → Q .ret a w) (u1 u6 u7 u8 u9 u10 u11 u12 u13 u14 u15 u16 u17 u18 u19 u20 u21 u22 u23 u24 u25 u26 u27 u28 u29 u30 u31 u32 u33 u34 u35 u36 u37 u38 u39 u40 u41 u42 u43 u44 u45 u46 u47 u48 u49 u50 u51 u52 u53 u54 u55 u56 u57 u58 u59 u60 u61 u62 u63 u64 u65 u66 u67 u68 u69 u70 u71 u72 u73 u74 u75 u76 u77 u78 u79 u80 u81 u82 u83 u84 u85 u86 u87 u88 u89 u90 u91 u92 u93 u94 u95 u96 u97 u98 u99 u100 u101 u102 u103 u104 u105 u106 u107 u108 u109 u110 u111 u112 u113 u114 u115 u116 u117 u118 u119 u120 u121 u122 u123 u124 u125 u126 u127 u128 u129 u130 u131 u132 u133 u134 u135 u136 u137 u138 u139 u140 u141 u142 u143 u144 u145 u146 u147 u148 u149 u150 u151 u152 u153 u154 u155 u156 u157 u158 u159 u160 u161 u162 u163 u164 u165 u166 u167 u168 u169 u170 u171 u172 u173 u174 u175 u176 u177 u178 u179 u180 u181 u182 u183 u184 u185 u186 u187 u188 u189 u190 u191 u192 u193 u194 u195 u196 u197 u198 u199 u200 u201 u202 u203 u204 u205 u206 u207 u208 u209 u210 u211 u212 u213 u214 u215 u216 u217 u218 u219 u220 u221 u222 u223 u224 u225 u226 u227 u228 u229 u230 u231 u232 u233 u234 u235 u236 u237 u238 u239 u240 u241 u242 u243 u244 u245 u246 u247 u248 u249 u250 u251 u252 u253 u254 u255 u256 u257 u258 u259 u260 u261 u262 u263 u264 u265 u266 u267 u268 u269 u270 u271 u272 u273 u274 u275 u276 u277 u278 u279 u280 u281 u282 u283 u284 u285 u286 u287 u288 u289 u290 u291 u292 u293 u294 u295 u296 u297 u298 u299 u300 u301 u302 u303 u304 : Value) : Code.wp Tryz.prog zM Q ⟨#[Value.pointer (some ⟨R, 0, none⟩), u1, Value.pointer (some ⟨rb, 0, none⟩), Value.bool nl, Value.int .i64 (46), Value.pointer (some ⟨tb, 0, none⟩), u6, u7, u8, u9, u10, u11, u12, u13, u14, u15, u16, u17, u18, u19, u20, u21, u22, u23, u24, u25, u26, u27, u28, u29, u30, u31, u32, u33, u34, u35, u36, u37, u38, u39, u40, u41, u42, u43, u44, u45, u46, u47, u48, u49, u50, u51, u52, u53, u54, u55, u56, u57, u58, u59, u60, u61, u62, u63, u64, u65, u66, u67, u68, u69, u70, u71, u72, u73, u74, u75, u76, u77, u78, u79, u80, u81, u82, u83, u84, u85, u86, u87, u88, u89, u90, u91, u92, u93, u94, u95, u96, u97, u98, u99, u100, u101, u102, u103, u104, u105, u106, u107, u108, u109, u110, u111, u112, u113, u114, u115, u116, u117, u118, u119, u120, u121, u122, u123, u124, u125, u126, u127, u128, u129, u130, u131, u132, u133, u134, u135, u136, u137, u138, u139, u140, u141, u142, u143, u144, u145, u146, u147, u148, u149, u150, u151, u152, u153, u154, u155, u156, u157, u158, u159, u160, u161, u162, u163, u164, u165, u166, u167, u168, u169, u170, u171, u172, u173, u174, u175, u176, u177, u178, u179, u180, u181, u182, u183, u184, u185, u186, u187, u188, u189, u190, u191, u192, u193, u194, u195, u196, u197, u198, u199, u200, u201, u202, u203, u204, u205, u206, u207, u208, u209, u210, u211, u212, u213, u214, u215, u216, u217, u218, u219, u220, u221, u222, u223, u224, u225, u226, u227, u228, u229, u230, u231, u232, u233, u234, u235, u236, u237, u238, u239, u240, u241, u242, u243, u244, u245, u246, u247, u248, u249, u250, u251, u252, u253, u254, u255, u256, u257, u258, u259, u260, u261, u262, u263, u264, u265, u266, u267, u268, u269, u270, u271, u272, u273, u274, u275, u276, u277, u278, u279, u280, u281, u282, u283, u284, u285, u286, u287, u288, u289, u290, u291, u292, u293, u294, u295, u296, u297, u298, u299, u300, u301, u302, u303, u304], []⟩ w := by
  conv => arg 2; whnf
  have HI := Lib.hid (show identS (46) = false by decide)
  have HD := Lib.hid (show decI (46) = false by decide)
  go_upto_region 43 with (first | (go_at_call 17; refine (rstart_false _ _ HI.out).mono ?_; rintro e w' ⟨rfl, rfl⟩) | (go_at_call 20; refine (rdec_false _ _ HD.out).mono ?_; rintro e w' ⟨rfl, rfl⟩))
  have k0 := Zu.start h
  clear h
  obtain ⟨ub, hub⟩ : ∃ ub, ub = w.heap.size := ⟨_, rfl⟩
  rw [← hub] at k0 ⊢
  generalize w.alloc (.cells #[.int .i64 0, .string ⟨#[]⟩, .int .i64 0, .int .i64 0, .bool false, .int .i64 0] 31) = x0 at k0 ⊢
  clear hub
  go_wp2_with (go_at_call 16; refine (peek_rf _ R M sv all _ k0.zk.rf).mono ?_; rintro e x1 ⟨rfl, fx⟩; refine Hid.out ?_)
  refine Lib.hid ?_
  have k1 := k0.still fx
  clear k0 fx
  have kz := k1.zk
  clear k1
  obtain ⟨t0, t1, t2, t3, t4, t5, f0, f1, f5⟩ := kz.facts
  go_upto_region 112 with (go_at_call 20; refine (rdec_true _ _ HDP.out).mono ?_; rintro e w' ⟨rfl, rfl⟩)
  have g2 := kz.setSta 2
  clear t0 t1 t2 t3 t4 t5 f0 f1 f5
  generalize x1.setCell ⟨tb, 5, none⟩ (.int .i64 2) = wq at g2 ⊢
  obtain ⟨t0, t1, t2, t3, t4, t5, f0, f1, f5⟩ := g2.facts
  obtain ⟨⟨r0, r1, r2, r3, r4, r5⟩, q0, q1, q2, q3, q4, q5⟩ := g2.rfacts
  go_wp2
  exact ⟨_, _, _, _, _, rfl, g2.fin.hR, g2.fin.fb, fun e => absurd e (by decide)⟩


set_option maxRecDepth 1000000 in
set_option maxHeartbeats 16000000 in
theorem zd_one {W0 w : World} {R M rb tb : Nat} {sv : Value} {all : List UInt8} {st : St} {line col : Int} {nl : Bool} {Q : Exit → Act → World → Prop} (h : Zk W0 R M sv all rb tb w st 0 ⟨#[]⟩ line col nl 0) (HDP : Hid (decI (hd st.rest) = false)) (hx : (hd st.rest == 46) = false)
    (hQ : ∀ a w, ZRet W0 R M sv all rb line col nl ((true, 46, [], st) : Bool × Int × List UInt8 × St) a w → Q .ret a w) (u1 u6 u7 u8 u9 u10 u11 u12 u13 u14 u15 u16 u17 u18 u19 u20 u21 u22 u23 u24 u25 u26 u27 u28 u29 u30 u31 u32 u33 u34 u35 u36 u37 u38 u39 u40 u41 u42 u43 u44 u45 u46 u47 u48 u49 u50 u51 u52 u53 u54 u55 u56 u57 u58 u59 u60 u61 u62 u63 u64 u65 u66 u67 u68 u69 u70 u71 u72 u73 u74 u75 u76 u77 u78 u79 u80 u81 u82 u83 u84 u85 u86 u87 u88 u89 u90 u91 u92 u93 u94 u95 u96 u97 u98 u99 u100 u101 u102 u103 u104 u105 u106 u107 u108 u109 u110 u111 u112 u113 u114 u115 u116 u117 u118 u119 u120 u121 u122 u123 u124 u125 u126 u127 u128 u129 u130 u131 u132 u133 u134 u135 u136 u137 u138 u139 u140 u141 u142 u143 u144 u145 u146 u147 u148 u149 u150 u151 u152 u153 u154 u155 u156 u157 u158 u159 u160 u161 u162 u163 u164 u165 u166 u167 u168 u169 u170 u171 u172 u173 u174 u175 u176 u177 u178 u179 u180 u181 u182 u183 u184 u185 u186 u187 u188 u189 u190 u191 u192 u193 u194 u195 u196 u197 u198 u199 u200 u201 u202 u203 u204 u205 u206 u207 u208 u209 u210 u211 u212 u213 u214 u215 u216 u217 u218 u219 u220 u221 u222 u223 u224 u225 u226 u227 u228 u229 u230 u231 u232 u233 u234 u235 u236 u237 u238 u239 u240 u241 u242 u243 u244 u245 u246 u247 u248 u249 u250 u251 u252 u253 u254 u255 u256 u257 u258 u259 u260 u261 u262 u263 u264 u265 u266 u267 u268 u269 u270 u271 u272 u273 u274 u275 u276 u277 u278 u279 u280 u281 u282 u283 u284 u285 u286 u287 u288 u289 u290 u291 u292 u293 u294 u295 u296 u297 u298 u299 u300 u301 u302 u303 u304 : Value) : Code.wp Tryz.prog zM Q ⟨#[Value.pointer (some ⟨R, 0, none⟩), u1, Value.pointer (some ⟨rb, 0, none⟩), Value.bool nl, Value.int .i64 (46), Value.pointer (some ⟨tb, 0, none⟩), u6, u7, u8, u9, u10, u11, u12, u13, u14, u15, u16, u17, u18, u19, u20, u21, u22, u23, u24, u25, u26, u27, u28, u29, u30, u31, u32, u33, u34, u35, u36, u37, u38, u39, u40, u41, u42, u43, u44, u45, u46, u47, u48, u49, u50, u51, u52, u53, u54, u55, u56, u57, u58, u59, u60, u61, u62, u63, u64, u65, u66, u67, u68, u69, u70, u71, u72, u73, u74, u75, u76, u77, u78, u79, u80, u81, u82, u83, u84, u85, u86, u87, u88, u89, u90, u91, u92, u93, u94, u95, u96, u97, u98, u99, u100, u101, u102, u103, u104, u105, u106, u107, u108, u109, u110, u111, u112, u113, u114, u115, u116, u117, u118, u119, u120, u121, u122, u123, u124, u125, u126, u127, u128, u129, u130, u131, u132, u133, u134, u135, u136, u137, u138, u139, u140, u141, u142, u143, u144, u145, u146, u147, u148, u149, u150, u151, u152, u153, u154, u155, u156, u157, u158, u159, u160, u161, u162, u163, u164, u165, u166, u167, u168, u169, u170, u171, u172, u173, u174, u175, u176, u177, u178, u179, u180, u181, u182, u183, u184, u185, u186, u187, u188, u189, u190, u191, u192, u193, u194, u195, u196, u197, u198, u199, u200, u201, u202, u203, u204, u205, u206, u207, u208, u209, u210, u211, u212, u213, u214, u215, u216, u217, u218, u219, u220, u221, u222, u223, u224, u225, u226, u227, u228, u229, u230, u231, u232, u233, u234, u235, u236, u237, u238, u239, u240, u241, u242, u243, u244, u245, u246, u247, u248, u249, u250, u251, u252, u253, u254, u255, u256, u257, u258, u259, u260, u261, u262, u263, u264, u265, u266, u267, u268, u269, u270, u271, u272, u273, u274, u275, u276, u277, u278, u279, u280, u281, u282, u283, u284, u285, u286, u287, u288, u289, u290, u291, u292, u293, u294, u295, u296, u297, u298, u299, u300, u301, u302, u303, u304], []⟩ w := by
  conv => arg 2; whnf
  have HI := Lib.hid (show identS (46) = false by decide)
  have HD := Lib.hid (show decI (46) = false by decide)
  go_upto_region 43 with (first | (go_at_call 17; refine (rstart_false _ _ HI.out).mono ?_; rintro e w' ⟨rfl, rfl⟩) | (go_at_call 20; refine (rdec_false _ _ HD.out).mono ?_; rintro e w' ⟨rfl, rfl⟩))
  have k0 := Zu.start h
  clear h
  obtain ⟨ub, hub⟩ : ∃ ub, ub = w.heap.size := ⟨_, rfl⟩
  rw [← hub] at k0 ⊢
  generalize w.alloc (.cells #[.int .i64 0, .string ⟨#[]⟩, .int .i64 0, .int .i64 0, .bool false, .int .i64 0] 31) = x0 at k0 ⊢
  clear hub
  go_wp2_with (go_at_call 16; refine (peek_rf _ R M sv all _ k0.zk.rf).mono ?_; rintro e x1 ⟨rfl, fx⟩; refine Hid.out ?_)
  refine Lib.hid ?_
  have k1 := k0.still fx
  clear k0 fx
  obtain ⟨⟨a0, a1, a2, a3, a4, a5⟩, b0, b1, b2, b3, b4, b5⟩ := k1.facts
  go_upto_region 120 with (go_at_call 20; refine (rdec_false _ _ HDP.out).mono ?_; rintro e w' ⟨rfl, rfl⟩)
  have g1 := k1.put (46) ⟨#[]⟩
  clear a0 a1 a2 a3 a4 a5 b0 b1 b2 b3 b4 b5 k1
  unfold zput at g1
  generalize ((((((x1.setCell ⟨ub, 0, none⟩ (.int .i64 46)).setCell ⟨ub, 1, none⟩ (.string ⟨#[]⟩)).setCell ⟨ub, 2, none⟩ (.int .i64 0)).setCell ⟨ub, 3, none⟩ (.int .i64 0)).setCell ⟨ub, 4, none⟩ (.bool false)).setCell ⟨ub, 5, none⟩ (.int .i64 0)) = wp at g1 ⊢
  obtain ⟨⟨a0, a1, -⟩, -⟩ := g1.facts
  obtain ⟨t0, t1, t2, t3, t4, t5, f0, f1, f5⟩ := g1.zk.facts
  go_upto_region 122 with fail
  have g2 := (g1.zk.setTyp (46)).setStr ⟨#[]⟩
  clear a0 a1 t0 t1 t2 t3 t4 t5 f0 f1 f5 g1
  generalize (wp.setCell ⟨tb, 0, none⟩ (.int .i64 (46))).setCell ⟨tb, 1, none⟩ (.string ⟨#[]⟩) = wq at g2 ⊢
  obtain ⟨t0, t1, t2, t3, t4, t5, f0, f1, f5⟩ := g2.facts
  obtain ⟨⟨r0, r1, r2, r3, r4, r5⟩, q0, q1, q2, q3, q4, q5⟩ := g2.rfacts
  go_wp2
  exact ⟨_, _, _, _, _, rfl, g2.fin.hR, g2.fin.fb, fun _ => ⟨rfl, rfl, rfl, g2.fin.rf⟩⟩


set_option maxRecDepth 1000000 in
set_option maxHeartbeats 16000000 in
theorem zd_two {W0 w : World} {R M rb tb : Nat} {sv : Value} {all : List UInt8} {st : St} {line col : Int} {nl : Bool} {Q : Exit → Act → World → Prop} (h : Zk W0 R M sv all rb tb w st 0 ⟨#[]⟩ line col nl 0) (HDP : Hid (decI (hd st.rest) = false)) (hx : (hd st.rest == 46) = true) (hy : (hd st.nextS.rest == 46) = false)
    (hQ : ∀ a w, ZRet W0 R M sv all rb line col nl ((true, 57372, [46, 46], st.nextS) : Bool × Int × List UInt8 × St) a w → Q .ret a w) (u1 u6 u7 u8 u9 u10 u11 u12 u13 u14 u15 u16 u17 u18 u19 u20 u21 u22 u23 u24 u25 u26 u27 u28 u29 u30 u31 u32 u33 u34 u35 u36 u37 u38 u39 u40 u41 u42 u43 u44 u45 u46 u47 u48 u49 u50 u51 u52 u53 u54 u55 u56 u57 u58 u59 u60 u61 u62 u63 u64 u65 u66 u67 u68 u69 u70 u71 u72 u73 u74 u75 u76 u77 u78 u79 u80 u81 u82 u83 u84 u85 u86 u87 u88 u89 u90 u91 u92 u93 u94 u95 u96 u97 u98 u99 u100 u101 u102 u103 u104 u105 u106 u107 u108 u109 u110 u111 u112 u113 u114 u115 u116 u117 u118 u119 u120 u121 u122 u123 u124 u125 u126 u127 u128 u129 u130 u131 u132 u133 u134 u135 u136 u137 u138 u139 u140 u141 u142 u143 u144 u145 u146 u147 u148 u149 u150 u151 u152 u153 u154 u155 u156 u157 u158 u159 u160 u161 u162 u163 u164 u165 u166 u167 u168 u169 u170 u171 u172 u173 u174 u175 u176 u177 u178 u179 u180 u181 u182 u183 u184 u185 u186 u187 u188 u189 u190 u191 u192 u193 u194 u195 u196 u197 u198 u199 u200 u201 u202 u203 u204 u205 u206 u207 u208 u209 u210 u211 u212 u213 u214 u215 u216 u217 u218 u219 u220 u221 u222 u223 u224 u225 u226 u227 u228 u229 u230 u231 u232 u233 u234 u235 u236 u237 u238 u239 u240 u241 u242 u243 u244 u245 u246 u247 u248 u249 u250 u251 u252 u253 u254 u255 u256 u257 u258 u259 u260 u261 u262 u263 u264 u265 u266 u267 u268 u269 u270 u271 u272 u273 u274 u275 u276 u277 u278 u279 u280 u281 u282 u283 u284 u285 u286 u287 u288 u289 u290 u291 u292 u293 u294 u295 u296 u297 u298 u299 u300 u301 u302 u303 u304 : Value) : Code.wp Tryz.prog zM Q ⟨#[Value.pointer (some ⟨R, 0, none⟩), u1, Value.pointer (some ⟨rb, 0, none⟩), Value.bool nl, Value.int .i64 (46), Value.pointer (some ⟨tb, 0, none⟩), u6, u7, u8, u9, u10, u11, u12, u13, u14, u15, u16, u17, u18, u19, u20, u21, u22, u23, u24, u25, u26, u27, u28, u29, u30, u31, u32, u33, u34, u35, u36, u37, u38, u39, u40, u41, u42, u43, u44, u45, u46, u47, u48, u49, u50, u51, u52, u53, u54, u55, u56, u57, u58, u59, u60, u61, u62, u63, u64, u65, u66, u67, u68, u69, u70, u71, u72, u73, u74, u75, u76, u77, u78, u79, u80, u81, u82, u83, u84, u85, u86, u87, u88, u89, u90, u91, u92, u93, u94, u95, u96, u97, u98, u99, u100, u101, u102, u103, u104, u105, u106, u107, u108, u109, u110, u111, u112, u113, u114, u115, u116, u117, u118, u119, u120, u121, u122, u123, u124, u125, u126, u127, u128, u129, u130, u131, u132, u133, u134, u135, u136, u137, u138, u139, u140, u141, u142, u143, u144, u145, u146, u147, u148, u149, u150, u151, u152, u153, u154, u155, u156, u157, u158, u159, u160, u161, u162, u163, u164, u165, u166, u167, u168, u169, u170, u171, u172, u173, u174, u175, u176, u177, u178, u179, u180, u181, u182, u183, u184, u185, u186, u187, u188, u189, u190, u191, u192, u193, u194, u195, u196, u197, u198, u199, u200, u201, u202, u203, u204, u205, u206, u207, u208, u209, u210, u211, u212, u213, u214, u215, u216, u217, u218, u219, u220, u221, u222, u223, u224, u225, u226, u227, u228, u229, u230, u231, u232, u233, u234, u235, u236, u237, u238, u239, u240, u241, u242, u243, u244, u245, u246, u247, u248, u249, u250, u251, u252, u253, u254, u255, u256, u257, u258, u259, u260, u261, u262, u263, u264, u265, u266, u267, u268, u269, u270, u271, u272, u273, u274, u275, u276, u277, u278, u279, u280, u281, u282, u283, u284, u285, u286, u287, u288, u289, u290, u291, u292, u293, u294, u295, u296, u297, u298, u299, u300, u301, u302, u303, u304], []⟩ w := by
  conv => arg 2; whnf
  have HI := Lib.hid (show identS (46) = false by decide)
  have HD := Lib.hid (show decI (46) = false by decide)
  go_upto_region 43 with (first | (go_at_call 17; refine (rstart_false _ _ HI.out).mono ?_; rintro e w' ⟨rfl, rfl⟩) | (go_at_call 20; refine (rdec_false _ _ HD.out).mono ?_; rintro e w' ⟨rfl, rfl⟩))
  have k0 := Zu.start h
  clear h
  obtain ⟨ub, hub⟩ : ∃ ub, ub = w.heap.size := ⟨_, rfl⟩
  rw [← hub] at k0 ⊢
  generalize w.alloc (.cells #[.int .i64 0, .string ⟨#[]⟩, .int .i64 0, .int .i64 0, .bool false, .int .i64 0] 31) = x0 at k0 ⊢
  clear hub
  go_wp2_with (go_at_call 16; refine (peek_rf _ R M sv all _ k0.zk.rf).mono ?_; rintro e x1 ⟨rfl, fx⟩; refine Hid.out ?_)
  refine Lib.hid ?_
  have k1 := k0.still fx
  clear k0 fx
  go_wp2_with (first | (go_at_call 20; refine (rdec_false _ _ HDP.out).mono ?_; rintro e w' ⟨rfl, rfl⟩) | (go_at_call 15; refine (next_rf _ R M sv all _ k1.zk.rf).mono ?_; rintro e x2 ⟨rfl, rx, fx⟩; refine Hid.out ?_))
  refine Lib.hid ?_
  have k2 := k1.step rx fx
  clear k1 rx fx
  go_wp2_with (go_at_call 16; refine (peek_rf _ R M sv all _ k2.zk.rf).mono ?_; rintro e x3 ⟨rfl, fx⟩; refine Hid.out ?_)
  refine Lib.hid ?_
  have k3 := k2.still fx
  clear k2 fx
  obtain ⟨⟨a0, a1, a2, a3, a4, a5⟩, b0, b1, b2, b3, b4, b5⟩ := k3.facts
  go_upto_region 120 with fail
  have g1 := k3.put (57372) ⟨#[46, 46]⟩
  clear a0 a1 a2 a3 a4 a5 b0 b1 b2 b3 b4 b5 k3
  unfold zput at g1
  generalize ((((((x3.setCell ⟨ub, 0, none⟩ (.int .i64 57372)).setCell ⟨ub, 1, none⟩ (.string ⟨#[46, 46]⟩)).setCell ⟨ub, 2, none⟩ (.int .i64 0)).setCell ⟨ub, 3, none⟩ (.int .i64 0)).setCell ⟨ub, 4, none⟩ (.bool false)).setCell ⟨ub, 5, none⟩ (.int .i64 0)) = wp at g1 ⊢
  obtain ⟨⟨a0, a1, -⟩, -⟩ := g1.facts
  obtain ⟨t0, t1, t2, t3, t4, t5, f0, f1, f5⟩ := g1.zk.facts
  go_upto_region 122 with fail
  have g2 := (g1.zk.setTyp (57372)).setStr ⟨#[46, 46]⟩
  clear a0 a1 t0 t1 t2 t3 t4 t5 f0 f1 f5 g1
  generalize (wp.setCell ⟨tb, 0, none⟩ (.int .i64 (57372))).setCell ⟨tb, 1, none⟩ (.string ⟨#[46, 46]⟩) = wq at g2 ⊢
  obtain ⟨t0, t1, t2, t3, t4, t5, f0, f1, f5⟩ := g2.facts
  obtain ⟨⟨r0, r1, r2, r3, r4, r5⟩, q0, q1, q2, q3, q4, q5⟩ := g2.rfacts
  go_wp2
  exact ⟨_, _, _, _, _, rfl, g2.fin.hR, g2.fin.fb, fun _ => ⟨rfl, rfl, rfl, g2.fin.rf⟩⟩


set_option maxRecDepth 1000000 in
set_option maxHeartbeats 16000000 in
theorem zd_three {W0 w : World} {R M rb tb : Nat} {sv : Value} {all : List UInt8} {st : St} {line col : Int} {nl : Bool} {Q : Exit → Act → World → Prop} (h : Zk W0 R M sv all rb tb w st 0 ⟨#[]⟩ line col nl 0) (HDP : Hid (decI (hd st.rest) = false)) (hx : (hd st.rest == 46) = true) (hy : (hd st.nextS.rest == 46) = true)
    (hQ : ∀ a w, ZRet W0 R M sv all rb line col nl ((true, 57373, [46, 46, 46], st.nextS.nextS) : Bool × Int × List UInt8 × St) a w → Q .ret a w) (u1 u6 u7 u8 u9 u10 u11 u12 u13 u14 u15 u16 u17 u18 u19 u20 u21 u22 u23 u24 u25 u26 u27 u28 u29 u30 u31 u32 u33 u34 u35 u36 u37 u38 u39 u40 u41 u42 u43 u44 u45 u46 u47 u48 u49 u50 u51 u52 u53 u54 u55 u56 u57 u58 u59 u60 u61 u62 u63 u64 u65 u66 u67 u68 u69 u70 u71 u72 u73 u74 u75 u76 u77 u78 u79 u80 u81 u82 u83 u84 u85 u86 u87 u88 u89 u90 u91 u92 u93 u94 u95 u96 u97 u98 u99 u100 u101 u102 u103 u104 u105 u106 u107 u108 u109 u110 u111 u112 u113 u114 u115 u116 u117 u118 u119 u120 u121 u122 u123 u124 u125 u126 u127 u128 u129 u130 u131 u132 u133 u134 u135 u136 u137 u138 u139 u140 u141 u142 u143 u144 u145 u146 u147 u148 u149 u150 u151 u152 u153 u154 u155 u156 u157 u158 u159 u160 u161 u162 u163 u164 u165 u166 u167 u168 u169 u170 u171 u172 u173 u174 u175 u176 u177 u178 u179 u180 u181 u182 u183 u184 u185 u186 u187 u188 u189 u190 u191 u192 u193 u194 u195 u196 u197 u198 u199 u200 u201 u202 u203 u204 u205 u206 u207 u208 u209 u210 u211 u212 u213 u214 u215 u216 u217 u218 u219 u220 u221 u222 u223 u224 u225 u226 u227 u228 u229 u230 u231 u232 u233 u234 u235 u236 u237 u238 u239 u240 u241 u242 u243 u244 u245 u246 u247 u248 u249 u250 u251 u252 u253 u254 u255 u256 u257 u258 u259 u260 u261 u262 u263 u264 u265 u266 u267 u268 u269 u270 u271 u272 u273 u274 u275 u276 u277 u278 u279 u280 u281 u282 u283 u284 u285 u286 u287 u288 u289 u290 u291 u292 u293 u294 u295 u296 u297 u298 u299 u300 u301 u302 u303 u304 : Value) : Code.wp Tryz.prog zM Q ⟨#[Value.pointer (some ⟨R, 0, none⟩), u1, Value.pointer (some ⟨rb, 0, none⟩), Value.bool nl, Value.int .i64 (46), Value.pointer (some ⟨tb, 0, none⟩), u6, u7, u8, u9, u10, u11, u12, u13, u14, u15, u16, u17, u18, u19, u20, u21, u22, u23, u24, u25, u26, u27, u28, u29, u30, u31, u32, u33, u34, u35, u36, u37, u38, u39, u40, u41, u42, u43, u44, u45, u46, u47, u48, u49, u50, u51, u52, u53, u54, u55, u56, u57, u58, u59, u60, u61, u62, u63, u64, u65, u66, u67, u68, u69, u70, u71, u72, u73, u74, u75, u76, u77, u78, u79, u80, u81, u82, u83, u84, u85, u86, u87, u88, u89, u90, u91, u92, u93, u94, u95, u96, u97, u98, u99, u100, u101, u102, u103, u104, u105, u106, u107, u108, u109, u110, u111, u112, u113, u114, u115, u116, u117, u118, u119, u120, u121, u122, u123, u124, u125, u126, u127, u128, u129, u130, u131, u132, u133, u134, u135, u136, u137, u138, u139, u140, u141, u142, u143, u144, u145, u146, u147, u148, u149, u150, u151, u152, u153, u154, u155, u156, u157, u158, u159, u160, u161, u162, u163, u164, u165, u166, u167, u168, u169, u170, u171, u172, u173, u174, u175, u176, u177, u178, u179, u180, u181, u182, u183, u184, u185, u186, u187, u188, u189, u190, u191, u192, u193, u194, u195, u196, u197, u198, u199, u200, u201, u202, u203, u204, u205, u206, u207, u208, u209, u210, u211, u212, u213, u214, u215, u216, u217, u218, u219, u220, u221, u222, u223, u224, u225, u226, u227, u228, u229, u230, u231, u232, u233, u234, u235, u236, u237, u238, u239, u240, u241, u242, u243, u244, u245, u246, u247, u248, u249, u250, u251, u252, u253, u254, u255, u256, u257, u258, u259, u260, u261, u262, u263, u264, u265, u266, u267, u268, u269, u270, u271, u272, u273, u274, u275, u276, u277, u278, u279, u280, u281, u282, u283, u284, u285, u286, u287, u288, u289, u290, u291, u292, u293, u294, u295, u296, u297, u298, u299, u300, u301, u302, u303, u304], []⟩ w := by
  conv => arg 2; whnf
  have HI := Lib.hid (show identS (46) = false by decide)
  have HD := Lib.hid (show decI (46) = false by decide)
  go_upto_region 43 with (first | (go_at_call 17; refine (rstart_false _ _ HI.out).mono ?_; rintro e w' ⟨rfl, rfl⟩) | (go_at_call 20; refine (rdec_false _ _ HD.out).mono ?_; rintro e w' ⟨rfl, rfl⟩))
  have k0 := Zu.start h
  clear h
  obtain ⟨ub, hub⟩ : ∃ ub, ub = w.heap.size := ⟨_, rfl⟩
  rw [← hub] at k0 ⊢
  generalize w.alloc (.cells #[.int .i64 0, .string ⟨#[]⟩, .int .i64 0, .int .i64 0, .bool false, .int .i64 0] 31) = x0 at k0 ⊢
  clear hub
  go_wp2_with (go_at_call 16; refine (peek_rf _ R M sv all _ k0.zk.rf).mono ?_; rintro e x1 ⟨rfl, fx⟩; refine Hid.out ?_)
  refine Lib.hid ?_
  have k1 := k0.still fx
  clear k0 fx
  go_wp2_with (first | (go_at_call 20; refine (rdec_false _ _ HDP.out).mono ?_; rintro e w' ⟨rfl, rfl⟩) | (go_at_call 15; refine (next_rf _ R M sv all _ k1.zk.rf).mono ?_; rintro e x2 ⟨rfl, rx, fx⟩; refine Hid.out ?_))
  refine Lib.hid ?_
  have k2 := k1.step rx fx
  clear k1 rx fx
  go_wp2_with (go_at_call 16; refine (peek_rf _ R M sv all _ k2.zk.rf).mono ?_; rintro e x3 ⟨rfl, fx⟩; refine Hid.out ?_)
  refine Lib.hid ?_
  have k3 := k2.still fx
  clear k2 fx
  go_wp2_with (go_at_call 15; refine (next_rf _ R M sv all _ k3.zk.rf).mono ?_; rintro e x4 ⟨rfl, rx, fx⟩; refine Hid.out ?_)
  refine Lib.hid ?_
  have k4 := k3.step rx fx
  clear k3 rx fx
  obtain ⟨⟨a0, a1, a2, a3, a4, a5⟩, b0, b1, b2, b3, b4, b5⟩ := k4.facts
  go_upto_region 120 with fail
  have g1 := k4.put (57373) ⟨#[46, 46, 46]⟩
  clear a0 a1 a2 a3 a4 a5 b0 b1 b2 b3 b4 b5 k4
  unfold zput at g1
  generalize ((((((x4.setCell ⟨ub, 0, none⟩ (.int .i64 57373)).setCell ⟨ub, 1, none⟩ (.string ⟨#[46, 46, 46]⟩)).setCell ⟨ub, 2, none⟩ (.int .i64 0)).setCell ⟨ub, 3, none⟩ (.int .i64 0)).setCell ⟨ub, 4, none⟩ (.bool false)).setCell ⟨ub, 5, none⟩ (.int .i64 0)) = wp at g1 ⊢
  obtain ⟨⟨a0, a1, -⟩, -⟩ := g1.facts
  obtain ⟨t0, t1, t2, t3, t4, t5, f0, f1, f5⟩ := g1.zk.facts
  go_upto_region 122 with fail
  have g2 := (g1.zk.setTyp (57373)).setStr ⟨#[46, 46, 46]⟩
  clear a0 a1 t0 t1 t2 t3 t4 t5 f0 f1 f5 g1
  generalize (wp.setCell ⟨tb, 0, none⟩ (.int .i64 (57373))).setCell ⟨tb, 1, none⟩ (.string ⟨#[46, 46, 46]⟩) = wq at g2 ⊢
  obtain ⟨t0, t1, t2, t3, t4, t5, f0, f1, f5⟩ := g2.facts
  obtain ⟨⟨r0, r1, r2, r3, r4, r5⟩, q0, q1, q2, q3, q4, q5⟩ := g2.rfacts
  go_wp2
  exact ⟨_, _, _, _, _, rfl, g2.fin.hR, g2.fin.fb, fun _ => ⟨rfl, rfl, rfl, g2.fin.rf⟩⟩


set_option maxRecDepth 1000000 in
set_option maxHeartbeats 16000000 in
theorem zs_default {W0 w : World} {R M rb tb : Nat} {sv : Value} {all : List UInt8} {st : St} {line col : Int} {nl : Bool} {Q : Exit → Act → World → Prop} {c : Int} (h : Zk W0 R M sv all rb tb w st 0 ⟨#[]⟩ line col nl 0) (HI : Hid (identS c = false)) (HD : Hid (decI c = false)) (em1 : (c == -1) = false) (e45 : (c == 45) = false) (e34 : (c == 34) = false) (e39 : (c == 39) = false) (e91 : (c == 91) = false) (e61 : (c == 61) = false) (e126 : (c == 126) = false) (e60 : (c == 60) = false) (e62 : (c == 62) = false) (e46 : (c == 46) = false) (e58 : (c == 58) = false) (e43 : (c == 43) = false) (e42 : (c == 42) = false) (e47 : (c == 47) = false) (e37 : (c == 37) = false) (e94 : (c == 94) = false) (e35 : (c == 35) = false) (e40 : (c == 40) = false) (e41 : (c == 41) = false) (e123 : (c == 123) = false) (e125 : (c == 125) = false) (e93 : (c == 93) = false) (e59 : (c == 59) = false) (e44 : (c == 44) = false)
    (hQ : ∀ a w, ZRet W0 R M sv all rb line col nl ((false, 0, [], st) : Bool × Int × List UInt8 × St) a w → Q .ret a w) (u1 u6 u7 u8 u9 u10 u11 u12 u13 u14 u15 u16 u17 u18 u19 u20 u21 u22 u23 u24 u25 u26 u27 u28 u29 u30 u31 u32 u33 u34 u35 u36 u37 u38 u39 u40 u41 u42 u43 u44 u45 u46 u47 u48 u49 u50 u51 u52 u53 u54 u55 u56 u57 u58 u59 u60 u61 u62 u63 u64 u65 u66 u67 u68 u69 u70 u71 u72 u73 u74 u75 u76 u77 u78 u79 u80 u81 u82 u83 u84 u85 u86 u87 u88 u89 u90 u91 u92 u93 u94 u95 u96 u97 u98 u99 u100 u101 u102 u103 u104 u105 u106 u107 u108 u109 u110 u111 u112 u113 u114 u115 u116 u117 u118 u119 u120 u121 u122 u123 u124 u125 u126 u127 u128 u129 u130 u131 u132 u133 u134 u135 u136 u137 u138 u139 u140 u141 u142 u143 u144 u145 u146 u147 u148 u149 u150 u151 u152 u153 u154 u155 u156 u157 u158 u159 u160 u161 u162 u163 u164 u165 u166 u167 u168 u169 u170 u171 u172 u173 u174 u175 u176 u177 u178 u179 u180 u181 u182 u183 u184 u185 u186 u187 u188 u189 u190 u191 u192 u193 u194 u195 u196 u197 u198 u199 u200 u201 u202 u203 u204 u205 u206 u207 u208 u209 u210 u211 u212 u213 u214 u215 u216 u217 u218 u219 u220 u221 u222 u223 u224 u225 u226 u227 u228 u229 u230 u231 u232 u233 u234 u235 u236 u237 u238 u239 u240 u241 u242 u243 u244 u245 u246 u247 u248 u249 u250 u251 u252 u253 u254 u255 u256 u257 u258 u259 u260 u261 u262 u263 u264 u265 u266 u267 u268 u269 u270 u271 u272 u273 u274 u275 u276 u277 u278 u279 u280 u281 u282 u283 u284 u285 u286 u287 u288 u289 u290 u291 u292 u293 u294 u295 u296 u297 u298 u299 u300 u301 u302 u303 u304 : Value) : Code.wp Tryz.prog zM Q ⟨#[Value.pointer (some ⟨R, 0, none⟩), u1, Value.pointer (some ⟨rb, 0, none⟩), Value.bool nl, Value.int .i64 c, Value.pointer (some ⟨tb, 0, none⟩), u6, u7, u8, u9, u10, u11, u12, u13, u14, u15, u16, u17, u18, u19, u20, u21, u22, u23, u24, u25, u26, u27, u28, u29, u30, u31, u32, u33, u34, u35, u36, u37, u38, u39, u40, u41, u42, u43, u44, u45, u46, u47, u48, u49, u50, u51, u52, u53, u54, u55, u56, u57, u58, u59, u60, u61, u62, u63, u64, u65, u66, u67, u68, u69, u70, u71, u72, u73, u74, u75, u76, u77, u78, u79, u80, u81, u82, u83, u84, u85, u86, u87, u88, u89, u90, u91, u92, u93, u94, u95, u96, u97, u98, u99, u100, u101, u102, u103, u104, u105, u106, u107, u108, u109, u110, u111, u112, u113, u114, u115, u116, u117, u118, u119, u120, u121, u122, u123, u124, u125, u126, u127, u128, u129, u130, u131, u132, u133, u134, u135, u136, u137, u138, u139, u140, u141, u142, u143, u144, u145, u146, u147, u148, u149, u150, u151, u152, u153, u154, u155, u156, u157, u158, u159, u160, u161, u162, u163, u164, u165, u166, u167, u168, u169, u170, u171, u172, u173, u174, u175, u176, u177, u178, u179, u180, u181, u182, u183, u184, u185, u186, u187, u188, u189, u190, u191, u192, u193, u194, u195, u196, u197, u198, u199, u200, u201, u202, u203, u204, u205, u206, u207, u208, u209, u210, u211, u212, u213, u214, u215, u216, u217, u218, u219, u220, u221, u222, u223, u224, u225, u226, u227, u228, u229, u230, u231, u232, u233, u234, u235, u236, u237, u238, u239, u240, u241, u242, u243, u244, u245, u246, u247, u248, u249, u250, u251, u252, u253, u254, u255, u256, u257, u258, u259, u260, u261, u262, u263, u264, u265, u266, u267, u268, u269, u270, u271, u272, u273, u274, u275, u276, u277, u278, u279, u280, u281, u282, u283, u284, u285, u286, u287, u288, u289, u290, u291, u292, u293, u294, u295, u296, u297, u298, u299, u300, u301, u302, u303, u304], []⟩ w := by
  conv => arg 2; whnf
  go_upto_region 43 with (first | (go_at_call 17; refine (rstart_false _ _ HI.out).mono ?_; rintro e w' ⟨rfl, rfl⟩) | (go_at_call 20; refine (rdec_false _ _ HD.out).mono ?_; rintro e w' ⟨rfl, rfl⟩))
  have k0 := Zu.start h
  clear h
  obtain ⟨ub, hub⟩ : ∃ ub, ub = w.heap.size := ⟨_, rfl⟩
  rw [← hub] at k0 ⊢
  generalize w.alloc (.cells #[.int .i64 0, .string ⟨#[]⟩, .int .i64 0, .int .i64 0, .bool false, .int .i64 0] 31) = x0 at k0 ⊢
  clear hub
  have kz := k0.zk
  clear k0
  obtain ⟨t0, t1, t2, t3, t4, t5, f0, f1, f5⟩ := kz.facts
  go_upto_region 45 with fail
  have g2 := kz.setSta 1
  clear t0 t1 t2 t3 t4 t5 f0 f1 f5
  generalize x0.setCell ⟨tb, 5, none⟩ (.int .i64 1) = wq at g2 ⊢
  obtain ⟨t0, t1, t2, t3, t4, t5, f0, f1, f5⟩ := g2.facts
  obtain ⟨⟨r0, r1, r2, r3, r4, r5⟩, q0, q1, q2, q3, q4, q5⟩ := g2.rfacts
  go_wp2
  exact ⟨_, _, _, _, _, rfl, g2.fin.hR, g2.fin.fb, fun e => absurd e (by decide)⟩

end Go.Proofs.YtnmpeipccpgkpaaGreatDoor
