/- The token model's scan, walked: one character. -/
import Derived.Test.YtnmpeipccpgkpaaGreatDoorZk77
namespace Go.Proofs.YtnmpeipccpgkpaaGreatDoor
open Go.RowKit

set_option maxRecDepth 1000000 in
set_option maxHeartbeats 16000000 in
theorem zo_43 {W0 w : World} {R M rb tb : Nat} {sv : Value} {all : List UInt8} {st : St} {line col : Int} {nl : Bool} {Q : Exit → Act → World → Prop} (h : Zk W0 R M sv all rb tb w st 0 ⟨#[]⟩ line col nl 0) 
    (hQ : ∀ a w, ZRet W0 R M sv all rb line col nl (one 43 st) a w → Q .ret a w) (u1 u6 u7 u8 u9 u10 u11 u12 u13 u14 u15 u16 u17 u18 u19 u20 u21 u22 u23 u24 u25 u26 u27 u28 u29 u30 u31 u32 u33 u34 u35 u36 u37 u38 u39 u40 u41 u42 u43 u44 u45 u46 u47 u48 u49 u50 u51 u52 u53 u54 u55 u56 u57 u58 u59 u60 u61 u62 u63 u64 u65 u66 u67 u68 u69 u70 u71 u72 u73 u74 u75 u76 u77 u78 u79 u80 u81 u82 u83 u84 u85 u86 u87 u88 u89 u90 u91 u92 u93 u94 u95 u96 u97 u98 u99 u100 u101 u102 u103 u104 u105 u106 u107 u108 u109 u110 u111 u112 u113 u114 u115 u116 u117 u118 u119 u120 u121 u122 u123 u124 u125 u126 u127 u128 u129 u130 u131 u132 u133 u134 u135 u136 u137 u138 u139 u140 u141 u142 u143 u144 u145 u146 u147 u148 u149 u150 u151 u152 u153 u154 u155 u156 u157 u158 u159 u160 u161 u162 u163 u164 u165 u166 u167 u168 u169 u170 u171 u172 u173 u174 u175 u176 u177 u178 u179 u180 u181 u182 u183 u184 u185 u186 u187 u188 u189 u190 u191 u192 u193 u194 u195 u196 u197 u198 u199 u200 u201 u202 u203 u204 u205 u206 u207 u208 u209 u210 u211 u212 u213 u214 u215 u216 u217 u218 u219 u220 u221 u222 u223 u224 u225 u226 u227 u228 u229 u230 u231 u232 u233 u234 u235 u236 u237 u238 u239 u240 u241 u242 u243 u244 u245 u246 u247 u248 u249 u250 u251 u252 u253 u254 u255 u256 u257 u258 u259 u260 u261 u262 u263 u264 u265 u266 u267 u268 u269 u270 u271 u272 u273 u274 u275 u276 u277 u278 u279 u280 u281 u282 u283 u284 u285 u286 u287 u288 u289 u290 u291 u292 u293 u294 u295 u296 u297 u298 u299 u300 u301 u302 u303 u304 : Value) : Code.wp Tryz.prog zM Q ⟨#[Value.pointer (some ⟨R, 0, none⟩), u1, Value.pointer (some ⟨rb, 0, none⟩), Value.bool nl, Value.int .i64 (43), Value.pointer (some ⟨tb, 0, none⟩), u6, u7, u8, u9, u10, u11, u12, u13, u14, u15, u16, u17, u18, u19, u20, u21, u22, u23, u24, u25, u26, u27, u28, u29, u30, u31, u32, u33, u34, u35, u36, u37, u38, u39, u40, u41, u42, u43, u44, u45, u46, u47, u48, u49, u50, u51, u52, u53, u54, u55, u56, u57, u58, u59, u60, u61, u62, u63, u64, u65, u66, u67, u68, u69, u70, u71, u72, u73, u74, u75, u76, u77, u78, u79, u80, u81, u82, u83, u84, u85, u86, u87, u88, u89, u90, u91, u92, u93, u94, u95, u96, u97, u98, u99, u100, u101, u102, u103, u104, u105, u106, u107, u108, u109, u110, u111, u112, u113, u114, u115, u116, u117, u118, u119, u120, u121, u122, u123, u124, u125, u126, u127, u128, u129, u130, u131, u132, u133, u134, u135, u136, u137, u138, u139, u140, u141, u142, u143, u144, u145, u146, u147, u148, u149, u150, u151, u152, u153, u154, u155, u156, u157, u158, u159, u160, u161, u162, u163, u164, u165, u166, u167, u168, u169, u170, u171, u172, u173, u174, u175, u176, u177, u178, u179, u180, u181, u182, u183, u184, u185, u186, u187, u188, u189, u190, u191, u192, u193, u194, u195, u196, u197, u198, u199, u200, u201, u202, u203, u204, u205, u206, u207, u208, u209, u210, u211, u212, u213, u214, u215, u216, u217, u218, u219, u220, u221, u222, u223, u224, u225, u226, u227, u228, u229, u230, u231, u232, u233, u234, u235, u236, u237, u238, u239, u240, u241, u242, u243, u244, u245, u246, u247, u248, u249, u250, u251, u252, u253, u254, u255, u256, u257, u258, u259, u260, u261, u262, u263, u264, u265, u266, u267, u268, u269, u270, u271, u272, u273, u274, u275, u276, u277, u278, u279, u280, u281, u282, u283, u284, u285, u286, u287, u288, u289, u290, u291, u292, u293, u294, u295, u296, u297, u298, u299, u300, u301, u302, u303, u304], []⟩ w := by
  conv => arg 2; whnf
  have HI := Lib.hid (show identS (43) = false by decide)
  have HD := Lib.hid (show decI (43) = false by decide)
  go_upto_region 43 with (first | (go_at_call 17; refine (rstart_false _ _ HI.out).mono ?_; rintro e w' ⟨rfl, rfl⟩) | (go_at_call 20; refine (rdec_false _ _ HD.out).mono ?_; rintro e w' ⟨rfl, rfl⟩))
  have k0 := Zu.start h
  clear h
  obtain ⟨ub, hub⟩ : ∃ ub, ub = w.heap.size := ⟨_, rfl⟩
  rw [← hub] at k0 ⊢
  generalize w.alloc (.cells #[.int .i64 0, .string ⟨#[]⟩, .int .i64 0, .int .i64 0, .bool false, .int .i64 0] 31) = x0 at k0 ⊢
  clear hub
  go_wp2_with (go_at_call 21; refine (zone_any _ _ _).mono ?_; rintro e y1 ⟨rfl, fx⟩; unfold zcells; refine Hid.out ?_)
  refine Lib.hid ?_
  have m1 := k0.still fx
  clear k0 fx
  obtain ⟨⟨a0, a1, a2, a3, a4, a5⟩, b0, b1, b2, b3, b4, b5⟩ := m1.facts
  go_upto_region 120 with fail
  have g1 := m1.put (43) ⟨[by8 43].toArray⟩
  clear a0 a1 a2 a3 a4 a5 b0 b1 b2 b3 b4 b5 m1
  unfold zput at g1
  generalize ((((((y1.setCell ⟨ub, 0, none⟩ (.int .i64 43)).setCell ⟨ub, 1, none⟩ (.string ⟨[by8 43].toArray⟩)).setCell ⟨ub, 2, none⟩ (.int .i64 0)).setCell ⟨ub, 3, none⟩ (.int .i64 0)).setCell ⟨ub, 4, none⟩ (.bool false)).setCell ⟨ub, 5, none⟩ (.int .i64 0)) = wp at g1 ⊢
  obtain ⟨⟨a0, a1, -⟩, -⟩ := g1.facts
  obtain ⟨t0, t1, t2, t3, t4, t5, f0, f1, f5⟩ := g1.zk.facts
  go_upto_region 122 with fail
  have g2 := (g1.zk.setTyp (43)).setStr ⟨[by8 43].toArray⟩
  clear a0 a1 t0 t1 t2 t3 t4 t5 f0 f1 f5 g1
  generalize (wp.setCell ⟨tb, 0, none⟩ (.int .i64 (43))).setCell ⟨tb, 1, none⟩ (.string ⟨[by8 43].toArray⟩) = wq at g2 ⊢
  obtain ⟨t0, t1, t2, t3, t4, t5, f0, f1, f5⟩ := g2.facts
  obtain ⟨⟨r0, r1, r2, r3, r4, r5⟩, q0, q1, q2, q3, q4, q5⟩ := g2.rfacts
  go_wp2
  exact ⟨_, _, _, _, _, rfl, g2.fin.hR, g2.fin.fb, fun _ => ⟨rfl, rfl, rfl, g2.fin.rf⟩⟩


set_option maxRecDepth 1000000 in
set_option maxHeartbeats 16000000 in
theorem zo_42 {W0 w : World} {R M rb tb : Nat} {sv : Value} {all : List UInt8} {st : St} {line col : Int} {nl : Bool} {Q : Exit → Act → World → Prop} (h : Zk W0 R M sv all rb tb w st 0 ⟨#[]⟩ line col nl 0) 
    (hQ : ∀ a w, ZRet W0 R M sv all rb line col nl (one 42 st) a w → Q .ret a w) (u1 u6 u7 u8 u9 u10 u11 u12 u13 u14 u15 u16 u17 u18 u19 u20 u21 u22 u23 u24 u25 u26 u27 u28 u29 u30 u31 u32 u33 u34 u35 u36 u37 u38 u39 u40 u41 u42 u43 u44 u45 u46 u47 u48 u49 u50 u51 u52 u53 u54 u55 u56 u57 u58 u59 u60 u61 u62 u63 u64 u65 u66 u67 u68 u69 u70 u71 u72 u73 u74 u75 u76 u77 u78 u79 u80 u81 u82 u83 u84 u85 u86 u87 u88 u89 u90 u91 u92 u93 u94 u95 u96 u97 u98 u99 u100 u101 u102 u103 u104 u105 u106 u107 u108 u109 u110 u111 u112 u113 u114 u115 u116 u117 u118 u119 u120 u121 u122 u123 u124 u125 u126 u127 u128 u129 u130 u131 u132 u133 u134 u135 u136 u137 u138 u139 u140 u141 u142 u143 u144 u145 u146 u147 u148 u149 u150 u151 u152 u153 u154 u155 u156 u157 u158 u159 u160 u161 u162 u163 u164 u165 u166 u167 u168 u169 u170 u171 u172 u173 u174 u175 u176 u177 u178 u179 u180 u181 u182 u183 u184 u185 u186 u187 u188 u189 u190 u191 u192 u193 u194 u195 u196 u197 u198 u199 u200 u201 u202 u203 u204 u205 u206 u207 u208 u209 u210 u211 u212 u213 u214 u215 u216 u217 u218 u219 u220 u221 u222 u223 u224 u225 u226 u227 u228 u229 u230 u231 u232 u233 u234 u235 u236 u237 u238 u239 u240 u241 u242 u243 u244 u245 u246 u247 u248 u249 u250 u251 u252 u253 u254 u255 u256 u257 u258 u259 u260 u261 u262 u263 u264 u265 u266 u267 u268 u269 u270 u271 u272 u273 u274 u275 u276 u277 u278 u279 u280 u281 u282 u283 u284 u285 u286 u287 u288 u289 u290 u291 u292 u293 u294 u295 u296 u297 u298 u299 u300 u301 u302 u303 u304 : Value) : Code.wp Tryz.prog zM Q ⟨#[Value.pointer (some ⟨R, 0, none⟩), u1, Value.pointer (some ⟨rb, 0, none⟩), Value.bool nl, Value.int .i64 (42), Value.pointer (some ⟨tb, 0, none⟩), u6, u7, u8, u9, u10, u11, u12, u13, u14, u15, u16, u17, u18, u19, u20, u21, u22, u23, u24, u25, u26, u27, u28, u29, u30, u31, u32, u33, u34, u35, u36, u37, u38, u39, u40, u41, u42, u43, u44, u45, u46, u47, u48, u49, u50, u51, u52, u53, u54, u55, u56, u57, u58, u59, u60, u61, u62, u63, u64, u65, u66, u67, u68, u69, u70, u71, u72, u73, u74, u75, u76, u77, u78, u79, u80, u81, u82, u83, u84, u85, u86, u87, u88, u89, u90, u91, u92, u93, u94, u95, u96, u97, u98, u99, u100, u101, u102, u103, u104, u105, u106, u107, u108, u109, u110, u111, u112, u113, u114, u115, u116, u117, u118, u119, u120, u121, u122, u123, u124, u125, u126, u127, u128, u129, u130, u131, u132, u133, u134, u135, u136, u137, u138, u139, u140, u141, u142, u143, u144, u145, u146, u147, u148, u149, u150, u151, u152, u153, u154, u155, u156, u157, u158, u159, u160, u161, u162, u163, u164, u165, u166, u167, u168, u169, u170, u171, u172, u173, u174, u175, u176, u177, u178, u179, u180, u181, u182, u183, u184, u185, u186, u187, u188, u189, u190, u191, u192, u193, u194, u195, u196, u197, u198, u199, u200, u201, u202, u203, u204, u205, u206, u207, u208, u209, u210, u211, u212, u213, u214, u215, u216, u217, u218, u219, u220, u221, u222, u223, u224, u225, u226, u227, u228, u229, u230, u231, u232, u233, u234, u235, u236, u237, u238, u239, u240, u241, u242, u243, u244, u245, u246, u247, u248, u249, u250, u251, u252, u253, u254, u255, u256, u257, u258, u259, u260, u261, u262, u263, u264, u265, u266, u267, u268, u269, u270, u271, u272, u273, u274, u275, u276, u277, u278, u279, u280, u281, u282, u283, u284, u285, u286, u287, u288, u289, u290, u291, u292, u293, u294, u295, u296, u297, u298, u299, u300, u301, u302, u303, u304], []⟩ w := by
  conv => arg 2; whnf
  have HI := Lib.hid (show identS (42) = false by decide)
  have HD := Lib.hid (show decI (42) = false by decide)
  go_upto_region 43 with (first | (go_at_call 17; refine (rstart_false _ _ HI.out).mono ?_; rintro e w' ⟨rfl, rfl⟩) | (go_at_call 20; refine (rdec_false _ _ HD.out).mono ?_; rintro e w' ⟨rfl, rfl⟩))
  have k0 := Zu.start h
  clear h
  obtain ⟨ub, hub⟩ : ∃ ub, ub = w.heap.size := ⟨_, rfl⟩
  rw [← hub] at k0 ⊢
  generalize w.alloc (.cells #[.int .i64 0, .string ⟨#[]⟩, .int .i64 0, .int .i64 0, .bool false, .int .i64 0] 31) = x0 at k0 ⊢
  clear hub
  go_wp2_with (go_at_call 21; refine (zone_any _ _ _).mono ?_; rintro e y1 ⟨rfl, fx⟩; unfold zcells; refine Hid.out ?_)
  refine Lib.hid ?_
  have m1 := k0.still fx
  clear k0 fx
  obtain ⟨⟨a0, a1, a2, a3, a4, a5⟩, b0, b1, b2, b3, b4, b5⟩ := m1.facts
  go_upto_region 120 with fail
  have g1 := m1.put (42) ⟨[by8 42].toArray⟩
  clear a0 a1 a2 a3 a4 a5 b0 b1 b2 b3 b4 b5 m1
  unfold zput at g1
  generalize ((((((y1.setCell ⟨ub, 0, none⟩ (.int .i64 42)).setCell ⟨ub, 1, none⟩ (.string ⟨[by8 42].toArray⟩)).setCell ⟨ub, 2, none⟩ (.int .i64 0)).setCell ⟨ub, 3, none⟩ (.int .i64 0)).setCell ⟨ub, 4, none⟩ (.bool false)).setCell ⟨ub, 5, none⟩ (.int .i64 0)) = wp at g1 ⊢
  obtain ⟨⟨a0, a1, -⟩, -⟩ := g1.facts
  obtain ⟨t0, t1, t2, t3, t4, t5, f0, f1, f5⟩ := g1.zk.facts
  go_upto_region 122 with fail
  have g2 := (g1.zk.setTyp (42)).setStr ⟨[by8 42].toArray⟩
  clear a0 a1 t0 t1 t2 t3 t4 t5 f0 f1 f5 g1
  generalize (wp.setCell ⟨tb, 0, none⟩ (.int .i64 (42))).setCell ⟨tb, 1, none⟩ (.string ⟨[by8 42].toArray⟩) = wq at g2 ⊢
  obtain ⟨t0, t1, t2, t3, t4, t5, f0, f1, f5⟩ := g2.facts
  obtain ⟨⟨r0, r1, r2, r3, r4, r5⟩, q0, q1, q2, q3, q4, q5⟩ := g2.rfacts
  go_wp2
  exact ⟨_, _, _, _, _, rfl, g2.fin.hR, g2.fin.fb, fun _ => ⟨rfl, rfl, rfl, g2.fin.rf⟩⟩


set_option maxRecDepth 1000000 in
set_option maxHeartbeats 16000000 in
theorem zo_47 {W0 w : World} {R M rb tb : Nat} {sv : Value} {all : List UInt8} {st : St} {line col : Int} {nl : Bool} {Q : Exit → Act → World → Prop} (h : Zk W0 R M sv all rb tb w st 0 ⟨#[]⟩ line col nl 0) 
    (hQ : ∀ a w, ZRet W0 R M sv all rb line col nl (one 47 st) a w → Q .ret a w) (u1 u6 u7 u8 u9 u10 u11 u12 u13 u14 u15 u16 u17 u18 u19 u20 u21 u22 u23 u24 u25 u26 u27 u28 u29 u30 u31 u32 u33 u34 u35 u36 u37 u38 u39 u40 u41 u42 u43 u44 u45 u46 u47 u48 u49 u50 u51 u52 u53 u54 u55 u56 u57 u58 u59 u60 u61 u62 u63 u64 u65 u66 u67 u68 u69 u70 u71 u72 u73 u74 u75 u76 u77 u78 u79 u80 u81 u82 u83 u84 u85 u86 u87 u88 u89 u90 u91 u92 u93 u94 u95 u96 u97 u98 u99 u100 u101 u102 u103 u104 u105 u106 u107 u108 u109 u110 u111 u112 u113 u114 u115 u116 u117 u118 u119 u120 u121 u122 u123 u124 u125 u126 u127 u128 u129 u130 u131 u132 u133 u134 u135 u136 u137 u138 u139 u140 u141 u142 u143 u144 u145 u146 u147 u148 u149 u150 u151 u152 u153 u154 u155 u156 u157 u158 u159 u160 u161 u162 u163 u164 u165 u166 u167 u168 u169 u170 u171 u172 u173 u174 u175 u176 u177 u178 u179 u180 u181 u182 u183 u184 u185 u186 u187 u188 u189 u190 u191 u192 u193 u194 u195 u196 u197 u198 u199 u200 u201 u202 u203 u204 u205 u206 u207 u208 u209 u210 u211 u212 u213 u214 u215 u216 u217 u218 u219 u220 u221 u222 u223 u224 u225 u226 u227 u228 u229 u230 u231 u232 u233 u234 u235 u236 u237 u238 u239 u240 u241 u242 u243 u244 u245 u246 u247 u248 u249 u250 u251 u252 u253 u254 u255 u256 u257 u258 u259 u260 u261 u262 u263 u264 u265 u266 u267 u268 u269 u270 u271 u272 u273 u274 u275 u276 u277 u278 u279 u280 u281 u282 u283 u284 u285 u286 u287 u288 u289 u290 u291 u292 u293 u294 u295 u296 u297 u298 u299 u300 u301 u302 u303 u304 : Value) : Code.wp Tryz.prog zM Q ⟨#[Value.pointer (some ⟨R, 0, none⟩), u1, Value.pointer (some ⟨rb, 0, none⟩), Value.bool nl, Value.int .i64 (47), Value.pointer (some ⟨tb, 0, none⟩), u6, u7, u8, u9, u10, u11, u12, u13, u14, u15, u16, u17, u18, u19, u20, u21, u22, u23, u24, u25, u26, u27, u28, u29, u30, u31, u32, u33, u34, u35, u36, u37, u38, u39, u40, u41, u42, u43, u44, u45, u46, u47, u48, u49, u50, u51, u52, u53, u54, u55, u56, u57, u58, u59, u60, u61, u62, u63, u64, u65, u66, u67, u68, u69, u70, u71, u72, u73, u74, u75, u76, u77, u78, u79, u80, u81, u82, u83, u84, u85, u86, u87, u88, u89, u90, u91, u92, u93, u94, u95, u96, u97, u98, u99, u100, u101, u102, u103, u104, u105, u106, u107, u108, u109, u110, u111, u112, u113, u114, u115, u116, u117, u118, u119, u120, u121, u122, u123, u124, u125, u126, u127, u128, u129, u130, u131, u132, u133, u134, u135, u136, u137, u138, u139, u140, u141, u142, u143, u144, u145, u146, u147, u148, u149, u150, u151, u152, u153, u154, u155, u156, u157, u158, u159, u160, u161, u162, u163, u164, u165, u166, u167, u168, u169, u170, u171, u172, u173, u174, u175, u176, u177, u178, u179, u180, u181, u182, u183, u184, u185, u186, u187, u188, u189, u190, u191, u192, u193, u194, u195, u196, u197, u198, u199, u200, u201, u202, u203, u204, u205, u206, u207, u208, u209, u210, u211, u212, u213, u214, u215, u216, u217, u218, u219, u220, u221, u222, u223, u224, u225, u226, u227, u228, u229, u230, u231, u232, u233, u234, u235, u236, u237, u238, u239, u240, u241, u242, u243, u244, u245, u246, u247, u248, u249, u250, u251, u252, u253, u254, u255, u256, u257, u258, u259, u260, u261, u262, u263, u264, u265, u266, u267, u268, u269, u270, u271, u272, u273, u274, u275, u276, u277, u278, u279, u280, u281, u282, u283, u284, u285, u286, u287, u288, u289, u290, u291, u292, u293, u294, u295, u296, u297, u298, u299, u300, u301, u302, u303, u304], []⟩ w := by
  conv => arg 2; whnf
  have HI := Lib.hid (show identS (47) = false by decide)
  have HD := Lib.hid (show decI (47) = false by decide)
  go_upto_region 43 with (first | (go_at_call 17; refine (rstart_false _ _ HI.out).mono ?_; rintro e w' ⟨rfl, rfl⟩) | (go_at_call 20; refine (rdec_false _ _ HD.out).mono ?_; rintro e w' ⟨rfl, rfl⟩))
  have k0 := Zu.start h
  clear h
  obtain ⟨ub, hub⟩ : ∃ ub, ub = w.heap.size := ⟨_, rfl⟩
  rw [← hub] at k0 ⊢
  generalize w.alloc (.cells #[.int .i64 0, .string ⟨#[]⟩, .int .i64 0, .int .i64 0, .bool false, .int .i64 0] 31) = x0 at k0 ⊢
  clear hub
  go_wp2_with (go_at_call 21; refine (zone_any _ _ _).mono ?_; rintro e y1 ⟨rfl, fx⟩; unfold zcells; refine Hid.out ?_)
  refine Lib.hid ?_
  have m1 := k0.still fx
  clear k0 fx
  obtain ⟨⟨a0, a1, a2, a3, a4, a5⟩, b0, b1, b2, b3, b4, b5⟩ := m1.facts
  go_upto_region 120 with fail
  have g1 := m1.put (47) ⟨[by8 47].toArray⟩
  clear a0 a1 a2 a3 a4 a5 b0 b1 b2 b3 b4 b5 m1
  unfold zput at g1
  generalize ((((((y1.setCell ⟨ub, 0, none⟩ (.int .i64 47)).setCell ⟨ub, 1, none⟩ (.string ⟨[by8 47].toArray⟩)).setCell ⟨ub, 2, none⟩ (.int .i64 0)).setCell ⟨ub, 3, none⟩ (.int .i64 0)).setCell ⟨ub, 4, none⟩ (.bool false)).setCell ⟨ub, 5, none⟩ (.int .i64 0)) = wp at g1 ⊢
  obtain ⟨⟨a0, a1, -⟩, -⟩ := g1.facts
  obtain ⟨t0, t1, t2, t3, t4, t5, f0, f1, f5⟩ := g1.zk.facts
  go_upto_region 122 with fail
  have g2 := (g1.zk.setTyp (47)).setStr ⟨[by8 47].toArray⟩
  clear a0 a1 t0 t1 t2 t3 t4 t5 f0 f1 f5 g1
  generalize (wp.setCell ⟨tb, 0, none⟩ (.int .i64 (47))).setCell ⟨tb, 1, none⟩ (.string ⟨[by8 47].toArray⟩) = wq at g2 ⊢
  obtain ⟨t0, t1, t2, t3, t4, t5, f0, f1, f5⟩ := g2.facts
  obtain ⟨⟨r0, r1, r2, r3, r4, r5⟩, q0, q1, q2, q3, q4, q5⟩ := g2.rfacts
  go_wp2
  exact ⟨_, _, _, _, _, rfl, g2.fin.hR, g2.fin.fb, fun _ => ⟨rfl, rfl, rfl, g2.fin.rf⟩⟩


set_option maxRecDepth 1000000 in
set_option maxHeartbeats 16000000 in
theorem zo_37 {W0 w : World} {R M rb tb : Nat} {sv : Value} {all : List UInt8} {st : St} {line col : Int} {nl : Bool} {Q : Exit → Act → World → Prop} (h : Zk W0 R M sv all rb tb w st 0 ⟨#[]⟩ line col nl 0) 
    (hQ : ∀ a w, ZRet W0 R M sv all rb line col nl (one 37 st) a w → Q .ret a w) (u1 u6 u7 u8 u9 u10 u11 u12 u13 u14 u15 u16 u17 u18 u19 u20 u21 u22 u23 u24 u25 u26 u27 u28 u29 u30 u31 u32 u33 u34 u35 u36 u37 u38 u39 u40 u41 u42 u43 u44 u45 u46 u47 u48 u49 u50 u51 u52 u53 u54 u55 u56 u57 u58 u59 u60 u61 u62 u63 u64 u65 u66 u67 u68 u69 u70 u71 u72 u73 u74 u75 u76 u77 u78 u79 u80 u81 u82 u83 u84 u85 u86 u87 u88 u89 u90 u91 u92 u93 u94 u95 u96 u97 u98 u99 u100 u101 u102 u103 u104 u105 u106 u107 u108 u109 u110 u111 u112 u113 u114 u115 u116 u117 u118 u119 u120 u121 u122 u123 u124 u125 u126 u127 u128 u129 u130 u131 u132 u133 u134 u135 u136 u137 u138 u139 u140 u141 u142 u143 u144 u145 u146 u147 u148 u149 u150 u151 u152 u153 u154 u155 u156 u157 u158 u159 u160 u161 u162 u163 u164 u165 u166 u167 u168 u169 u170 u171 u172 u173 u174 u175 u176 u177 u178 u179 u180 u181 u182 u183 u184 u185 u186 u187 u188 u189 u190 u191 u192 u193 u194 u195 u196 u197 u198 u199 u200 u201 u202 u203 u204 u205 u206 u207 u208 u209 u210 u211 u212 u213 u214 u215 u216 u217 u218 u219 u220 u221 u222 u223 u224 u225 u226 u227 u228 u229 u230 u231 u232 u233 u234 u235 u236 u237 u238 u239 u240 u241 u242 u243 u244 u245 u246 u247 u248 u249 u250 u251 u252 u253 u254 u255 u256 u257 u258 u259 u260 u261 u262 u263 u264 u265 u266 u267 u268 u269 u270 u271 u272 u273 u274 u275 u276 u277 u278 u279 u280 u281 u282 u283 u284 u285 u286 u287 u288 u289 u290 u291 u292 u293 u294 u295 u296 u297 u298 u299 u300 u301 u302 u303 u304 : Value) : Code.wp Tryz.prog zM Q ⟨#[Value.pointer (some ⟨R, 0, none⟩), u1, Value.pointer (some ⟨rb, 0, none⟩), Value.bool nl, Value.int .i64 (37), Value.pointer (some ⟨tb, 0, none⟩), u6, u7, u8, u9, u10, u11, u12, u13, u14, u15, u16, u17, u18, u19, u20, u21, u22, u23, u24, u25, u26, u27, u28, u29, u30, u31, u32, u33, u34, u35, u36, u37, u38, u39, u40, u41, u42, u43, u44, u45, u46, u47, u48, u49, u50, u51, u52, u53, u54, u55, u56, u57, u58, u59, u60, u61, u62, u63, u64, u65, u66, u67, u68, u69, u70, u71, u72, u73, u74, u75, u76, u77, u78, u79, u80, u81, u82, u83, u84, u85, u86, u87, u88, u89, u90, u91, u92, u93, u94, u95, u96, u97, u98, u99, u100, u101, u102, u103, u104, u105, u106, u107, u108, u109, u110, u111, u112, u113, u114, u115, u116, u117, u118, u119, u120, u121, u122, u123, u124, u125, u126, u127, u128, u129, u130, u131, u132, u133, u134, u135, u136, u137, u138, u139, u140, u141, u142, u143, u144, u145, u146, u147, u148, u149, u150, u151, u152, u153, u154, u155, u156, u157, u158, u159, u160, u161, u162, u163, u164, u165, u166, u167, u168, u169, u170, u171, u172, u173, u174, u175, u176, u177, u178, u179, u180, u181, u182, u183, u184, u185, u186, u187, u188, u189, u190, u191, u192, u193, u194, u195, u196, u197, u198, u199, u200, u201, u202, u203, u204, u205, u206, u207, u208, u209, u210, u211, u212, u213, u214, u215, u216, u217, u218, u219, u220, u221, u222, u223, u224, u225, u226, u227, u228, u229, u230, u231, u232, u233, u234, u235, u236, u237, u238, u239, u240, u241, u242, u243, u244, u245, u246, u247, u248, u249, u250, u251, u252, u253, u254, u255, u256, u257, u258, u259, u260, u261, u262, u263, u264, u265, u266, u267, u268, u269, u270, u271, u272, u273, u274, u275, u276, u277, u278, u279, u280, u281, u282, u283, u284, u285, u286, u287, u288, u289, u290, u291, u292, u293, u294, u295, u296, u297, u298, u299, u300, u301, u302, u303, u304], []⟩ w := by
  conv => arg 2; whnf
  have HI := Lib.hid (show identS (37) = false by decide)
  have HD := Lib.hid (show decI (37) = false by decide)
  go_upto_region 43 with (first | (go_at_call 17; refine (rstart_false _ _ HI.out).mono ?_; rintro e w' ⟨rfl, rfl⟩) | (go_at_call 20; refine (rdec_false _ _ HD.out).mono ?_; rintro e w' ⟨rfl, rfl⟩))
  have k0 := Zu.start h
  clear h
  obtain ⟨ub, hub⟩ : ∃ ub, ub = w.heap.size := ⟨_, rfl⟩
  rw [← hub] at k0 ⊢
  generalize w.alloc (.cells #[.int .i64 0, .string ⟨#[]⟩, .int .i64 0, .int .i64 0, .bool false, .int .i64 0] 31) = x0 at k0 ⊢
  clear hub
  go_wp2_with (go_at_call 21; refine (zone_any _ _ _).mono ?_; rintro e y1 ⟨rfl, fx⟩; unfold zcells; refine Hid.out ?_)
  refine Lib.hid ?_
  have m1 := k0.still fx
  clear k0 fx
  obtain ⟨⟨a0, a1, a2, a3, a4, a5⟩, b0, b1, b2, b3, b4, b5⟩ := m1.facts
  go_upto_region 120 with fail
  have g1 := m1.put (37) ⟨[by8 37].toArray⟩
  clear a0 a1 a2 a3 a4 a5 b0 b1 b2 b3 b4 b5 m1
  unfold zput at g1
  generalize ((((((y1.setCell ⟨ub, 0, none⟩ (.int .i64 37)).setCell ⟨ub, 1, none⟩ (.string ⟨[by8 37].toArray⟩)).setCell ⟨ub, 2, none⟩ (.int .i64 0)).setCell ⟨ub, 3, none⟩ (.int .i64 0)).setCell ⟨ub, 4, none⟩ (.bool false)).setCell ⟨ub, 5, none⟩ (.int .i64 0)) = wp at g1 ⊢
  obtain ⟨⟨a0, a1, -⟩, -⟩ := g1.facts
  obtain ⟨t0, t1, t2, t3, t4, t5, f0, f1, f5⟩ := g1.zk.facts
  go_upto_region 122 with fail
  have g2 := (g1.zk.setTyp (37)).setStr ⟨[by8 37].toArray⟩
  clear a0 a1 t0 t1 t2 t3 t4 t5 f0 f1 f5 g1
  generalize (wp.setCell ⟨tb, 0, none⟩ (.int .i64 (37))).setCell ⟨tb, 1, none⟩ (.string ⟨[by8 37].toArray⟩) = wq at g2 ⊢
  obtain ⟨t0, t1, t2, t3, t4, t5, f0, f1, f5⟩ := g2.facts
  obtain ⟨⟨r0, r1, r2, r3, r4, r5⟩, q0, q1, q2, q3, q4, q5⟩ := g2.rfacts
  go_wp2
  exact ⟨_, _, _, _, _, rfl, g2.fin.hR, g2.fin.fb, fun _ => ⟨rfl, rfl, rfl, g2.fin.rf⟩⟩


set_option maxRecDepth 1000000 in
set_option maxHeartbeats 16000000 in
theorem zo_94 {W0 w : World} {R M rb tb : Nat} {sv : Value} {all : List UInt8} {st : St} {line col : Int} {nl : Bool} {Q : Exit → Act → World → Prop} (h : Zk W0 R M sv all rb tb w st 0 ⟨#[]⟩ line col nl 0) 
    (hQ : ∀ a w, ZRet W0 R M sv all rb line col nl (one 94 st) a w → Q .ret a w) (u1 u6 u7 u8 u9 u10 u11 u12 u13 u14 u15 u16 u17 u18 u19 u20 u21 u22 u23 u24 u25 u26 u27 u28 u29 u30 u31 u32 u33 u34 u35 u36 u37 u38 u39 u40 u41 u42 u43 u44 u45 u46 u47 u48 u49 u50 u51 u52 u53 u54 u55 u56 u57 u58 u59 u60 u61 u62 u63 u64 u65 u66 u67 u68 u69 u70 u71 u72 u73 u74 u75 u76 u77 u78 u79 u80 u81 u82 u83 u84 u85 u86 u87 u88 u89 u90 u91 u92 u93 u94 u95 u96 u97 u98 u99 u100 u101 u102 u103 u104 u105 u106 u107 u108 u109 u110 u111 u112 u113 u114 u115 u116 u117 u118 u119 u120 u121 u122 u123 u124 u125 u126 u127 u128 u129 u130 u131 u132 u133 u134 u135 u136 u137 u138 u139 u140 u141 u142 u143 u144 u145 u146 u147 u148 u149 u150 u151 u152 u153 u154 u155 u156 u157 u158 u159 u160 u161 u162 u163 u164 u165 u166 u167 u168 u169 u170 u171 u172 u173 u174 u175 u176 u177 u178 u179 u180 u181 u182 u183 u184 u185 u186 u187 u188 u189 u190 u191 u192 u193 u194 u195 u196 u197 u198 u199 u200 u201 u202 u203 u204 u205 u206 u207 u208 u209 u210 u211 u212 u213 u214 u215 u216 u217 u218 u219 u220 u221 u222 u223 u224 u225 u226 u227 u228 u229 u230 u231 u232 u233 u234 u235 u236 u237 u238 u239 u240 u241 u242 u243 u244 u245 u246 u247 u248 u249 u250 u251 u252 u253 u254 u255 u256 u257 u258 u259 u260 u261 u262 u263 u264 u265 u266 u267 u268 u269 u270 u271 u272 u273 u274 u275 u276 u277 u278 u279 u280 u281 u282 u283 u284 u285 u286 u287 u288 u289 u290 u291 u292 u293 u294 u295 u296 u297 u298 u299 u300 u301 u302 u303 u304 : Value) : Code.wp Tryz.prog zM Q ⟨#[Value.pointer (some ⟨R, 0, none⟩), u1, Value.pointer (some ⟨rb, 0, none⟩), Value.bool nl, Value.int .i64 (94), Value.pointer (some ⟨tb, 0, none⟩), u6, u7, u8, u9, u10, u11, u12, u13, u14, u15, u16, u17, u18, u19, u20, u21, u22, u23, u24, u25, u26, u27, u28, u29, u30, u31, u32, u33, u34, u35, u36, u37, u38, u39, u40, u41, u42, u43, u44, u45, u46, u47, u48, u49, u50, u51, u52, u53, u54, u55, u56, u57, u58, u59, u60, u61, u62, u63, u64, u65, u66, u67, u68, u69, u70, u71, u72, u73, u74, u75, u76, u77, u78, u79, u80, u81, u82, u83, u84, u85, u86, u87, u88, u89, u90, u91, u92, u93, u94, u95, u96, u97, u98, u99, u100, u101, u102, u103, u104, u105, u106, u107, u108, u109, u110, u111, u112, u113, u114, u115, u116, u117, u118, u119, u120, u121, u122, u123, u124, u125, u126, u127, u128, u129, u130, u131, u132, u133, u134, u135, u136, u137, u138, u139, u140, u141, u142, u143, u144, u145, u146, u147, u148, u149, u150, u151, u152, u153, u154, u155, u156, u157, u158, u159, u160, u161, u162, u163, u164, u165, u166, u167, u168, u169, u170, u171, u172, u173, u174, u175, u176, u177, u178, u179, u180, u181, u182, u183, u184, u185, u186, u187, u188, u189, u190, u191, u192, u193, u194, u195, u196, u197, u198, u199, u200, u201, u202, u203, u204, u205, u206, u207, u208, u209, u210, u211, u212, u213, u214, u215, u216, u217, u218, u219, u220, u221, u222, u223, u224, u225, u226, u227, u228, u229, u230, u231, u232, u233, u234, u235, u236, u237, u238, u239, u240, u241, u242, u243, u244, u245, u246, u247, u248, u249, u250, u251, u252, u253, u254, u255, u256, u257, u258, u259, u260, u261, u262, u263, u264, u265, u266, u267, u268, u269, u270, u271, u272, u273, u274, u275, u276, u277, u278, u279, u280, u281, u282, u283, u284, u285, u286, u287, u288, u289, u290, u291, u292, u293, u294, u295, u296, u297, u298, u299, u300, u301, u302, u303, u304], []⟩ w := by
  conv => arg 2; whnf
  have HI := Lib.hid (show identS (94) = false by decide)
  have HD := Lib.hid (show decI (94) = false by decide)
  go_upto_region 43 with (first | (go_at_call 17; refine (rstart_false _ _ HI.out).mono ?_; rintro e w' ⟨rfl, rfl⟩) | (go_at_call 20; refine (rdec_false _ _ HD.out).mono ?_; rintro e w' ⟨rfl, rfl⟩))
  have k0 := Zu.start h
  clear h
  obtain ⟨ub, hub⟩ : ∃ ub, ub = w.heap.size := ⟨_, rfl⟩
  rw [← hub] at k0 ⊢
  generalize w.alloc (.cells #[.int .i64 0, .string ⟨#[]⟩, .int .i64 0, .int .i64 0, .bool false, .int .i64 0] 31) = x0 at k0 ⊢
  clear hub
  go_wp2_with (go_at_call 21; refine (zone_any _ _ _).mono ?_; rintro e y1 ⟨rfl, fx⟩; unfold zcells; refine Hid.out ?_)
  refine Lib.hid ?_
  have m1 := k0.still fx
  clear k0 fx
  obtain ⟨⟨a0, a1, a2, a3, a4, a5⟩, b0, b1, b2, b3, b4, b5⟩ := m1.facts
  go_upto_region 120 with fail
  have g1 := m1.put (94) ⟨[by8 94].toArray⟩
  clear a0 a1 a2 a3 a4 a5 b0 b1 b2 b3 b4 b5 m1
  unfold zput at g1
  generalize ((((((y1.setCell ⟨ub, 0, none⟩ (.int .i64 94)).setCell ⟨ub, 1, none⟩ (.string ⟨[by8 94].toArray⟩)).setCell ⟨ub, 2, none⟩ (.int .i64 0)).setCell ⟨ub, 3, none⟩ (.int .i64 0)).setCell ⟨ub, 4, none⟩ (.bool false)).setCell ⟨ub, 5, none⟩ (.int .i64 0)) = wp at g1 ⊢
  obtain ⟨⟨a0, a1, -⟩, -⟩ := g1.facts
  obtain ⟨t0, t1, t2, t3, t4, t5, f0, f1, f5⟩ := g1.zk.facts
  go_upto_region 122 with fail
  have g2 := (g1.zk.setTyp (94)).setStr ⟨[by8 94].toArray⟩
  clear a0 a1 t0 t1 t2 t3 t4 t5 f0 f1 f5 g1
  generalize (wp.setCell ⟨tb, 0, none⟩ (.int .i64 (94))).setCell ⟨tb, 1, none⟩ (.string ⟨[by8 94].toArray⟩) = wq at g2 ⊢
  obtain ⟨t0, t1, t2, t3, t4, t5, f0, f1, f5⟩ := g2.facts
  obtain ⟨⟨r0, r1, r2, r3, r4, r5⟩, q0, q1, q2, q3, q4, q5⟩ := g2.rfacts
  go_wp2
  exact ⟨_, _, _, _, _, rfl, g2.fin.hR, g2.fin.fb, fun _ => ⟨rfl, rfl, rfl, g2.fin.rf⟩⟩


set_option maxRecDepth 1000000 in
set_option maxHeartbeats 16000000 in
theorem zo_35 {W0 w : World} {R M rb tb : Nat} {sv : Value} {all : List UInt8} {st : St} {line col : Int} {nl : Bool} {Q : Exit → Act → World → Prop} (h : Zk W0 R M sv all rb tb w st 0 ⟨#[]⟩ line col nl 0) 
    (hQ : ∀ a w, ZRet W0 R M sv all rb line col nl (one 35 st) a w → Q .ret a w) (u1 u6 u7 u8 u9 u10 u11 u12 u13 u14 u15 u16 u17 u18 u19 u20 u21 u22 u23 u24 u25 u26 u27 u28 u29 u30 u31 u32 u33 u34 u35 u36 u37 u38 u39 u40 u41 u42 u43 u44 u45 u46 u47 u48 u49 u50 u51 u52 u53 u54 u55 u56 u57 u58 u59 u60 u61 u62 u63 u64 u65 u66 u67 u68 u69 u70 u71 u72 u73 u74 u75 u76 u77 u78 u79 u80 u81 u82 u83 u84 u85 u86 u87 u88 u89 u90 u91 u92 u93 u94 u95 u96 u97 u98 u99 u100 u101 u102 u103 u104 u105 u106 u107 u108 u109 u110 u111 u112 u113 u114 u115 u116 u117 u118 u119 u120 u121 u122 u123 u124 u125 u126 u127 u128 u129 u130 u131 u132 u133 u134 u135 u136 u137 u138 u139 u140 u141 u142 u143 u144 u145 u146 u147 u148 u149 u150 u151 u152 u153 u154 u155 u156 u157 u158 u159 u160 u161 u162 u163 u164 u165 u166 u167 u168 u169 u170 u171 u172 u173 u174 u175 u176 u177 u178 u179 u180 u181 u182 u183 u184 u185 u186 u187 u188 u189 u190 u191 u192 u193 u194 u195 u196 u197 u198 u199 u200 u201 u202 u203 u204 u205 u206 u207 u208 u209 u210 u211 u212 u213 u214 u215 u216 u217 u218 u219 u220 u221 u222 u223 u224 u225 u226 u227 u228 u229 u230 u231 u232 u233 u234 u235 u236 u237 u238 u239 u240 u241 u242 u243 u244 u245 u246 u247 u248 u249 u250 u251 u252 u253 u254 u255 u256 u257 u258 u259 u260 u261 u262 u263 u264 u265 u266 u267 u268 u269 u270 u271 u272 u273 u274 u275 u276 u277 u278 u279 u280 u281 u282 u283 u284 u285 u286 u287 u288 u289 u290 u291 u292 u293 u294 u295 u296 u297 u298 u299 u300 u301 u302 u303 u304 : Value) : Code.wp Tryz.prog zM Q ⟨#[Value.pointer (some ⟨R, 0, none⟩), u1, Value.pointer (some ⟨rb, 0, none⟩), Value.bool nl, Value.int .i64 (35), Value.pointer (some ⟨tb, 0, none⟩), u6, u7, u8, u9, u10, u11, u12, u13, u14, u15, u16, u17, u18, u19, u20, u21, u22, u23, u24, u25, u26, u27, u28, u29, u30, u31, u32, u33, u34, u35, u36, u37, u38, u39, u40, u41, u42, u43, u44, u45, u46, u47, u48, u49, u50, u51, u52, u53, u54, u55, u56, u57, u58, u59, u60, u61, u62, u63, u64, u65, u66, u67, u68, u69, u70, u71, u72, u73, u74, u75, u76, u77, u78, u79, u80, u81, u82, u83, u84, u85, u86, u87, u88, u89, u90, u91, u92, u93, u94, u95, u96, u97, u98, u99, u100, u101, u102, u103, u104, u105, u106, u107, u108, u109, u110, u111, u112, u113, u114, u115, u116, u117, u118, u119, u120, u121, u122, u123, u124, u125, u126, u127, u128, u129, u130, u131, u132, u133, u134, u135, u136, u137, u138, u139, u140, u141, u142, u143, u144, u145, u146, u147, u148, u149, u150, u151, u152, u153, u154, u155, u156, u157, u158, u159, u160, u161, u162, u163, u164, u165, u166, u167, u168, u169, u170, u171, u172, u173, u174, u175, u176, u177, u178, u179, u180, u181, u182, u183, u184, u185, u186, u187, u188, u189, u190, u191, u192, u193, u194, u195, u196, u197, u198, u199, u200, u201, u202, u203, u204, u205, u206, u207, u208, u209, u210, u211, u212, u213, u214, u215, u216, u217, u218, u219, u220, u221, u222, u223, u224, u225, u226, u227, u228, u229, u230, u231, u232, u233, u234, u235, u236, u237, u238, u239, u240, u241, u242, u243, u244, u245, u246, u247, u248, u249, u250, u251, u252, u253, u254, u255, u256, u257, u258, u259, u260, u261, u262, u263, u264, u265, u266, u267, u268, u269, u270, u271, u272, u273, u274, u275, u276, u277, u278, u279, u280, u281, u282, u283, u284, u285, u286, u287, u288, u289, u290, u291, u292, u293, u294, u295, u296, u297, u298, u299, u300, u301, u302, u303, u304], []⟩ w := by
  conv => arg 2; whnf
  have HI := Lib.hid (show identS (35) = false by decide)
  have HD := Lib.hid (show decI (35) = false by decide)
  go_upto_region 43 with (first | (go_at_call 17; refine (rstart_false _ _ HI.out).mono ?_; rintro e w' ⟨rfl, rfl⟩) | (go_at_call 20; refine (rdec_false _ _ HD.out).mono ?_; rintro e w' ⟨rfl, rfl⟩))
  have k0 := Zu.start h
  clear h
  obtain ⟨ub, hub⟩ : ∃ ub, ub = w.heap.size := ⟨_, rfl⟩
  rw [← hub] at k0 ⊢
  generalize w.alloc (.cells #[.int .i64 0, .string ⟨#[]⟩, .int .i64 0, .int .i64 0, .bool false, .int .i64 0] 31) = x0 at k0 ⊢
  clear hub
  go_wp2_with (go_at_call 21; refine (zone_any _ _ _).mono ?_; rintro e y1 ⟨rfl, fx⟩; unfold zcells; refine Hid.out ?_)
  refine Lib.hid ?_
  have m1 := k0.still fx
  clear k0 fx
  obtain ⟨⟨a0, a1, a2, a3, a4, a5⟩, b0, b1, b2, b3, b4, b5⟩ := m1.facts
  go_upto_region 120 with fail
  have g1 := m1.put (35) ⟨[by8 35].toArray⟩
  clear a0 a1 a2 a3 a4 a5 b0 b1 b2 b3 b4 b5 m1
  unfold zput at g1
  generalize ((((((y1.setCell ⟨ub, 0, none⟩ (.int .i64 35)).setCell ⟨ub, 1, none⟩ (.string ⟨[by8 35].toArray⟩)).setCell ⟨ub, 2, none⟩ (.int .i64 0)).setCell ⟨ub, 3, none⟩ (.int .i64 0)).setCell ⟨ub, 4, none⟩ (.bool false)).setCell ⟨ub, 5, none⟩ (.int .i64 0)) = wp at g1 ⊢
  obtain ⟨⟨a0, a1, -⟩, -⟩ := g1.facts
  obtain ⟨t0, t1, t2, t3, t4, t5, f0, f1, f5⟩ := g1.zk.facts
  go_upto_region 122 with fail
  have g2 := (g1.zk.setTyp (35)).setStr ⟨[by8 35].toArray⟩
  clear a0 a1 t0 t1 t2 t3 t4 t5 f0 f1 f5 g1
  generalize (wp.setCell ⟨tb, 0, none⟩ (.int .i64 (35))).setCell ⟨tb, 1, none⟩ (.string ⟨[by8 35].toArray⟩) = wq at g2 ⊢
  obtain ⟨t0, t1, t2, t3, t4, t5, f0, f1, f5⟩ := g2.facts
  obtain ⟨⟨r0, r1, r2, r3, r4, r5⟩, q0, q1, q2, q3, q4, q5⟩ := g2.rfacts
  go_wp2
  exact ⟨_, _, _, _, _, rfl, g2.fin.hR, g2.fin.fb, fun _ => ⟨rfl, rfl, rfl, g2.fin.rf⟩⟩


set_option maxRecDepth 1000000 in
set_option maxHeartbeats 16000000 in
theorem zo_40 {W0 w : World} {R M rb tb : Nat} {sv : Value} {all : List UInt8} {st : St} {line col : Int} {nl : Bool} {Q : Exit → Act → World → Prop} (h : Zk W0 R M sv all rb tb w st 0 ⟨#[]⟩ line col nl 0) 
    (hQ : ∀ a w, ZRet W0 R M sv all rb line col nl (one 40 st) a w → Q .ret a w) (u1 u6 u7 u8 u9 u10 u11 u12 u13 u14 u15 u16 u17 u18 u19 u20 u21 u22 u23 u24 u25 u26 u27 u28 u29 u30 u31 u32 u33 u34 u35 u36 u37 u38 u39 u40 u41 u42 u43 u44 u45 u46 u47 u48 u49 u50 u51 u52 u53 u54 u55 u56 u57 u58 u59 u60 u61 u62 u63 u64 u65 u66 u67 u68 u69 u70 u71 u72 u73 u74 u75 u76 u77 u78 u79 u80 u81 u82 u83 u84 u85 u86 u87 u88 u89 u90 u91 u92 u93 u94 u95 u96 u97 u98 u99 u100 u101 u102 u103 u104 u105 u106 u107 u108 u109 u110 u111 u112 u113 u114 u115 u116 u117 u118 u119 u120 u121 u122 u123 u124 u125 u126 u127 u128 u129 u130 u131 u132 u133 u134 u135 u136 u137 u138 u139 u140 u141 u142 u143 u144 u145 u146 u147 u148 u149 u150 u151 u152 u153 u154 u155 u156 u157 u158 u159 u160 u161 u162 u163 u164 u165 u166 u167 u168 u169 u170 u171 u172 u173 u174 u175 u176 u177 u178 u179 u180 u181 u182 u183 u184 u185 u186 u187 u188 u189 u190 u191 u192 u193 u194 u195 u196 u197 u198 u199 u200 u201 u202 u203 u204 u205 u206 u207 u208 u209 u210 u211 u212 u213 u214 u215 u216 u217 u218 u219 u220 u221 u222 u223 u224 u225 u226 u227 u228 u229 u230 u231 u232 u233 u234 u235 u236 u237 u238 u239 u240 u241 u242 u243 u244 u245 u246 u247 u248 u249 u250 u251 u252 u253 u254 u255 u256 u257 u258 u259 u260 u261 u262 u263 u264 u265 u266 u267 u268 u269 u270 u271 u272 u273 u274 u275 u276 u277 u278 u279 u280 u281 u282 u283 u284 u285 u286 u287 u288 u289 u290 u291 u292 u293 u294 u295 u296 u297 u298 u299 u300 u301 u302 u303 u304 : Value) : Code.wp Tryz.prog zM Q ⟨#[Value.pointer (some ⟨R, 0, none⟩), u1, Value.pointer (some ⟨rb, 0, none⟩), Value.bool nl, Value.int .i64 (40), Value.pointer (some ⟨tb, 0, none⟩), u6, u7, u8, u9, u10, u11, u12, u13, u14, u15, u16, u17, u18, u19, u20, u21, u22, u23, u24, u25, u26, u27, u28, u29, u30, u31, u32, u33, u34, u35, u36, u37, u38, u39, u40, u41, u42, u43, u44, u45, u46, u47, u48, u49, u50, u51, u52, u53, u54, u55, u56, u57, u58, u59, u60, u61, u62, u63, u64, u65, u66, u67, u68, u69, u70, u71, u72, u73, u74, u75, u76, u77, u78, u79, u80, u81, u82, u83, u84, u85, u86, u87, u88, u89, u90, u91, u92, u93, u94, u95, u96, u97, u98, u99, u100, u101, u102, u103, u104, u105, u106, u107, u108, u109, u110, u111, u112, u113, u114, u115, u116, u117, u118, u119, u120, u121, u122, u123, u124, u125, u126, u127, u128, u129, u130, u131, u132, u133, u134, u135, u136, u137, u138, u139, u140, u141, u142, u143, u144, u145, u146, u147, u148, u149, u150, u151, u152, u153, u154, u155, u156, u157, u158, u159, u160, u161, u162, u163, u164, u165, u166, u167, u168, u169, u170, u171, u172, u173, u174, u175, u176, u177, u178, u179, u180, u181, u182, u183, u184, u185, u186, u187, u188, u189, u190, u191, u192, u193, u194, u195, u196, u197, u198, u199, u200, u201, u202, u203, u204, u205, u206, u207, u208, u209, u210, u211, u212, u213, u214, u215, u216, u217, u218, u219, u220, u221, u222, u223, u224, u225, u226, u227, u228, u229, u230, u231, u232, u233, u234, u235, u236, u237, u238, u239, u240, u241, u242, u243, u244, u245, u246, u247, u248, u249, u250, u251, u252, u253, u254, u255, u256, u257, u258, u259, u260, u261, u262, u263, u264, u265, u266, u267, u268, u269, u270, u271, u272, u273, u274, u275, u276, u277, u278, u279, u280, u281, u282, u283, u284, u285, u286, u287, u288, u289, u290, u291, u292, u293, u294, u295, u296, u297, u298, u299, u300, u301, u302, u303, u304], []⟩ w := by
  conv => arg 2; whnf
  have HI := Lib.hid (show identS (40) = false by decide)
  have HD := Lib.hid (show decI (40) = false by decide)
  go_upto_region 43 with (first | (go_at_call 17; refine (rstart_false _ _ HI.out).mono ?_; rintro e w' ⟨rfl, rfl⟩) | (go_at_call 20; refine (rdec_false _ _ HD.out).mono ?_; rintro e w' ⟨rfl, rfl⟩))
  have k0 := Zu.start h
  clear h
  obtain ⟨ub, hub⟩ : ∃ ub, ub = w.heap.size := ⟨_, rfl⟩
  rw [← hub] at k0 ⊢
  generalize w.alloc (.cells #[.int .i64 0, .string ⟨#[]⟩, .int .i64 0, .int .i64 0, .bool false, .int .i64 0] 31) = x0 at k0 ⊢
  clear hub
  go_wp2_with (go_at_call 21; refine (zone_any _ _ _).mono ?_; rintro e y1 ⟨rfl, fx⟩; unfold zcells; refine Hid.out ?_)
  refine Lib.hid ?_
  have m1 := k0.still fx
  clear k0 fx
  obtain ⟨⟨a0, a1, a2, a3, a4, a5⟩, b0, b1, b2, b3, b4, b5⟩ := m1.facts
  go_upto_region 120 with fail
  have g1 := m1.put (40) ⟨[by8 40].toArray⟩
  clear a0 a1 a2 a3 a4 a5 b0 b1 b2 b3 b4 b5 m1
  unfold zput at g1
  generalize ((((((y1.setCell ⟨ub, 0, none⟩ (.int .i64 40)).setCell ⟨ub, 1, none⟩ (.string ⟨[by8 40].toArray⟩)).setCell ⟨ub, 2, none⟩ (.int .i64 0)).setCell ⟨ub, 3, none⟩ (.int .i64 0)).setCell ⟨ub, 4, none⟩ (.bool false)).setCell ⟨ub, 5, none⟩ (.int .i64 0)) = wp at g1 ⊢
  obtain ⟨⟨a0, a1, -⟩, -⟩ := g1.facts
  obtain ⟨t0, t1, t2, t3, t4, t5, f0, f1, f5⟩ := g1.zk.facts
  go_upto_region 122 with fail
  have g2 := (g1.zk.setTyp (40)).setStr ⟨[by8 40].toArray⟩
  clear a0 a1 t0 t1 t2 t3 t4 t5 f0 f1 f5 g1
  generalize (wp.setCell ⟨tb, 0, none⟩ (.int .i64 (40))).setCell ⟨tb, 1, none⟩ (.string ⟨[by8 40].toArray⟩) = wq at g2 ⊢
  obtain ⟨t0, t1, t2, t3, t4, t5, f0, f1, f5⟩ := g2.facts
  obtain ⟨⟨r0, r1, r2, r3, r4, r5⟩, q0, q1, q2, q3, q4, q5⟩ := g2.rfacts
  go_wp2
  exact ⟨_, _, _, _, _, rfl, g2.fin.hR, g2.fin.fb, fun _ => ⟨rfl, rfl, rfl, g2.fin.rf⟩⟩


set_option maxRecDepth 1000000 in
set_option maxHeartbeats 16000000 in
theorem zo_41 {W0 w : World} {R M rb tb : Nat} {sv : Value} {all : List UInt8} {st : St} {line col : Int} {nl : Bool} {Q : Exit → Act → World → Prop} (h : Zk W0 R M sv all rb tb w st 0 ⟨#[]⟩ line col nl 0) 
    (hQ : ∀ a w, ZRet W0 R M sv all rb line col nl (one 41 st) a w → Q .ret a w) (u1 u6 u7 u8 u9 u10 u11 u12 u13 u14 u15 u16 u17 u18 u19 u20 u21 u22 u23 u24 u25 u26 u27 u28 u29 u30 u31 u32 u33 u34 u35 u36 u37 u38 u39 u40 u41 u42 u43 u44 u45 u46 u47 u48 u49 u50 u51 u52 u53 u54 u55 u56 u57 u58 u59 u60 u61 u62 u63 u64 u65 u66 u67 u68 u69 u70 u71 u72 u73 u74 u75 u76 u77 u78 u79 u80 u81 u82 u83 u84 u85 u86 u87 u88 u89 u90 u91 u92 u93 u94 u95 u96 u97 u98 u99 u100 u101 u102 u103 u104 u105 u106 u107 u108 u109 u110 u111 u112 u113 u114 u115 u116 u117 u118 u119 u120 u121 u122 u123 u124 u125 u126 u127 u128 u129 u130 u131 u132 u133 u134 u135 u136 u137 u138 u139 u140 u141 u142 u143 u144 u145 u146 u147 u148 u149 u150 u151 u152 u153 u154 u155 u156 u157 u158 u159 u160 u161 u162 u163 u164 u165 u166 u167 u168 u169 u170 u171 u172 u173 u174 u175 u176 u177 u178 u179 u180 u181 u182 u183 u184 u185 u186 u187 u188 u189 u190 u191 u192 u193 u194 u195 u196 u197 u198 u199 u200 u201 u202 u203 u204 u205 u206 u207 u208 u209 u210 u211 u212 u213 u214 u215 u216 u217 u218 u219 u220 u221 u222 u223 u224 u225 u226 u227 u228 u229 u230 u231 u232 u233 u234 u235 u236 u237 u238 u239 u240 u241 u242 u243 u244 u245 u246 u247 u248 u249 u250 u251 u252 u253 u254 u255 u256 u257 u258 u259 u260 u261 u262 u263 u264 u265 u266 u267 u268 u269 u270 u271 u272 u273 u274 u275 u276 u277 u278 u279 u280 u281 u282 u283 u284 u285 u286 u287 u288 u289 u290 u291 u292 u293 u294 u295 u296 u297 u298 u299 u300 u301 u302 u303 u304 : Value) : Code.wp Tryz.prog zM Q ⟨#[Value.pointer (some ⟨R, 0, none⟩), u1, Value.pointer (some ⟨rb, 0, none⟩), Value.bool nl, Value.int .i64 (41), Value.pointer (some ⟨tb, 0, none⟩), u6, u7, u8, u9, u10, u11, u12, u13, u14, u15, u16, u17, u18, u19, u20, u21, u22, u23, u24, u25, u26, u27, u28, u29, u30, u31, u32, u33, u34, u35, u36, u37, u38, u39, u40, u41, u42, u43, u44, u45, u46, u47, u48, u49, u50, u51, u52, u53, u54, u55, u56, u57, u58, u59, u60, u61, u62, u63, u64, u65, u66, u67, u68, u69, u70, u71, u72, u73, u74, u75, u76, u77, u78, u79, u80, u81, u82, u83, u84, u85, u86, u87, u88, u89, u90, u91, u92, u93, u94, u95, u96, u97, u98, u99, u100, u101, u102, u103, u104, u105, u106, u107, u108, u109, u110, u111, u112, u113, u114, u115, u116, u117, u118, u119, u120, u121, u122, u123, u124, u125, u126, u127, u128, u129, u130, u131, u132, u133, u134, u135, u136, u137, u138, u139, u140, u141, u142, u143, u144, u145, u146, u147, u148, u149, u150, u151, u152, u153, u154, u155, u156, u157, u158, u159, u160, u161, u162, u163, u164, u165, u166, u167, u168, u169, u170, u171, u172, u173, u174, u175, u176, u177, u178, u179, u180, u181, u182, u183, u184, u185, u186, u187, u188, u189, u190, u191, u192, u193, u194, u195, u196, u197, u198, u199, u200, u201, u202, u203, u204, u205, u206, u207, u208, u209, u210, u211, u212, u213, u214, u215, u216, u217, u218, u219, u220, u221, u222, u223, u224, u225, u226, u227, u228, u229, u230, u231, u232, u233, u234, u235, u236, u237, u238, u239, u240, u241, u242, u243, u244, u245, u246, u247, u248, u249, u250, u251, u252, u253, u254, u255, u256, u257, u258, u259, u260, u261, u262, u263, u264, u265, u266, u267, u268, u269, u270, u271, u272, u273, u274, u275, u276, u277, u278, u279, u280, u281, u282, u283, u284, u285, u286, u287, u288, u289, u290, u291, u292, u293, u294, u295, u296, u297, u298, u299, u300, u301, u302, u303, u304], []⟩ w := by
  conv => arg 2; whnf
  have HI := Lib.hid (show identS (41) = false by decide)
  have HD := Lib.hid (show decI (41) = false by decide)
  go_upto_region 43 with (first | (go_at_call 17; refine (rstart_false _ _ HI.out).mono ?_; rintro e w' ⟨rfl, rfl⟩) | (go_at_call 20; refine (rdec_false _ _ HD.out).mono ?_; rintro e w' ⟨rfl, rfl⟩))
  have k0 := Zu.start h
  clear h
  obtain ⟨ub, hub⟩ : ∃ ub, ub = w.heap.size := ⟨_, rfl⟩
  rw [← hub] at k0 ⊢
  generalize w.alloc (.cells #[.int .i64 0, .string ⟨#[]⟩, .int .i64 0, .int .i64 0, .bool false, .int .i64 0] 31) = x0 at k0 ⊢
  clear hub
  go_wp2_with (go_at_call 21; refine (zone_any _ _ _).mono ?_; rintro e y1 ⟨rfl, fx⟩; unfold zcells; refine Hid.out ?_)
  refine Lib.hid ?_
  have m1 := k0.still fx
  clear k0 fx
  obtain ⟨⟨a0, a1, a2, a3, a4, a5⟩, b0, b1, b2, b3, b4, b5⟩ := m1.facts
  go_upto_region 120 with fail
  have g1 := m1.put (41) ⟨[by8 41].toArray⟩
  clear a0 a1 a2 a3 a4 a5 b0 b1 b2 b3 b4 b5 m1
  unfold zput at g1
  generalize ((((((y1.setCell ⟨ub, 0, none⟩ (.int .i64 41)).setCell ⟨ub, 1, none⟩ (.string ⟨[by8 41].toArray⟩)).setCell ⟨ub, 2, none⟩ (.int .i64 0)).setCell ⟨ub, 3, none⟩ (.int .i64 0)).setCell ⟨ub, 4, none⟩ (.bool false)).setCell ⟨ub, 5, none⟩ (.int .i64 0)) = wp at g1 ⊢
  obtain ⟨⟨a0, a1, -⟩, -⟩ := g1.facts
  obtain ⟨t0, t1, t2, t3, t4, t5, f0, f1, f5⟩ := g1.zk.facts
  go_upto_region 122 with fail
  have g2 := (g1.zk.setTyp (41)).setStr ⟨[by8 41].toArray⟩
  clear a0 a1 t0 t1 t2 t3 t4 t5 f0 f1 f5 g1
  generalize (wp.setCell ⟨tb, 0, none⟩ (.int .i64 (41))).setCell ⟨tb, 1, none⟩ (.string ⟨[by8 41].toArray⟩) = wq at g2 ⊢
  obtain ⟨t0, t1, t2, t3, t4, t5, f0, f1, f5⟩ := g2.facts
  obtain ⟨⟨r0, r1, r2, r3, r4, r5⟩, q0, q1, q2, q3, q4, q5⟩ := g2.rfacts
  go_wp2
  exact ⟨_, _, _, _, _, rfl, g2.fin.hR, g2.fin.fb, fun _ => ⟨rfl, rfl, rfl, g2.fin.rf⟩⟩


set_option maxRecDepth 1000000 in
set_option maxHeartbeats 16000000 in
theorem zo_123 {W0 w : World} {R M rb tb : Nat} {sv : Value} {all : List UInt8} {st : St} {line col : Int} {nl : Bool} {Q : Exit → Act → World → Prop} (h : Zk W0 R M sv all rb tb w st 0 ⟨#[]⟩ line col nl 0) 
    (hQ : ∀ a w, ZRet W0 R M sv all rb line col nl (one 123 st) a w → Q .ret a w) (u1 u6 u7 u8 u9 u10 u11 u12 u13 u14 u15 u16 u17 u18 u19 u20 u21 u22 u23 u24 u25 u26 u27 u28 u29 u30 u31 u32 u33 u34 u35 u36 u37 u38 u39 u40 u41 u42 u43 u44 u45 u46 u47 u48 u49 u50 u51 u52 u53 u54 u55 u56 u57 u58 u59 u60 u61 u62 u63 u64 u65 u66 u67 u68 u69 u70 u71 u72 u73 u74 u75 u76 u77 u78 u79 u80 u81 u82 u83 u84 u85 u86 u87 u88 u89 u90 u91 u92 u93 u94 u95 u96 u97 u98 u99 u100 u101 u102 u103 u104 u105 u106 u107 u108 u109 u110 u111 u112 u113 u114 u115 u116 u117 u118 u119 u120 u121 u122 u123 u124 u125 u126 u127 u128 u129 u130 u131 u132 u133 u134 u135 u136 u137 u138 u139 u140 u141 u142 u143 u144 u145 u146 u147 u148 u149 u150 u151 u152 u153 u154 u155 u156 u157 u158 u159 u160 u161 u162 u163 u164 u165 u166 u167 u168 u169 u170 u171 u172 u173 u174 u175 u176 u177 u178 u179 u180 u181 u182 u183 u184 u185 u186 u187 u188 u189 u190 u191 u192 u193 u194 u195 u196 u197 u198 u199 u200 u201 u202 u203 u204 u205 u206 u207 u208 u209 u210 u211 u212 u213 u214 u215 u216 u217 u218 u219 u220 u221 u222 u223 u224 u225 u226 u227 u228 u229 u230 u231 u232 u233 u234 u235 u236 u237 u238 u239 u240 u241 u242 u243 u244 u245 u246 u247 u248 u249 u250 u251 u252 u253 u254 u255 u256 u257 u258 u259 u260 u261 u262 u263 u264 u265 u266 u267 u268 u269 u270 u271 u272 u273 u274 u275 u276 u277 u278 u279 u280 u281 u282 u283 u284 u285 u286 u287 u288 u289 u290 u291 u292 u293 u294 u295 u296 u297 u298 u299 u300 u301 u302 u303 u304 : Value) : Code.wp Tryz.prog zM Q ⟨#[Value.pointer (some ⟨R, 0, none⟩), u1, Value.pointer (some ⟨rb, 0, none⟩), Value.bool nl, Value.int .i64 (123), Value.pointer (some ⟨tb, 0, none⟩), u6, u7, u8, u9, u10, u11, u12, u13, u14, u15, u16, u17, u18, u19, u20, u21, u22, u23, u24, u25, u26, u27, u28, u29, u30, u31, u32, u33, u34, u35, u36, u37, u38, u39, u40, u41, u42, u43, u44, u45, u46, u47, u48, u49, u50, u51, u52, u53, u54, u55, u56, u57, u58, u59, u60, u61, u62, u63, u64, u65, u66, u67, u68, u69, u70, u71, u72, u73, u74, u75, u76, u77, u78, u79, u80, u81, u82, u83, u84, u85, u86, u87, u88, u89, u90, u91, u92, u93, u94, u95, u96, u97, u98, u99, u100, u101, u102, u103, u104, u105, u106, u107, u108, u109, u110, u111, u112, u113, u114, u115, u116, u117, u118, u119, u120, u121, u122, u123, u124, u125, u126, u127, u128, u129, u130, u131, u132, u133, u134, u135, u136, u137, u138, u139, u140, u141, u142, u143, u144, u145, u146, u147, u148, u149, u150, u151, u152, u153, u154, u155, u156, u157, u158, u159, u160, u161, u162, u163, u164, u165, u166, u167, u168, u169, u170, u171, u172, u173, u174, u175, u176, u177, u178, u179, u180, u181, u182, u183, u184, u185, u186, u187, u188, u189, u190, u191, u192, u193, u194, u195, u196, u197, u198, u199, u200, u201, u202, u203, u204, u205, u206, u207, u208, u209, u210, u211, u212, u213, u214, u215, u216, u217, u218, u219, u220, u221, u222, u223, u224, u225, u226, u227, u228, u229, u230, u231, u232, u233, u234, u235, u236, u237, u238, u239, u240, u241, u242, u243, u244, u245, u246, u247, u248, u249, u250, u251, u252, u253, u254, u255, u256, u257, u258, u259, u260, u261, u262, u263, u264, u265, u266, u267, u268, u269, u270, u271, u272, u273, u274, u275, u276, u277, u278, u279, u280, u281, u282, u283, u284, u285, u286, u287, u288, u289, u290, u291, u292, u293, u294, u295, u296, u297, u298, u299, u300, u301, u302, u303, u304], []⟩ w := by
  conv => arg 2; whnf
  have HI := Lib.hid (show identS (123) = false by decide)
  have HD := Lib.hid (show decI (123) = false by decide)
  go_upto_region 43 with (first | (go_at_call 17; refine (rstart_false _ _ HI.out).mono ?_; rintro e w' ⟨rfl, rfl⟩) | (go_at_call 20; refine (rdec_false _ _ HD.out).mono ?_; rintro e w' ⟨rfl, rfl⟩))
  have k0 := Zu.start h
  clear h
  obtain ⟨ub, hub⟩ : ∃ ub, ub = w.heap.size := ⟨_, rfl⟩
  rw [← hub] at k0 ⊢
  generalize w.alloc (.cells #[.int .i64 0, .string ⟨#[]⟩, .int .i64 0, .int .i64 0, .bool false, .int .i64 0] 31) = x0 at k0 ⊢
  clear hub
  go_wp2_with (go_at_call 21; refine (zone_any _ _ _).mono ?_; rintro e y1 ⟨rfl, fx⟩; unfold zcells; refine Hid.out ?_)
  refine Lib.hid ?_
  have m1 := k0.still fx
  clear k0 fx
  obtain ⟨⟨a0, a1, a2, a3, a4, a5⟩, b0, b1, b2, b3, b4, b5⟩ := m1.facts
  go_upto_region 120 with fail
  have g1 := m1.put (123) ⟨[by8 123].toArray⟩
  clear a0 a1 a2 a3 a4 a5 b0 b1 b2 b3 b4 b5 m1
  unfold zput at g1
  generalize ((((((y1.setCell ⟨ub, 0, none⟩ (.int .i64 123)).setCell ⟨ub, 1, none⟩ (.string ⟨[by8 123].toArray⟩)).setCell ⟨ub, 2, none⟩ (.int .i64 0)).setCell ⟨ub, 3, none⟩ (.int .i64 0)).setCell ⟨ub, 4, none⟩ (.bool false)).setCell ⟨ub, 5, none⟩ (.int .i64 0)) = wp at g1 ⊢
  obtain ⟨⟨a0, a1, -⟩, -⟩ := g1.facts
  obtain ⟨t0, t1, t2, t3, t4, t5, f0, f1, f5⟩ := g1.zk.facts
  go_upto_region 122 with fail
  have g2 := (g1.zk.setTyp (123)).setStr ⟨[by8 123].toArray⟩
  clear a0 a1 t0 t1 t2 t3 t4 t5 f0 f1 f5 g1
  generalize (wp.setCell ⟨tb, 0, none⟩ (.int .i64 (123))).setCell ⟨tb, 1, none⟩ (.string ⟨[by8 123].toArray⟩) = wq at g2 ⊢
  obtain ⟨t0, t1, t2, t3, t4, t5, f0, f1, f5⟩ := g2.facts
  obtain ⟨⟨r0, r1, r2, r3, r4, r5⟩, q0, q1, q2, q3, q4, q5⟩ := g2.rfacts
  go_wp2
  exact ⟨_, _, _, _, _, rfl, g2.fin.hR, g2.fin.fb, fun _ => ⟨rfl, rfl, rfl, g2.fin.rf⟩⟩


set_option maxRecDepth 1000000 in
set_option maxHeartbeats 16000000 in
theorem zo_125 {W0 w : World} {R M rb tb : Nat} {sv : Value} {all : List UInt8} {st : St} {line col : Int} {nl : Bool} {Q : Exit → Act → World → Prop} (h : Zk W0 R M sv all rb tb w st 0 ⟨#[]⟩ line col nl 0) 
    (hQ : ∀ a w, ZRet W0 R M sv all rb line col nl (one 125 st) a w → Q .ret a w) (u1 u6 u7 u8 u9 u10 u11 u12 u13 u14 u15 u16 u17 u18 u19 u20 u21 u22 u23 u24 u25 u26 u27 u28 u29 u30 u31 u32 u33 u34 u35 u36 u37 u38 u39 u40 u41 u42 u43 u44 u45 u46 u47 u48 u49 u50 u51 u52 u53 u54 u55 u56 u57 u58 u59 u60 u61 u62 u63 u64 u65 u66 u67 u68 u69 u70 u71 u72 u73 u74 u75 u76 u77 u78 u79 u80 u81 u82 u83 u84 u85 u86 u87 u88 u89 u90 u91 u92 u93 u94 u95 u96 u97 u98 u99 u100 u101 u102 u103 u104 u105 u106 u107 u108 u109 u110 u111 u112 u113 u114 u115 u116 u117 u118 u119 u120 u121 u122 u123 u124 u125 u126 u127 u128 u129 u130 u131 u132 u133 u134 u135 u136 u137 u138 u139 u140 u141 u142 u143 u144 u145 u146 u147 u148 u149 u150 u151 u152 u153 u154 u155 u156 u157 u158 u159 u160 u161 u162 u163 u164 u165 u166 u167 u168 u169 u170 u171 u172 u173 u174 u175 u176 u177 u178 u179 u180 u181 u182 u183 u184 u185 u186 u187 u188 u189 u190 u191 u192 u193 u194 u195 u196 u197 u198 u199 u200 u201 u202 u203 u204 u205 u206 u207 u208 u209 u210 u211 u212 u213 u214 u215 u216 u217 u218 u219 u220 u221 u222 u223 u224 u225 u226 u227 u228 u229 u230 u231 u232 u233 u234 u235 u236 u237 u238 u239 u240 u241 u242 u243 u244 u245 u246 u247 u248 u249 u250 u251 u252 u253 u254 u255 u256 u257 u258 u259 u260 u261 u262 u263 u264 u265 u266 u267 u268 u269 u270 u271 u272 u273 u274 u275 u276 u277 u278 u279 u280 u281 u282 u283 u284 u285 u286 u287 u288 u289 u290 u291 u292 u293 u294 u295 u296 u297 u298 u299 u300 u301 u302 u303 u304 : Value) : Code.wp Tryz.prog zM Q ⟨#[Value.pointer (some ⟨R, 0, none⟩), u1, Value.pointer (some ⟨rb, 0, none⟩), Value.bool nl, Value.int .i64 (125), Value.pointer (some ⟨tb, 0, none⟩), u6, u7, u8, u9, u10, u11, u12, u13, u14, u15, u16, u17, u18, u19, u20, u21, u22, u23, u24, u25, u26, u27, u28, u29, u30, u31, u32, u33, u34, u35, u36, u37, u38, u39, u40, u41, u42, u43, u44, u45, u46, u47, u48, u49, u50, u51, u52, u53, u54, u55, u56, u57, u58, u59, u60, u61, u62, u63, u64, u65, u66, u67, u68, u69, u70, u71, u72, u73, u74, u75, u76, u77, u78, u79, u80, u81, u82, u83, u84, u85, u86, u87, u88, u89, u90, u91, u92, u93, u94, u95, u96, u97, u98, u99, u100, u101, u102, u103, u104, u105, u106, u107, u108, u109, u110, u111, u112, u113, u114, u115, u116, u117, u118, u119, u120, u121, u122, u123, u124, u125, u126, u127, u128, u129, u130, u131, u132, u133, u134, u135, u136, u137, u138, u139, u140, u141, u142, u143, u144, u145, u146, u147, u148, u149, u150, u151, u152, u153, u154, u155, u156, u157, u158, u159, u160, u161, u162, u163, u164, u165, u166, u167, u168, u169, u170, u171, u172, u173, u174, u175, u176, u177, u178, u179, u180, u181, u182, u183, u184, u185, u186, u187, u188, u189, u190, u191, u192, u193, u194, u195, u196, u197, u198, u199, u200, u201, u202, u203, u204, u205, u206, u207, u208, u209, u210, u211, u212, u213, u214, u215, u216, u217, u218, u219, u220, u221, u222, u223, u224, u225, u226, u227, u228, u229, u230, u231, u232, u233, u234, u235, u236, u237, u238, u239, u240, u241, u242, u243, u244, u245, u246, u247, u248, u249, u250, u251, u252, u253, u254, u255, u256, u257, u258, u259, u260, u261, u262, u263, u264, u265, u266, u267, u268, u269, u270, u271, u272, u273, u274, u275, u276, u277, u278, u279, u280, u281, u282, u283, u284, u285, u286, u287, u288, u289, u290, u291, u292, u293, u294, u295, u296, u297, u298, u299, u300, u301, u302, u303, u304], []⟩ w := by
  conv => arg 2; whnf
  have HI := Lib.hid (show identS (125) = false by decide)
  have HD := Lib.hid (show decI (125) = false by decide)
  go_upto_region 43 with (first | (go_at_call 17; refine (rstart_false _ _ HI.out).mono ?_; rintro e w' ⟨rfl, rfl⟩) | (go_at_call 20; refine (rdec_false _ _ HD.out).mono ?_; rintro e w' ⟨rfl, rfl⟩))
  have k0 := Zu.start h
  clear h
  obtain ⟨ub, hub⟩ : ∃ ub, ub = w.heap.size := ⟨_, rfl⟩
  rw [← hub] at k0 ⊢
  generalize w.alloc (.cells #[.int .i64 0, .string ⟨#[]⟩, .int .i64 0, .int .i64 0, .bool false, .int .i64 0] 31) = x0 at k0 ⊢
  clear hub
  go_wp2_with (go_at_call 21; refine (zone_any _ _ _).mono ?_; rintro e y1 ⟨rfl, fx⟩; unfold zcells; refine Hid.out ?_)
  refine Lib.hid ?_
  have m1 := k0.still fx
  clear k0 fx
  obtain ⟨⟨a0, a1, a2, a3, a4, a5⟩, b0, b1, b2, b3, b4, b5⟩ := m1.facts
  go_upto_region 120 with fail
  have g1 := m1.put (125) ⟨[by8 125].toArray⟩
  clear a0 a1 a2 a3 a4 a5 b0 b1 b2 b3 b4 b5 m1
  unfold zput at g1
  generalize ((((((y1.setCell ⟨ub, 0, none⟩ (.int .i64 125)).setCell ⟨ub, 1, none⟩ (.string ⟨[by8 125].toArray⟩)).setCell ⟨ub, 2, none⟩ (.int .i64 0)).setCell ⟨ub, 3, none⟩ (.int .i64 0)).setCell ⟨ub, 4, none⟩ (.bool false)).setCell ⟨ub, 5, none⟩ (.int .i64 0)) = wp at g1 ⊢
  obtain ⟨⟨a0, a1, -⟩, -⟩ := g1.facts
  obtain ⟨t0, t1, t2, t3, t4, t5, f0, f1, f5⟩ := g1.zk.facts
  go_upto_region 122 with fail
  have g2 := (g1.zk.setTyp (125)).setStr ⟨[by8 125].toArray⟩
  clear a0 a1 t0 t1 t2 t3 t4 t5 f0 f1 f5 g1
  generalize (wp.setCell ⟨tb, 0, none⟩ (.int .i64 (125))).setCell ⟨tb, 1, none⟩ (.string ⟨[by8 125].toArray⟩) = wq at g2 ⊢
  obtain ⟨t0, t1, t2, t3, t4, t5, f0, f1, f5⟩ := g2.facts
  obtain ⟨⟨r0, r1, r2, r3, r4, r5⟩, q0, q1, q2, q3, q4, q5⟩ := g2.rfacts
  go_wp2
  exact ⟨_, _, _, _, _, rfl, g2.fin.hR, g2.fin.fb, fun _ => ⟨rfl, rfl, rfl, g2.fin.rf⟩⟩


set_option maxRecDepth 1000000 in
set_option maxHeartbeats 16000000 in
theorem zo_93 {W0 w : World} {R M rb tb : Nat} {sv : Value} {all : List UInt8} {st : St} {line col : Int} {nl : Bool} {Q : Exit → Act → World → Prop} (h : Zk W0 R M sv all rb tb w st 0 ⟨#[]⟩ line col nl 0) 
    (hQ : ∀ a w, ZRet W0 R M sv all rb line col nl (one 93 st) a w → Q .ret a w) (u1 u6 u7 u8 u9 u10 u11 u12 u13 u14 u15 u16 u17 u18 u19 u20 u21 u22 u23 u24 u25 u26 u27 u28 u29 u30 u31 u32 u33 u34 u35 u36 u37 u38 u39 u40 u41 u42 u43 u44 u45 u46 u47 u48 u49 u50 u51 u52 u53 u54 u55 u56 u57 u58 u59 u60 u61 u62 u63 u64 u65 u66 u67 u68 u69 u70 u71 u72 u73 u74 u75 u76 u77 u78 u79 u80 u81 u82 u83 u84 u85 u86 u87 u88 u89 u90 u91 u92 u93 u94 u95 u96 u97 u98 u99 u100 u101 u102 u103 u104 u105 u106 u107 u108 u109 u110 u111 u112 u113 u114 u115 u116 u117 u118 u119 u120 u121 u122 u123 u124 u125 u126 u127 u128 u129 u130 u131 u132 u133 u134 u135 u136 u137 u138 u139 u140 u141 u142 u143 u144 u145 u146 u147 u148 u149 u150 u151 u152 u153 u154 u155 u156 u157 u158 u159 u160 u161 u162 u163 u164 u165 u166 u167 u168 u169 u170 u171 u172 u173 u174 u175 u176 u177 u178 u179 u180 u181 u182 u183 u184 u185 u186 u187 u188 u189 u190 u191 u192 u193 u194 u195 u196 u197 u198 u199 u200 u201 u202 u203 u204 u205 u206 u207 u208 u209 u210 u211 u212 u213 u214 u215 u216 u217 u218 u219 u220 u221 u222 u223 u224 u225 u226 u227 u228 u229 u230 u231 u232 u233 u234 u235 u236 u237 u238 u239 u240 u241 u242 u243 u244 u245 u246 u247 u248 u249 u250 u251 u252 u253 u254 u255 u256 u257 u258 u259 u260 u261 u262 u263 u264 u265 u266 u267 u268 u269 u270 u271 u272 u273 u274 u275 u276 u277 u278 u279 u280 u281 u282 u283 u284 u285 u286 u287 u288 u289 u290 u291 u292 u293 u294 u295 u296 u297 u298 u299 u300 u301 u302 u303 u304 : Value) : Code.wp Tryz.prog zM Q ⟨#[Value.pointer (some ⟨R, 0, none⟩), u1, Value.pointer (some ⟨rb, 0, none⟩), Value.bool nl, Value.int .i64 (93), Value.pointer (some ⟨tb, 0, none⟩), u6, u7, u8, u9, u10, u11, u12, u13, u14, u15, u16, u17, u18, u19, u20, u21, u22, u23, u24, u25, u26, u27, u28, u29, u30, u31, u32, u33, u34, u35, u36, u37, u38, u39, u40, u41, u42, u43, u44, u45, u46, u47, u48, u49, u50, u51, u52, u53, u54, u55, u56, u57, u58, u59, u60, u61, u62, u63, u64, u65, u66, u67, u68, u69, u70, u71, u72, u73, u74, u75, u76, u77, u78, u79, u80, u81, u82, u83, u84, u85, u86, u87, u88, u89, u90, u91, u92, u93, u94, u95, u96, u97, u98, u99, u100, u101, u102, u103, u104, u105, u106, u107, u108, u109, u110, u111, u112, u113, u114, u115, u116, u117, u118, u119, u120, u121, u122, u123, u124, u125, u126, u127, u128, u129, u130, u131, u132, u133, u134, u135, u136, u137, u138, u139, u140, u141, u142, u143, u144, u145, u146, u147, u148, u149, u150, u151, u152, u153, u154, u155, u156, u157, u158, u159, u160, u161, u162, u163, u164, u165, u166, u167, u168, u169, u170, u171, u172, u173, u174, u175, u176, u177, u178, u179, u180, u181, u182, u183, u184, u185, u186, u187, u188, u189, u190, u191, u192, u193, u194, u195, u196, u197, u198, u199, u200, u201, u202, u203, u204, u205, u206, u207, u208, u209, u210, u211, u212, u213, u214, u215, u216, u217, u218, u219, u220, u221, u222, u223, u224, u225, u226, u227, u228, u229, u230, u231, u232, u233, u234, u235, u236, u237, u238, u239, u240, u241, u242, u243, u244, u245, u246, u247, u248, u249, u250, u251, u252, u253, u254, u255, u256, u257, u258, u259, u260, u261, u262, u263, u264, u265, u266, u267, u268, u269, u270, u271, u272, u273, u274, u275, u276, u277, u278, u279, u280, u281, u282, u283, u284, u285, u286, u287, u288, u289, u290, u291, u292, u293, u294, u295, u296, u297, u298, u299, u300, u301, u302, u303, u304], []⟩ w := by
  conv => arg 2; whnf
  have HI := Lib.hid (show identS (93) = false by decide)
  have HD := Lib.hid (show decI (93) = false by decide)
  go_upto_region 43 with (first | (go_at_call 17; refine (rstart_false _ _ HI.out).mono ?_; rintro e w' ⟨rfl, rfl⟩) | (go_at_call 20; refine (rdec_false _ _ HD.out).mono ?_; rintro e w' ⟨rfl, rfl⟩))
  have k0 := Zu.start h
  clear h
  obtain ⟨ub, hub⟩ : ∃ ub, ub = w.heap.size := ⟨_, rfl⟩
  rw [← hub] at k0 ⊢
  generalize w.alloc (.cells #[.int .i64 0, .string ⟨#[]⟩, .int .i64 0, .int .i64 0, .bool false, .int .i64 0] 31) = x0 at k0 ⊢
  clear hub
  go_wp2_with (go_at_call 21; refine (zone_any _ _ _).mono ?_; rintro e y1 ⟨rfl, fx⟩; unfold zcells; refine Hid.out ?_)
  refine Lib.hid ?_
  have m1 := k0.still fx
  clear k0 fx
  obtain ⟨⟨a0, a1, a2, a3, a4, a5⟩, b0, b1, b2, b3, b4, b5⟩ := m1.facts
  go_upto_region 120 with fail
  have g1 := m1.put (93) ⟨[by8 93].toArray⟩
  clear a0 a1 a2 a3 a4 a5 b0 b1 b2 b3 b4 b5 m1
  unfold zput at g1
  generalize ((((((y1.setCell ⟨ub, 0, none⟩ (.int .i64 93)).setCell ⟨ub, 1, none⟩ (.string ⟨[by8 93].toArray⟩)).setCell ⟨ub, 2, none⟩ (.int .i64 0)).setCell ⟨ub, 3, none⟩ (.int .i64 0)).setCell ⟨ub, 4, none⟩ (.bool false)).setCell ⟨ub, 5, none⟩ (.int .i64 0)) = wp at g1 ⊢
  obtain ⟨⟨a0, a1, -⟩, -⟩ := g1.facts
  obtain ⟨t0, t1, t2, t3, t4, t5, f0, f1, f5⟩ := g1.zk.facts
  go_upto_region 122 with fail
  have g2 := (g1.zk.setTyp (93)).setStr ⟨[by8 93].toArray⟩
  clear a0 a1 t0 t1 t2 t3 t4 t5 f0 f1 f5 g1
  generalize (wp.setCell ⟨tb, 0, none⟩ (.int .i64 (93))).setCell ⟨tb, 1, none⟩ (.string ⟨[by8 93].toArray⟩) = wq at g2 ⊢
  obtain ⟨t0, t1, t2, t3, t4, t5, f0, f1, f5⟩ := g2.facts
  obtain ⟨⟨r0, r1, r2, r3, r4, r5⟩, q0, q1, q2, q3, q4, q5⟩ := g2.rfacts
  go_wp2
  exact ⟨_, _, _, _, _, rfl, g2.fin.hR, g2.fin.fb, fun _ => ⟨rfl, rfl, rfl, g2.fin.rf⟩⟩


set_option maxRecDepth 1000000 in
set_option maxHeartbeats 16000000 in
theorem zo_59 {W0 w : World} {R M rb tb : Nat} {sv : Value} {all : List UInt8} {st : St} {line col : Int} {nl : Bool} {Q : Exit → Act → World → Prop} (h : Zk W0 R M sv all rb tb w st 0 ⟨#[]⟩ line col nl 0) 
    (hQ : ∀ a w, ZRet W0 R M sv all rb line col nl (one 59 st) a w → Q .ret a w) (u1 u6 u7 u8 u9 u10 u11 u12 u13 u14 u15 u16 u17 u18 u19 u20 u21 u22 u23 u24 u25 u26 u27 u28 u29 u30 u31 u32 u33 u34 u35 u36 u37 u38 u39 u40 u41 u42 u43 u44 u45 u46 u47 u48 u49 u50 u51 u52 u53 u54 u55 u56 u57 u58 u59 u60 u61 u62 u63 u64 u65 u66 u67 u68 u69 u70 u71 u72 u73 u74 u75 u76 u77 u78 u79 u80 u81 u82 u83 u84 u85 u86 u87 u88 u89 u90 u91 u92 u93 u94 u95 u96 u97 u98 u99 u100 u101 u102 u103 u104 u105 u106 u107 u108 u109 u110 u111 u112 u113 u114 u115 u116 u117 u118 u119 u120 u121 u122 u123 u124 u125 u126 u127 u128 u129 u130 u131 u132 u133 u134 u135 u136 u137 u138 u139 u140 u141 u142 u143 u144 u145 u146 u147 u148 u149 u150 u151 u152 u153 u154 u155 u156 u157 u158 u159 u160 u161 u162 u163 u164 u165 u166 u167 u168 u169 u170 u171 u172 u173 u174 u175 u176 u177 u178 u179 u180 u181 u182 u183 u184 u185 u186 u187 u188 u189 u190 u191 u192 u193 u194 u195 u196 u197 u198 u199 u200 u201 u202 u203 u204 u205 u206 u207 u208 u209 u210 u211 u212 u213 u214 u215 u216 u217 u218 u219 u220 u221 u222 u223 u224 u225 u226 u227 u228 u229 u230 u231 u232 u233 u234 u235 u236 u237 u238 u239 u240 u241 u242 u243 u244 u245 u246 u247 u248 u249 u250 u251 u252 u253 u254 u255 u256 u257 u258 u259 u260 u261 u262 u263 u264 u265 u266 u267 u268 u269 u270 u271 u272 u273 u274 u275 u276 u277 u278 u279 u280 u281 u282 u283 u284 u285 u286 u287 u288 u289 u290 u291 u292 u293 u294 u295 u296 u297 u298 u299 u300 u301 u302 u303 u304 : Value) : Code.wp Tryz.prog zM Q ⟨#[Value.pointer (some ⟨R, 0, none⟩), u1, Value.pointer (some ⟨rb, 0, none⟩), Value.bool nl, Value.int .i64 (59), Value.pointer (some ⟨tb, 0, none⟩), u6, u7, u8, u9, u10, u11, u12, u13, u14, u15, u16, u17, u18, u19, u20, u21, u22, u23, u24, u25, u26, u27, u28, u29, u30, u31, u32, u33, u34, u35, u36, u37, u38, u39, u40, u41, u42, u43, u44, u45, u46, u47, u48, u49, u50, u51, u52, u53, u54, u55, u56, u57, u58, u59, u60, u61, u62, u63, u64, u65, u66, u67, u68, u69, u70, u71, u72, u73, u74, u75, u76, u77, u78, u79, u80, u81, u82, u83, u84, u85, u86, u87, u88, u89, u90, u91, u92, u93, u94, u95, u96, u97, u98, u99, u100, u101, u102, u103, u104, u105, u106, u107, u108, u109, u110, u111, u112, u113, u114, u115, u116, u117, u118, u119, u120, u121, u122, u123, u124, u125, u126, u127, u128, u129, u130, u131, u132, u133, u134, u135, u136, u137, u138, u139, u140, u141, u142, u143, u144, u145, u146, u147, u148, u149, u150, u151, u152, u153, u154, u155, u156, u157, u158, u159, u160, u161, u162, u163, u164, u165, u166, u167, u168, u169, u170, u171, u172, u173, u174, u175, u176, u177, u178, u179, u180, u181, u182, u183, u184, u185, u186, u187, u188, u189, u190, u191, u192, u193, u194, u195, u196, u197, u198, u199, u200, u201, u202, u203, u204, u205, u206, u207, u208, u209, u210, u211, u212, u213, u214, u215, u216, u217, u218, u219, u220, u221, u222, u223, u224, u225, u226, u227, u228, u229, u230, u231, u232, u233, u234, u235, u236, u237, u238, u239, u240, u241, u242, u243, u244, u245, u246, u247, u248, u249, u250, u251, u252, u253, u254, u255, u256, u257, u258, u259, u260, u261, u262, u263, u264, u265, u266, u267, u268, u269, u270, u271, u272, u273, u274, u275, u276, u277, u278, u279, u280, u281, u282, u283, u284, u285, u286, u287, u288, u289, u290, u291, u292, u293, u294, u295, u296, u297, u298, u299, u300, u301, u302, u303, u304], []⟩ w := by
  conv => arg 2; whnf
  have HI := Lib.hid (show identS (59) = false by decide)
  have HD := Lib.hid (show decI (59) = false by decide)
  go_upto_region 43 with (first | (go_at_call 17; refine (rstart_false _ _ HI.out).mono ?_; rintro e w' ⟨rfl, rfl⟩) | (go_at_call 20; refine (rdec_false _ _ HD.out).mono ?_; rintro e w' ⟨rfl, rfl⟩))
  have k0 := Zu.start h
  clear h
  obtain ⟨ub, hub⟩ : ∃ ub, ub = w.heap.size := ⟨_, rfl⟩
  rw [← hub] at k0 ⊢
  generalize w.alloc (.cells #[.int .i64 0, .string ⟨#[]⟩, .int .i64 0, .int .i64 0, .bool false, .int .i64 0] 31) = x0 at k0 ⊢
  clear hub
  go_wp2_with (go_at_call 21; refine (zone_any _ _ _).mono ?_; rintro e y1 ⟨rfl, fx⟩; unfold zcells; refine Hid.out ?_)
  refine Lib.hid ?_
  have m1 := k0.still fx
  clear k0 fx
  obtain ⟨⟨a0, a1, a2, a3, a4, a5⟩, b0, b1, b2, b3, b4, b5⟩ := m1.facts
  go_upto_region 120 with fail
  have g1 := m1.put (59) ⟨[by8 59].toArray⟩
  clear a0 a1 a2 a3 a4 a5 b0 b1 b2 b3 b4 b5 m1
  unfold zput at g1
  generalize ((((((y1.setCell ⟨ub, 0, none⟩ (.int .i64 59)).setCell ⟨ub, 1, none⟩ (.string ⟨[by8 59].toArray⟩)).setCell ⟨ub, 2, none⟩ (.int .i64 0)).setCell ⟨ub, 3, none⟩ (.int .i64 0)).setCell ⟨ub, 4, none⟩ (.bool false)).setCell ⟨ub, 5, none⟩ (.int .i64 0)) = wp at g1 ⊢
  obtain ⟨⟨a0, a1, -⟩, -⟩ := g1.facts
  obtain ⟨t0, t1, t2, t3, t4, t5, f0, f1, f5⟩ := g1.zk.facts
  go_upto_region 122 with fail
  have g2 := (g1.zk.setTyp (59)).setStr ⟨[by8 59].toArray⟩
  clear a0 a1 t0 t1 t2 t3 t4 t5 f0 f1 f5 g1
  generalize (wp.setCell ⟨tb, 0, none⟩ (.int .i64 (59))).setCell ⟨tb, 1, none⟩ (.string ⟨[by8 59].toArray⟩) = wq at g2 ⊢
  obtain ⟨t0, t1, t2, t3, t4, t5, f0, f1, f5⟩ := g2.facts
  obtain ⟨⟨r0, r1, r2, r3, r4, r5⟩, q0, q1, q2, q3, q4, q5⟩ := g2.rfacts
  go_wp2
  exact ⟨_, _, _, _, _, rfl, g2.fin.hR, g2.fin.fb, fun _ => ⟨rfl, rfl, rfl, g2.fin.rf⟩⟩


set_option maxRecDepth 1000000 in
set_option maxHeartbeats 16000000 in
theorem zo_44 {W0 w : World} {R M rb tb : Nat} {sv : Value} {all : List UInt8} {st : St} {line col : Int} {nl : Bool} {Q : Exit → Act → World → Prop} (h : Zk W0 R M sv all rb tb w st 0 ⟨#[]⟩ line col nl 0) 
    (hQ : ∀ a w, ZRet W0 R M sv all rb line col nl (one 44 st) a w → Q .ret a w) (u1 u6 u7 u8 u9 u10 u11 u12 u13 u14 u15 u16 u17 u18 u19 u20 u21 u22 u23 u24 u25 u26 u27 u28 u29 u30 u31 u32 u33 u34 u35 u36 u37 u38 u39 u40 u41 u42 u43 u44 u45 u46 u47 u48 u49 u50 u51 u52 u53 u54 u55 u56 u57 u58 u59 u60 u61 u62 u63 u64 u65 u66 u67 u68 u69 u70 u71 u72 u73 u74 u75 u76 u77 u78 u79 u80 u81 u82 u83 u84 u85 u86 u87 u88 u89 u90 u91 u92 u93 u94 u95 u96 u97 u98 u99 u100 u101 u102 u103 u104 u105 u106 u107 u108 u109 u110 u111 u112 u113 u114 u115 u116 u117 u118 u119 u120 u121 u122 u123 u124 u125 u126 u127 u128 u129 u130 u131 u132 u133 u134 u135 u136 u137 u138 u139 u140 u141 u142 u143 u144 u145 u146 u147 u148 u149 u150 u151 u152 u153 u154 u155 u156 u157 u158 u159 u160 u161 u162 u163 u164 u165 u166 u167 u168 u169 u170 u171 u172 u173 u174 u175 u176 u177 u178 u179 u180 u181 u182 u183 u184 u185 u186 u187 u188 u189 u190 u191 u192 u193 u194 u195 u196 u197 u198 u199 u200 u201 u202 u203 u204 u205 u206 u207 u208 u209 u210 u211 u212 u213 u214 u215 u216 u217 u218 u219 u220 u221 u222 u223 u224 u225 u226 u227 u228 u229 u230 u231 u232 u233 u234 u235 u236 u237 u238 u239 u240 u241 u242 u243 u244 u245 u246 u247 u248 u249 u250 u251 u252 u253 u254 u255 u256 u257 u258 u259 u260 u261 u262 u263 u264 u265 u266 u267 u268 u269 u270 u271 u272 u273 u274 u275 u276 u277 u278 u279 u280 u281 u282 u283 u284 u285 u286 u287 u288 u289 u290 u291 u292 u293 u294 u295 u296 u297 u298 u299 u300 u301 u302 u303 u304 : Value) : Code.wp Tryz.prog zM Q ⟨#[Value.pointer (some ⟨R, 0, none⟩), u1, Value.pointer (some ⟨rb, 0, none⟩), Value.bool nl, Value.int .i64 (44), Value.pointer (some ⟨tb, 0, none⟩), u6, u7, u8, u9, u10, u11, u12, u13, u14, u15, u16, u17, u18, u19, u20, u21, u22, u23, u24, u25, u26, u27, u28, u29, u30, u31, u32, u33, u34, u35, u36, u37, u38, u39, u40, u41, u42, u43, u44, u45, u46, u47, u48, u49, u50, u51, u52, u53, u54, u55, u56, u57, u58, u59, u60, u61, u62, u63, u64, u65, u66, u67, u68, u69, u70, u71, u72, u73, u74, u75, u76, u77, u78, u79, u80, u81, u82, u83, u84, u85, u86, u87, u88, u89, u90, u91, u92, u93, u94, u95, u96, u97, u98, u99, u100, u101, u102, u103, u104, u105, u106, u107, u108, u109, u110, u111, u112, u113, u114, u115, u116, u117, u118, u119, u120, u121, u122, u123, u124, u125, u126, u127, u128, u129, u130, u131, u132, u133, u134, u135, u136, u137, u138, u139, u140, u141, u142, u143, u144, u145, u146, u147, u148, u149, u150, u151, u152, u153, u154, u155, u156, u157, u158, u159, u160, u161, u162, u163, u164, u165, u166, u167, u168, u169, u170, u171, u172, u173, u174, u175, u176, u177, u178, u179, u180, u181, u182, u183, u184, u185, u186, u187, u188, u189, u190, u191, u192, u193, u194, u195, u196, u197, u198, u199, u200, u201, u202, u203, u204, u205, u206, u207, u208, u209, u210, u211, u212, u213, u214, u215, u216, u217, u218, u219, u220, u221, u222, u223, u224, u225, u226, u227, u228, u229, u230, u231, u232, u233, u234, u235, u236, u237, u238, u239, u240, u241, u242, u243, u244, u245, u246, u247, u248, u249, u250, u251, u252, u253, u254, u255, u256, u257, u258, u259, u260, u261, u262, u263, u264, u265, u266, u267, u268, u269, u270, u271, u272, u273, u274, u275, u276, u277, u278, u279, u280, u281, u282, u283, u284, u285, u286, u287, u288, u289, u290, u291, u292, u293, u294, u295, u296, u297, u298, u299, u300, u301, u302, u303, u304], []⟩ w := by
  conv => arg 2; whnf
  have HI := Lib.hid (show identS (44) = false by decide)
  have HD := Lib.hid (show decI (44) = false by decide)
  go_upto_region 43 with (first | (go_at_call 17; refine (rstart_false _ _ HI.out).mono ?_; rintro e w' ⟨rfl, rfl⟩) | (go_at_call 20; refine (rdec_false _ _ HD.out).mono ?_; rintro e w' ⟨rfl, rfl⟩))
  have k0 := Zu.start h
  clear h
  obtain ⟨ub, hub⟩ : ∃ ub, ub = w.heap.size := ⟨_, rfl⟩
  rw [← hub] at k0 ⊢
  generalize w.alloc (.cells #[.int .i64 0, .string ⟨#[]⟩, .int .i64 0, .int .i64 0, .bool false, .int .i64 0] 31) = x0 at k0 ⊢
  clear hub
  go_wp2_with (go_at_call 21; refine (zone_any _ _ _).mono ?_; rintro e y1 ⟨rfl, fx⟩; unfold zcells; refine Hid.out ?_)
  refine Lib.hid ?_
  have m1 := k0.still fx
  clear k0 fx
  obtain ⟨⟨a0, a1, a2, a3, a4, a5⟩, b0, b1, b2, b3, b4, b5⟩ := m1.facts
  go_upto_region 120 with fail
  have g1 := m1.put (44) ⟨[by8 44].toArray⟩
  clear a0 a1 a2 a3 a4 a5 b0 b1 b2 b3 b4 b5 m1
  unfold zput at g1
  generalize ((((((y1.setCell ⟨ub, 0, none⟩ (.int .i64 44)).setCell ⟨ub, 1, none⟩ (.string ⟨[by8 44].toArray⟩)).setCell ⟨ub, 2, none⟩ (.int .i64 0)).setCell ⟨ub, 3, none⟩ (.int .i64 0)).setCell ⟨ub, 4, none⟩ (.bool false)).setCell ⟨ub, 5, none⟩ (.int .i64 0)) = wp at g1 ⊢
  obtain ⟨⟨a0, a1, -⟩, -⟩ := g1.facts
  obtain ⟨t0, t1, t2, t3, t4, t5, f0, f1, f5⟩ := g1.zk.facts
  go_upto_region 122 with fail
  have g2 := (g1.zk.setTyp (44)).setStr ⟨[by8 44].toArray⟩
  clear a0 a1 t0 t1 t2 t3 t4 t5 f0 f1 f5 g1
  generalize (wp.setCell ⟨tb, 0, none⟩ (.int .i64 (44))).setCell ⟨tb, 1, none⟩ (.string ⟨[by8 44].toArray⟩) = wq at g2 ⊢
  obtain ⟨t0, t1, t2, t3, t4, t5, f0, f1, f5⟩ := g2.facts
  obtain ⟨⟨r0, r1, r2, r3, r4, r5⟩, q0, q1, q2, q3, q4, q5⟩ := g2.rfacts
  go_wp2
  exact ⟨_, _, _, _, _, rfl, g2.fin.hR, g2.fin.fb, fun _ => ⟨rfl, rfl, rfl, g2.fin.rf⟩⟩


set_option maxRecDepth 1000000 in
set_option maxHeartbeats 16000000 in
theorem zo_45 {W0 w : World} {R M rb tb : Nat} {sv : Value} {all : List UInt8} {st : St} {line col : Int} {nl : Bool} {Q : Exit → Act → World → Prop} (h : Zk W0 R M sv all rb tb w st 0 ⟨#[]⟩ line col nl 0) (hx : (hd st.rest == 45) = false)
    (hQ : ∀ a w, ZRet W0 R M sv all rb line col nl (one 45 st) a w → Q .ret a w) (u1 u6 u7 u8 u9 u10 u11 u12 u13 u14 u15 u16 u17 u18 u19 u20 u21 u22 u23 u24 u25 u26 u27 u28 u29 u30 u31 u32 u33 u34 u35 u36 u37 u38 u39 u40 u41 u42 u43 u44 u45 u46 u47 u48 u49 u50 u51 u52 u53 u54 u55 u56 u57 u58 u59 u60 u61 u62 u63 u64 u65 u66 u67 u68 u69 u70 u71 u72 u73 u74 u75 u76 u77 u78 u79 u80 u81 u82 u83 u84 u85 u86 u87 u88 u89 u90 u91 u92 u93 u94 u95 u96 u97 u98 u99 u100 u101 u102 u103 u104 u105 u106 u107 u108 u109 u110 u111 u112 u113 u114 u115 u116 u117 u118 u119 u120 u121 u122 u123 u124 u125 u126 u127 u128 u129 u130 u131 u132 u133 u134 u135 u136 u137 u138 u139 u140 u141 u142 u143 u144 u145 u146 u147 u148 u149 u150 u151 u152 u153 u154 u155 u156 u157 u158 u159 u160 u161 u162 u163 u164 u165 u166 u167 u168 u169 u170 u171 u172 u173 u174 u175 u176 u177 u178 u179 u180 u181 u182 u183 u184 u185 u186 u187 u188 u189 u190 u191 u192 u193 u194 u195 u196 u197 u198 u199 u200 u201 u202 u203 u204 u205 u206 u207 u208 u209 u210 u211 u212 u213 u214 u215 u216 u217 u218 u219 u220 u221 u222 u223 u224 u225 u226 u227 u228 u229 u230 u231 u232 u233 u234 u235 u236 u237 u238 u239 u240 u241 u242 u243 u244 u245 u246 u247 u248 u249 u250 u251 u252 u253 u254 u255 u256 u257 u258 u259 u260 u261 u262 u263 u264 u265 u266 u267 u268 u269 u270 u271 u272 u273 u274 u275 u276 u277 u278 u279 u280 u281 u282 u283 u284 u285 u286 u287 u288 u289 u290 u291 u292 u293 u294 u295 u296 u297 u298 u299 u300 u301 u302 u303 u304 : Value) : Code.wp Tryz.prog zM Q ⟨#[Value.pointer (some ⟨R, 0, none⟩), u1, Value.pointer (some ⟨rb, 0, none⟩), Value.bool nl, Value.int .i64 (45), Value.pointer (some ⟨tb, 0, none⟩), u6, u7, u8, u9, u10, u11, u12, u13, u14, u15, u16, u17, u18, u19, u20, u21, u22, u23, u24, u25, u26, u27, u28, u29, u30, u31, u32, u33, u34, u35, u36, u37, u38, u39, u40, u41, u42, u43, u44, u45, u46, u47, u48, u49, u50, u51, u52, u53, u54, u55, u56, u57, u58, u59, u60, u61, u62, u63, u64, u65, u66, u67, u68, u69, u70, u71, u72, u73, u74, u75, u76, u77, u78, u79, u80, u81, u82, u83, u84, u85, u86, u87, u88, u89, u90, u91, u92, u93, u94, u95, u96, u97, u98, u99, u100, u101, u102, u103, u104, u105, u106, u107, u108, u109, u110, u111, u112, u113, u114, u115, u116, u117, u118, u119, u120, u121, u122, u123, u124, u125, u126, u127, u128, u129, u130, u131, u132, u133, u134, u135, u136, u137, u138, u139, u140, u141, u142, u143, u144, u145, u146, u147, u148, u149, u150, u151, u152, u153, u154, u155, u156, u157, u158, u159, u160, u161, u162, u163, u164, u165, u166, u167, u168, u169, u170, u171, u172, u173, u174, u175, u176, u177, u178, u179, u180, u181, u182, u183, u184, u185, u186, u187, u188, u189, u190, u191, u192, u193, u194, u195, u196, u197, u198, u199, u200, u201, u202, u203, u204, u205, u206, u207, u208, u209, u210, u211, u212, u213, u214, u215, u216, u217, u218, u219, u220, u221, u222, u223, u224, u225, u226, u227, u228, u229, u230, u231, u232, u233, u234, u235, u236, u237, u238, u239, u240, u241, u242, u243, u244, u245, u246, u247, u248, u249, u250, u251, u252, u253, u254, u255, u256, u257, u258, u259, u260, u261, u262, u263, u264, u265, u266, u267, u268, u269, u270, u271, u272, u273, u274, u275, u276, u277, u278, u279, u280, u281, u282, u283, u284, u285, u286, u287, u288, u289, u290, u291, u292, u293, u294, u295, u296, u297, u298, u299, u300, u301, u302, u303, u304], []⟩ w := by
  conv => arg 2; whnf
  have HI := Lib.hid (show identS (45) = false by decide)
  have HD := Lib.hid (show decI (45) = false by decide)
  go_wp2_with (go_at_call 16; refine (peek_rf _ R M sv all _ h.rf).mono ?_; rintro e w1 ⟨rfl, fx⟩; refine Hid.out ?_)
  refine Lib.hid ?_
  have h1 := h.still fx
  clear h fx
  go_upto_region 43 with (first | (go_at_call 17; refine (rstart_false _ _ HI.out).mono ?_; rintro e w' ⟨rfl, rfl⟩) | (go_at_call 20; refine (rdec_false _ _ HD.out).mono ?_; rintro e w' ⟨rfl, rfl⟩))
  have k0 := Zu.start h1
  clear h1
  obtain ⟨ub, hub⟩ : ∃ ub, ub = w1.heap.size := ⟨_, rfl⟩
  rw [← hub] at k0 ⊢
  generalize w1.alloc (.cells #[.int .i64 0, .string ⟨#[]⟩, .int .i64 0, .int .i64 0, .bool false, .int .i64 0] 31) = x0 at k0 ⊢
  clear hub
  go_wp2_with (go_at_call 21; refine (zone_any _ _ _).mono ?_; rintro e y1 ⟨rfl, fx⟩; unfold zcells; refine Hid.out ?_)
  refine Lib.hid ?_
  have m1 := k0.still fx
  clear k0 fx
  obtain ⟨⟨a0, a1, a2, a3, a4, a5⟩, b0, b1, b2, b3, b4, b5⟩ := m1.facts
  go_upto_region 120 with fail
  have g1 := m1.put (45) ⟨[by8 45].toArray⟩
  clear a0 a1 a2 a3 a4 a5 b0 b1 b2 b3 b4 b5 m1
  unfold zput at g1
  generalize ((((((y1.setCell ⟨ub, 0, none⟩ (.int .i64 45)).setCell ⟨ub, 1, none⟩ (.string ⟨[by8 45].toArray⟩)).setCell ⟨ub, 2, none⟩ (.int .i64 0)).setCell ⟨ub, 3, none⟩ (.int .i64 0)).setCell ⟨ub, 4, none⟩ (.bool false)).setCell ⟨ub, 5, none⟩ (.int .i64 0)) = wp at g1 ⊢
  obtain ⟨⟨a0, a1, -⟩, -⟩ := g1.facts
  obtain ⟨t0, t1, t2, t3, t4, t5, f0, f1, f5⟩ := g1.zk.facts
  go_upto_region 122 with fail
  have g2 := (g1.zk.setTyp (45)).setStr ⟨[by8 45].toArray⟩
  clear a0 a1 t0 t1 t2 t3 t4 t5 f0 f1 f5 g1
  generalize (wp.setCell ⟨tb, 0, none⟩ (.int .i64 (45))).setCell ⟨tb, 1, none⟩ (.string ⟨[by8 45].toArray⟩) = wq at g2 ⊢
  obtain ⟨t0, t1, t2, t3, t4, t5, f0, f1, f5⟩ := g2.facts
  obtain ⟨⟨r0, r1, r2, r3, r4, r5⟩, q0, q1, q2, q3, q4, q5⟩ := g2.rfacts
  go_wp2
  exact ⟨_, _, _, _, _, rfl, g2.fin.hR, g2.fin.fb, fun _ => ⟨rfl, rfl, rfl, g2.fin.rf⟩⟩


set_option maxRecDepth 1000000 in
set_option maxHeartbeats 16000000 in
theorem zs_eof {W0 w : World} {R M rb tb : Nat} {sv : Value} {all : List UInt8} {st : St} {line col : Int} {nl : Bool} {Q : Exit → Act → World → Prop} (h : Zk W0 R M sv all rb tb w st 0 ⟨#[]⟩ line col nl 0) 
    (hQ : ∀ a w, ZRet W0 R M sv all rb line col nl ((true, -1, [], st) : Bool × Int × List UInt8 × St) a w → Q .ret a w) (u1 u6 u7 u8 u9 u10 u11 u12 u13 u14 u15 u16 u17 u18 u19 u20 u21 u22 u23 u24 u25 u26 u27 u28 u29 u30 u31 u32 u33 u34 u35 u36 u37 u38 u39 u40 u41 u42 u43 u44 u45 u46 u47 u48 u49 u50 u51 u52 u53 u54 u55 u56 u57 u58 u59 u60 u61 u62 u63 u64 u65 u66 u67 u68 u69 u70 u71 u72 u73 u74 u75 u76 u77 u78 u79 u80 u81 u82 u83 u84 u85 u86 u87 u88 u89 u90 u91 u92 u93 u94 u95 u96 u97 u98 u99 u100 u101 u102 u103 u104 u105 u106 u107 u108 u109 u110 u111 u112 u113 u114 u115 u116 u117 u118 u119 u120 u121 u122 u123 u124 u125 u126 u127 u128 u129 u130 u131 u132 u133 u134 u135 u136 u137 u138 u139 u140 u141 u142 u143 u144 u145 u146 u147 u148 u149 u150 u151 u152 u153 u154 u155 u156 u157 u158 u159 u160 u161 u162 u163 u164 u165 u166 u167 u168 u169 u170 u171 u172 u173 u174 u175 u176 u177 u178 u179 u180 u181 u182 u183 u184 u185 u186 u187 u188 u189 u190 u191 u192 u193 u194 u195 u196 u197 u198 u199 u200 u201 u202 u203 u204 u205 u206 u207 u208 u209 u210 u211 u212 u213 u214 u215 u216 u217 u218 u219 u220 u221 u222 u223 u224 u225 u226 u227 u228 u229 u230 u231 u232 u233 u234 u235 u236 u237 u238 u239 u240 u241 u242 u243 u244 u245 u246 u247 u248 u249 u250 u251 u252 u253 u254 u255 u256 u257 u258 u259 u260 u261 u262 u263 u264 u265 u266 u267 u268 u269 u270 u271 u272 u273 u274 u275 u276 u277 u278 u279 u280 u281 u282 u283 u284 u285 u286 u287 u288 u289 u290 u291 u292 u293 u294 u295 u296 u297 u298 u299 u300 u301 u302 u303 u304 : Value) : Code.wp Tryz.prog zM Q ⟨#[Value.pointer (some ⟨R, 0, none⟩), u1, Value.pointer (some ⟨rb, 0, none⟩), Value.bool nl, Value.int .i64 (-1), Value.pointer (some ⟨tb, 0, none⟩), u6, u7, u8, u9, u10, u11, u12, u13, u14, u15, u16, u17, u18, u19, u20, u21, u22, u23, u24, u25, u26, u27, u28, u29, u30, u31, u32, u33, u34, u35, u36, u37, u38, u39, u40, u41, u42, u43, u44, u45, u46, u47, u48, u49, u50, u51, u52, u53, u54, u55, u56, u57, u58, u59, u60, u61, u62, u63, u64, u65, u66, u67, u68, u69, u70, u71, u72, u73, u74, u75, u76, u77, u78, u79, u80, u81, u82, u83, u84, u85, u86, u87, u88, u89, u90, u91, u92, u93, u94, u95, u96, u97, u98, u99, u100, u101, u102, u103, u104, u105, u106, u107, u108, u109, u110, u111, u112, u113, u114, u115, u116, u117, u118, u119, u120, u121, u122, u123, u124, u125, u126, u127, u128, u129, u130, u131, u132, u133, u134, u135, u136, u137, u138, u139, u140, u141, u142, u143, u144, u145, u146, u147, u148, u149, u150, u151, u152, u153, u154, u155, u156, u157, u158, u159, u160, u161, u162, u163, u164, u165, u166, u167, u168, u169, u170, u171, u172, u173, u174, u175, u176, u177, u178, u179, u180, u181, u182, u183, u184, u185, u186, u187, u188, u189, u190, u191, u192, u193, u194, u195, u196, u197, u198, u199, u200, u201, u202, u203, u204, u205, u206, u207, u208, u209, u210, u211, u212, u213, u214, u215, u216, u217, u218, u219, u220, u221, u222, u223, u224, u225, u226, u227, u228, u229, u230, u231, u232, u233, u234, u235, u236, u237, u238, u239, u240, u241, u242, u243, u244, u245, u246, u247, u248, u249, u250, u251, u252, u253, u254, u255, u256, u257, u258, u259, u260, u261, u262, u263, u264, u265, u266, u267, u268, u269, u270, u271, u272, u273, u274, u275, u276, u277, u278, u279, u280, u281, u282, u283, u284, u285, u286, u287, u288, u289, u290, u291, u292, u293, u294, u295, u296, u297, u298, u299, u300, u301, u302, u303, u304], []⟩ w := by
  conv => arg 2; whnf
  have HI := Lib.hid (show identS (-1) = false by decide)
  have HD := Lib.hid (show decI (-1) = false by decide)
  go_upto_region 43 with (first | (go_at_call 17; refine (rstart_false _ _ HI.out).mono ?_; rintro e w' ⟨rfl, rfl⟩) | (go_at_call 20; refine (rdec_false _ _ HD.out).mono ?_; rintro e w' ⟨rfl, rfl⟩))
  have k0 := Zu.start h
  clear h
  obtain ⟨ub, hub⟩ : ∃ ub, ub = w.heap.size := ⟨_, rfl⟩
  rw [← hub] at k0 ⊢
  generalize w.alloc (.cells #[.int .i64 0, .string ⟨#[]⟩, .int .i64 0, .int .i64 0, .bool false, .int .i64 0] 31) = x0 at k0 ⊢
  clear hub
  obtain ⟨⟨a0, a1, a2, a3, a4, a5⟩, b0, b1, b2, b3, b4, b5⟩ := k0.facts
  go_upto_region 120 with fail
  have g1 := k0.put (-1) ⟨#[]⟩
  clear a0 a1 a2 a3 a4 a5 b0 b1 b2 b3 b4 b5 k0
  unfold zput at g1
  generalize ((((((x0.setCell ⟨ub, 0, none⟩ (.int .i64 (-1))).setCell ⟨ub, 1, none⟩ (.string ⟨#[]⟩)).setCell ⟨ub, 2, none⟩ (.int .i64 0)).setCell ⟨ub, 3, none⟩ (.int .i64 0)).setCell ⟨ub, 4, none⟩ (.bool false)).setCell ⟨ub, 5, none⟩ (.int .i64 0)) = wp at g1 ⊢
  obtain ⟨⟨a0, a1, -⟩, -⟩ := g1.facts
  obtain ⟨t0, t1, t2, t3, t4, t5, f0, f1, f5⟩ := g1.zk.facts
  go_upto_region 122 with fail
  have g2 := (g1.zk.setTyp (-1)).setStr ⟨#[]⟩
  clear a0 a1 t0 t1 t2 t3 t4 t5 f0 f1 f5 g1
  generalize (wp.setCell ⟨tb, 0, none⟩ (.int .i64 (-1))).setCell ⟨tb, 1, none⟩ (.string ⟨#[]⟩) = wq at g2 ⊢
  obtain ⟨t0, t1, t2, t3, t4, t5, f0, f1, f5⟩ := g2.facts
  obtain ⟨⟨r0, r1, r2, r3, r4, r5⟩, q0, q1, q2, q3, q4, q5⟩ := g2.rfacts
  go_wp2
  exact ⟨_, _, _, _, _, rfl, g2.fin.hR, g2.fin.fb, fun _ => ⟨rfl, rfl, rfl, g2.fin.rf⟩⟩

end Go.Proofs.YtnmpeipccpgkpaaGreatDoor
