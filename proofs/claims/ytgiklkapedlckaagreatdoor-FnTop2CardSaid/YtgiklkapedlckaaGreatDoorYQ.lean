/- The reference scanner's scan of n005_1002: its code in parts, the memory that it holds. The reference scanner's scan, walked: one character, two, dots, the end. -/
import Derived.Test.YtgiklkapedlckaaGreatDoorRQ
import Derived.BigRegion
import Derived.Laws.ResultCell
import Derived.Deep.LoopGhost
namespace Go.Proofs.YtgiklkapedlckaaGreatDoor
open Go.RowKit

def rBlk : Code → Code
  | .block _ c => c
  | c => c
def rLp : Code → Code
  | .loop c => c
  | c => c
noncomputable def yBody : Code := rBlk (rLp (rBlk (rSnd (Tryz.f7.body.getD .skip))))
noncomputable def y2 : Code := rSnd yBody
noncomputable def y3 : Code := rSnd y2
noncomputable def y6 : Code := rSnd y3
noncomputable def yM : Code := rSnd y6

def ycells (typ : Int) (str : ByteArray) (line col : Int) (pn : Bool) : List Value := [.int .i64 typ, .string str, .int .i64 line, .int .i64 col, .bool pn]
/-- The result's cells (not written yet), the token's cells, the reader. -/
structure Yk (W0 : World) (R M : Nat) (sv : Value) (all : List UInt8) (rb tb : Nat) (w : World) (st : St) (typ : Int) (str : ByteArray) (line col : Int) (pn : Bool) : Prop where
  rf : Rf w R M sv all st
  hR : Blk w rb (ycells 0 ⟨#[]⟩ 0 0 false)
  hT : Blk w tb (ycells typ str line col pn)
  fb : Fb [R] W0.heap.size W0 w
  rn : W0.heap.size ≤ rb
  rt : rb < tb
  lR : R < W0.heap.size
  lM : M < W0.heap.size
section
variable {W0 w w' : World} {R M rb tb : Nat} {sv : Value} {all : List UInt8} {st st' : St} {typ : Int} {str : ByteArray} {line col : Int} {pn : Bool}
theorem Yk.step (h : Yk W0 R M sv all rb tb w st typ str line col pn) (h' : Rf w' R M sv all st') (f : Fr [R] w w') : Yk W0 R M sv all rb tb w' st' typ str line col pn :=
  ⟨h', f.blk h.hR (by have := h.rn; have := h.lR; simp only [List.mem_singleton]; omega), f.blk h.hT (by have := h.rn; have := h.rt; have := h.lR; simp only [List.mem_singleton]; omega), h.fb.trans (f.fb h.fb.size), h.rn, h.rt, h.lR, h.lM⟩
theorem Yk.still (h : Yk W0 R M sv all rb tb w st typ str line col pn) (f : Fr [] w w') : Yk W0 R M sv all rb tb w' st typ str line col pn :=
  h.step (h.rf.fr f (by simp) (by simp)) (f.mono (by simp))
theorem Yk.low {B : Nat} (h : Yk W0 R M sv all rb tb w st typ str line col pn) (hB : tb < B) (f : Below B w w') : Yk W0 R M sv all rb tb w' st typ str line col pn :=
  ⟨h.rf.bl f (by have := h.rn; have := h.rt; have := h.lR; omega) (by have := h.rn; have := h.rt; have := h.lM; omega), h.hR.of_block (f.block _ (by have := h.rt; omega)), h.hT.of_block (f.block _ hB),
    h.fb.trans ⟨f.os, f.tape, f.output, f.size, fun k hk _ => f.block k (by have := h.rn; have := h.rt; omega)⟩, h.rn, h.rt, h.lR, h.lM⟩
theorem Yk.tset {typ' : Int} {str' : ByteArray} (h : Yk W0 R M sv all rb tb w st typ str line col pn) (hT : Blk w' tb (ycells typ' str' line col pn)) (f : Fr [tb] w w') : Yk W0 R M sv all rb tb w' st typ' str' line col pn :=
  ⟨h.rf.fr f (by have := h.rn; have := h.rt; have := h.lR; simp only [List.mem_singleton]; omega) (by have := h.rn; have := h.rt; have := h.lM; simp only [List.mem_singleton]; omega), f.blk h.hR (by have := h.rt; simp only [List.mem_singleton]; omega), hT,
    h.fb.trans ⟨f.os, f.tape, f.output, f.size, fun k hk _ => f.block k (Nat.lt_of_lt_of_le hk h.fb.size) (by have := h.rn; have := h.rt; simp only [List.mem_singleton]; omega)⟩, h.rn, h.rt, h.lR, h.lM⟩
theorem Yk.setTyp (h : Yk W0 R M sv all rb tb w st typ str line col pn) (x : Int) : Yk W0 R M sv all rb tb (w.setCell ⟨tb, 0, none⟩ (.int .i64 x)) st x str line col pn :=
  h.tset (h.hT.set 0 (.int .i64 x)) ((Fr.refl _ w).setCell (by simp) _)
theorem Yk.setStr (h : Yk W0 R M sv all rb tb w st typ str line col pn) (x : ByteArray) : Yk W0 R M sv all rb tb (w.setCell ⟨tb, 1, none⟩ (.string x)) st typ x line col pn :=
  h.tset (h.hT.set 1 (.string x)) ((Fr.refl _ w).setCell (by simp) _)
theorem Yk.two {typ' : Int} {str' : ByteArray} (h : Yk W0 R M sv all rb tb w st typ str line col pn) (h' : Rf w' R M sv all st') (hT : Blk w' tb (ycells typ' str' line col pn)) (f : Fr [R, tb] w w') : Yk W0 R M sv all rb tb w' st' typ' str' line col pn :=
  ⟨h', f.blk h.hR (by have := h.rn; have := h.rt; have := h.lR; simp only [List.mem_cons, List.not_mem_nil, or_false]; omega), hT,
    h.fb.trans ⟨f.os, f.tape, f.output, f.size, fun k hk hko => f.block k (Nat.lt_of_lt_of_le hk h.fb.size) (by have := h.rn; have := h.rt; simp only [List.mem_singleton] at hko; simp only [List.mem_cons, List.not_mem_nil, or_false]; omega)⟩, h.rn, h.rt, h.lR, h.lM⟩
theorem Yk.ne (h : Yk W0 R M sv all rb tb w st typ str line col pn) : tb ≠ R ∧ tb ≠ M := ⟨by have := h.rn; have := h.rt; have := h.lR; omega, by have := h.rn; have := h.rt; have := h.lM; omega⟩
theorem Yk.facts (h : Yk W0 R M sv all rb tb w st typ str line col pn) :
    w.cell? ⟨tb, 0, none⟩ = some (.int .i64 typ) ∧ w.cell? ⟨tb, 1, none⟩ = some (.string str) ∧ w.cell? ⟨tb, 2, none⟩ = some (.int .i64 line) ∧ w.cell? ⟨tb, 3, none⟩ = some (.int .i64 col) ∧ w.cell? ⟨tb, 4, none⟩ = some (.bool pn) ∧
    w.frozen? ⟨tb, 0, none⟩ = false ∧ w.frozen? ⟨tb, 1, none⟩ = false := by
  have b := h.hT
  unfold ycells at b
  exact ⟨b.cell 0 _ rfl, b.cell 1 _ rfl, b.cell 2 _ rfl, b.cell 3 _ rfl, b.cell 4 _ rfl, b.free 0, b.free 1⟩
theorem Yk.rfacts (h : Yk W0 R M sv all rb tb w st typ str line col pn) :
    (w.cell? ⟨rb, 0, none⟩ = some (.int .i64 0) ∧ w.cell? ⟨rb, 1, none⟩ = some (.string ⟨#[]⟩) ∧ w.cell? ⟨rb, 2, none⟩ = some (.int .i64 0) ∧ w.cell? ⟨rb, 3, none⟩ = some (.int .i64 0) ∧ w.cell? ⟨rb, 4, none⟩ = some (.bool false)) ∧
    w.frozen? ⟨rb, 0, none⟩ = false ∧ w.frozen? ⟨rb, 1, none⟩ = false ∧ w.frozen? ⟨rb, 2, none⟩ = false ∧ w.frozen? ⟨rb, 3, none⟩ = false ∧ w.frozen? ⟨rb, 4, none⟩ = false := by
  have b := h.hR
  unfold ycells at b
  exact ⟨⟨b.cell 0 _ rfl, b.cell 1 _ rfl, b.cell 2 _ rfl, b.cell 3 _ rfl, b.cell 4 _ rfl⟩, b.free 0, b.free 1, b.free 2, b.free 3, b.free 4⟩
/-- The result stored. -/
def yput (w : World) (b : Nat) (typ : Int) (str : ByteArray) (line col : Int) (pn : Bool) : World :=
  ((((w.setCell ⟨b, 0, none⟩ (.int .i64 typ)).setCell ⟨b, 1, none⟩ (.string str)).setCell ⟨b, 2, none⟩ (.int .i64 line)).setCell ⟨b, 3, none⟩ (.int .i64 col)).setCell ⟨b, 4, none⟩ (.bool pn)
theorem yput_fr (w : World) (b : Nat) (typ : Int) (str : ByteArray) (line col : Int) (pn : Bool) : Fr [b] w (yput w b typ str line col pn) :=
  (((((Fr.refl _ _).setCell (by simp) _).setCell (by simp) _).setCell (by simp) _).setCell (by simp) _).setCell (by simp) _
structure Ye (W0 : World) (R M : Nat) (sv : Value) (all : List UInt8) (rb : Nat) (w : World) (st : St) (typ : Int) (str : ByteArray) (line col : Int) (pn : Bool) : Prop where
  rf : Rf w R M sv all st
  hR : Blk w rb (ycells typ str line col pn)
  fb : Fb [R] W0.heap.size W0 w
theorem Yk.fin (h : Yk W0 R M sv all rb tb w st typ str line col pn) : Ye W0 R M sv all rb (yput w rb typ str line col pn) st typ str line col pn := by
  have f := yput_fr w rb typ str line col pn
  have hr := h.rn
  have hl := h.lR
  have hm := h.lM
  exact ⟨h.rf.fr f (by simp only [List.mem_singleton]; omega) (by simp only [List.mem_singleton]; omega), ((((h.hR.set 0 (.int .i64 typ)).set 1 (.string str)).set 2 (.int .i64 line)).set 3 (.int .i64 col)).set 4 (.bool pn),
    h.fb.trans ⟨f.os, f.tape, f.output, f.size, fun k hk _ => f.block k (Nat.lt_of_lt_of_le hk h.fb.size) (by simp only [List.mem_singleton]; omega)⟩⟩
end
/-- At scan's end: the result's cells, the answer; where it is yes, they tell r. -/
def YRet (W0 : World) (R M : Nat) (sv : Value) (all : List UInt8) (rb : Nat) (line col : Int) (pn : Bool) (r : Bool × Int × List UInt8 × St) (a : Act) (w : World) : Prop :=
  ∃ (u1 u2 u3 : Value) (tl : List Value) (typ : Int) (str : ByteArray) (ok : Bool), a = ⟨(Value.pointer (some ⟨R, 0, none⟩) :: u1 :: u2 :: u3 :: Value.pointer (some ⟨rb, 0, none⟩) :: .bool ok :: tl).toArray, []⟩ ∧ Blk w rb (ycells typ str line col pn) ∧ Fb [R] W0.heap.size W0 w ∧
    ok = r.1 ∧ (ok = true → typ = r.2.1 ∧ str = ⟨r.2.2.1.toArray⟩ ∧ Rf w R M sv all r.2.2.2)
theorem YRet.intro {W0 : World} {R M : Nat} {sv : Value} {all : List UInt8} {rb : Nat} {line col : Int} {pn : Bool} {r : Bool × Int × List UInt8 × St} {u1 u2 u3 : Value} {tl : List Value} {typ : Int} {str : ByteArray} {ok : Bool} {w : World} {st : St} (e : Ye W0 R M sv all rb w st typ str line col pn)
    (h : ok = r.1) (h2 : ok = true → typ = r.2.1 ∧ str = ⟨r.2.2.1.toArray⟩ ∧ st = r.2.2.2) : YRet W0 R M sv all rb line col pn r ⟨(Value.pointer (some ⟨R, 0, none⟩) :: u1 :: u2 :: u3 :: Value.pointer (some ⟨rb, 0, none⟩) :: .bool ok :: tl).toArray, []⟩ w :=
  ⟨_, _, _, _, _, _, _, rfl, e.hR, e.fb, h, fun q => by obtain ⟨a, b, rfl⟩ := h2 q; exact ⟨a, b, e.rf⟩⟩
def YAgain (W0 : World) (R M : Nat) (sv : Value) (all : List UInt8) (rb : Nat) (prev : Int) (st : St) (a : Act) (w : World) : Prop :=
  ∃ (u2 u3 : Value) (tl : List Value), a = ⟨(Value.pointer (some ⟨R, 0, none⟩) :: .int .i64 prev :: u2 :: u3 :: Value.pointer (some ⟨rb, 0, none⟩) :: tl).toArray, []⟩ ∧ tl.length = 223 ∧ Rf w R M sv all st ∧ Blk w rb (ycells 0 ⟨#[]⟩ 0 0 false) ∧ Fb [R] W0.heap.size W0 w
end Go.Proofs.YtgiklkapedlckaaGreatDoor

namespace Go.Proofs.YtgiklkapedlckaaGreatDoor
open Go.RowKit

set_option maxRecDepth 1000000 in
set_option maxHeartbeats 16000000 in
theorem yo_43 {W0 w : World} {R M rb tb : Nat} {sv : Value} {all : List UInt8} {st : St} {prev line col : Int} {nl pn : Bool} {Q : Exit → Act → World → Prop} (h : Yk W0 R M sv all rb tb w st 0 ⟨#[]⟩ line col pn) 
    (hQ : ∀ a w, YRet W0 R M sv all rb line col pn (one 43 st) a w → Q .ret a w) (u2 u3 u5 u9 u10 u11 u12 u13 u14 u15 u16 u17 u18 u19 u20 u21 u22 u23 u24 u25 u26 u27 u28 u29 u30 u31 u32 u33 u34 u35 u36 u37 u38 u39 u40 u41 u42 u43 u44 u45 u46 u47 u48 u49 u50 u51 u52 u53 u54 u55 u56 u57 u58 u59 u60 u61 u62 u63 u64 u65 u66 u67 u68 u69 u70 u71 u72 u73 u74 u75 u76 u77 u78 u79 u80 u81 u82 u83 u84 u85 u86 u87 u88 u89 u90 u91 u92 u93 u94 u95 u96 u97 u98 u99 u100 u101 u102 u103 u104 u105 u106 u107 u108 u109 u110 u111 u112 u113 u114 u115 u116 u117 u118 u119 u120 u121 u122 u123 u124 u125 u126 u127 u128 u129 u130 u131 u132 u133 u134 u135 u136 u137 u138 u139 u140 u141 u142 u143 u144 u145 u146 u147 u148 u149 u150 u151 u152 u153 u154 u155 u156 u157 u158 u159 u160 u161 u162 u163 u164 u165 u166 u167 u168 u169 u170 u171 u172 u173 u174 u175 u176 u177 u178 u179 u180 u181 u182 u183 u184 u185 u186 u187 u188 u189 u190 u191 u192 u193 u194 u195 u196 u197 u198 u199 u200 u201 u202 u203 u204 u205 u206 u207 u208 u209 u210 u211 u212 u213 u214 u215 u216 u217 u218 u219 u220 u221 u222 u223 u224 u225 u226 u227 : Value) : Code.wp Tryz.prog yM Q ⟨#[Value.pointer (some ⟨R, 0, none⟩), Value.int .i64 prev, u2, u3, Value.pointer (some ⟨rb, 0, none⟩), u5, Value.bool nl, Value.int .i64 (43), Value.pointer (some ⟨tb, 0, none⟩), u9, u10, u11, u12, u13, u14, u15, u16, u17, u18, u19, u20, u21, u22, u23, u24, u25, u26, u27, u28, u29, u30, u31, u32, u33, u34, u35, u36, u37, u38, u39, u40, u41, u42, u43, u44, u45, u46, u47, u48, u49, u50, u51, u52, u53, u54, u55, u56, u57, u58, u59, u60, u61, u62, u63, u64, u65, u66, u67, u68, u69, u70, u71, u72, u73, u74, u75, u76, u77, u78, u79, u80, u81, u82, u83, u84, u85, u86, u87, u88, u89, u90, u91, u92, u93, u94, u95, u96, u97, u98, u99, u100, u101, u102, u103, u104, u105, u106, u107, u108, u109, u110, u111, u112, u113, u114, u115, u116, u117, u118, u119, u120, u121, u122, u123, u124, u125, u126, u127, u128, u129, u130, u131, u132, u133, u134, u135, u136, u137, u138, u139, u140, u141, u142, u143, u144, u145, u146, u147, u148, u149, u150, u151, u152, u153, u154, u155, u156, u157, u158, u159, u160, u161, u162, u163, u164, u165, u166, u167, u168, u169, u170, u171, u172, u173, u174, u175, u176, u177, u178, u179, u180, u181, u182, u183, u184, u185, u186, u187, u188, u189, u190, u191, u192, u193, u194, u195, u196, u197, u198, u199, u200, u201, u202, u203, u204, u205, u206, u207, u208, u209, u210, u211, u212, u213, u214, u215, u216, u217, u218, u219, u220, u221, u222, u223, u224, u225, u226, u227], []⟩ w := by
  conv => arg 2; whnf
  have HI := Lib.hid (show identS (43) = false by decide)
  have HD := Lib.hid (show decI (43) = false by decide)
  obtain ⟨t0, t1, t2, t3, t4, f0, f1⟩ := h.facts
  go_upto_region 94 with (first | (go_at_call 25; refine (rstart_false _ _ HI.out).mono ?_; rintro e w' ⟨rfl, rfl⟩) | (go_at_call 30; refine (rdec_false _ _ HD.out).mono ?_; rintro e w' ⟨rfl, rfl⟩))
  have g0 := h.setTyp 43
  clear t0 t1 t2 t3 t4 f0 f1 h
  generalize w.setCell ⟨tb, 0, none⟩ (.int .i64 43) = w1 at g0 ⊢
  have hcv := (Bs.one w1 43 43 rfl).text
  have fA : Fr [] w1 (w1.alloc (.cells #[.int .u8 43] 5)) := (Fr.refl _ _).alloc _
  have g1 := g0.still fA
  obtain ⟨t0, t1, t2, t3, t4, f0, f1⟩ := g1.facts
  clear g0 fA
  go_upto_region 95 with fail
  have g2 := g1.setStr ⟨[43].toArray⟩
  clear t0 t1 t2 t3 t4 f0 f1 g1 hcv
  generalize (w1.alloc (.cells #[.int .u8 43] 5)).setCell ⟨tb, 1, none⟩ (.string ⟨#[43]⟩) = wq at g2 ⊢
  obtain ⟨t0, t1, t2, t3, t4, f0, f1⟩ := g2.facts
  obtain ⟨⟨r0, r1, r2, r3, r4⟩, q0, q1, q2, q3, q4⟩ := g2.rfacts
  go_wp2
  first | exact hQ _ _ (YRet.intro g2.fin rfl (fun _ => ⟨rfl, rfl, rfl⟩)) | exact (YRet.intro g2.fin rfl (fun _ => ⟨rfl, rfl, rfl⟩))


set_option maxRecDepth 1000000 in
set_option maxHeartbeats 16000000 in
theorem yo_42 {W0 w : World} {R M rb tb : Nat} {sv : Value} {all : List UInt8} {st : St} {prev line col : Int} {nl pn : Bool} {Q : Exit → Act → World → Prop} (h : Yk W0 R M sv all rb tb w st 0 ⟨#[]⟩ line col pn) 
    (hQ : ∀ a w, YRet W0 R M sv all rb line col pn (one 42 st) a w → Q .ret a w) (u2 u3 u5 u9 u10 u11 u12 u13 u14 u15 u16 u17 u18 u19 u20 u21 u22 u23 u24 u25 u26 u27 u28 u29 u30 u31 u32 u33 u34 u35 u36 u37 u38 u39 u40 u41 u42 u43 u44 u45 u46 u47 u48 u49 u50 u51 u52 u53 u54 u55 u56 u57 u58 u59 u60 u61 u62 u63 u64 u65 u66 u67 u68 u69 u70 u71 u72 u73 u74 u75 u76 u77 u78 u79 u80 u81 u82 u83 u84 u85 u86 u87 u88 u89 u90 u91 u92 u93 u94 u95 u96 u97 u98 u99 u100 u101 u102 u103 u104 u105 u106 u107 u108 u109 u110 u111 u112 u113 u114 u115 u116 u117 u118 u119 u120 u121 u122 u123 u124 u125 u126 u127 u128 u129 u130 u131 u132 u133 u134 u135 u136 u137 u138 u139 u140 u141 u142 u143 u144 u145 u146 u147 u148 u149 u150 u151 u152 u153 u154 u155 u156 u157 u158 u159 u160 u161 u162 u163 u164 u165 u166 u167 u168 u169 u170 u171 u172 u173 u174 u175 u176 u177 u178 u179 u180 u181 u182 u183 u184 u185 u186 u187 u188 u189 u190 u191 u192 u193 u194 u195 u196 u197 u198 u199 u200 u201 u202 u203 u204 u205 u206 u207 u208 u209 u210 u211 u212 u213 u214 u215 u216 u217 u218 u219 u220 u221 u222 u223 u224 u225 u226 u227 : Value) : Code.wp Tryz.prog yM Q ⟨#[Value.pointer (some ⟨R, 0, none⟩), Value.int .i64 prev, u2, u3, Value.pointer (some ⟨rb, 0, none⟩), u5, Value.bool nl, Value.int .i64 (42), Value.pointer (some ⟨tb, 0, none⟩), u9, u10, u11, u12, u13, u14, u15, u16, u17, u18, u19, u20, u21, u22, u23, u24, u25, u26, u27, u28, u29, u30, u31, u32, u33, u34, u35, u36, u37, u38, u39, u40, u41, u42, u43, u44, u45, u46, u47, u48, u49, u50, u51, u52, u53, u54, u55, u56, u57, u58, u59, u60, u61, u62, u63, u64, u65, u66, u67, u68, u69, u70, u71, u72, u73, u74, u75, u76, u77, u78, u79, u80, u81, u82, u83, u84, u85, u86, u87, u88, u89, u90, u91, u92, u93, u94, u95, u96, u97, u98, u99, u100, u101, u102, u103, u104, u105, u106, u107, u108, u109, u110, u111, u112, u113, u114, u115, u116, u117, u118, u119, u120, u121, u122, u123, u124, u125, u126, u127, u128, u129, u130, u131, u132, u133, u134, u135, u136, u137, u138, u139, u140, u141, u142, u143, u144, u145, u146, u147, u148, u149, u150, u151, u152, u153, u154, u155, u156, u157, u158, u159, u160, u161, u162, u163, u164, u165, u166, u167, u168, u169, u170, u171, u172, u173, u174, u175, u176, u177, u178, u179, u180, u181, u182, u183, u184, u185, u186, u187, u188, u189, u190, u191, u192, u193, u194, u195, u196, u197, u198, u199, u200, u201, u202, u203, u204, u205, u206, u207, u208, u209, u210, u211, u212, u213, u214, u215, u216, u217, u218, u219, u220, u221, u222, u223, u224, u225, u226, u227], []⟩ w := by
  conv => arg 2; whnf
  have HI := Lib.hid (show identS (42) = false by decide)
  have HD := Lib.hid (show decI (42) = false by decide)
  obtain ⟨t0, t1, t2, t3, t4, f0, f1⟩ := h.facts
  go_upto_region 94 with (first | (go_at_call 25; refine (rstart_false _ _ HI.out).mono ?_; rintro e w' ⟨rfl, rfl⟩) | (go_at_call 30; refine (rdec_false _ _ HD.out).mono ?_; rintro e w' ⟨rfl, rfl⟩))
  have g0 := h.setTyp 42
  clear t0 t1 t2 t3 t4 f0 f1 h
  generalize w.setCell ⟨tb, 0, none⟩ (.int .i64 42) = w1 at g0 ⊢
  have hcv := (Bs.one w1 42 42 rfl).text
  have fA : Fr [] w1 (w1.alloc (.cells #[.int .u8 42] 5)) := (Fr.refl _ _).alloc _
  have g1 := g0.still fA
  obtain ⟨t0, t1, t2, t3, t4, f0, f1⟩ := g1.facts
  clear g0 fA
  go_upto_region 95 with fail
  have g2 := g1.setStr ⟨[42].toArray⟩
  clear t0 t1 t2 t3 t4 f0 f1 g1 hcv
  generalize (w1.alloc (.cells #[.int .u8 42] 5)).setCell ⟨tb, 1, none⟩ (.string ⟨#[42]⟩) = wq at g2 ⊢
  obtain ⟨t0, t1, t2, t3, t4, f0, f1⟩ := g2.facts
  obtain ⟨⟨r0, r1, r2, r3, r4⟩, q0, q1, q2, q3, q4⟩ := g2.rfacts
  go_wp2
  first | exact hQ _ _ (YRet.intro g2.fin rfl (fun _ => ⟨rfl, rfl, rfl⟩)) | exact (YRet.intro g2.fin rfl (fun _ => ⟨rfl, rfl, rfl⟩))


set_option maxRecDepth 1000000 in
set_option maxHeartbeats 16000000 in
theorem yo_47 {W0 w : World} {R M rb tb : Nat} {sv : Value} {all : List UInt8} {st : St} {prev line col : Int} {nl pn : Bool} {Q : Exit → Act → World → Prop} (h : Yk W0 R M sv all rb tb w st 0 ⟨#[]⟩ line col pn) 
    (hQ : ∀ a w, YRet W0 R M sv all rb line col pn (one 47 st) a w → Q .ret a w) (u2 u3 u5 u9 u10 u11 u12 u13 u14 u15 u16 u17 u18 u19 u20 u21 u22 u23 u24 u25 u26 u27 u28 u29 u30 u31 u32 u33 u34 u35 u36 u37 u38 u39 u40 u41 u42 u43 u44 u45 u46 u47 u48 u49 u50 u51 u52 u53 u54 u55 u56 u57 u58 u59 u60 u61 u62 u63 u64 u65 u66 u67 u68 u69 u70 u71 u72 u73 u74 u75 u76 u77 u78 u79 u80 u81 u82 u83 u84 u85 u86 u87 u88 u89 u90 u91 u92 u93 u94 u95 u96 u97 u98 u99 u100 u101 u102 u103 u104 u105 u106 u107 u108 u109 u110 u111 u112 u113 u114 u115 u116 u117 u118 u119 u120 u121 u122 u123 u124 u125 u126 u127 u128 u129 u130 u131 u132 u133 u134 u135 u136 u137 u138 u139 u140 u141 u142 u143 u144 u145 u146 u147 u148 u149 u150 u151 u152 u153 u154 u155 u156 u157 u158 u159 u160 u161 u162 u163 u164 u165 u166 u167 u168 u169 u170 u171 u172 u173 u174 u175 u176 u177 u178 u179 u180 u181 u182 u183 u184 u185 u186 u187 u188 u189 u190 u191 u192 u193 u194 u195 u196 u197 u198 u199 u200 u201 u202 u203 u204 u205 u206 u207 u208 u209 u210 u211 u212 u213 u214 u215 u216 u217 u218 u219 u220 u221 u222 u223 u224 u225 u226 u227 : Value) : Code.wp Tryz.prog yM Q ⟨#[Value.pointer (some ⟨R, 0, none⟩), Value.int .i64 prev, u2, u3, Value.pointer (some ⟨rb, 0, none⟩), u5, Value.bool nl, Value.int .i64 (47), Value.pointer (some ⟨tb, 0, none⟩), u9, u10, u11, u12, u13, u14, u15, u16, u17, u18, u19, u20, u21, u22, u23, u24, u25, u26, u27, u28, u29, u30, u31, u32, u33, u34, u35, u36, u37, u38, u39, u40, u41, u42, u43, u44, u45, u46, u47, u48, u49, u50, u51, u52, u53, u54, u55, u56, u57, u58, u59, u60, u61, u62, u63, u64, u65, u66, u67, u68, u69, u70, u71, u72, u73, u74, u75, u76, u77, u78, u79, u80, u81, u82, u83, u84, u85, u86, u87, u88, u89, u90, u91, u92, u93, u94, u95, u96, u97, u98, u99, u100, u101, u102, u103, u104, u105, u106, u107, u108, u109, u110, u111, u112, u113, u114, u115, u116, u117, u118, u119, u120, u121, u122, u123, u124, u125, u126, u127, u128, u129, u130, u131, u132, u133, u134, u135, u136, u137, u138, u139, u140, u141, u142, u143, u144, u145, u146, u147, u148, u149, u150, u151, u152, u153, u154, u155, u156, u157, u158, u159, u160, u161, u162, u163, u164, u165, u166, u167, u168, u169, u170, u171, u172, u173, u174, u175, u176, u177, u178, u179, u180, u181, u182, u183, u184, u185, u186, u187, u188, u189, u190, u191, u192, u193, u194, u195, u196, u197, u198, u199, u200, u201, u202, u203, u204, u205, u206, u207, u208, u209, u210, u211, u212, u213, u214, u215, u216, u217, u218, u219, u220, u221, u222, u223, u224, u225, u226, u227], []⟩ w := by
  conv => arg 2; whnf
  have HI := Lib.hid (show identS (47) = false by decide)
  have HD := Lib.hid (show decI (47) = false by decide)
  obtain ⟨t0, t1, t2, t3, t4, f0, f1⟩ := h.facts
  go_upto_region 94 with (first | (go_at_call 25; refine (rstart_false _ _ HI.out).mono ?_; rintro e w' ⟨rfl, rfl⟩) | (go_at_call 30; refine (rdec_false _ _ HD.out).mono ?_; rintro e w' ⟨rfl, rfl⟩))
  have g0 := h.setTyp 47
  clear t0 t1 t2 t3 t4 f0 f1 h
  generalize w.setCell ⟨tb, 0, none⟩ (.int .i64 47) = w1 at g0 ⊢
  have hcv := (Bs.one w1 47 47 rfl).text
  have fA : Fr [] w1 (w1.alloc (.cells #[.int .u8 47] 5)) := (Fr.refl _ _).alloc _
  have g1 := g0.still fA
  obtain ⟨t0, t1, t2, t3, t4, f0, f1⟩ := g1.facts
  clear g0 fA
  go_upto_region 95 with fail
  have g2 := g1.setStr ⟨[47].toArray⟩
  clear t0 t1 t2 t3 t4 f0 f1 g1 hcv
  generalize (w1.alloc (.cells #[.int .u8 47] 5)).setCell ⟨tb, 1, none⟩ (.string ⟨#[47]⟩) = wq at g2 ⊢
  obtain ⟨t0, t1, t2, t3, t4, f0, f1⟩ := g2.facts
  obtain ⟨⟨r0, r1, r2, r3, r4⟩, q0, q1, q2, q3, q4⟩ := g2.rfacts
  go_wp2
  first | exact hQ _ _ (YRet.intro g2.fin rfl (fun _ => ⟨rfl, rfl, rfl⟩)) | exact (YRet.intro g2.fin rfl (fun _ => ⟨rfl, rfl, rfl⟩))


set_option maxRecDepth 1000000 in
set_option maxHeartbeats 16000000 in
theorem yo_37 {W0 w : World} {R M rb tb : Nat} {sv : Value} {all : List UInt8} {st : St} {prev line col : Int} {nl pn : Bool} {Q : Exit → Act → World → Prop} (h : Yk W0 R M sv all rb tb w st 0 ⟨#[]⟩ line col pn) 
    (hQ : ∀ a w, YRet W0 R M sv all rb line col pn (one 37 st) a w → Q .ret a w) (u2 u3 u5 u9 u10 u11 u12 u13 u14 u15 u16 u17 u18 u19 u20 u21 u22 u23 u24 u25 u26 u27 u28 u29 u30 u31 u32 u33 u34 u35 u36 u37 u38 u39 u40 u41 u42 u43 u44 u45 u46 u47 u48 u49 u50 u51 u52 u53 u54 u55 u56 u57 u58 u59 u60 u61 u62 u63 u64 u65 u66 u67 u68 u69 u70 u71 u72 u73 u74 u75 u76 u77 u78 u79 u80 u81 u82 u83 u84 u85 u86 u87 u88 u89 u90 u91 u92 u93 u94 u95 u96 u97 u98 u99 u100 u101 u102 u103 u104 u105 u106 u107 u108 u109 u110 u111 u112 u113 u114 u115 u116 u117 u118 u119 u120 u121 u122 u123 u124 u125 u126 u127 u128 u129 u130 u131 u132 u133 u134 u135 u136 u137 u138 u139 u140 u141 u142 u143 u144 u145 u146 u147 u148 u149 u150 u151 u152 u153 u154 u155 u156 u157 u158 u159 u160 u161 u162 u163 u164 u165 u166 u167 u168 u169 u170 u171 u172 u173 u174 u175 u176 u177 u178 u179 u180 u181 u182 u183 u184 u185 u186 u187 u188 u189 u190 u191 u192 u193 u194 u195 u196 u197 u198 u199 u200 u201 u202 u203 u204 u205 u206 u207 u208 u209 u210 u211 u212 u213 u214 u215 u216 u217 u218 u219 u220 u221 u222 u223 u224 u225 u226 u227 : Value) : Code.wp Tryz.prog yM Q ⟨#[Value.pointer (some ⟨R, 0, none⟩), Value.int .i64 prev, u2, u3, Value.pointer (some ⟨rb, 0, none⟩), u5, Value.bool nl, Value.int .i64 (37), Value.pointer (some ⟨tb, 0, none⟩), u9, u10, u11, u12, u13, u14, u15, u16, u17, u18, u19, u20, u21, u22, u23, u24, u25, u26, u27, u28, u29, u30, u31, u32, u33, u34, u35, u36, u37, u38, u39, u40, u41, u42, u43, u44, u45, u46, u47, u48, u49, u50, u51, u52, u53, u54, u55, u56, u57, u58, u59, u60, u61, u62, u63, u64, u65, u66, u67, u68, u69, u70, u71, u72, u73, u74, u75, u76, u77, u78, u79, u80, u81, u82, u83, u84, u85, u86, u87, u88, u89, u90, u91, u92, u93, u94, u95, u96, u97, u98, u99, u100, u101, u102, u103, u104, u105, u106, u107, u108, u109, u110, u111, u112, u113, u114, u115, u116, u117, u118, u119, u120, u121, u122, u123, u124, u125, u126, u127, u128, u129, u130, u131, u132, u133, u134, u135, u136, u137, u138, u139, u140, u141, u142, u143, u144, u145, u146, u147, u148, u149, u150, u151, u152, u153, u154, u155, u156, u157, u158, u159, u160, u161, u162, u163, u164, u165, u166, u167, u168, u169, u170, u171, u172, u173, u174, u175, u176, u177, u178, u179, u180, u181, u182, u183, u184, u185, u186, u187, u188, u189, u190, u191, u192, u193, u194, u195, u196, u197, u198, u199, u200, u201, u202, u203, u204, u205, u206, u207, u208, u209, u210, u211, u212, u213, u214, u215, u216, u217, u218, u219, u220, u221, u222, u223, u224, u225, u226, u227], []⟩ w := by
  conv => arg 2; whnf
  have HI := Lib.hid (show identS (37) = false by decide)
  have HD := Lib.hid (show decI (37) = false by decide)
  obtain ⟨t0, t1, t2, t3, t4, f0, f1⟩ := h.facts
  go_upto_region 94 with (first | (go_at_call 25; refine (rstart_false _ _ HI.out).mono ?_; rintro e w' ⟨rfl, rfl⟩) | (go_at_call 30; refine (rdec_false _ _ HD.out).mono ?_; rintro e w' ⟨rfl, rfl⟩))
  have g0 := h.setTyp 37
  clear t0 t1 t2 t3 t4 f0 f1 h
  generalize w.setCell ⟨tb, 0, none⟩ (.int .i64 37) = w1 at g0 ⊢
  have hcv := (Bs.one w1 37 37 rfl).text
  have fA : Fr [] w1 (w1.alloc (.cells #[.int .u8 37] 5)) := (Fr.refl _ _).alloc _
  have g1 := g0.still fA
  obtain ⟨t0, t1, t2, t3, t4, f0, f1⟩ := g1.facts
  clear g0 fA
  go_upto_region 95 with fail
  have g2 := g1.setStr ⟨[37].toArray⟩
  clear t0 t1 t2 t3 t4 f0 f1 g1 hcv
  generalize (w1.alloc (.cells #[.int .u8 37] 5)).setCell ⟨tb, 1, none⟩ (.string ⟨#[37]⟩) = wq at g2 ⊢
  obtain ⟨t0, t1, t2, t3, t4, f0, f1⟩ := g2.facts
  obtain ⟨⟨r0, r1, r2, r3, r4⟩, q0, q1, q2, q3, q4⟩ := g2.rfacts
  go_wp2
  first | exact hQ _ _ (YRet.intro g2.fin rfl (fun _ => ⟨rfl, rfl, rfl⟩)) | exact (YRet.intro g2.fin rfl (fun _ => ⟨rfl, rfl, rfl⟩))


set_option maxRecDepth 1000000 in
set_option maxHeartbeats 16000000 in
theorem yo_94 {W0 w : World} {R M rb tb : Nat} {sv : Value} {all : List UInt8} {st : St} {prev line col : Int} {nl pn : Bool} {Q : Exit → Act → World → Prop} (h : Yk W0 R M sv all rb tb w st 0 ⟨#[]⟩ line col pn) 
    (hQ : ∀ a w, YRet W0 R M sv all rb line col pn (one 94 st) a w → Q .ret a w) (u2 u3 u5 u9 u10 u11 u12 u13 u14 u15 u16 u17 u18 u19 u20 u21 u22 u23 u24 u25 u26 u27 u28 u29 u30 u31 u32 u33 u34 u35 u36 u37 u38 u39 u40 u41 u42 u43 u44 u45 u46 u47 u48 u49 u50 u51 u52 u53 u54 u55 u56 u57 u58 u59 u60 u61 u62 u63 u64 u65 u66 u67 u68 u69 u70 u71 u72 u73 u74 u75 u76 u77 u78 u79 u80 u81 u82 u83 u84 u85 u86 u87 u88 u89 u90 u91 u92 u93 u94 u95 u96 u97 u98 u99 u100 u101 u102 u103 u104 u105 u106 u107 u108 u109 u110 u111 u112 u113 u114 u115 u116 u117 u118 u119 u120 u121 u122 u123 u124 u125 u126 u127 u128 u129 u130 u131 u132 u133 u134 u135 u136 u137 u138 u139 u140 u141 u142 u143 u144 u145 u146 u147 u148 u149 u150 u151 u152 u153 u154 u155 u156 u157 u158 u159 u160 u161 u162 u163 u164 u165 u166 u167 u168 u169 u170 u171 u172 u173 u174 u175 u176 u177 u178 u179 u180 u181 u182 u183 u184 u185 u186 u187 u188 u189 u190 u191 u192 u193 u194 u195 u196 u197 u198 u199 u200 u201 u202 u203 u204 u205 u206 u207 u208 u209 u210 u211 u212 u213 u214 u215 u216 u217 u218 u219 u220 u221 u222 u223 u224 u225 u226 u227 : Value) : Code.wp Tryz.prog yM Q ⟨#[Value.pointer (some ⟨R, 0, none⟩), Value.int .i64 prev, u2, u3, Value.pointer (some ⟨rb, 0, none⟩), u5, Value.bool nl, Value.int .i64 (94), Value.pointer (some ⟨tb, 0, none⟩), u9, u10, u11, u12, u13, u14, u15, u16, u17, u18, u19, u20, u21, u22, u23, u24, u25, u26, u27, u28, u29, u30, u31, u32, u33, u34, u35, u36, u37, u38, u39, u40, u41, u42, u43, u44, u45, u46, u47, u48, u49, u50, u51, u52, u53, u54, u55, u56, u57, u58, u59, u60, u61, u62, u63, u64, u65, u66, u67, u68, u69, u70, u71, u72, u73, u74, u75, u76, u77, u78, u79, u80, u81, u82, u83, u84, u85, u86, u87, u88, u89, u90, u91, u92, u93, u94, u95, u96, u97, u98, u99, u100, u101, u102, u103, u104, u105, u106, u107, u108, u109, u110, u111, u112, u113, u114, u115, u116, u117, u118, u119, u120, u121, u122, u123, u124, u125, u126, u127, u128, u129, u130, u131, u132, u133, u134, u135, u136, u137, u138, u139, u140, u141, u142, u143, u144, u145, u146, u147, u148, u149, u150, u151, u152, u153, u154, u155, u156, u157, u158, u159, u160, u161, u162, u163, u164, u165, u166, u167, u168, u169, u170, u171, u172, u173, u174, u175, u176, u177, u178, u179, u180, u181, u182, u183, u184, u185, u186, u187, u188, u189, u190, u191, u192, u193, u194, u195, u196, u197, u198, u199, u200, u201, u202, u203, u204, u205, u206, u207, u208, u209, u210, u211, u212, u213, u214, u215, u216, u217, u218, u219, u220, u221, u222, u223, u224, u225, u226, u227], []⟩ w := by
  conv => arg 2; whnf
  have HI := Lib.hid (show identS (94) = false by decide)
  have HD := Lib.hid (show decI (94) = false by decide)
  obtain ⟨t0, t1, t2, t3, t4, f0, f1⟩ := h.facts
  go_upto_region 94 with (first | (go_at_call 25; refine (rstart_false _ _ HI.out).mono ?_; rintro e w' ⟨rfl, rfl⟩) | (go_at_call 30; refine (rdec_false _ _ HD.out).mono ?_; rintro e w' ⟨rfl, rfl⟩))
  have g0 := h.setTyp 94
  clear t0 t1 t2 t3 t4 f0 f1 h
  generalize w.setCell ⟨tb, 0, none⟩ (.int .i64 94) = w1 at g0 ⊢
  have hcv := (Bs.one w1 94 94 rfl).text
  have fA : Fr [] w1 (w1.alloc (.cells #[.int .u8 94] 5)) := (Fr.refl _ _).alloc _
  have g1 := g0.still fA
  obtain ⟨t0, t1, t2, t3, t4, f0, f1⟩ := g1.facts
  clear g0 fA
  go_upto_region 95 with fail
  have g2 := g1.setStr ⟨[94].toArray⟩
  clear t0 t1 t2 t3 t4 f0 f1 g1 hcv
  generalize (w1.alloc (.cells #[.int .u8 94] 5)).setCell ⟨tb, 1, none⟩ (.string ⟨#[94]⟩) = wq at g2 ⊢
  obtain ⟨t0, t1, t2, t3, t4, f0, f1⟩ := g2.facts
  obtain ⟨⟨r0, r1, r2, r3, r4⟩, q0, q1, q2, q3, q4⟩ := g2.rfacts
  go_wp2
  first | exact hQ _ _ (YRet.intro g2.fin rfl (fun _ => ⟨rfl, rfl, rfl⟩)) | exact (YRet.intro g2.fin rfl (fun _ => ⟨rfl, rfl, rfl⟩))


set_option maxRecDepth 1000000 in
set_option maxHeartbeats 16000000 in
theorem yo_35 {W0 w : World} {R M rb tb : Nat} {sv : Value} {all : List UInt8} {st : St} {prev line col : Int} {nl pn : Bool} {Q : Exit → Act → World → Prop} (h : Yk W0 R M sv all rb tb w st 0 ⟨#[]⟩ line col pn) 
    (hQ : ∀ a w, YRet W0 R M sv all rb line col pn (one 35 st) a w → Q .ret a w) (u2 u3 u5 u9 u10 u11 u12 u13 u14 u15 u16 u17 u18 u19 u20 u21 u22 u23 u24 u25 u26 u27 u28 u29 u30 u31 u32 u33 u34 u35 u36 u37 u38 u39 u40 u41 u42 u43 u44 u45 u46 u47 u48 u49 u50 u51 u52 u53 u54 u55 u56 u57 u58 u59 u60 u61 u62 u63 u64 u65 u66 u67 u68 u69 u70 u71 u72 u73 u74 u75 u76 u77 u78 u79 u80 u81 u82 u83 u84 u85 u86 u87 u88 u89 u90 u91 u92 u93 u94 u95 u96 u97 u98 u99 u100 u101 u102 u103 u104 u105 u106 u107 u108 u109 u110 u111 u112 u113 u114 u115 u116 u117 u118 u119 u120 u121 u122 u123 u124 u125 u126 u127 u128 u129 u130 u131 u132 u133 u134 u135 u136 u137 u138 u139 u140 u141 u142 u143 u144 u145 u146 u147 u148 u149 u150 u151 u152 u153 u154 u155 u156 u157 u158 u159 u160 u161 u162 u163 u164 u165 u166 u167 u168 u169 u170 u171 u172 u173 u174 u175 u176 u177 u178 u179 u180 u181 u182 u183 u184 u185 u186 u187 u188 u189 u190 u191 u192 u193 u194 u195 u196 u197 u198 u199 u200 u201 u202 u203 u204 u205 u206 u207 u208 u209 u210 u211 u212 u213 u214 u215 u216 u217 u218 u219 u220 u221 u222 u223 u224 u225 u226 u227 : Value) : Code.wp Tryz.prog yM Q ⟨#[Value.pointer (some ⟨R, 0, none⟩), Value.int .i64 prev, u2, u3, Value.pointer (some ⟨rb, 0, none⟩), u5, Value.bool nl, Value.int .i64 (35), Value.pointer (some ⟨tb, 0, none⟩), u9, u10, u11, u12, u13, u14, u15, u16, u17, u18, u19, u20, u21, u22, u23, u24, u25, u26, u27, u28, u29, u30, u31, u32, u33, u34, u35, u36, u37, u38, u39, u40, u41, u42, u43, u44, u45, u46, u47, u48, u49, u50, u51, u52, u53, u54, u55, u56, u57, u58, u59, u60, u61, u62, u63, u64, u65, u66, u67, u68, u69, u70, u71, u72, u73, u74, u75, u76, u77, u78, u79, u80, u81, u82, u83, u84, u85, u86, u87, u88, u89, u90, u91, u92, u93, u94, u95, u96, u97, u98, u99, u100, u101, u102, u103, u104, u105, u106, u107, u108, u109, u110, u111, u112, u113, u114, u115, u116, u117, u118, u119, u120, u121, u122, u123, u124, u125, u126, u127, u128, u129, u130, u131, u132, u133, u134, u135, u136, u137, u138, u139, u140, u141, u142, u143, u144, u145, u146, u147, u148, u149, u150, u151, u152, u153, u154, u155, u156, u157, u158, u159, u160, u161, u162, u163, u164, u165, u166, u167, u168, u169, u170, u171, u172, u173, u174, u175, u176, u177, u178, u179, u180, u181, u182, u183, u184, u185, u186, u187, u188, u189, u190, u191, u192, u193, u194, u195, u196, u197, u198, u199, u200, u201, u202, u203, u204, u205, u206, u207, u208, u209, u210, u211, u212, u213, u214, u215, u216, u217, u218, u219, u220, u221, u222, u223, u224, u225, u226, u227], []⟩ w := by
  conv => arg 2; whnf
  have HI := Lib.hid (show identS (35) = false by decide)
  have HD := Lib.hid (show decI (35) = false by decide)
  obtain ⟨t0, t1, t2, t3, t4, f0, f1⟩ := h.facts
  go_upto_region 94 with (first | (go_at_call 25; refine (rstart_false _ _ HI.out).mono ?_; rintro e w' ⟨rfl, rfl⟩) | (go_at_call 30; refine (rdec_false _ _ HD.out).mono ?_; rintro e w' ⟨rfl, rfl⟩))
  have g0 := h.setTyp 35
  clear t0 t1 t2 t3 t4 f0 f1 h
  generalize w.setCell ⟨tb, 0, none⟩ (.int .i64 35) = w1 at g0 ⊢
  have hcv := (Bs.one w1 35 35 rfl).text
  have fA : Fr [] w1 (w1.alloc (.cells #[.int .u8 35] 5)) := (Fr.refl _ _).alloc _
  have g1 := g0.still fA
  obtain ⟨t0, t1, t2, t3, t4, f0, f1⟩ := g1.facts
  clear g0 fA
  go_upto_region 95 with fail
  have g2 := g1.setStr ⟨[35].toArray⟩
  clear t0 t1 t2 t3 t4 f0 f1 g1 hcv
  generalize (w1.alloc (.cells #[.int .u8 35] 5)).setCell ⟨tb, 1, none⟩ (.string ⟨#[35]⟩) = wq at g2 ⊢
  obtain ⟨t0, t1, t2, t3, t4, f0, f1⟩ := g2.facts
  obtain ⟨⟨r0, r1, r2, r3, r4⟩, q0, q1, q2, q3, q4⟩ := g2.rfacts
  go_wp2
  first | exact hQ _ _ (YRet.intro g2.fin rfl (fun _ => ⟨rfl, rfl, rfl⟩)) | exact (YRet.intro g2.fin rfl (fun _ => ⟨rfl, rfl, rfl⟩))


set_option maxRecDepth 1000000 in
set_option maxHeartbeats 16000000 in
theorem yo_40 {W0 w : World} {R M rb tb : Nat} {sv : Value} {all : List UInt8} {st : St} {prev line col : Int} {nl pn : Bool} {Q : Exit → Act → World → Prop} (h : Yk W0 R M sv all rb tb w st 0 ⟨#[]⟩ line col pn) 
    (hQ : ∀ a w, YRet W0 R M sv all rb line col pn (one 40 st) a w → Q .ret a w) (u2 u3 u5 u9 u10 u11 u12 u13 u14 u15 u16 u17 u18 u19 u20 u21 u22 u23 u24 u25 u26 u27 u28 u29 u30 u31 u32 u33 u34 u35 u36 u37 u38 u39 u40 u41 u42 u43 u44 u45 u46 u47 u48 u49 u50 u51 u52 u53 u54 u55 u56 u57 u58 u59 u60 u61 u62 u63 u64 u65 u66 u67 u68 u69 u70 u71 u72 u73 u74 u75 u76 u77 u78 u79 u80 u81 u82 u83 u84 u85 u86 u87 u88 u89 u90 u91 u92 u93 u94 u95 u96 u97 u98 u99 u100 u101 u102 u103 u104 u105 u106 u107 u108 u109 u110 u111 u112 u113 u114 u115 u116 u117 u118 u119 u120 u121 u122 u123 u124 u125 u126 u127 u128 u129 u130 u131 u132 u133 u134 u135 u136 u137 u138 u139 u140 u141 u142 u143 u144 u145 u146 u147 u148 u149 u150 u151 u152 u153 u154 u155 u156 u157 u158 u159 u160 u161 u162 u163 u164 u165 u166 u167 u168 u169 u170 u171 u172 u173 u174 u175 u176 u177 u178 u179 u180 u181 u182 u183 u184 u185 u186 u187 u188 u189 u190 u191 u192 u193 u194 u195 u196 u197 u198 u199 u200 u201 u202 u203 u204 u205 u206 u207 u208 u209 u210 u211 u212 u213 u214 u215 u216 u217 u218 u219 u220 u221 u222 u223 u224 u225 u226 u227 : Value) : Code.wp Tryz.prog yM Q ⟨#[Value.pointer (some ⟨R, 0, none⟩), Value.int .i64 prev, u2, u3, Value.pointer (some ⟨rb, 0, none⟩), u5, Value.bool nl, Value.int .i64 (40), Value.pointer (some ⟨tb, 0, none⟩), u9, u10, u11, u12, u13, u14, u15, u16, u17, u18, u19, u20, u21, u22, u23, u24, u25, u26, u27, u28, u29, u30, u31, u32, u33, u34, u35, u36, u37, u38, u39, u40, u41, u42, u43, u44, u45, u46, u47, u48, u49, u50, u51, u52, u53, u54, u55, u56, u57, u58, u59, u60, u61, u62, u63, u64, u65, u66, u67, u68, u69, u70, u71, u72, u73, u74, u75, u76, u77, u78, u79, u80, u81, u82, u83, u84, u85, u86, u87, u88, u89, u90, u91, u92, u93, u94, u95, u96, u97, u98, u99, u100, u101, u102, u103, u104, u105, u106, u107, u108, u109, u110, u111, u112, u113, u114, u115, u116, u117, u118, u119, u120, u121, u122, u123, u124, u125, u126, u127, u128, u129, u130, u131, u132, u133, u134, u135, u136, u137, u138, u139, u140, u141, u142, u143, u144, u145, u146, u147, u148, u149, u150, u151, u152, u153, u154, u155, u156, u157, u158, u159, u160, u161, u162, u163, u164, u165, u166, u167, u168, u169, u170, u171, u172, u173, u174, u175, u176, u177, u178, u179, u180, u181, u182, u183, u184, u185, u186, u187, u188, u189, u190, u191, u192, u193, u194, u195, u196, u197, u198, u199, u200, u201, u202, u203, u204, u205, u206, u207, u208, u209, u210, u211, u212, u213, u214, u215, u216, u217, u218, u219, u220, u221, u222, u223, u224, u225, u226, u227], []⟩ w := by
  conv => arg 2; whnf
  have HI := Lib.hid (show identS (40) = false by decide)
  have HD := Lib.hid (show decI (40) = false by decide)
  obtain ⟨t0, t1, t2, t3, t4, f0, f1⟩ := h.facts
  go_upto_region 94 with (first | (go_at_call 25; refine (rstart_false _ _ HI.out).mono ?_; rintro e w' ⟨rfl, rfl⟩) | (go_at_call 30; refine (rdec_false _ _ HD.out).mono ?_; rintro e w' ⟨rfl, rfl⟩))
  have g0 := h.setTyp 40
  clear t0 t1 t2 t3 t4 f0 f1 h
  generalize w.setCell ⟨tb, 0, none⟩ (.int .i64 40) = w1 at g0 ⊢
  have hcv := (Bs.one w1 40 40 rfl).text
  have fA : Fr [] w1 (w1.alloc (.cells #[.int .u8 40] 5)) := (Fr.refl _ _).alloc _
  have g1 := g0.still fA
  obtain ⟨t0, t1, t2, t3, t4, f0, f1⟩ := g1.facts
  clear g0 fA
  go_upto_region 95 with fail
  have g2 := g1.setStr ⟨[40].toArray⟩
  clear t0 t1 t2 t3 t4 f0 f1 g1 hcv
  generalize (w1.alloc (.cells #[.int .u8 40] 5)).setCell ⟨tb, 1, none⟩ (.string ⟨#[40]⟩) = wq at g2 ⊢
  obtain ⟨t0, t1, t2, t3, t4, f0, f1⟩ := g2.facts
  obtain ⟨⟨r0, r1, r2, r3, r4⟩, q0, q1, q2, q3, q4⟩ := g2.rfacts
  go_wp2
  first | exact hQ _ _ (YRet.intro g2.fin rfl (fun _ => ⟨rfl, rfl, rfl⟩)) | exact (YRet.intro g2.fin rfl (fun _ => ⟨rfl, rfl, rfl⟩))


set_option maxRecDepth 1000000 in
set_option maxHeartbeats 16000000 in
theorem yo_41 {W0 w : World} {R M rb tb : Nat} {sv : Value} {all : List UInt8} {st : St} {prev line col : Int} {nl pn : Bool} {Q : Exit → Act → World → Prop} (h : Yk W0 R M sv all rb tb w st 0 ⟨#[]⟩ line col pn) 
    (hQ : ∀ a w, YRet W0 R M sv all rb line col pn (one 41 st) a w → Q .ret a w) (u2 u3 u5 u9 u10 u11 u12 u13 u14 u15 u16 u17 u18 u19 u20 u21 u22 u23 u24 u25 u26 u27 u28 u29 u30 u31 u32 u33 u34 u35 u36 u37 u38 u39 u40 u41 u42 u43 u44 u45 u46 u47 u48 u49 u50 u51 u52 u53 u54 u55 u56 u57 u58 u59 u60 u61 u62 u63 u64 u65 u66 u67 u68 u69 u70 u71 u72 u73 u74 u75 u76 u77 u78 u79 u80 u81 u82 u83 u84 u85 u86 u87 u88 u89 u90 u91 u92 u93 u94 u95 u96 u97 u98 u99 u100 u101 u102 u103 u104 u105 u106 u107 u108 u109 u110 u111 u112 u113 u114 u115 u116 u117 u118 u119 u120 u121 u122 u123 u124 u125 u126 u127 u128 u129 u130 u131 u132 u133 u134 u135 u136 u137 u138 u139 u140 u141 u142 u143 u144 u145 u146 u147 u148 u149 u150 u151 u152 u153 u154 u155 u156 u157 u158 u159 u160 u161 u162 u163 u164 u165 u166 u167 u168 u169 u170 u171 u172 u173 u174 u175 u176 u177 u178 u179 u180 u181 u182 u183 u184 u185 u186 u187 u188 u189 u190 u191 u192 u193 u194 u195 u196 u197 u198 u199 u200 u201 u202 u203 u204 u205 u206 u207 u208 u209 u210 u211 u212 u213 u214 u215 u216 u217 u218 u219 u220 u221 u222 u223 u224 u225 u226 u227 : Value) : Code.wp Tryz.prog yM Q ⟨#[Value.pointer (some ⟨R, 0, none⟩), Value.int .i64 prev, u2, u3, Value.pointer (some ⟨rb, 0, none⟩), u5, Value.bool nl, Value.int .i64 (41), Value.pointer (some ⟨tb, 0, none⟩), u9, u10, u11, u12, u13, u14, u15, u16, u17, u18, u19, u20, u21, u22, u23, u24, u25, u26, u27, u28, u29, u30, u31, u32, u33, u34, u35, u36, u37, u38, u39, u40, u41, u42, u43, u44, u45, u46, u47, u48, u49, u50, u51, u52, u53, u54, u55, u56, u57, u58, u59, u60, u61, u62, u63, u64, u65, u66, u67, u68, u69, u70, u71, u72, u73, u74, u75, u76, u77, u78, u79, u80, u81, u82, u83, u84, u85, u86, u87, u88, u89, u90, u91, u92, u93, u94, u95, u96, u97, u98, u99, u100, u101, u102, u103, u104, u105, u106, u107, u108, u109, u110, u111, u112, u113, u114, u115, u116, u117, u118, u119, u120, u121, u122, u123, u124, u125, u126, u127, u128, u129, u130, u131, u132, u133, u134, u135, u136, u137, u138, u139, u140, u141, u142, u143, u144, u145, u146, u147, u148, u149, u150, u151, u152, u153, u154, u155, u156, u157, u158, u159, u160, u161, u162, u163, u164, u165, u166, u167, u168, u169, u170, u171, u172, u173, u174, u175, u176, u177, u178, u179, u180, u181, u182, u183, u184, u185, u186, u187, u188, u189, u190, u191, u192, u193, u194, u195, u196, u197, u198, u199, u200, u201, u202, u203, u204, u205, u206, u207, u208, u209, u210, u211, u212, u213, u214, u215, u216, u217, u218, u219, u220, u221, u222, u223, u224, u225, u226, u227], []⟩ w := by
  conv => arg 2; whnf
  have HI := Lib.hid (show identS (41) = false by decide)
  have HD := Lib.hid (show decI (41) = false by decide)
  obtain ⟨t0, t1, t2, t3, t4, f0, f1⟩ := h.facts
  go_upto_region 94 with (first | (go_at_call 25; refine (rstart_false _ _ HI.out).mono ?_; rintro e w' ⟨rfl, rfl⟩) | (go_at_call 30; refine (rdec_false _ _ HD.out).mono ?_; rintro e w' ⟨rfl, rfl⟩))
  have g0 := h.setTyp 41
  clear t0 t1 t2 t3 t4 f0 f1 h
  generalize w.setCell ⟨tb, 0, none⟩ (.int .i64 41) = w1 at g0 ⊢
  have hcv := (Bs.one w1 41 41 rfl).text
  have fA : Fr [] w1 (w1.alloc (.cells #[.int .u8 41] 5)) := (Fr.refl _ _).alloc _
  have g1 := g0.still fA
  obtain ⟨t0, t1, t2, t3, t4, f0, f1⟩ := g1.facts
  clear g0 fA
  go_upto_region 95 with fail
  have g2 := g1.setStr ⟨[41].toArray⟩
  clear t0 t1 t2 t3 t4 f0 f1 g1 hcv
  generalize (w1.alloc (.cells #[.int .u8 41] 5)).setCell ⟨tb, 1, none⟩ (.string ⟨#[41]⟩) = wq at g2 ⊢
  obtain ⟨t0, t1, t2, t3, t4, f0, f1⟩ := g2.facts
  obtain ⟨⟨r0, r1, r2, r3, r4⟩, q0, q1, q2, q3, q4⟩ := g2.rfacts
  go_wp2
  first | exact hQ _ _ (YRet.intro g2.fin rfl (fun _ => ⟨rfl, rfl, rfl⟩)) | exact (YRet.intro g2.fin rfl (fun _ => ⟨rfl, rfl, rfl⟩))


set_option maxRecDepth 1000000 in
set_option maxHeartbeats 16000000 in
theorem yo_123 {W0 w : World} {R M rb tb : Nat} {sv : Value} {all : List UInt8} {st : St} {prev line col : Int} {nl pn : Bool} {Q : Exit → Act → World → Prop} (h : Yk W0 R M sv all rb tb w st 0 ⟨#[]⟩ line col pn) 
    (hQ : ∀ a w, YRet W0 R M sv all rb line col pn (one 123 st) a w → Q .ret a w) (u2 u3 u5 u9 u10 u11 u12 u13 u14 u15 u16 u17 u18 u19 u20 u21 u22 u23 u24 u25 u26 u27 u28 u29 u30 u31 u32 u33 u34 u35 u36 u37 u38 u39 u40 u41 u42 u43 u44 u45 u46 u47 u48 u49 u50 u51 u52 u53 u54 u55 u56 u57 u58 u59 u60 u61 u62 u63 u64 u65 u66 u67 u68 u69 u70 u71 u72 u73 u74 u75 u76 u77 u78 u79 u80 u81 u82 u83 u84 u85 u86 u87 u88 u89 u90 u91 u92 u93 u94 u95 u96 u97 u98 u99 u100 u101 u102 u103 u104 u105 u106 u107 u108 u109 u110 u111 u112 u113 u114 u115 u116 u117 u118 u119 u120 u121 u122 u123 u124 u125 u126 u127 u128 u129 u130 u131 u132 u133 u134 u135 u136 u137 u138 u139 u140 u141 u142 u143 u144 u145 u146 u147 u148 u149 u150 u151 u152 u153 u154 u155 u156 u157 u158 u159 u160 u161 u162 u163 u164 u165 u166 u167 u168 u169 u170 u171 u172 u173 u174 u175 u176 u177 u178 u179 u180 u181 u182 u183 u184 u185 u186 u187 u188 u189 u190 u191 u192 u193 u194 u195 u196 u197 u198 u199 u200 u201 u202 u203 u204 u205 u206 u207 u208 u209 u210 u211 u212 u213 u214 u215 u216 u217 u218 u219 u220 u221 u222 u223 u224 u225 u226 u227 : Value) : Code.wp Tryz.prog yM Q ⟨#[Value.pointer (some ⟨R, 0, none⟩), Value.int .i64 prev, u2, u3, Value.pointer (some ⟨rb, 0, none⟩), u5, Value.bool nl, Value.int .i64 (123), Value.pointer (some ⟨tb, 0, none⟩), u9, u10, u11, u12, u13, u14, u15, u16, u17, u18, u19, u20, u21, u22, u23, u24, u25, u26, u27, u28, u29, u30, u31, u32, u33, u34, u35, u36, u37, u38, u39, u40, u41, u42, u43, u44, u45, u46, u47, u48, u49, u50, u51, u52, u53, u54, u55, u56, u57, u58, u59, u60, u61, u62, u63, u64, u65, u66, u67, u68, u69, u70, u71, u72, u73, u74, u75, u76, u77, u78, u79, u80, u81, u82, u83, u84, u85, u86, u87, u88, u89, u90, u91, u92, u93, u94, u95, u96, u97, u98, u99, u100, u101, u102, u103, u104, u105, u106, u107, u108, u109, u110, u111, u112, u113, u114, u115, u116, u117, u118, u119, u120, u121, u122, u123, u124, u125, u126, u127, u128, u129, u130, u131, u132, u133, u134, u135, u136, u137, u138, u139, u140, u141, u142, u143, u144, u145, u146, u147, u148, u149, u150, u151, u152, u153, u154, u155, u156, u157, u158, u159, u160, u161, u162, u163, u164, u165, u166, u167, u168, u169, u170, u171, u172, u173, u174, u175, u176, u177, u178, u179, u180, u181, u182, u183, u184, u185, u186, u187, u188, u189, u190, u191, u192, u193, u194, u195, u196, u197, u198, u199, u200, u201, u202, u203, u204, u205, u206, u207, u208, u209, u210, u211, u212, u213, u214, u215, u216, u217, u218, u219, u220, u221, u222, u223, u224, u225, u226, u227], []⟩ w := by
  conv => arg 2; whnf
  have HI := Lib.hid (show identS (123) = false by decide)
  have HD := Lib.hid (show decI (123) = false by decide)
  obtain ⟨t0, t1, t2, t3, t4, f0, f1⟩ := h.facts
  go_upto_region 94 with (first | (go_at_call 25; refine (rstart_false _ _ HI.out).mono ?_; rintro e w' ⟨rfl, rfl⟩) | (go_at_call 30; refine (rdec_false _ _ HD.out).mono ?_; rintro e w' ⟨rfl, rfl⟩))
  have g0 := h.setTyp 123
  clear t0 t1 t2 t3 t4 f0 f1 h
  generalize w.setCell ⟨tb, 0, none⟩ (.int .i64 123) = w1 at g0 ⊢
  have hcv := (Bs.one w1 123 123 rfl).text
  have fA : Fr [] w1 (w1.alloc (.cells #[.int .u8 123] 5)) := (Fr.refl _ _).alloc _
  have g1 := g0.still fA
  obtain ⟨t0, t1, t2, t3, t4, f0, f1⟩ := g1.facts
  clear g0 fA
  go_upto_region 95 with fail
  have g2 := g1.setStr ⟨[123].toArray⟩
  clear t0 t1 t2 t3 t4 f0 f1 g1 hcv
  generalize (w1.alloc (.cells #[.int .u8 123] 5)).setCell ⟨tb, 1, none⟩ (.string ⟨#[123]⟩) = wq at g2 ⊢
  obtain ⟨t0, t1, t2, t3, t4, f0, f1⟩ := g2.facts
  obtain ⟨⟨r0, r1, r2, r3, r4⟩, q0, q1, q2, q3, q4⟩ := g2.rfacts
  go_wp2
  first | exact hQ _ _ (YRet.intro g2.fin rfl (fun _ => ⟨rfl, rfl, rfl⟩)) | exact (YRet.intro g2.fin rfl (fun _ => ⟨rfl, rfl, rfl⟩))


set_option maxRecDepth 1000000 in
set_option maxHeartbeats 16000000 in
theorem yo_125 {W0 w : World} {R M rb tb : Nat} {sv : Value} {all : List UInt8} {st : St} {prev line col : Int} {nl pn : Bool} {Q : Exit → Act → World → Prop} (h : Yk W0 R M sv all rb tb w st 0 ⟨#[]⟩ line col pn) 
    (hQ : ∀ a w, YRet W0 R M sv all rb line col pn (one 125 st) a w → Q .ret a w) (u2 u3 u5 u9 u10 u11 u12 u13 u14 u15 u16 u17 u18 u19 u20 u21 u22 u23 u24 u25 u26 u27 u28 u29 u30 u31 u32 u33 u34 u35 u36 u37 u38 u39 u40 u41 u42 u43 u44 u45 u46 u47 u48 u49 u50 u51 u52 u53 u54 u55 u56 u57 u58 u59 u60 u61 u62 u63 u64 u65 u66 u67 u68 u69 u70 u71 u72 u73 u74 u75 u76 u77 u78 u79 u80 u81 u82 u83 u84 u85 u86 u87 u88 u89 u90 u91 u92 u93 u94 u95 u96 u97 u98 u99 u100 u101 u102 u103 u104 u105 u106 u107 u108 u109 u110 u111 u112 u113 u114 u115 u116 u117 u118 u119 u120 u121 u122 u123 u124 u125 u126 u127 u128 u129 u130 u131 u132 u133 u134 u135 u136 u137 u138 u139 u140 u141 u142 u143 u144 u145 u146 u147 u148 u149 u150 u151 u152 u153 u154 u155 u156 u157 u158 u159 u160 u161 u162 u163 u164 u165 u166 u167 u168 u169 u170 u171 u172 u173 u174 u175 u176 u177 u178 u179 u180 u181 u182 u183 u184 u185 u186 u187 u188 u189 u190 u191 u192 u193 u194 u195 u196 u197 u198 u199 u200 u201 u202 u203 u204 u205 u206 u207 u208 u209 u210 u211 u212 u213 u214 u215 u216 u217 u218 u219 u220 u221 u222 u223 u224 u225 u226 u227 : Value) : Code.wp Tryz.prog yM Q ⟨#[Value.pointer (some ⟨R, 0, none⟩), Value.int .i64 prev, u2, u3, Value.pointer (some ⟨rb, 0, none⟩), u5, Value.bool nl, Value.int .i64 (125), Value.pointer (some ⟨tb, 0, none⟩), u9, u10, u11, u12, u13, u14, u15, u16, u17, u18, u19, u20, u21, u22, u23, u24, u25, u26, u27, u28, u29, u30, u31, u32, u33, u34, u35, u36, u37, u38, u39, u40, u41, u42, u43, u44, u45, u46, u47, u48, u49, u50, u51, u52, u53, u54, u55, u56, u57, u58, u59, u60, u61, u62, u63, u64, u65, u66, u67, u68, u69, u70, u71, u72, u73, u74, u75, u76, u77, u78, u79, u80, u81, u82, u83, u84, u85, u86, u87, u88, u89, u90, u91, u92, u93, u94, u95, u96, u97, u98, u99, u100, u101, u102, u103, u104, u105, u106, u107, u108, u109, u110, u111, u112, u113, u114, u115, u116, u117, u118, u119, u120, u121, u122, u123, u124, u125, u126, u127, u128, u129, u130, u131, u132, u133, u134, u135, u136, u137, u138, u139, u140, u141, u142, u143, u144, u145, u146, u147, u148, u149, u150, u151, u152, u153, u154, u155, u156, u157, u158, u159, u160, u161, u162, u163, u164, u165, u166, u167, u168, u169, u170, u171, u172, u173, u174, u175, u176, u177, u178, u179, u180, u181, u182, u183, u184, u185, u186, u187, u188, u189, u190, u191, u192, u193, u194, u195, u196, u197, u198, u199, u200, u201, u202, u203, u204, u205, u206, u207, u208, u209, u210, u211, u212, u213, u214, u215, u216, u217, u218, u219, u220, u221, u222, u223, u224, u225, u226, u227], []⟩ w := by
  conv => arg 2; whnf
  have HI := Lib.hid (show identS (125) = false by decide)
  have HD := Lib.hid (show decI (125) = false by decide)
  obtain ⟨t0, t1, t2, t3, t4, f0, f1⟩ := h.facts
  go_upto_region 94 with (first | (go_at_call 25; refine (rstart_false _ _ HI.out).mono ?_; rintro e w' ⟨rfl, rfl⟩) | (go_at_call 30; refine (rdec_false _ _ HD.out).mono ?_; rintro e w' ⟨rfl, rfl⟩))
  have g0 := h.setTyp 125
  clear t0 t1 t2 t3 t4 f0 f1 h
  generalize w.setCell ⟨tb, 0, none⟩ (.int .i64 125) = w1 at g0 ⊢
  have hcv := (Bs.one w1 125 125 rfl).text
  have fA : Fr [] w1 (w1.alloc (.cells #[.int .u8 125] 5)) := (Fr.refl _ _).alloc _
  have g1 := g0.still fA
  obtain ⟨t0, t1, t2, t3, t4, f0, f1⟩ := g1.facts
  clear g0 fA
  go_upto_region 95 with fail
  have g2 := g1.setStr ⟨[125].toArray⟩
  clear t0 t1 t2 t3 t4 f0 f1 g1 hcv
  generalize (w1.alloc (.cells #[.int .u8 125] 5)).setCell ⟨tb, 1, none⟩ (.string ⟨#[125]⟩) = wq at g2 ⊢
  obtain ⟨t0, t1, t2, t3, t4, f0, f1⟩ := g2.facts
  obtain ⟨⟨r0, r1, r2, r3, r4⟩, q0, q1, q2, q3, q4⟩ := g2.rfacts
  go_wp2
  first | exact hQ _ _ (YRet.intro g2.fin rfl (fun _ => ⟨rfl, rfl, rfl⟩)) | exact (YRet.intro g2.fin rfl (fun _ => ⟨rfl, rfl, rfl⟩))


set_option maxRecDepth 1000000 in
set_option maxHeartbeats 16000000 in
theorem yo_93 {W0 w : World} {R M rb tb : Nat} {sv : Value} {all : List UInt8} {st : St} {prev line col : Int} {nl pn : Bool} {Q : Exit → Act → World → Prop} (h : Yk W0 R M sv all rb tb w st 0 ⟨#[]⟩ line col pn) 
    (hQ : ∀ a w, YRet W0 R M sv all rb line col pn (one 93 st) a w → Q .ret a w) (u2 u3 u5 u9 u10 u11 u12 u13 u14 u15 u16 u17 u18 u19 u20 u21 u22 u23 u24 u25 u26 u27 u28 u29 u30 u31 u32 u33 u34 u35 u36 u37 u38 u39 u40 u41 u42 u43 u44 u45 u46 u47 u48 u49 u50 u51 u52 u53 u54 u55 u56 u57 u58 u59 u60 u61 u62 u63 u64 u65 u66 u67 u68 u69 u70 u71 u72 u73 u74 u75 u76 u77 u78 u79 u80 u81 u82 u83 u84 u85 u86 u87 u88 u89 u90 u91 u92 u93 u94 u95 u96 u97 u98 u99 u100 u101 u102 u103 u104 u105 u106 u107 u108 u109 u110 u111 u112 u113 u114 u115 u116 u117 u118 u119 u120 u121 u122 u123 u124 u125 u126 u127 u128 u129 u130 u131 u132 u133 u134 u135 u136 u137 u138 u139 u140 u141 u142 u143 u144 u145 u146 u147 u148 u149 u150 u151 u152 u153 u154 u155 u156 u157 u158 u159 u160 u161 u162 u163 u164 u165 u166 u167 u168 u169 u170 u171 u172 u173 u174 u175 u176 u177 u178 u179 u180 u181 u182 u183 u184 u185 u186 u187 u188 u189 u190 u191 u192 u193 u194 u195 u196 u197 u198 u199 u200 u201 u202 u203 u204 u205 u206 u207 u208 u209 u210 u211 u212 u213 u214 u215 u216 u217 u218 u219 u220 u221 u222 u223 u224 u225 u226 u227 : Value) : Code.wp Tryz.prog yM Q ⟨#[Value.pointer (some ⟨R, 0, none⟩), Value.int .i64 prev, u2, u3, Value.pointer (some ⟨rb, 0, none⟩), u5, Value.bool nl, Value.int .i64 (93), Value.pointer (some ⟨tb, 0, none⟩), u9, u10, u11, u12, u13, u14, u15, u16, u17, u18, u19, u20, u21, u22, u23, u24, u25, u26, u27, u28, u29, u30, u31, u32, u33, u34, u35, u36, u37, u38, u39, u40, u41, u42, u43, u44, u45, u46, u47, u48, u49, u50, u51, u52, u53, u54, u55, u56, u57, u58, u59, u60, u61, u62, u63, u64, u65, u66, u67, u68, u69, u70, u71, u72, u73, u74, u75, u76, u77, u78, u79, u80, u81, u82, u83, u84, u85, u86, u87, u88, u89, u90, u91, u92, u93, u94, u95, u96, u97, u98, u99, u100, u101, u102, u103, u104, u105, u106, u107, u108, u109, u110, u111, u112, u113, u114, u115, u116, u117, u118, u119, u120, u121, u122, u123, u124, u125, u126, u127, u128, u129, u130, u131, u132, u133, u134, u135, u136, u137, u138, u139, u140, u141, u142, u143, u144, u145, u146, u147, u148, u149, u150, u151, u152, u153, u154, u155, u156, u157, u158, u159, u160, u161, u162, u163, u164, u165, u166, u167, u168, u169, u170, u171, u172, u173, u174, u175, u176, u177, u178, u179, u180, u181, u182, u183, u184, u185, u186, u187, u188, u189, u190, u191, u192, u193, u194, u195, u196, u197, u198, u199, u200, u201, u202, u203, u204, u205, u206, u207, u208, u209, u210, u211, u212, u213, u214, u215, u216, u217, u218, u219, u220, u221, u222, u223, u224, u225, u226, u227], []⟩ w := by
  conv => arg 2; whnf
  have HI := Lib.hid (show identS (93) = false by decide)
  have HD := Lib.hid (show decI (93) = false by decide)
  obtain ⟨t0, t1, t2, t3, t4, f0, f1⟩ := h.facts
  go_upto_region 94 with (first | (go_at_call 25; refine (rstart_false _ _ HI.out).mono ?_; rintro e w' ⟨rfl, rfl⟩) | (go_at_call 30; refine (rdec_false _ _ HD.out).mono ?_; rintro e w' ⟨rfl, rfl⟩))
  have g0 := h.setTyp 93
  clear t0 t1 t2 t3 t4 f0 f1 h
  generalize w.setCell ⟨tb, 0, none⟩ (.int .i64 93) = w1 at g0 ⊢
  have hcv := (Bs.one w1 93 93 rfl).text
  have fA : Fr [] w1 (w1.alloc (.cells #[.int .u8 93] 5)) := (Fr.refl _ _).alloc _
  have g1 := g0.still fA
  obtain ⟨t0, t1, t2, t3, t4, f0, f1⟩ := g1.facts
  clear g0 fA
  go_upto_region 95 with fail
  have g2 := g1.setStr ⟨[93].toArray⟩
  clear t0 t1 t2 t3 t4 f0 f1 g1 hcv
  generalize (w1.alloc (.cells #[.int .u8 93] 5)).setCell ⟨tb, 1, none⟩ (.string ⟨#[93]⟩) = wq at g2 ⊢
  obtain ⟨t0, t1, t2, t3, t4, f0, f1⟩ := g2.facts
  obtain ⟨⟨r0, r1, r2, r3, r4⟩, q0, q1, q2, q3, q4⟩ := g2.rfacts
  go_wp2
  first | exact hQ _ _ (YRet.intro g2.fin rfl (fun _ => ⟨rfl, rfl, rfl⟩)) | exact (YRet.intro g2.fin rfl (fun _ => ⟨rfl, rfl, rfl⟩))


set_option maxRecDepth 1000000 in
set_option maxHeartbeats 16000000 in
theorem yo_59 {W0 w : World} {R M rb tb : Nat} {sv : Value} {all : List UInt8} {st : St} {prev line col : Int} {nl pn : Bool} {Q : Exit → Act → World → Prop} (h : Yk W0 R M sv all rb tb w st 0 ⟨#[]⟩ line col pn) 
    (hQ : ∀ a w, YRet W0 R M sv all rb line col pn (one 59 st) a w → Q .ret a w) (u2 u3 u5 u9 u10 u11 u12 u13 u14 u15 u16 u17 u18 u19 u20 u21 u22 u23 u24 u25 u26 u27 u28 u29 u30 u31 u32 u33 u34 u35 u36 u37 u38 u39 u40 u41 u42 u43 u44 u45 u46 u47 u48 u49 u50 u51 u52 u53 u54 u55 u56 u57 u58 u59 u60 u61 u62 u63 u64 u65 u66 u67 u68 u69 u70 u71 u72 u73 u74 u75 u76 u77 u78 u79 u80 u81 u82 u83 u84 u85 u86 u87 u88 u89 u90 u91 u92 u93 u94 u95 u96 u97 u98 u99 u100 u101 u102 u103 u104 u105 u106 u107 u108 u109 u110 u111 u112 u113 u114 u115 u116 u117 u118 u119 u120 u121 u122 u123 u124 u125 u126 u127 u128 u129 u130 u131 u132 u133 u134 u135 u136 u137 u138 u139 u140 u141 u142 u143 u144 u145 u146 u147 u148 u149 u150 u151 u152 u153 u154 u155 u156 u157 u158 u159 u160 u161 u162 u163 u164 u165 u166 u167 u168 u169 u170 u171 u172 u173 u174 u175 u176 u177 u178 u179 u180 u181 u182 u183 u184 u185 u186 u187 u188 u189 u190 u191 u192 u193 u194 u195 u196 u197 u198 u199 u200 u201 u202 u203 u204 u205 u206 u207 u208 u209 u210 u211 u212 u213 u214 u215 u216 u217 u218 u219 u220 u221 u222 u223 u224 u225 u226 u227 : Value) : Code.wp Tryz.prog yM Q ⟨#[Value.pointer (some ⟨R, 0, none⟩), Value.int .i64 prev, u2, u3, Value.pointer (some ⟨rb, 0, none⟩), u5, Value.bool nl, Value.int .i64 (59), Value.pointer (some ⟨tb, 0, none⟩), u9, u10, u11, u12, u13, u14, u15, u16, u17, u18, u19, u20, u21, u22, u23, u24, u25, u26, u27, u28, u29, u30, u31, u32, u33, u34, u35, u36, u37, u38, u39, u40, u41, u42, u43, u44, u45, u46, u47, u48, u49, u50, u51, u52, u53, u54, u55, u56, u57, u58, u59, u60, u61, u62, u63, u64, u65, u66, u67, u68, u69, u70, u71, u72, u73, u74, u75, u76, u77, u78, u79, u80, u81, u82, u83, u84, u85, u86, u87, u88, u89, u90, u91, u92, u93, u94, u95, u96, u97, u98, u99, u100, u101, u102, u103, u104, u105, u106, u107, u108, u109, u110, u111, u112, u113, u114, u115, u116, u117, u118, u119, u120, u121, u122, u123, u124, u125, u126, u127, u128, u129, u130, u131, u132, u133, u134, u135, u136, u137, u138, u139, u140, u141, u142, u143, u144, u145, u146, u147, u148, u149, u150, u151, u152, u153, u154, u155, u156, u157, u158, u159, u160, u161, u162, u163, u164, u165, u166, u167, u168, u169, u170, u171, u172, u173, u174, u175, u176, u177, u178, u179, u180, u181, u182, u183, u184, u185, u186, u187, u188, u189, u190, u191, u192, u193, u194, u195, u196, u197, u198, u199, u200, u201, u202, u203, u204, u205, u206, u207, u208, u209, u210, u211, u212, u213, u214, u215, u216, u217, u218, u219, u220, u221, u222, u223, u224, u225, u226, u227], []⟩ w := by
  conv => arg 2; whnf
  have HI := Lib.hid (show identS (59) = false by decide)
  have HD := Lib.hid (show decI (59) = false by decide)
  obtain ⟨t0, t1, t2, t3, t4, f0, f1⟩ := h.facts
  go_upto_region 94 with (first | (go_at_call 25; refine (rstart_false _ _ HI.out).mono ?_; rintro e w' ⟨rfl, rfl⟩) | (go_at_call 30; refine (rdec_false _ _ HD.out).mono ?_; rintro e w' ⟨rfl, rfl⟩))
  have g0 := h.setTyp 59
  clear t0 t1 t2 t3 t4 f0 f1 h
  generalize w.setCell ⟨tb, 0, none⟩ (.int .i64 59) = w1 at g0 ⊢
  have hcv := (Bs.one w1 59 59 rfl).text
  have fA : Fr [] w1 (w1.alloc (.cells #[.int .u8 59] 5)) := (Fr.refl _ _).alloc _
  have g1 := g0.still fA
  obtain ⟨t0, t1, t2, t3, t4, f0, f1⟩ := g1.facts
  clear g0 fA
  go_upto_region 95 with fail
  have g2 := g1.setStr ⟨[59].toArray⟩
  clear t0 t1 t2 t3 t4 f0 f1 g1 hcv
  generalize (w1.alloc (.cells #[.int .u8 59] 5)).setCell ⟨tb, 1, none⟩ (.string ⟨#[59]⟩) = wq at g2 ⊢
  obtain ⟨t0, t1, t2, t3, t4, f0, f1⟩ := g2.facts
  obtain ⟨⟨r0, r1, r2, r3, r4⟩, q0, q1, q2, q3, q4⟩ := g2.rfacts
  go_wp2
  first | exact hQ _ _ (YRet.intro g2.fin rfl (fun _ => ⟨rfl, rfl, rfl⟩)) | exact (YRet.intro g2.fin rfl (fun _ => ⟨rfl, rfl, rfl⟩))


set_option maxRecDepth 1000000 in
set_option maxHeartbeats 16000000 in
theorem yo_44 {W0 w : World} {R M rb tb : Nat} {sv : Value} {all : List UInt8} {st : St} {prev line col : Int} {nl pn : Bool} {Q : Exit → Act → World → Prop} (h : Yk W0 R M sv all rb tb w st 0 ⟨#[]⟩ line col pn) 
    (hQ : ∀ a w, YRet W0 R M sv all rb line col pn (one 44 st) a w → Q .ret a w) (u2 u3 u5 u9 u10 u11 u12 u13 u14 u15 u16 u17 u18 u19 u20 u21 u22 u23 u24 u25 u26 u27 u28 u29 u30 u31 u32 u33 u34 u35 u36 u37 u38 u39 u40 u41 u42 u43 u44 u45 u46 u47 u48 u49 u50 u51 u52 u53 u54 u55 u56 u57 u58 u59 u60 u61 u62 u63 u64 u65 u66 u67 u68 u69 u70 u71 u72 u73 u74 u75 u76 u77 u78 u79 u80 u81 u82 u83 u84 u85 u86 u87 u88 u89 u90 u91 u92 u93 u94 u95 u96 u97 u98 u99 u100 u101 u102 u103 u104 u105 u106 u107 u108 u109 u110 u111 u112 u113 u114 u115 u116 u117 u118 u119 u120 u121 u122 u123 u124 u125 u126 u127 u128 u129 u130 u131 u132 u133 u134 u135 u136 u137 u138 u139 u140 u141 u142 u143 u144 u145 u146 u147 u148 u149 u150 u151 u152 u153 u154 u155 u156 u157 u158 u159 u160 u161 u162 u163 u164 u165 u166 u167 u168 u169 u170 u171 u172 u173 u174 u175 u176 u177 u178 u179 u180 u181 u182 u183 u184 u185 u186 u187 u188 u189 u190 u191 u192 u193 u194 u195 u196 u197 u198 u199 u200 u201 u202 u203 u204 u205 u206 u207 u208 u209 u210 u211 u212 u213 u214 u215 u216 u217 u218 u219 u220 u221 u222 u223 u224 u225 u226 u227 : Value) : Code.wp Tryz.prog yM Q ⟨#[Value.pointer (some ⟨R, 0, none⟩), Value.int .i64 prev, u2, u3, Value.pointer (some ⟨rb, 0, none⟩), u5, Value.bool nl, Value.int .i64 (44), Value.pointer (some ⟨tb, 0, none⟩), u9, u10, u11, u12, u13, u14, u15, u16, u17, u18, u19, u20, u21, u22, u23, u24, u25, u26, u27, u28, u29, u30, u31, u32, u33, u34, u35, u36, u37, u38, u39, u40, u41, u42, u43, u44, u45, u46, u47, u48, u49, u50, u51, u52, u53, u54, u55, u56, u57, u58, u59, u60, u61, u62, u63, u64, u65, u66, u67, u68, u69, u70, u71, u72, u73, u74, u75, u76, u77, u78, u79, u80, u81, u82, u83, u84, u85, u86, u87, u88, u89, u90, u91, u92, u93, u94, u95, u96, u97, u98, u99, u100, u101, u102, u103, u104, u105, u106, u107, u108, u109, u110, u111, u112, u113, u114, u115, u116, u117, u118, u119, u120, u121, u122, u123, u124, u125, u126, u127, u128, u129, u130, u131, u132, u133, u134, u135, u136, u137, u138, u139, u140, u141, u142, u143, u144, u145, u146, u147, u148, u149, u150, u151, u152, u153, u154, u155, u156, u157, u158, u159, u160, u161, u162, u163, u164, u165, u166, u167, u168, u169, u170, u171, u172, u173, u174, u175, u176, u177, u178, u179, u180, u181, u182, u183, u184, u185, u186, u187, u188, u189, u190, u191, u192, u193, u194, u195, u196, u197, u198, u199, u200, u201, u202, u203, u204, u205, u206, u207, u208, u209, u210, u211, u212, u213, u214, u215, u216, u217, u218, u219, u220, u221, u222, u223, u224, u225, u226, u227], []⟩ w := by
  conv => arg 2; whnf
  have HI := Lib.hid (show identS (44) = false by decide)
  have HD := Lib.hid (show decI (44) = false by decide)
  obtain ⟨t0, t1, t2, t3, t4, f0, f1⟩ := h.facts
  go_upto_region 94 with (first | (go_at_call 25; refine (rstart_false _ _ HI.out).mono ?_; rintro e w' ⟨rfl, rfl⟩) | (go_at_call 30; refine (rdec_false _ _ HD.out).mono ?_; rintro e w' ⟨rfl, rfl⟩))
  have g0 := h.setTyp 44
  clear t0 t1 t2 t3 t4 f0 f1 h
  generalize w.setCell ⟨tb, 0, none⟩ (.int .i64 44) = w1 at g0 ⊢
  have hcv := (Bs.one w1 44 44 rfl).text
  have fA : Fr [] w1 (w1.alloc (.cells #[.int .u8 44] 5)) := (Fr.refl _ _).alloc _
  have g1 := g0.still fA
  obtain ⟨t0, t1, t2, t3, t4, f0, f1⟩ := g1.facts
  clear g0 fA
  go_upto_region 95 with fail
  have g2 := g1.setStr ⟨[44].toArray⟩
  clear t0 t1 t2 t3 t4 f0 f1 g1 hcv
  generalize (w1.alloc (.cells #[.int .u8 44] 5)).setCell ⟨tb, 1, none⟩ (.string ⟨#[44]⟩) = wq at g2 ⊢
  obtain ⟨t0, t1, t2, t3, t4, f0, f1⟩ := g2.facts
  obtain ⟨⟨r0, r1, r2, r3, r4⟩, q0, q1, q2, q3, q4⟩ := g2.rfacts
  go_wp2
  first | exact hQ _ _ (YRet.intro g2.fin rfl (fun _ => ⟨rfl, rfl, rfl⟩)) | exact (YRet.intro g2.fin rfl (fun _ => ⟨rfl, rfl, rfl⟩))


set_option maxRecDepth 1000000 in
set_option maxHeartbeats 16000000 in
theorem yo_45 {W0 w : World} {R M rb tb : Nat} {sv : Value} {all : List UInt8} {st : St} {prev line col : Int} {nl pn : Bool} {Q : Exit → Act → World → Prop} (h : Yk W0 R M sv all rb tb w st 0 ⟨#[]⟩ line col pn) (hx : (hd st.rest == 45) = false)
    (hQ : ∀ a w, YRet W0 R M sv all rb line col pn (one 45 st) a w → Q .ret a w) (u2 u3 u5 u9 u10 u11 u12 u13 u14 u15 u16 u17 u18 u19 u20 u21 u22 u23 u24 u25 u26 u27 u28 u29 u30 u31 u32 u33 u34 u35 u36 u37 u38 u39 u40 u41 u42 u43 u44 u45 u46 u47 u48 u49 u50 u51 u52 u53 u54 u55 u56 u57 u58 u59 u60 u61 u62 u63 u64 u65 u66 u67 u68 u69 u70 u71 u72 u73 u74 u75 u76 u77 u78 u79 u80 u81 u82 u83 u84 u85 u86 u87 u88 u89 u90 u91 u92 u93 u94 u95 u96 u97 u98 u99 u100 u101 u102 u103 u104 u105 u106 u107 u108 u109 u110 u111 u112 u113 u114 u115 u116 u117 u118 u119 u120 u121 u122 u123 u124 u125 u126 u127 u128 u129 u130 u131 u132 u133 u134 u135 u136 u137 u138 u139 u140 u141 u142 u143 u144 u145 u146 u147 u148 u149 u150 u151 u152 u153 u154 u155 u156 u157 u158 u159 u160 u161 u162 u163 u164 u165 u166 u167 u168 u169 u170 u171 u172 u173 u174 u175 u176 u177 u178 u179 u180 u181 u182 u183 u184 u185 u186 u187 u188 u189 u190 u191 u192 u193 u194 u195 u196 u197 u198 u199 u200 u201 u202 u203 u204 u205 u206 u207 u208 u209 u210 u211 u212 u213 u214 u215 u216 u217 u218 u219 u220 u221 u222 u223 u224 u225 u226 u227 : Value) : Code.wp Tryz.prog yM Q ⟨#[Value.pointer (some ⟨R, 0, none⟩), Value.int .i64 prev, u2, u3, Value.pointer (some ⟨rb, 0, none⟩), u5, Value.bool nl, Value.int .i64 (45), Value.pointer (some ⟨tb, 0, none⟩), u9, u10, u11, u12, u13, u14, u15, u16, u17, u18, u19, u20, u21, u22, u23, u24, u25, u26, u27, u28, u29, u30, u31, u32, u33, u34, u35, u36, u37, u38, u39, u40, u41, u42, u43, u44, u45, u46, u47, u48, u49, u50, u51, u52, u53, u54, u55, u56, u57, u58, u59, u60, u61, u62, u63, u64, u65, u66, u67, u68, u69, u70, u71, u72, u73, u74, u75, u76, u77, u78, u79, u80, u81, u82, u83, u84, u85, u86, u87, u88, u89, u90, u91, u92, u93, u94, u95, u96, u97, u98, u99, u100, u101, u102, u103, u104, u105, u106, u107, u108, u109, u110, u111, u112, u113, u114, u115, u116, u117, u118, u119, u120, u121, u122, u123, u124, u125, u126, u127, u128, u129, u130, u131, u132, u133, u134, u135, u136, u137, u138, u139, u140, u141, u142, u143, u144, u145, u146, u147, u148, u149, u150, u151, u152, u153, u154, u155, u156, u157, u158, u159, u160, u161, u162, u163, u164, u165, u166, u167, u168, u169, u170, u171, u172, u173, u174, u175, u176, u177, u178, u179, u180, u181, u182, u183, u184, u185, u186, u187, u188, u189, u190, u191, u192, u193, u194, u195, u196, u197, u198, u199, u200, u201, u202, u203, u204, u205, u206, u207, u208, u209, u210, u211, u212, u213, u214, u215, u216, u217, u218, u219, u220, u221, u222, u223, u224, u225, u226, u227], []⟩ w := by
  conv => arg 2; whnf
  have HI := Lib.hid (show identS (45) = false by decide)
  have HD := Lib.hid (show decI (45) = false by decide)
  go_wp2_with (first | (go_at_call 25; refine (rstart_false _ _ HI.out).mono ?_; rintro e w' ⟨rfl, rfl⟩) | (go_at_call 30; refine (rdec_false _ _ HD.out).mono ?_; rintro e w' ⟨rfl, rfl⟩) | (go_at_call 27; refine (peek_rf _ R M sv all _ h.rf).mono ?_; rintro e w1 ⟨rfl, fx⟩; refine Hid.out ?_))
  refine Lib.hid ?_
  have h1 := h.still fx
  clear h fx
  obtain ⟨t0, t1, t2, t3, t4, f0, f1⟩ := h1.facts
  go_upto_region 95 with fail
  have g2 := ((h1.setTyp (45)).setStr ⟨#[45]⟩)
  clear t0 t1 t2 t3 t4 f0 f1 h1
  generalize ((w1.setCell ⟨tb, 0, none⟩ (.int .i64 (45))).setCell ⟨tb, 1, none⟩ (.string ⟨#[45]⟩)) = wq at g2 ⊢
  obtain ⟨t0, t1, t2, t3, t4, f0, f1⟩ := g2.facts
  obtain ⟨⟨r0, r1, r2, r3, r4⟩, q0, q1, q2, q3, q4⟩ := g2.rfacts
  go_wp2
  first | exact hQ _ _ (YRet.intro g2.fin rfl (fun _ => ⟨rfl, rfl, rfl⟩)) | exact (YRet.intro g2.fin rfl (fun _ => ⟨rfl, rfl, rfl⟩))


set_option maxRecDepth 1000000 in
set_option maxHeartbeats 16000000 in
theorem yo_91 {W0 w : World} {R M rb tb : Nat} {sv : Value} {all : List UInt8} {st : St} {prev line col : Int} {nl pn : Bool} {Q : Exit → Act → World → Prop} (h : Yk W0 R M sv all rb tb w st 0 ⟨#[]⟩ line col pn) (hx : (hd st.rest == 91) = false) (hy : (hd st.rest == 61) = false)
    (hQ : ∀ a w, YRet W0 R M sv all rb line col pn (one 91 st) a w → Q .ret a w) (u2 u3 u5 u9 u10 u11 u12 u13 u14 u15 u16 u17 u18 u19 u20 u21 u22 u23 u24 u25 u26 u27 u28 u29 u30 u31 u32 u33 u34 u35 u36 u37 u38 u39 u40 u41 u42 u43 u44 u45 u46 u47 u48 u49 u50 u51 u52 u53 u54 u55 u56 u57 u58 u59 u60 u61 u62 u63 u64 u65 u66 u67 u68 u69 u70 u71 u72 u73 u74 u75 u76 u77 u78 u79 u80 u81 u82 u83 u84 u85 u86 u87 u88 u89 u90 u91 u92 u93 u94 u95 u96 u97 u98 u99 u100 u101 u102 u103 u104 u105 u106 u107 u108 u109 u110 u111 u112 u113 u114 u115 u116 u117 u118 u119 u120 u121 u122 u123 u124 u125 u126 u127 u128 u129 u130 u131 u132 u133 u134 u135 u136 u137 u138 u139 u140 u141 u142 u143 u144 u145 u146 u147 u148 u149 u150 u151 u152 u153 u154 u155 u156 u157 u158 u159 u160 u161 u162 u163 u164 u165 u166 u167 u168 u169 u170 u171 u172 u173 u174 u175 u176 u177 u178 u179 u180 u181 u182 u183 u184 u185 u186 u187 u188 u189 u190 u191 u192 u193 u194 u195 u196 u197 u198 u199 u200 u201 u202 u203 u204 u205 u206 u207 u208 u209 u210 u211 u212 u213 u214 u215 u216 u217 u218 u219 u220 u221 u222 u223 u224 u225 u226 u227 : Value) : Code.wp Tryz.prog yM Q ⟨#[Value.pointer (some ⟨R, 0, none⟩), Value.int .i64 prev, u2, u3, Value.pointer (some ⟨rb, 0, none⟩), u5, Value.bool nl, Value.int .i64 (91), Value.pointer (some ⟨tb, 0, none⟩), u9, u10, u11, u12, u13, u14, u15, u16, u17, u18, u19, u20, u21, u22, u23, u24, u25, u26, u27, u28, u29, u30, u31, u32, u33, u34, u35, u36, u37, u38, u39, u40, u41, u42, u43, u44, u45, u46, u47, u48, u49, u50, u51, u52, u53, u54, u55, u56, u57, u58, u59, u60, u61, u62, u63, u64, u65, u66, u67, u68, u69, u70, u71, u72, u73, u74, u75, u76, u77, u78, u79, u80, u81, u82, u83, u84, u85, u86, u87, u88, u89, u90, u91, u92, u93, u94, u95, u96, u97, u98, u99, u100, u101, u102, u103, u104, u105, u106, u107, u108, u109, u110, u111, u112, u113, u114, u115, u116, u117, u118, u119, u120, u121, u122, u123, u124, u125, u126, u127, u128, u129, u130, u131, u132, u133, u134, u135, u136, u137, u138, u139, u140, u141, u142, u143, u144, u145, u146, u147, u148, u149, u150, u151, u152, u153, u154, u155, u156, u157, u158, u159, u160, u161, u162, u163, u164, u165, u166, u167, u168, u169, u170, u171, u172, u173, u174, u175, u176, u177, u178, u179, u180, u181, u182, u183, u184, u185, u186, u187, u188, u189, u190, u191, u192, u193, u194, u195, u196, u197, u198, u199, u200, u201, u202, u203, u204, u205, u206, u207, u208, u209, u210, u211, u212, u213, u214, u215, u216, u217, u218, u219, u220, u221, u222, u223, u224, u225, u226, u227], []⟩ w := by
  conv => arg 2; whnf
  have HI := Lib.hid (show identS (91) = false by decide)
  have HD := Lib.hid (show decI (91) = false by decide)
  go_wp2_with (first | (go_at_call 25; refine (rstart_false _ _ HI.out).mono ?_; rintro e w' ⟨rfl, rfl⟩) | (go_at_call 30; refine (rdec_false _ _ HD.out).mono ?_; rintro e w' ⟨rfl, rfl⟩) | (go_at_call 27; refine (peek_rf _ R M sv all _ h.rf).mono ?_; rintro e w1 ⟨rfl, fx⟩; refine Hid.out ?_))
  refine Lib.hid ?_
  have h1 := h.still fx
  clear h fx
  obtain ⟨t0, t1, t2, t3, t4, f0, f1⟩ := h1.facts
  go_upto_region 95 with fail
  have g2 := ((h1.setTyp (91)).setStr ⟨#[91]⟩)
  clear t0 t1 t2 t3 t4 f0 f1 h1
  generalize ((w1.setCell ⟨tb, 0, none⟩ (.int .i64 (91))).setCell ⟨tb, 1, none⟩ (.string ⟨#[91]⟩)) = wq at g2 ⊢
  obtain ⟨t0, t1, t2, t3, t4, f0, f1⟩ := g2.facts
  obtain ⟨⟨r0, r1, r2, r3, r4⟩, q0, q1, q2, q3, q4⟩ := g2.rfacts
  go_wp2
  first | exact hQ _ _ (YRet.intro g2.fin rfl (fun _ => ⟨rfl, rfl, rfl⟩)) | exact (YRet.intro g2.fin rfl (fun _ => ⟨rfl, rfl, rfl⟩))


set_option maxRecDepth 1000000 in
set_option maxHeartbeats 16000000 in
theorem ys_eof {W0 w : World} {R M rb tb : Nat} {sv : Value} {all : List UInt8} {st : St} {prev line col : Int} {nl pn : Bool} {Q : Exit → Act → World → Prop} (h : Yk W0 R M sv all rb tb w st 0 ⟨#[]⟩ line col pn) 
    (hQ : ∀ a w, YRet W0 R M sv all rb line col pn ((true, -1, [], st) : Bool × Int × List UInt8 × St) a w → Q .ret a w) (u2 u3 u5 u9 u10 u11 u12 u13 u14 u15 u16 u17 u18 u19 u20 u21 u22 u23 u24 u25 u26 u27 u28 u29 u30 u31 u32 u33 u34 u35 u36 u37 u38 u39 u40 u41 u42 u43 u44 u45 u46 u47 u48 u49 u50 u51 u52 u53 u54 u55 u56 u57 u58 u59 u60 u61 u62 u63 u64 u65 u66 u67 u68 u69 u70 u71 u72 u73 u74 u75 u76 u77 u78 u79 u80 u81 u82 u83 u84 u85 u86 u87 u88 u89 u90 u91 u92 u93 u94 u95 u96 u97 u98 u99 u100 u101 u102 u103 u104 u105 u106 u107 u108 u109 u110 u111 u112 u113 u114 u115 u116 u117 u118 u119 u120 u121 u122 u123 u124 u125 u126 u127 u128 u129 u130 u131 u132 u133 u134 u135 u136 u137 u138 u139 u140 u141 u142 u143 u144 u145 u146 u147 u148 u149 u150 u151 u152 u153 u154 u155 u156 u157 u158 u159 u160 u161 u162 u163 u164 u165 u166 u167 u168 u169 u170 u171 u172 u173 u174 u175 u176 u177 u178 u179 u180 u181 u182 u183 u184 u185 u186 u187 u188 u189 u190 u191 u192 u193 u194 u195 u196 u197 u198 u199 u200 u201 u202 u203 u204 u205 u206 u207 u208 u209 u210 u211 u212 u213 u214 u215 u216 u217 u218 u219 u220 u221 u222 u223 u224 u225 u226 u227 : Value) : Code.wp Tryz.prog yM Q ⟨#[Value.pointer (some ⟨R, 0, none⟩), Value.int .i64 prev, u2, u3, Value.pointer (some ⟨rb, 0, none⟩), u5, Value.bool nl, Value.int .i64 (-1), Value.pointer (some ⟨tb, 0, none⟩), u9, u10, u11, u12, u13, u14, u15, u16, u17, u18, u19, u20, u21, u22, u23, u24, u25, u26, u27, u28, u29, u30, u31, u32, u33, u34, u35, u36, u37, u38, u39, u40, u41, u42, u43, u44, u45, u46, u47, u48, u49, u50, u51, u52, u53, u54, u55, u56, u57, u58, u59, u60, u61, u62, u63, u64, u65, u66, u67, u68, u69, u70, u71, u72, u73, u74, u75, u76, u77, u78, u79, u80, u81, u82, u83, u84, u85, u86, u87, u88, u89, u90, u91, u92, u93, u94, u95, u96, u97, u98, u99, u100, u101, u102, u103, u104, u105, u106, u107, u108, u109, u110, u111, u112, u113, u114, u115, u116, u117, u118, u119, u120, u121, u122, u123, u124, u125, u126, u127, u128, u129, u130, u131, u132, u133, u134, u135, u136, u137, u138, u139, u140, u141, u142, u143, u144, u145, u146, u147, u148, u149, u150, u151, u152, u153, u154, u155, u156, u157, u158, u159, u160, u161, u162, u163, u164, u165, u166, u167, u168, u169, u170, u171, u172, u173, u174, u175, u176, u177, u178, u179, u180, u181, u182, u183, u184, u185, u186, u187, u188, u189, u190, u191, u192, u193, u194, u195, u196, u197, u198, u199, u200, u201, u202, u203, u204, u205, u206, u207, u208, u209, u210, u211, u212, u213, u214, u215, u216, u217, u218, u219, u220, u221, u222, u223, u224, u225, u226, u227], []⟩ w := by
  conv => arg 2; whnf
  have HI := Lib.hid (show identS (-1) = false by decide)
  have HD := Lib.hid (show decI (-1) = false by decide)
  obtain ⟨t0, t1, t2, t3, t4, f0, f1⟩ := h.facts
  go_upto_region 95 with (first | (go_at_call 25; refine (rstart_false _ _ HI.out).mono ?_; rintro e w' ⟨rfl, rfl⟩) | (go_at_call 30; refine (rdec_false _ _ HD.out).mono ?_; rintro e w' ⟨rfl, rfl⟩))
  have g2 := (h.setTyp (-1))
  clear t0 t1 t2 t3 t4 f0 f1 h
  generalize (w.setCell ⟨tb, 0, none⟩ (.int .i64 (-1))) = wq at g2 ⊢
  obtain ⟨t0, t1, t2, t3, t4, f0, f1⟩ := g2.facts
  obtain ⟨⟨r0, r1, r2, r3, r4⟩, q0, q1, q2, q3, q4⟩ := g2.rfacts
  go_wp2
  first | exact hQ _ _ (YRet.intro g2.fin rfl (fun _ => ⟨rfl, rfl, rfl⟩)) | exact (YRet.intro g2.fin rfl (fun _ => ⟨rfl, rfl, rfl⟩))


set_option maxRecDepth 1000000 in
set_option maxHeartbeats 16000000 in
theorem yt_61y {W0 w : World} {R M rb tb : Nat} {sv : Value} {all : List UInt8} {st : St} {prev line col : Int} {nl pn : Bool} {Q : Exit → Act → World → Prop} (h : Yk W0 R M sv all rb tb w st 0 ⟨#[]⟩ line col pn) (hx : (hd st.rest == 61) = true)
    (hQ : ∀ a w, YRet W0 R M sv all rb line col pn ((true, 57368, [61, 61], st.nextS) : Bool × Int × List UInt8 × St) a w → Q .ret a w) (u2 u3 u5 u9 u10 u11 u12 u13 u14 u15 u16 u17 u18 u19 u20 u21 u22 u23 u24 u25 u26 u27 u28 u29 u30 u31 u32 u33 u34 u35 u36 u37 u38 u39 u40 u41 u42 u43 u44 u45 u46 u47 u48 u49 u50 u51 u52 u53 u54 u55 u56 u57 u58 u59 u60 u61 u62 u63 u64 u65 u66 u67 u68 u69 u70 u71 u72 u73 u74 u75 u76 u77 u78 u79 u80 u81 u82 u83 u84 u85 u86 u87 u88 u89 u90 u91 u92 u93 u94 u95 u96 u97 u98 u99 u100 u101 u102 u103 u104 u105 u106 u107 u108 u109 u110 u111 u112 u113 u114 u115 u116 u117 u118 u119 u120 u121 u122 u123 u124 u125 u126 u127 u128 u129 u130 u131 u132 u133 u134 u135 u136 u137 u138 u139 u140 u141 u142 u143 u144 u145 u146 u147 u148 u149 u150 u151 u152 u153 u154 u155 u156 u157 u158 u159 u160 u161 u162 u163 u164 u165 u166 u167 u168 u169 u170 u171 u172 u173 u174 u175 u176 u177 u178 u179 u180 u181 u182 u183 u184 u185 u186 u187 u188 u189 u190 u191 u192 u193 u194 u195 u196 u197 u198 u199 u200 u201 u202 u203 u204 u205 u206 u207 u208 u209 u210 u211 u212 u213 u214 u215 u216 u217 u218 u219 u220 u221 u222 u223 u224 u225 u226 u227 : Value) : Code.wp Tryz.prog yM Q ⟨#[Value.pointer (some ⟨R, 0, none⟩), Value.int .i64 prev, u2, u3, Value.pointer (some ⟨rb, 0, none⟩), u5, Value.bool nl, Value.int .i64 (61), Value.pointer (some ⟨tb, 0, none⟩), u9, u10, u11, u12, u13, u14, u15, u16, u17, u18, u19, u20, u21, u22, u23, u24, u25, u26, u27, u28, u29, u30, u31, u32, u33, u34, u35, u36, u37, u38, u39, u40, u41, u42, u43, u44, u45, u46, u47, u48, u49, u50, u51, u52, u53, u54, u55, u56, u57, u58, u59, u60, u61, u62, u63, u64, u65, u66, u67, u68, u69, u70, u71, u72, u73, u74, u75, u76, u77, u78, u79, u80, u81, u82, u83, u84, u85, u86, u87, u88, u89, u90, u91, u92, u93, u94, u95, u96, u97, u98, u99, u100, u101, u102, u103, u104, u105, u106, u107, u108, u109, u110, u111, u112, u113, u114, u115, u116, u117, u118, u119, u120, u121, u122, u123, u124, u125, u126, u127, u128, u129, u130, u131, u132, u133, u134, u135, u136, u137, u138, u139, u140, u141, u142, u143, u144, u145, u146, u147, u148, u149, u150, u151, u152, u153, u154, u155, u156, u157, u158, u159, u160, u161, u162, u163, u164, u165, u166, u167, u168, u169, u170, u171, u172, u173, u174, u175, u176, u177, u178, u179, u180, u181, u182, u183, u184, u185, u186, u187, u188, u189, u190, u191, u192, u193, u194, u195, u196, u197, u198, u199, u200, u201, u202, u203, u204, u205, u206, u207, u208, u209, u210, u211, u212, u213, u214, u215, u216, u217, u218, u219, u220, u221, u222, u223, u224, u225, u226, u227], []⟩ w := by
  conv => arg 2; whnf
  have HI := Lib.hid (show identS (61) = false by decide)
  have HD := Lib.hid (show decI (61) = false by decide)
  have hne := h.ne
  have hw := rtwo_1 w R M sv all st tb 61 57368 ⟨#[61, 61]⟩ 0 ⟨#[]⟩ line col pn h.rf h.hT hne.1 hne.2 hx
  have HW := Lib.hid hw
  clear hne hw
  go_wp2_with (first | (go_at_call 25; refine (rstart_false _ _ HI.out).mono ?_; rintro e w' ⟨rfl, rfl⟩) | (go_at_call 30; refine (rdec_false _ _ HD.out).mono ?_; rintro e w' ⟨rfl, rfl⟩) | (go_at_call 35; refine (HW.out).mono ?_; rintro e w1 ⟨rfl, rx, bx, fx⟩; refine Hid.out ?_))
  refine Lib.hid ?_
  have g1 := h.two rx bx fx
  clear h rx bx fx
  have g2 := g1
  clear g1 HW
  obtain ⟨t0, t1, t2, t3, t4, f0, f1⟩ := g2.facts
  obtain ⟨⟨r0, r1, r2, r3, r4⟩, q0, q1, q2, q3, q4⟩ := g2.rfacts
  go_wp2
  first | exact hQ _ _ (YRet.intro g2.fin rfl (fun _ => ⟨rfl, rfl, rfl⟩)) | exact (YRet.intro g2.fin rfl (fun _ => ⟨rfl, rfl, rfl⟩))

set_option maxRecDepth 1000000 in
set_option maxHeartbeats 16000000 in
theorem yt_61n {W0 w : World} {R M rb tb : Nat} {sv : Value} {all : List UInt8} {st : St} {prev line col : Int} {nl pn : Bool} {Q : Exit → Act → World → Prop} (h : Yk W0 R M sv all rb tb w st 0 ⟨#[]⟩ line col pn) (hx : (hd st.rest == 61) = false)
    (hQ : ∀ a w, YRet W0 R M sv all rb line col pn (one 61 st) a w → Q .ret a w) (u2 u3 u5 u9 u10 u11 u12 u13 u14 u15 u16 u17 u18 u19 u20 u21 u22 u23 u24 u25 u26 u27 u28 u29 u30 u31 u32 u33 u34 u35 u36 u37 u38 u39 u40 u41 u42 u43 u44 u45 u46 u47 u48 u49 u50 u51 u52 u53 u54 u55 u56 u57 u58 u59 u60 u61 u62 u63 u64 u65 u66 u67 u68 u69 u70 u71 u72 u73 u74 u75 u76 u77 u78 u79 u80 u81 u82 u83 u84 u85 u86 u87 u88 u89 u90 u91 u92 u93 u94 u95 u96 u97 u98 u99 u100 u101 u102 u103 u104 u105 u106 u107 u108 u109 u110 u111 u112 u113 u114 u115 u116 u117 u118 u119 u120 u121 u122 u123 u124 u125 u126 u127 u128 u129 u130 u131 u132 u133 u134 u135 u136 u137 u138 u139 u140 u141 u142 u143 u144 u145 u146 u147 u148 u149 u150 u151 u152 u153 u154 u155 u156 u157 u158 u159 u160 u161 u162 u163 u164 u165 u166 u167 u168 u169 u170 u171 u172 u173 u174 u175 u176 u177 u178 u179 u180 u181 u182 u183 u184 u185 u186 u187 u188 u189 u190 u191 u192 u193 u194 u195 u196 u197 u198 u199 u200 u201 u202 u203 u204 u205 u206 u207 u208 u209 u210 u211 u212 u213 u214 u215 u216 u217 u218 u219 u220 u221 u222 u223 u224 u225 u226 u227 : Value) : Code.wp Tryz.prog yM Q ⟨#[Value.pointer (some ⟨R, 0, none⟩), Value.int .i64 prev, u2, u3, Value.pointer (some ⟨rb, 0, none⟩), u5, Value.bool nl, Value.int .i64 (61), Value.pointer (some ⟨tb, 0, none⟩), u9, u10, u11, u12, u13, u14, u15, u16, u17, u18, u19, u20, u21, u22, u23, u24, u25, u26, u27, u28, u29, u30, u31, u32, u33, u34, u35, u36, u37, u38, u39, u40, u41, u42, u43, u44, u45, u46, u47, u48, u49, u50, u51, u52, u53, u54, u55, u56, u57, u58, u59, u60, u61, u62, u63, u64, u65, u66, u67, u68, u69, u70, u71, u72, u73, u74, u75, u76, u77, u78, u79, u80, u81, u82, u83, u84, u85, u86, u87, u88, u89, u90, u91, u92, u93, u94, u95, u96, u97, u98, u99, u100, u101, u102, u103, u104, u105, u106, u107, u108, u109, u110, u111, u112, u113, u114, u115, u116, u117, u118, u119, u120, u121, u122, u123, u124, u125, u126, u127, u128, u129, u130, u131, u132, u133, u134, u135, u136, u137, u138, u139, u140, u141, u142, u143, u144, u145, u146, u147, u148, u149, u150, u151, u152, u153, u154, u155, u156, u157, u158, u159, u160, u161, u162, u163, u164, u165, u166, u167, u168, u169, u170, u171, u172, u173, u174, u175, u176, u177, u178, u179, u180, u181, u182, u183, u184, u185, u186, u187, u188, u189, u190, u191, u192, u193, u194, u195, u196, u197, u198, u199, u200, u201, u202, u203, u204, u205, u206, u207, u208, u209, u210, u211, u212, u213, u214, u215, u216, u217, u218, u219, u220, u221, u222, u223, u224, u225, u226, u227], []⟩ w := by
  conv => arg 2; whnf
  have HI := Lib.hid (show identS (61) = false by decide)
  have HD := Lib.hid (show decI (61) = false by decide)
  have hne := h.ne
  have hw := rtwo_0 w R M sv all st tb 61 57368 ⟨#[61, 61]⟩ 0 ⟨#[]⟩ line col pn h.rf h.hT hne.1 hne.2 hx
  have HW := Lib.hid hw
  clear hne hw
  go_wp2_with (first | (go_at_call 25; refine (rstart_false _ _ HI.out).mono ?_; rintro e w' ⟨rfl, rfl⟩) | (go_at_call 30; refine (rdec_false _ _ HD.out).mono ?_; rintro e w' ⟨rfl, rfl⟩) | (go_at_call 35; refine (HW.out).mono ?_; rintro e w1 ⟨rfl, rx, bx, fx⟩; refine Hid.out ?_))
  refine Lib.hid ?_
  have g1 := h.two rx bx fx
  clear h rx bx fx
  have g2 := g1
  clear g1 HW
  obtain ⟨t0, t1, t2, t3, t4, f0, f1⟩ := g2.facts
  obtain ⟨⟨r0, r1, r2, r3, r4⟩, q0, q1, q2, q3, q4⟩ := g2.rfacts
  go_wp2
  first | exact hQ _ _ (YRet.intro g2.fin rfl (fun _ => ⟨rfl, rfl, rfl⟩)) | exact (YRet.intro g2.fin rfl (fun _ => ⟨rfl, rfl, rfl⟩))


set_option maxRecDepth 1000000 in
set_option maxHeartbeats 16000000 in
theorem yt_60y {W0 w : World} {R M rb tb : Nat} {sv : Value} {all : List UInt8} {st : St} {prev line col : Int} {nl pn : Bool} {Q : Exit → Act → World → Prop} (h : Yk W0 R M sv all rb tb w st 0 ⟨#[]⟩ line col pn) (hx : (hd st.rest == 61) = true)
    (hQ : ∀ a w, YRet W0 R M sv all rb line col pn ((true, 57370, [60, 61], st.nextS) : Bool × Int × List UInt8 × St) a w → Q .ret a w) (u2 u3 u5 u9 u10 u11 u12 u13 u14 u15 u16 u17 u18 u19 u20 u21 u22 u23 u24 u25 u26 u27 u28 u29 u30 u31 u32 u33 u34 u35 u36 u37 u38 u39 u40 u41 u42 u43 u44 u45 u46 u47 u48 u49 u50 u51 u52 u53 u54 u55 u56 u57 u58 u59 u60 u61 u62 u63 u64 u65 u66 u67 u68 u69 u70 u71 u72 u73 u74 u75 u76 u77 u78 u79 u80 u81 u82 u83 u84 u85 u86 u87 u88 u89 u90 u91 u92 u93 u94 u95 u96 u97 u98 u99 u100 u101 u102 u103 u104 u105 u106 u107 u108 u109 u110 u111 u112 u113 u114 u115 u116 u117 u118 u119 u120 u121 u122 u123 u124 u125 u126 u127 u128 u129 u130 u131 u132 u133 u134 u135 u136 u137 u138 u139 u140 u141 u142 u143 u144 u145 u146 u147 u148 u149 u150 u151 u152 u153 u154 u155 u156 u157 u158 u159 u160 u161 u162 u163 u164 u165 u166 u167 u168 u169 u170 u171 u172 u173 u174 u175 u176 u177 u178 u179 u180 u181 u182 u183 u184 u185 u186 u187 u188 u189 u190 u191 u192 u193 u194 u195 u196 u197 u198 u199 u200 u201 u202 u203 u204 u205 u206 u207 u208 u209 u210 u211 u212 u213 u214 u215 u216 u217 u218 u219 u220 u221 u222 u223 u224 u225 u226 u227 : Value) : Code.wp Tryz.prog yM Q ⟨#[Value.pointer (some ⟨R, 0, none⟩), Value.int .i64 prev, u2, u3, Value.pointer (some ⟨rb, 0, none⟩), u5, Value.bool nl, Value.int .i64 (60), Value.pointer (some ⟨tb, 0, none⟩), u9, u10, u11, u12, u13, u14, u15, u16, u17, u18, u19, u20, u21, u22, u23, u24, u25, u26, u27, u28, u29, u30, u31, u32, u33, u34, u35, u36, u37, u38, u39, u40, u41, u42, u43, u44, u45, u46, u47, u48, u49, u50, u51, u52, u53, u54, u55, u56, u57, u58, u59, u60, u61, u62, u63, u64, u65, u66, u67, u68, u69, u70, u71, u72, u73, u74, u75, u76, u77, u78, u79, u80, u81, u82, u83, u84, u85, u86, u87, u88, u89, u90, u91, u92, u93, u94, u95, u96, u97, u98, u99, u100, u101, u102, u103, u104, u105, u106, u107, u108, u109, u110, u111, u112, u113, u114, u115, u116, u117, u118, u119, u120, u121, u122, u123, u124, u125, u126, u127, u128, u129, u130, u131, u132, u133, u134, u135, u136, u137, u138, u139, u140, u141, u142, u143, u144, u145, u146, u147, u148, u149, u150, u151, u152, u153, u154, u155, u156, u157, u158, u159, u160, u161, u162, u163, u164, u165, u166, u167, u168, u169, u170, u171, u172, u173, u174, u175, u176, u177, u178, u179, u180, u181, u182, u183, u184, u185, u186, u187, u188, u189, u190, u191, u192, u193, u194, u195, u196, u197, u198, u199, u200, u201, u202, u203, u204, u205, u206, u207, u208, u209, u210, u211, u212, u213, u214, u215, u216, u217, u218, u219, u220, u221, u222, u223, u224, u225, u226, u227], []⟩ w := by
  conv => arg 2; whnf
  have HI := Lib.hid (show identS (60) = false by decide)
  have HD := Lib.hid (show decI (60) = false by decide)
  have hne := h.ne
  have hw := rtwo_1 w R M sv all st tb 60 57370 ⟨#[60, 61]⟩ 0 ⟨#[]⟩ line col pn h.rf h.hT hne.1 hne.2 hx
  have HW := Lib.hid hw
  clear hne hw
  go_wp2_with (first | (go_at_call 25; refine (rstart_false _ _ HI.out).mono ?_; rintro e w' ⟨rfl, rfl⟩) | (go_at_call 30; refine (rdec_false _ _ HD.out).mono ?_; rintro e w' ⟨rfl, rfl⟩) | (go_at_call 35; refine (HW.out).mono ?_; rintro e w1 ⟨rfl, rx, bx, fx⟩; refine Hid.out ?_))
  refine Lib.hid ?_
  have g1 := h.two rx bx fx
  clear h rx bx fx
  have g2 := g1
  clear g1 HW
  obtain ⟨t0, t1, t2, t3, t4, f0, f1⟩ := g2.facts
  obtain ⟨⟨r0, r1, r2, r3, r4⟩, q0, q1, q2, q3, q4⟩ := g2.rfacts
  go_wp2
  first | exact hQ _ _ (YRet.intro g2.fin rfl (fun _ => ⟨rfl, rfl, rfl⟩)) | exact (YRet.intro g2.fin rfl (fun _ => ⟨rfl, rfl, rfl⟩))

set_option maxRecDepth 1000000 in
set_option maxHeartbeats 16000000 in
theorem yt_60n {W0 w : World} {R M rb tb : Nat} {sv : Value} {all : List UInt8} {st : St} {prev line col : Int} {nl pn : Bool} {Q : Exit → Act → World → Prop} (h : Yk W0 R M sv all rb tb w st 0 ⟨#[]⟩ line col pn) (hx : (hd st.rest == 61) = false)
    (hQ : ∀ a w, YRet W0 R M sv all rb line col pn (one 60 st) a w → Q .ret a w) (u2 u3 u5 u9 u10 u11 u12 u13 u14 u15 u16 u17 u18 u19 u20 u21 u22 u23 u24 u25 u26 u27 u28 u29 u30 u31 u32 u33 u34 u35 u36 u37 u38 u39 u40 u41 u42 u43 u44 u45 u46 u47 u48 u49 u50 u51 u52 u53 u54 u55 u56 u57 u58 u59 u60 u61 u62 u63 u64 u65 u66 u67 u68 u69 u70 u71 u72 u73 u74 u75 u76 u77 u78 u79 u80 u81 u82 u83 u84 u85 u86 u87 u88 u89 u90 u91 u92 u93 u94 u95 u96 u97 u98 u99 u100 u101 u102 u103 u104 u105 u106 u107 u108 u109 u110 u111 u112 u113 u114 u115 u116 u117 u118 u119 u120 u121 u122 u123 u124 u125 u126 u127 u128 u129 u130 u131 u132 u133 u134 u135 u136 u137 u138 u139 u140 u141 u142 u143 u144 u145 u146 u147 u148 u149 u150 u151 u152 u153 u154 u155 u156 u157 u158 u159 u160 u161 u162 u163 u164 u165 u166 u167 u168 u169 u170 u171 u172 u173 u174 u175 u176 u177 u178 u179 u180 u181 u182 u183 u184 u185 u186 u187 u188 u189 u190 u191 u192 u193 u194 u195 u196 u197 u198 u199 u200 u201 u202 u203 u204 u205 u206 u207 u208 u209 u210 u211 u212 u213 u214 u215 u216 u217 u218 u219 u220 u221 u222 u223 u224 u225 u226 u227 : Value) : Code.wp Tryz.prog yM Q ⟨#[Value.pointer (some ⟨R, 0, none⟩), Value.int .i64 prev, u2, u3, Value.pointer (some ⟨rb, 0, none⟩), u5, Value.bool nl, Value.int .i64 (60), Value.pointer (some ⟨tb, 0, none⟩), u9, u10, u11, u12, u13, u14, u15, u16, u17, u18, u19, u20, u21, u22, u23, u24, u25, u26, u27, u28, u29, u30, u31, u32, u33, u34, u35, u36, u37, u38, u39, u40, u41, u42, u43, u44, u45, u46, u47, u48, u49, u50, u51, u52, u53, u54, u55, u56, u57, u58, u59, u60, u61, u62, u63, u64, u65, u66, u67, u68, u69, u70, u71, u72, u73, u74, u75, u76, u77, u78, u79, u80, u81, u82, u83, u84, u85, u86, u87, u88, u89, u90, u91, u92, u93, u94, u95, u96, u97, u98, u99, u100, u101, u102, u103, u104, u105, u106, u107, u108, u109, u110, u111, u112, u113, u114, u115, u116, u117, u118, u119, u120, u121, u122, u123, u124, u125, u126, u127, u128, u129, u130, u131, u132, u133, u134, u135, u136, u137, u138, u139, u140, u141, u142, u143, u144, u145, u146, u147, u148, u149, u150, u151, u152, u153, u154, u155, u156, u157, u158, u159, u160, u161, u162, u163, u164, u165, u166, u167, u168, u169, u170, u171, u172, u173, u174, u175, u176, u177, u178, u179, u180, u181, u182, u183, u184, u185, u186, u187, u188, u189, u190, u191, u192, u193, u194, u195, u196, u197, u198, u199, u200, u201, u202, u203, u204, u205, u206, u207, u208, u209, u210, u211, u212, u213, u214, u215, u216, u217, u218, u219, u220, u221, u222, u223, u224, u225, u226, u227], []⟩ w := by
  conv => arg 2; whnf
  have HI := Lib.hid (show identS (60) = false by decide)
  have HD := Lib.hid (show decI (60) = false by decide)
  have hne := h.ne
  have hw := rtwo_0 w R M sv all st tb 60 57370 ⟨#[60, 61]⟩ 0 ⟨#[]⟩ line col pn h.rf h.hT hne.1 hne.2 hx
  have HW := Lib.hid hw
  clear hne hw
  go_wp2_with (first | (go_at_call 25; refine (rstart_false _ _ HI.out).mono ?_; rintro e w' ⟨rfl, rfl⟩) | (go_at_call 30; refine (rdec_false _ _ HD.out).mono ?_; rintro e w' ⟨rfl, rfl⟩) | (go_at_call 35; refine (HW.out).mono ?_; rintro e w1 ⟨rfl, rx, bx, fx⟩; refine Hid.out ?_))
  refine Lib.hid ?_
  have g1 := h.two rx bx fx
  clear h rx bx fx
  have g2 := g1
  clear g1 HW
  obtain ⟨t0, t1, t2, t3, t4, f0, f1⟩ := g2.facts
  obtain ⟨⟨r0, r1, r2, r3, r4⟩, q0, q1, q2, q3, q4⟩ := g2.rfacts
  go_wp2
  first | exact hQ _ _ (YRet.intro g2.fin rfl (fun _ => ⟨rfl, rfl, rfl⟩)) | exact (YRet.intro g2.fin rfl (fun _ => ⟨rfl, rfl, rfl⟩))


set_option maxRecDepth 1000000 in
set_option maxHeartbeats 16000000 in
theorem yt_62y {W0 w : World} {R M rb tb : Nat} {sv : Value} {all : List UInt8} {st : St} {prev line col : Int} {nl pn : Bool} {Q : Exit → Act → World → Prop} (h : Yk W0 R M sv all rb tb w st 0 ⟨#[]⟩ line col pn) (hx : (hd st.rest == 61) = true)
    (hQ : ∀ a w, YRet W0 R M sv all rb line col pn ((true, 57371, [62, 61], st.nextS) : Bool × Int × List UInt8 × St) a w → Q .ret a w) (u2 u3 u5 u9 u10 u11 u12 u13 u14 u15 u16 u17 u18 u19 u20 u21 u22 u23 u24 u25 u26 u27 u28 u29 u30 u31 u32 u33 u34 u35 u36 u37 u38 u39 u40 u41 u42 u43 u44 u45 u46 u47 u48 u49 u50 u51 u52 u53 u54 u55 u56 u57 u58 u59 u60 u61 u62 u63 u64 u65 u66 u67 u68 u69 u70 u71 u72 u73 u74 u75 u76 u77 u78 u79 u80 u81 u82 u83 u84 u85 u86 u87 u88 u89 u90 u91 u92 u93 u94 u95 u96 u97 u98 u99 u100 u101 u102 u103 u104 u105 u106 u107 u108 u109 u110 u111 u112 u113 u114 u115 u116 u117 u118 u119 u120 u121 u122 u123 u124 u125 u126 u127 u128 u129 u130 u131 u132 u133 u134 u135 u136 u137 u138 u139 u140 u141 u142 u143 u144 u145 u146 u147 u148 u149 u150 u151 u152 u153 u154 u155 u156 u157 u158 u159 u160 u161 u162 u163 u164 u165 u166 u167 u168 u169 u170 u171 u172 u173 u174 u175 u176 u177 u178 u179 u180 u181 u182 u183 u184 u185 u186 u187 u188 u189 u190 u191 u192 u193 u194 u195 u196 u197 u198 u199 u200 u201 u202 u203 u204 u205 u206 u207 u208 u209 u210 u211 u212 u213 u214 u215 u216 u217 u218 u219 u220 u221 u222 u223 u224 u225 u226 u227 : Value) : Code.wp Tryz.prog yM Q ⟨#[Value.pointer (some ⟨R, 0, none⟩), Value.int .i64 prev, u2, u3, Value.pointer (some ⟨rb, 0, none⟩), u5, Value.bool nl, Value.int .i64 (62), Value.pointer (some ⟨tb, 0, none⟩), u9, u10, u11, u12, u13, u14, u15, u16, u17, u18, u19, u20, u21, u22, u23, u24, u25, u26, u27, u28, u29, u30, u31, u32, u33, u34, u35, u36, u37, u38, u39, u40, u41, u42, u43, u44, u45, u46, u47, u48, u49, u50, u51, u52, u53, u54, u55, u56, u57, u58, u59, u60, u61, u62, u63, u64, u65, u66, u67, u68, u69, u70, u71, u72, u73, u74, u75, u76, u77, u78, u79, u80, u81, u82, u83, u84, u85, u86, u87, u88, u89, u90, u91, u92, u93, u94, u95, u96, u97, u98, u99, u100, u101, u102, u103, u104, u105, u106, u107, u108, u109, u110, u111, u112, u113, u114, u115, u116, u117, u118, u119, u120, u121, u122, u123, u124, u125, u126, u127, u128, u129, u130, u131, u132, u133, u134, u135, u136, u137, u138, u139, u140, u141, u142, u143, u144, u145, u146, u147, u148, u149, u150, u151, u152, u153, u154, u155, u156, u157, u158, u159, u160, u161, u162, u163, u164, u165, u166, u167, u168, u169, u170, u171, u172, u173, u174, u175, u176, u177, u178, u179, u180, u181, u182, u183, u184, u185, u186, u187, u188, u189, u190, u191, u192, u193, u194, u195, u196, u197, u198, u199, u200, u201, u202, u203, u204, u205, u206, u207, u208, u209, u210, u211, u212, u213, u214, u215, u216, u217, u218, u219, u220, u221, u222, u223, u224, u225, u226, u227], []⟩ w := by
  conv => arg 2; whnf
  have HI := Lib.hid (show identS (62) = false by decide)
  have HD := Lib.hid (show decI (62) = false by decide)
  have hne := h.ne
  have hw := rtwo_1 w R M sv all st tb 62 57371 ⟨#[62, 61]⟩ 0 ⟨#[]⟩ line col pn h.rf h.hT hne.1 hne.2 hx
  have HW := Lib.hid hw
  clear hne hw
  go_wp2_with (first | (go_at_call 25; refine (rstart_false _ _ HI.out).mono ?_; rintro e w' ⟨rfl, rfl⟩) | (go_at_call 30; refine (rdec_false _ _ HD.out).mono ?_; rintro e w' ⟨rfl, rfl⟩) | (go_at_call 35; refine (HW.out).mono ?_; rintro e w1 ⟨rfl, rx, bx, fx⟩; refine Hid.out ?_))
  refine Lib.hid ?_
  have g1 := h.two rx bx fx
  clear h rx bx fx
  have g2 := g1
  clear g1 HW
  obtain ⟨t0, t1, t2, t3, t4, f0, f1⟩ := g2.facts
  obtain ⟨⟨r0, r1, r2, r3, r4⟩, q0, q1, q2, q3, q4⟩ := g2.rfacts
  go_wp2
  first | exact hQ _ _ (YRet.intro g2.fin rfl (fun _ => ⟨rfl, rfl, rfl⟩)) | exact (YRet.intro g2.fin rfl (fun _ => ⟨rfl, rfl, rfl⟩))

set_option maxRecDepth 1000000 in
set_option maxHeartbeats 16000000 in
theorem yt_62n {W0 w : World} {R M rb tb : Nat} {sv : Value} {all : List UInt8} {st : St} {prev line col : Int} {nl pn : Bool} {Q : Exit → Act → World → Prop} (h : Yk W0 R M sv all rb tb w st 0 ⟨#[]⟩ line col pn) (hx : (hd st.rest == 61) = false)
    (hQ : ∀ a w, YRet W0 R M sv all rb line col pn (one 62 st) a w → Q .ret a w) (u2 u3 u5 u9 u10 u11 u12 u13 u14 u15 u16 u17 u18 u19 u20 u21 u22 u23 u24 u25 u26 u27 u28 u29 u30 u31 u32 u33 u34 u35 u36 u37 u38 u39 u40 u41 u42 u43 u44 u45 u46 u47 u48 u49 u50 u51 u52 u53 u54 u55 u56 u57 u58 u59 u60 u61 u62 u63 u64 u65 u66 u67 u68 u69 u70 u71 u72 u73 u74 u75 u76 u77 u78 u79 u80 u81 u82 u83 u84 u85 u86 u87 u88 u89 u90 u91 u92 u93 u94 u95 u96 u97 u98 u99 u100 u101 u102 u103 u104 u105 u106 u107 u108 u109 u110 u111 u112 u113 u114 u115 u116 u117 u118 u119 u120 u121 u122 u123 u124 u125 u126 u127 u128 u129 u130 u131 u132 u133 u134 u135 u136 u137 u138 u139 u140 u141 u142 u143 u144 u145 u146 u147 u148 u149 u150 u151 u152 u153 u154 u155 u156 u157 u158 u159 u160 u161 u162 u163 u164 u165 u166 u167 u168 u169 u170 u171 u172 u173 u174 u175 u176 u177 u178 u179 u180 u181 u182 u183 u184 u185 u186 u187 u188 u189 u190 u191 u192 u193 u194 u195 u196 u197 u198 u199 u200 u201 u202 u203 u204 u205 u206 u207 u208 u209 u210 u211 u212 u213 u214 u215 u216 u217 u218 u219 u220 u221 u222 u223 u224 u225 u226 u227 : Value) : Code.wp Tryz.prog yM Q ⟨#[Value.pointer (some ⟨R, 0, none⟩), Value.int .i64 prev, u2, u3, Value.pointer (some ⟨rb, 0, none⟩), u5, Value.bool nl, Value.int .i64 (62), Value.pointer (some ⟨tb, 0, none⟩), u9, u10, u11, u12, u13, u14, u15, u16, u17, u18, u19, u20, u21, u22, u23, u24, u25, u26, u27, u28, u29, u30, u31, u32, u33, u34, u35, u36, u37, u38, u39, u40, u41, u42, u43, u44, u45, u46, u47, u48, u49, u50, u51, u52, u53, u54, u55, u56, u57, u58, u59, u60, u61, u62, u63, u64, u65, u66, u67, u68, u69, u70, u71, u72, u73, u74, u75, u76, u77, u78, u79, u80, u81, u82, u83, u84, u85, u86, u87, u88, u89, u90, u91, u92, u93, u94, u95, u96, u97, u98, u99, u100, u101, u102, u103, u104, u105, u106, u107, u108, u109, u110, u111, u112, u113, u114, u115, u116, u117, u118, u119, u120, u121, u122, u123, u124, u125, u126, u127, u128, u129, u130, u131, u132, u133, u134, u135, u136, u137, u138, u139, u140, u141, u142, u143, u144, u145, u146, u147, u148, u149, u150, u151, u152, u153, u154, u155, u156, u157, u158, u159, u160, u161, u162, u163, u164, u165, u166, u167, u168, u169, u170, u171, u172, u173, u174, u175, u176, u177, u178, u179, u180, u181, u182, u183, u184, u185, u186, u187, u188, u189, u190, u191, u192, u193, u194, u195, u196, u197, u198, u199, u200, u201, u202, u203, u204, u205, u206, u207, u208, u209, u210, u211, u212, u213, u214, u215, u216, u217, u218, u219, u220, u221, u222, u223, u224, u225, u226, u227], []⟩ w := by
  conv => arg 2; whnf
  have HI := Lib.hid (show identS (62) = false by decide)
  have HD := Lib.hid (show decI (62) = false by decide)
  have hne := h.ne
  have hw := rtwo_0 w R M sv all st tb 62 57371 ⟨#[62, 61]⟩ 0 ⟨#[]⟩ line col pn h.rf h.hT hne.1 hne.2 hx
  have HW := Lib.hid hw
  clear hne hw
  go_wp2_with (first | (go_at_call 25; refine (rstart_false _ _ HI.out).mono ?_; rintro e w' ⟨rfl, rfl⟩) | (go_at_call 30; refine (rdec_false _ _ HD.out).mono ?_; rintro e w' ⟨rfl, rfl⟩) | (go_at_call 35; refine (HW.out).mono ?_; rintro e w1 ⟨rfl, rx, bx, fx⟩; refine Hid.out ?_))
  refine Lib.hid ?_
  have g1 := h.two rx bx fx
  clear h rx bx fx
  have g2 := g1
  clear g1 HW
  obtain ⟨t0, t1, t2, t3, t4, f0, f1⟩ := g2.facts
  obtain ⟨⟨r0, r1, r2, r3, r4⟩, q0, q1, q2, q3, q4⟩ := g2.rfacts
  go_wp2
  first | exact hQ _ _ (YRet.intro g2.fin rfl (fun _ => ⟨rfl, rfl, rfl⟩)) | exact (YRet.intro g2.fin rfl (fun _ => ⟨rfl, rfl, rfl⟩))


set_option maxRecDepth 1000000 in
set_option maxHeartbeats 16000000 in
theorem yt_126y {W0 w : World} {R M rb tb : Nat} {sv : Value} {all : List UInt8} {st : St} {prev line col : Int} {nl pn : Bool} {Q : Exit → Act → World → Prop} (h : Yk W0 R M sv all rb tb w st 0 ⟨#[]⟩ line col pn) (hx : (hd st.rest == 61) = true)
    (hQ : ∀ a w, YRet W0 R M sv all rb line col pn ((true, 57369, [126, 61], st.nextS) : Bool × Int × List UInt8 × St) a w → Q .ret a w) (u2 u3 u5 u9 u10 u11 u12 u13 u14 u15 u16 u17 u18 u19 u20 u21 u22 u23 u24 u25 u26 u27 u28 u29 u30 u31 u32 u33 u34 u35 u36 u37 u38 u39 u40 u41 u42 u43 u44 u45 u46 u47 u48 u49 u50 u51 u52 u53 u54 u55 u56 u57 u58 u59 u60 u61 u62 u63 u64 u65 u66 u67 u68 u69 u70 u71 u72 u73 u74 u75 u76 u77 u78 u79 u80 u81 u82 u83 u84 u85 u86 u87 u88 u89 u90 u91 u92 u93 u94 u95 u96 u97 u98 u99 u100 u101 u102 u103 u104 u105 u106 u107 u108 u109 u110 u111 u112 u113 u114 u115 u116 u117 u118 u119 u120 u121 u122 u123 u124 u125 u126 u127 u128 u129 u130 u131 u132 u133 u134 u135 u136 u137 u138 u139 u140 u141 u142 u143 u144 u145 u146 u147 u148 u149 u150 u151 u152 u153 u154 u155 u156 u157 u158 u159 u160 u161 u162 u163 u164 u165 u166 u167 u168 u169 u170 u171 u172 u173 u174 u175 u176 u177 u178 u179 u180 u181 u182 u183 u184 u185 u186 u187 u188 u189 u190 u191 u192 u193 u194 u195 u196 u197 u198 u199 u200 u201 u202 u203 u204 u205 u206 u207 u208 u209 u210 u211 u212 u213 u214 u215 u216 u217 u218 u219 u220 u221 u222 u223 u224 u225 u226 u227 : Value) : Code.wp Tryz.prog yM Q ⟨#[Value.pointer (some ⟨R, 0, none⟩), Value.int .i64 prev, u2, u3, Value.pointer (some ⟨rb, 0, none⟩), u5, Value.bool nl, Value.int .i64 (126), Value.pointer (some ⟨tb, 0, none⟩), u9, u10, u11, u12, u13, u14, u15, u16, u17, u18, u19, u20, u21, u22, u23, u24, u25, u26, u27, u28, u29, u30, u31, u32, u33, u34, u35, u36, u37, u38, u39, u40, u41, u42, u43, u44, u45, u46, u47, u48, u49, u50, u51, u52, u53, u54, u55, u56, u57, u58, u59, u60, u61, u62, u63, u64, u65, u66, u67, u68, u69, u70, u71, u72, u73, u74, u75, u76, u77, u78, u79, u80, u81, u82, u83, u84, u85, u86, u87, u88, u89, u90, u91, u92, u93, u94, u95, u96, u97, u98, u99, u100, u101, u102, u103, u104, u105, u106, u107, u108, u109, u110, u111, u112, u113, u114, u115, u116, u117, u118, u119, u120, u121, u122, u123, u124, u125, u126, u127, u128, u129, u130, u131, u132, u133, u134, u135, u136, u137, u138, u139, u140, u141, u142, u143, u144, u145, u146, u147, u148, u149, u150, u151, u152, u153, u154, u155, u156, u157, u158, u159, u160, u161, u162, u163, u164, u165, u166, u167, u168, u169, u170, u171, u172, u173, u174, u175, u176, u177, u178, u179, u180, u181, u182, u183, u184, u185, u186, u187, u188, u189, u190, u191, u192, u193, u194, u195, u196, u197, u198, u199, u200, u201, u202, u203, u204, u205, u206, u207, u208, u209, u210, u211, u212, u213, u214, u215, u216, u217, u218, u219, u220, u221, u222, u223, u224, u225, u226, u227], []⟩ w := by
  conv => arg 2; whnf
  have HI := Lib.hid (show identS (126) = false by decide)
  have HD := Lib.hid (show decI (126) = false by decide)
  go_wp2_with (first | (go_at_call 25; refine (rstart_false _ _ HI.out).mono ?_; rintro e w' ⟨rfl, rfl⟩) | (go_at_call 30; refine (rdec_false _ _ HD.out).mono ?_; rintro e w' ⟨rfl, rfl⟩) | (go_at_call 27; refine (peek_rf _ R M sv all _ h.rf).mono ?_; rintro e w1 ⟨rfl, fx⟩; refine Hid.out ?_))
  refine Lib.hid ?_
  have h1 := h.still fx
  clear h fx
  go_wp2_with (go_at_call 28; refine (next_rf _ R M sv all _ h1.rf).mono ?_; rintro e w2 ⟨rfl, rx, fx⟩; refine Hid.out ?_)
  refine Lib.hid ?_
  have h2 := h1.step rx fx
  clear h1 rx fx
  obtain ⟨t0, t1, t2, t3, t4, f0, f1⟩ := h2.facts
  go_upto_region 95 with fail
  have g2 := ((h2.setTyp (57369)).setStr ⟨#[126, 61]⟩)
  clear t0 t1 t2 t3 t4 f0 f1 h2
  generalize ((w2.setCell ⟨tb, 0, none⟩ (.int .i64 (57369))).setCell ⟨tb, 1, none⟩ (.string ⟨#[126, 61]⟩)) = wq at g2 ⊢
  obtain ⟨t0, t1, t2, t3, t4, f0, f1⟩ := g2.facts
  obtain ⟨⟨r0, r1, r2, r3, r4⟩, q0, q1, q2, q3, q4⟩ := g2.rfacts
  go_wp2
  first | exact hQ _ _ (YRet.intro g2.fin rfl (fun _ => ⟨rfl, rfl, rfl⟩)) | exact (YRet.intro g2.fin rfl (fun _ => ⟨rfl, rfl, rfl⟩))

set_option maxRecDepth 1000000 in
set_option maxHeartbeats 16000000 in
theorem yt_126n {W0 w : World} {R M rb tb : Nat} {sv : Value} {all : List UInt8} {st : St} {prev line col : Int} {nl pn : Bool} {Q : Exit → Act → World → Prop} (h : Yk W0 R M sv all rb tb w st 0 ⟨#[]⟩ line col pn) (hx : (hd st.rest == 61) = false)
    (hQ : ∀ a w, YRet W0 R M sv all rb line col pn ((false, 0, [], st) : Bool × Int × List UInt8 × St) a w → Q .ret a w) (u2 u3 u5 u9 u10 u11 u12 u13 u14 u15 u16 u17 u18 u19 u20 u21 u22 u23 u24 u25 u26 u27 u28 u29 u30 u31 u32 u33 u34 u35 u36 u37 u38 u39 u40 u41 u42 u43 u44 u45 u46 u47 u48 u49 u50 u51 u52 u53 u54 u55 u56 u57 u58 u59 u60 u61 u62 u63 u64 u65 u66 u67 u68 u69 u70 u71 u72 u73 u74 u75 u76 u77 u78 u79 u80 u81 u82 u83 u84 u85 u86 u87 u88 u89 u90 u91 u92 u93 u94 u95 u96 u97 u98 u99 u100 u101 u102 u103 u104 u105 u106 u107 u108 u109 u110 u111 u112 u113 u114 u115 u116 u117 u118 u119 u120 u121 u122 u123 u124 u125 u126 u127 u128 u129 u130 u131 u132 u133 u134 u135 u136 u137 u138 u139 u140 u141 u142 u143 u144 u145 u146 u147 u148 u149 u150 u151 u152 u153 u154 u155 u156 u157 u158 u159 u160 u161 u162 u163 u164 u165 u166 u167 u168 u169 u170 u171 u172 u173 u174 u175 u176 u177 u178 u179 u180 u181 u182 u183 u184 u185 u186 u187 u188 u189 u190 u191 u192 u193 u194 u195 u196 u197 u198 u199 u200 u201 u202 u203 u204 u205 u206 u207 u208 u209 u210 u211 u212 u213 u214 u215 u216 u217 u218 u219 u220 u221 u222 u223 u224 u225 u226 u227 : Value) : Code.wp Tryz.prog yM Q ⟨#[Value.pointer (some ⟨R, 0, none⟩), Value.int .i64 prev, u2, u3, Value.pointer (some ⟨rb, 0, none⟩), u5, Value.bool nl, Value.int .i64 (126), Value.pointer (some ⟨tb, 0, none⟩), u9, u10, u11, u12, u13, u14, u15, u16, u17, u18, u19, u20, u21, u22, u23, u24, u25, u26, u27, u28, u29, u30, u31, u32, u33, u34, u35, u36, u37, u38, u39, u40, u41, u42, u43, u44, u45, u46, u47, u48, u49, u50, u51, u52, u53, u54, u55, u56, u57, u58, u59, u60, u61, u62, u63, u64, u65, u66, u67, u68, u69, u70, u71, u72, u73, u74, u75, u76, u77, u78, u79, u80, u81, u82, u83, u84, u85, u86, u87, u88, u89, u90, u91, u92, u93, u94, u95, u96, u97, u98, u99, u100, u101, u102, u103, u104, u105, u106, u107, u108, u109, u110, u111, u112, u113, u114, u115, u116, u117, u118, u119, u120, u121, u122, u123, u124, u125, u126, u127, u128, u129, u130, u131, u132, u133, u134, u135, u136, u137, u138, u139, u140, u141, u142, u143, u144, u145, u146, u147, u148, u149, u150, u151, u152, u153, u154, u155, u156, u157, u158, u159, u160, u161, u162, u163, u164, u165, u166, u167, u168, u169, u170, u171, u172, u173, u174, u175, u176, u177, u178, u179, u180, u181, u182, u183, u184, u185, u186, u187, u188, u189, u190, u191, u192, u193, u194, u195, u196, u197, u198, u199, u200, u201, u202, u203, u204, u205, u206, u207, u208, u209, u210, u211, u212, u213, u214, u215, u216, u217, u218, u219, u220, u221, u222, u223, u224, u225, u226, u227], []⟩ w := by
  conv => arg 2; whnf
  have HI := Lib.hid (show identS (126) = false by decide)
  have HD := Lib.hid (show decI (126) = false by decide)
  go_wp2_with (first | (go_at_call 25; refine (rstart_false _ _ HI.out).mono ?_; rintro e w' ⟨rfl, rfl⟩) | (go_at_call 30; refine (rdec_false _ _ HD.out).mono ?_; rintro e w' ⟨rfl, rfl⟩) | (go_at_call 27; refine (peek_rf _ R M sv all _ h.rf).mono ?_; rintro e w1 ⟨rfl, fx⟩; refine Hid.out ?_))
  refine Lib.hid ?_
  have h1 := h.still fx
  clear h fx
  have g2 := h1
  clear h1
  obtain ⟨t0, t1, t2, t3, t4, f0, f1⟩ := g2.facts
  obtain ⟨⟨r0, r1, r2, r3, r4⟩, q0, q1, q2, q3, q4⟩ := g2.rfacts
  go_wp2
  first | exact hQ _ _ (YRet.intro g2.fin rfl (fun e => by cases e)) | exact (YRet.intro g2.fin rfl (fun e => by cases e))


set_option maxRecDepth 1000000 in
set_option maxHeartbeats 16000000 in
theorem yt_58y {W0 w : World} {R M rb tb : Nat} {sv : Value} {all : List UInt8} {st : St} {prev line col : Int} {nl pn : Bool} {Q : Exit → Act → World → Prop} (h : Yk W0 R M sv all rb tb w st 0 ⟨#[]⟩ line col pn) (hx : (hd st.rest == 58) = true)
    (hQ : ∀ a w, YRet W0 R M sv all rb line col pn ((true, 57374, [58, 58], st.nextS) : Bool × Int × List UInt8 × St) a w → Q .ret a w) (u2 u3 u5 u9 u10 u11 u12 u13 u14 u15 u16 u17 u18 u19 u20 u21 u22 u23 u24 u25 u26 u27 u28 u29 u30 u31 u32 u33 u34 u35 u36 u37 u38 u39 u40 u41 u42 u43 u44 u45 u46 u47 u48 u49 u50 u51 u52 u53 u54 u55 u56 u57 u58 u59 u60 u61 u62 u63 u64 u65 u66 u67 u68 u69 u70 u71 u72 u73 u74 u75 u76 u77 u78 u79 u80 u81 u82 u83 u84 u85 u86 u87 u88 u89 u90 u91 u92 u93 u94 u95 u96 u97 u98 u99 u100 u101 u102 u103 u104 u105 u106 u107 u108 u109 u110 u111 u112 u113 u114 u115 u116 u117 u118 u119 u120 u121 u122 u123 u124 u125 u126 u127 u128 u129 u130 u131 u132 u133 u134 u135 u136 u137 u138 u139 u140 u141 u142 u143 u144 u145 u146 u147 u148 u149 u150 u151 u152 u153 u154 u155 u156 u157 u158 u159 u160 u161 u162 u163 u164 u165 u166 u167 u168 u169 u170 u171 u172 u173 u174 u175 u176 u177 u178 u179 u180 u181 u182 u183 u184 u185 u186 u187 u188 u189 u190 u191 u192 u193 u194 u195 u196 u197 u198 u199 u200 u201 u202 u203 u204 u205 u206 u207 u208 u209 u210 u211 u212 u213 u214 u215 u216 u217 u218 u219 u220 u221 u222 u223 u224 u225 u226 u227 : Value) : Code.wp Tryz.prog yM Q ⟨#[Value.pointer (some ⟨R, 0, none⟩), Value.int .i64 prev, u2, u3, Value.pointer (some ⟨rb, 0, none⟩), u5, Value.bool nl, Value.int .i64 (58), Value.pointer (some ⟨tb, 0, none⟩), u9, u10, u11, u12, u13, u14, u15, u16, u17, u18, u19, u20, u21, u22, u23, u24, u25, u26, u27, u28, u29, u30, u31, u32, u33, u34, u35, u36, u37, u38, u39, u40, u41, u42, u43, u44, u45, u46, u47, u48, u49, u50, u51, u52, u53, u54, u55, u56, u57, u58, u59, u60, u61, u62, u63, u64, u65, u66, u67, u68, u69, u70, u71, u72, u73, u74, u75, u76, u77, u78, u79, u80, u81, u82, u83, u84, u85, u86, u87, u88, u89, u90, u91, u92, u93, u94, u95, u96, u97, u98, u99, u100, u101, u102, u103, u104, u105, u106, u107, u108, u109, u110, u111, u112, u113, u114, u115, u116, u117, u118, u119, u120, u121, u122, u123, u124, u125, u126, u127, u128, u129, u130, u131, u132, u133, u134, u135, u136, u137, u138, u139, u140, u141, u142, u143, u144, u145, u146, u147, u148, u149, u150, u151, u152, u153, u154, u155, u156, u157, u158, u159, u160, u161, u162, u163, u164, u165, u166, u167, u168, u169, u170, u171, u172, u173, u174, u175, u176, u177, u178, u179, u180, u181, u182, u183, u184, u185, u186, u187, u188, u189, u190, u191, u192, u193, u194, u195, u196, u197, u198, u199, u200, u201, u202, u203, u204, u205, u206, u207, u208, u209, u210, u211, u212, u213, u214, u215, u216, u217, u218, u219, u220, u221, u222, u223, u224, u225, u226, u227], []⟩ w := by
  conv => arg 2; whnf
  have HI := Lib.hid (show identS (58) = false by decide)
  have HD := Lib.hid (show decI (58) = false by decide)
  go_wp2_with (first | (go_at_call 25; refine (rstart_false _ _ HI.out).mono ?_; rintro e w' ⟨rfl, rfl⟩) | (go_at_call 30; refine (rdec_false _ _ HD.out).mono ?_; rintro e w' ⟨rfl, rfl⟩) | (go_at_call 27; refine (peek_rf _ R M sv all _ h.rf).mono ?_; rintro e w1 ⟨rfl, fx⟩; refine Hid.out ?_))
  refine Lib.hid ?_
  have h1 := h.still fx
  clear h fx
  go_wp2_with (go_at_call 28; refine (next_rf _ R M sv all _ h1.rf).mono ?_; rintro e w2 ⟨rfl, rx, fx⟩; refine Hid.out ?_)
  refine Lib.hid ?_
  have h2 := h1.step rx fx
  clear h1 rx fx
  obtain ⟨t0, t1, t2, t3, t4, f0, f1⟩ := h2.facts
  go_upto_region 95 with fail
  have g2 := ((h2.setTyp (57374)).setStr ⟨#[58, 58]⟩)
  clear t0 t1 t2 t3 t4 f0 f1 h2
  generalize ((w2.setCell ⟨tb, 0, none⟩ (.int .i64 (57374))).setCell ⟨tb, 1, none⟩ (.string ⟨#[58, 58]⟩)) = wq at g2 ⊢
  obtain ⟨t0, t1, t2, t3, t4, f0, f1⟩ := g2.facts
  obtain ⟨⟨r0, r1, r2, r3, r4⟩, q0, q1, q2, q3, q4⟩ := g2.rfacts
  go_wp2
  first | exact hQ _ _ (YRet.intro g2.fin rfl (fun _ => ⟨rfl, rfl, rfl⟩)) | exact (YRet.intro g2.fin rfl (fun _ => ⟨rfl, rfl, rfl⟩))

set_option maxRecDepth 1000000 in
set_option maxHeartbeats 16000000 in
theorem yt_58n {W0 w : World} {R M rb tb : Nat} {sv : Value} {all : List UInt8} {st : St} {prev line col : Int} {nl pn : Bool} {Q : Exit → Act → World → Prop} (h : Yk W0 R M sv all rb tb w st 0 ⟨#[]⟩ line col pn) (hx : (hd st.rest == 58) = false)
    (hQ : ∀ a w, YRet W0 R M sv all rb line col pn (one 58 st) a w → Q .ret a w) (u2 u3 u5 u9 u10 u11 u12 u13 u14 u15 u16 u17 u18 u19 u20 u21 u22 u23 u24 u25 u26 u27 u28 u29 u30 u31 u32 u33 u34 u35 u36 u37 u38 u39 u40 u41 u42 u43 u44 u45 u46 u47 u48 u49 u50 u51 u52 u53 u54 u55 u56 u57 u58 u59 u60 u61 u62 u63 u64 u65 u66 u67 u68 u69 u70 u71 u72 u73 u74 u75 u76 u77 u78 u79 u80 u81 u82 u83 u84 u85 u86 u87 u88 u89 u90 u91 u92 u93 u94 u95 u96 u97 u98 u99 u100 u101 u102 u103 u104 u105 u106 u107 u108 u109 u110 u111 u112 u113 u114 u115 u116 u117 u118 u119 u120 u121 u122 u123 u124 u125 u126 u127 u128 u129 u130 u131 u132 u133 u134 u135 u136 u137 u138 u139 u140 u141 u142 u143 u144 u145 u146 u147 u148 u149 u150 u151 u152 u153 u154 u155 u156 u157 u158 u159 u160 u161 u162 u163 u164 u165 u166 u167 u168 u169 u170 u171 u172 u173 u174 u175 u176 u177 u178 u179 u180 u181 u182 u183 u184 u185 u186 u187 u188 u189 u190 u191 u192 u193 u194 u195 u196 u197 u198 u199 u200 u201 u202 u203 u204 u205 u206 u207 u208 u209 u210 u211 u212 u213 u214 u215 u216 u217 u218 u219 u220 u221 u222 u223 u224 u225 u226 u227 : Value) : Code.wp Tryz.prog yM Q ⟨#[Value.pointer (some ⟨R, 0, none⟩), Value.int .i64 prev, u2, u3, Value.pointer (some ⟨rb, 0, none⟩), u5, Value.bool nl, Value.int .i64 (58), Value.pointer (some ⟨tb, 0, none⟩), u9, u10, u11, u12, u13, u14, u15, u16, u17, u18, u19, u20, u21, u22, u23, u24, u25, u26, u27, u28, u29, u30, u31, u32, u33, u34, u35, u36, u37, u38, u39, u40, u41, u42, u43, u44, u45, u46, u47, u48, u49, u50, u51, u52, u53, u54, u55, u56, u57, u58, u59, u60, u61, u62, u63, u64, u65, u66, u67, u68, u69, u70, u71, u72, u73, u74, u75, u76, u77, u78, u79, u80, u81, u82, u83, u84, u85, u86, u87, u88, u89, u90, u91, u92, u93, u94, u95, u96, u97, u98, u99, u100, u101, u102, u103, u104, u105, u106, u107, u108, u109, u110, u111, u112, u113, u114, u115, u116, u117, u118, u119, u120, u121, u122, u123, u124, u125, u126, u127, u128, u129, u130, u131, u132, u133, u134, u135, u136, u137, u138, u139, u140, u141, u142, u143, u144, u145, u146, u147, u148, u149, u150, u151, u152, u153, u154, u155, u156, u157, u158, u159, u160, u161, u162, u163, u164, u165, u166, u167, u168, u169, u170, u171, u172, u173, u174, u175, u176, u177, u178, u179, u180, u181, u182, u183, u184, u185, u186, u187, u188, u189, u190, u191, u192, u193, u194, u195, u196, u197, u198, u199, u200, u201, u202, u203, u204, u205, u206, u207, u208, u209, u210, u211, u212, u213, u214, u215, u216, u217, u218, u219, u220, u221, u222, u223, u224, u225, u226, u227], []⟩ w := by
  conv => arg 2; whnf
  have HI := Lib.hid (show identS (58) = false by decide)
  have HD := Lib.hid (show decI (58) = false by decide)
  go_wp2_with (first | (go_at_call 25; refine (rstart_false _ _ HI.out).mono ?_; rintro e w' ⟨rfl, rfl⟩) | (go_at_call 30; refine (rdec_false _ _ HD.out).mono ?_; rintro e w' ⟨rfl, rfl⟩) | (go_at_call 27; refine (peek_rf _ R M sv all _ h.rf).mono ?_; rintro e w1 ⟨rfl, fx⟩; refine Hid.out ?_))
  refine Lib.hid ?_
  have h1 := h.still fx
  clear h fx
  obtain ⟨t0, t1, t2, t3, t4, f0, f1⟩ := h1.facts
  go_upto_region 95 with fail
  have g2 := ((h1.setTyp (58)).setStr ⟨#[58]⟩)
  clear t0 t1 t2 t3 t4 f0 f1 h1
  generalize ((w1.setCell ⟨tb, 0, none⟩ (.int .i64 (58))).setCell ⟨tb, 1, none⟩ (.string ⟨#[58]⟩)) = wq at g2 ⊢
  obtain ⟨t0, t1, t2, t3, t4, f0, f1⟩ := g2.facts
  obtain ⟨⟨r0, r1, r2, r3, r4⟩, q0, q1, q2, q3, q4⟩ := g2.rfacts
  go_wp2
  first | exact hQ _ _ (YRet.intro g2.fin rfl (fun _ => ⟨rfl, rfl, rfl⟩)) | exact (YRet.intro g2.fin rfl (fun _ => ⟨rfl, rfl, rfl⟩))


set_option maxRecDepth 1000000 in
set_option maxHeartbeats 16000000 in
theorem yd_one {W0 w : World} {R M rb tb : Nat} {sv : Value} {all : List UInt8} {st : St} {prev line col : Int} {nl pn : Bool} {Q : Exit → Act → World → Prop} (h : Yk W0 R M sv all rb tb w st 0 ⟨#[]⟩ line col pn) (HDP : Hid (decI (hd st.rest) = false)) (hx : (hd st.rest == 46) = false)
    (hQ : ∀ a w, YRet W0 R M sv all rb line col pn ((true, 46, [], st) : Bool × Int × List UInt8 × St) a w → Q .ret a w) (u2 u3 u5 u9 u10 u11 u12 u13 u14 u15 u16 u17 u18 u19 u20 u21 u22 u23 u24 u25 u26 u27 u28 u29 u30 u31 u32 u33 u34 u35 u36 u37 u38 u39 u40 u41 u42 u43 u44 u45 u46 u47 u48 u49 u50 u51 u52 u53 u54 u55 u56 u57 u58 u59 u60 u61 u62 u63 u64 u65 u66 u67 u68 u69 u70 u71 u72 u73 u74 u75 u76 u77 u78 u79 u80 u81 u82 u83 u84 u85 u86 u87 u88 u89 u90 u91 u92 u93 u94 u95 u96 u97 u98 u99 u100 u101 u102 u103 u104 u105 u106 u107 u108 u109 u110 u111 u112 u113 u114 u115 u116 u117 u118 u119 u120 u121 u122 u123 u124 u125 u126 u127 u128 u129 u130 u131 u132 u133 u134 u135 u136 u137 u138 u139 u140 u141 u142 u143 u144 u145 u146 u147 u148 u149 u150 u151 u152 u153 u154 u155 u156 u157 u158 u159 u160 u161 u162 u163 u164 u165 u166 u167 u168 u169 u170 u171 u172 u173 u174 u175 u176 u177 u178 u179 u180 u181 u182 u183 u184 u185 u186 u187 u188 u189 u190 u191 u192 u193 u194 u195 u196 u197 u198 u199 u200 u201 u202 u203 u204 u205 u206 u207 u208 u209 u210 u211 u212 u213 u214 u215 u216 u217 u218 u219 u220 u221 u222 u223 u224 u225 u226 u227 : Value) : Code.wp Tryz.prog yM Q ⟨#[Value.pointer (some ⟨R, 0, none⟩), Value.int .i64 prev, u2, u3, Value.pointer (some ⟨rb, 0, none⟩), u5, Value.bool nl, Value.int .i64 (46), Value.pointer (some ⟨tb, 0, none⟩), u9, u10, u11, u12, u13, u14, u15, u16, u17, u18, u19, u20, u21, u22, u23, u24, u25, u26, u27, u28, u29, u30, u31, u32, u33, u34, u35, u36, u37, u38, u39, u40, u41, u42, u43, u44, u45, u46, u47, u48, u49, u50, u51, u52, u53, u54, u55, u56, u57, u58, u59, u60, u61, u62, u63, u64, u65, u66, u67, u68, u69, u70, u71, u72, u73, u74, u75, u76, u77, u78, u79, u80, u81, u82, u83, u84, u85, u86, u87, u88, u89, u90, u91, u92, u93, u94, u95, u96, u97, u98, u99, u100, u101, u102, u103, u104, u105, u106, u107, u108, u109, u110, u111, u112, u113, u114, u115, u116, u117, u118, u119, u120, u121, u122, u123, u124, u125, u126, u127, u128, u129, u130, u131, u132, u133, u134, u135, u136, u137, u138, u139, u140, u141, u142, u143, u144, u145, u146, u147, u148, u149, u150, u151, u152, u153, u154, u155, u156, u157, u158, u159, u160, u161, u162, u163, u164, u165, u166, u167, u168, u169, u170, u171, u172, u173, u174, u175, u176, u177, u178, u179, u180, u181, u182, u183, u184, u185, u186, u187, u188, u189, u190, u191, u192, u193, u194, u195, u196, u197, u198, u199, u200, u201, u202, u203, u204, u205, u206, u207, u208, u209, u210, u211, u212, u213, u214, u215, u216, u217, u218, u219, u220, u221, u222, u223, u224, u225, u226, u227], []⟩ w := by
  conv => arg 2; whnf
  have HI := Lib.hid (show identS 46 = false by decide)
  have HD0 := Lib.hid (show decI 46 = false by decide)
  go_wp2_with (first | (go_at_call 25; refine (rstart_false _ _ HI.out).mono ?_; rintro e w' ⟨rfl, rfl⟩) | (go_at_call 30; first | (refine (rdec_false _ _ HD0.out).mono ?_; rintro e w' ⟨rfl, rfl⟩) | (refine (rdec_false _ _ HDP.out).mono ?_; rintro e w' ⟨rfl, rfl⟩)) | (go_at_call 27; refine (peek_rf _ R M sv all _ h.rf).mono ?_; rintro e w1 ⟨rfl, fx⟩; refine Hid.out ?_))
  refine Lib.hid ?_
  have h1 := h.still fx
  clear h fx
  obtain ⟨t0, t1, t2, t3, t4, f0, f1⟩ := h1.facts
  go_upto_region 95 with (go_at_call 30; refine (rdec_false _ _ HDP.out).mono ?_; rintro e w' ⟨rfl, rfl⟩)
  have g2 := ((h1.setTyp (46)).setStr ⟨#[]⟩)
  clear t0 t1 t2 t3 t4 f0 f1 h1
  generalize ((w1.setCell ⟨tb, 0, none⟩ (.int .i64 (46))).setCell ⟨tb, 1, none⟩ (.string ⟨#[]⟩)) = wq at g2 ⊢
  obtain ⟨t0, t1, t2, t3, t4, f0, f1⟩ := g2.facts
  obtain ⟨⟨r0, r1, r2, r3, r4⟩, q0, q1, q2, q3, q4⟩ := g2.rfacts
  go_wp2
  first | exact hQ _ _ (YRet.intro g2.fin rfl (fun _ => ⟨rfl, rfl, rfl⟩)) | exact (YRet.intro g2.fin rfl (fun _ => ⟨rfl, rfl, rfl⟩))

set_option maxRecDepth 1000000 in
set_option maxHeartbeats 16000000 in
theorem yd_two {W0 w : World} {R M rb tb : Nat} {sv : Value} {all : List UInt8} {st : St} {prev line col : Int} {nl pn : Bool} {Q : Exit → Act → World → Prop} (h : Yk W0 R M sv all rb tb w st 0 ⟨#[]⟩ line col pn) (HDP : Hid (decI (hd st.rest) = false)) (hx : (hd st.rest == 46) = true) (hy : (hd st.nextS.rest == 46) = false)
    (hQ : ∀ a w, YRet W0 R M sv all rb line col pn ((true, 57372, [46, 46], st.nextS) : Bool × Int × List UInt8 × St) a w → Q .ret a w) (u2 u3 u5 u9 u10 u11 u12 u13 u14 u15 u16 u17 u18 u19 u20 u21 u22 u23 u24 u25 u26 u27 u28 u29 u30 u31 u32 u33 u34 u35 u36 u37 u38 u39 u40 u41 u42 u43 u44 u45 u46 u47 u48 u49 u50 u51 u52 u53 u54 u55 u56 u57 u58 u59 u60 u61 u62 u63 u64 u65 u66 u67 u68 u69 u70 u71 u72 u73 u74 u75 u76 u77 u78 u79 u80 u81 u82 u83 u84 u85 u86 u87 u88 u89 u90 u91 u92 u93 u94 u95 u96 u97 u98 u99 u100 u101 u102 u103 u104 u105 u106 u107 u108 u109 u110 u111 u112 u113 u114 u115 u116 u117 u118 u119 u120 u121 u122 u123 u124 u125 u126 u127 u128 u129 u130 u131 u132 u133 u134 u135 u136 u137 u138 u139 u140 u141 u142 u143 u144 u145 u146 u147 u148 u149 u150 u151 u152 u153 u154 u155 u156 u157 u158 u159 u160 u161 u162 u163 u164 u165 u166 u167 u168 u169 u170 u171 u172 u173 u174 u175 u176 u177 u178 u179 u180 u181 u182 u183 u184 u185 u186 u187 u188 u189 u190 u191 u192 u193 u194 u195 u196 u197 u198 u199 u200 u201 u202 u203 u204 u205 u206 u207 u208 u209 u210 u211 u212 u213 u214 u215 u216 u217 u218 u219 u220 u221 u222 u223 u224 u225 u226 u227 : Value) : Code.wp Tryz.prog yM Q ⟨#[Value.pointer (some ⟨R, 0, none⟩), Value.int .i64 prev, u2, u3, Value.pointer (some ⟨rb, 0, none⟩), u5, Value.bool nl, Value.int .i64 (46), Value.pointer (some ⟨tb, 0, none⟩), u9, u10, u11, u12, u13, u14, u15, u16, u17, u18, u19, u20, u21, u22, u23, u24, u25, u26, u27, u28, u29, u30, u31, u32, u33, u34, u35, u36, u37, u38, u39, u40, u41, u42, u43, u44, u45, u46, u47, u48, u49, u50, u51, u52, u53, u54, u55, u56, u57, u58, u59, u60, u61, u62, u63, u64, u65, u66, u67, u68, u69, u70, u71, u72, u73, u74, u75, u76, u77, u78, u79, u80, u81, u82, u83, u84, u85, u86, u87, u88, u89, u90, u91, u92, u93, u94, u95, u96, u97, u98, u99, u100, u101, u102, u103, u104, u105, u106, u107, u108, u109, u110, u111, u112, u113, u114, u115, u116, u117, u118, u119, u120, u121, u122, u123, u124, u125, u126, u127, u128, u129, u130, u131, u132, u133, u134, u135, u136, u137, u138, u139, u140, u141, u142, u143, u144, u145, u146, u147, u148, u149, u150, u151, u152, u153, u154, u155, u156, u157, u158, u159, u160, u161, u162, u163, u164, u165, u166, u167, u168, u169, u170, u171, u172, u173, u174, u175, u176, u177, u178, u179, u180, u181, u182, u183, u184, u185, u186, u187, u188, u189, u190, u191, u192, u193, u194, u195, u196, u197, u198, u199, u200, u201, u202, u203, u204, u205, u206, u207, u208, u209, u210, u211, u212, u213, u214, u215, u216, u217, u218, u219, u220, u221, u222, u223, u224, u225, u226, u227], []⟩ w := by
  conv => arg 2; whnf
  have HI := Lib.hid (show identS 46 = false by decide)
  have HD0 := Lib.hid (show decI 46 = false by decide)
  go_wp2_with (first | (go_at_call 25; refine (rstart_false _ _ HI.out).mono ?_; rintro e w' ⟨rfl, rfl⟩) | (go_at_call 30; first | (refine (rdec_false _ _ HD0.out).mono ?_; rintro e w' ⟨rfl, rfl⟩) | (refine (rdec_false _ _ HDP.out).mono ?_; rintro e w' ⟨rfl, rfl⟩)) | (go_at_call 27; refine (peek_rf _ R M sv all _ h.rf).mono ?_; rintro e w1 ⟨rfl, fx⟩; refine Hid.out ?_))
  refine Lib.hid ?_
  have h1 := h.still fx
  clear h fx
  go_wp2_with (first | (go_at_call 30; refine (rdec_false _ _ HDP.out).mono ?_; rintro e w' ⟨rfl, rfl⟩) | (go_at_call 28; refine (next_rf _ R M sv all _ h1.rf).mono ?_; rintro e w2 ⟨rfl, rx, fx⟩; refine Hid.out ?_))
  refine Lib.hid ?_
  have h2 := h1.step rx fx
  clear h1 rx fx
  go_wp2_with (go_at_call 27; refine (peek_rf _ R M sv all _ h2.rf).mono ?_; rintro e w3 ⟨rfl, fx⟩; refine Hid.out ?_)
  refine Lib.hid ?_
  have h3 := h2.still fx
  clear h2 fx
  obtain ⟨t0, t1, t2, t3, t4, f0, f1⟩ := h3.facts
  go_upto_region 95 with fail
  have g2 := ((h3.setTyp (57372)).setStr ⟨#[46, 46]⟩)
  clear t0 t1 t2 t3 t4 f0 f1 h3
  generalize ((w3.setCell ⟨tb, 0, none⟩ (.int .i64 (57372))).setCell ⟨tb, 1, none⟩ (.string ⟨#[46, 46]⟩)) = wq at g2 ⊢
  obtain ⟨t0, t1, t2, t3, t4, f0, f1⟩ := g2.facts
  obtain ⟨⟨r0, r1, r2, r3, r4⟩, q0, q1, q2, q3, q4⟩ := g2.rfacts
  go_wp2
  first | exact hQ _ _ (YRet.intro g2.fin rfl (fun _ => ⟨rfl, rfl, rfl⟩)) | exact (YRet.intro g2.fin rfl (fun _ => ⟨rfl, rfl, rfl⟩))

set_option maxRecDepth 1000000 in
set_option maxHeartbeats 16000000 in
theorem yd_three {W0 w : World} {R M rb tb : Nat} {sv : Value} {all : List UInt8} {st : St} {prev line col : Int} {nl pn : Bool} {Q : Exit → Act → World → Prop} (h : Yk W0 R M sv all rb tb w st 0 ⟨#[]⟩ line col pn) (HDP : Hid (decI (hd st.rest) = false)) (hx : (hd st.rest == 46) = true) (hy : (hd st.nextS.rest == 46) = true)
    (hQ : ∀ a w, YRet W0 R M sv all rb line col pn ((true, 57373, [46, 46, 46], st.nextS.nextS) : Bool × Int × List UInt8 × St) a w → Q .ret a w) (u2 u3 u5 u9 u10 u11 u12 u13 u14 u15 u16 u17 u18 u19 u20 u21 u22 u23 u24 u25 u26 u27 u28 u29 u30 u31 u32 u33 u34 u35 u36 u37 u38 u39 u40 u41 u42 u43 u44 u45 u46 u47 u48 u49 u50 u51 u52 u53 u54 u55 u56 u57 u58 u59 u60 u61 u62 u63 u64 u65 u66 u67 u68 u69 u70 u71 u72 u73 u74 u75 u76 u77 u78 u79 u80 u81 u82 u83 u84 u85 u86 u87 u88 u89 u90 u91 u92 u93 u94 u95 u96 u97 u98 u99 u100 u101 u102 u103 u104 u105 u106 u107 u108 u109 u110 u111 u112 u113 u114 u115 u116 u117 u118 u119 u120 u121 u122 u123 u124 u125 u126 u127 u128 u129 u130 u131 u132 u133 u134 u135 u136 u137 u138 u139 u140 u141 u142 u143 u144 u145 u146 u147 u148 u149 u150 u151 u152 u153 u154 u155 u156 u157 u158 u159 u160 u161 u162 u163 u164 u165 u166 u167 u168 u169 u170 u171 u172 u173 u174 u175 u176 u177 u178 u179 u180 u181 u182 u183 u184 u185 u186 u187 u188 u189 u190 u191 u192 u193 u194 u195 u196 u197 u198 u199 u200 u201 u202 u203 u204 u205 u206 u207 u208 u209 u210 u211 u212 u213 u214 u215 u216 u217 u218 u219 u220 u221 u222 u223 u224 u225 u226 u227 : Value) : Code.wp Tryz.prog yM Q ⟨#[Value.pointer (some ⟨R, 0, none⟩), Value.int .i64 prev, u2, u3, Value.pointer (some ⟨rb, 0, none⟩), u5, Value.bool nl, Value.int .i64 (46), Value.pointer (some ⟨tb, 0, none⟩), u9, u10, u11, u12, u13, u14, u15, u16, u17, u18, u19, u20, u21, u22, u23, u24, u25, u26, u27, u28, u29, u30, u31, u32, u33, u34, u35, u36, u37, u38, u39, u40, u41, u42, u43, u44, u45, u46, u47, u48, u49, u50, u51, u52, u53, u54, u55, u56, u57, u58, u59, u60, u61, u62, u63, u64, u65, u66, u67, u68, u69, u70, u71, u72, u73, u74, u75, u76, u77, u78, u79, u80, u81, u82, u83, u84, u85, u86, u87, u88, u89, u90, u91, u92, u93, u94, u95, u96, u97, u98, u99, u100, u101, u102, u103, u104, u105, u106, u107, u108, u109, u110, u111, u112, u113, u114, u115, u116, u117, u118, u119, u120, u121, u122, u123, u124, u125, u126, u127, u128, u129, u130, u131, u132, u133, u134, u135, u136, u137, u138, u139, u140, u141, u142, u143, u144, u145, u146, u147, u148, u149, u150, u151, u152, u153, u154, u155, u156, u157, u158, u159, u160, u161, u162, u163, u164, u165, u166, u167, u168, u169, u170, u171, u172, u173, u174, u175, u176, u177, u178, u179, u180, u181, u182, u183, u184, u185, u186, u187, u188, u189, u190, u191, u192, u193, u194, u195, u196, u197, u198, u199, u200, u201, u202, u203, u204, u205, u206, u207, u208, u209, u210, u211, u212, u213, u214, u215, u216, u217, u218, u219, u220, u221, u222, u223, u224, u225, u226, u227], []⟩ w := by
  conv => arg 2; whnf
  have HI := Lib.hid (show identS 46 = false by decide)
  have HD0 := Lib.hid (show decI 46 = false by decide)
  go_wp2_with (first | (go_at_call 25; refine (rstart_false _ _ HI.out).mono ?_; rintro e w' ⟨rfl, rfl⟩) | (go_at_call 30; first | (refine (rdec_false _ _ HD0.out).mono ?_; rintro e w' ⟨rfl, rfl⟩) | (refine (rdec_false _ _ HDP.out).mono ?_; rintro e w' ⟨rfl, rfl⟩)) | (go_at_call 27; refine (peek_rf _ R M sv all _ h.rf).mono ?_; rintro e w1 ⟨rfl, fx⟩; refine Hid.out ?_))
  refine Lib.hid ?_
  have h1 := h.still fx
  clear h fx
  go_wp2_with (first | (go_at_call 30; refine (rdec_false _ _ HDP.out).mono ?_; rintro e w' ⟨rfl, rfl⟩) | (go_at_call 28; refine (next_rf _ R M sv all _ h1.rf).mono ?_; rintro e w2 ⟨rfl, rx, fx⟩; refine Hid.out ?_))
  refine Lib.hid ?_
  have h2 := h1.step rx fx
  clear h1 rx fx
  go_wp2_with (go_at_call 27; refine (peek_rf _ R M sv all _ h2.rf).mono ?_; rintro e w3 ⟨rfl, fx⟩; refine Hid.out ?_)
  refine Lib.hid ?_
  have h3 := h2.still fx
  clear h2 fx
  go_wp2_with (go_at_call 28; refine (next_rf _ R M sv all _ h3.rf).mono ?_; rintro e w4 ⟨rfl, rx, fx⟩; refine Hid.out ?_)
  refine Lib.hid ?_
  have h4 := h3.step rx fx
  clear h3 rx fx
  obtain ⟨t0, t1, t2, t3, t4, f0, f1⟩ := h4.facts
  go_upto_region 95 with fail
  have g2 := ((h4.setTyp (57373)).setStr ⟨#[46, 46, 46]⟩)
  clear t0 t1 t2 t3 t4 f0 f1 h4
  generalize ((w4.setCell ⟨tb, 0, none⟩ (.int .i64 (57373))).setCell ⟨tb, 1, none⟩ (.string ⟨#[46, 46, 46]⟩)) = wq at g2 ⊢
  obtain ⟨t0, t1, t2, t3, t4, f0, f1⟩ := g2.facts
  obtain ⟨⟨r0, r1, r2, r3, r4⟩, q0, q1, q2, q3, q4⟩ := g2.rfacts
  go_wp2
  first | exact hQ _ _ (YRet.intro g2.fin rfl (fun _ => ⟨rfl, rfl, rfl⟩)) | exact (YRet.intro g2.fin rfl (fun _ => ⟨rfl, rfl, rfl⟩))


set_option maxRecDepth 1000000 in
set_option maxHeartbeats 16000000 in
theorem ys_default {W0 w : World} {R M rb tb : Nat} {sv : Value} {all : List UInt8} {st : St} {prev line col : Int} {nl pn : Bool} {Q : Exit → Act → World → Prop} {c : Int} (h : Yk W0 R M sv all rb tb w st 0 ⟨#[]⟩ line col pn) (HI : Hid (identS c = false)) (HD : Hid (decI c = false)) (em1 : (c == -1) = false) (e45 : (c == 45) = false) (e34 : (c == 34) = false) (e39 : (c == 39) = false) (e91 : (c == 91) = false) (e61 : (c == 61) = false) (e126 : (c == 126) = false) (e60 : (c == 60) = false) (e62 : (c == 62) = false) (e46 : (c == 46) = false) (e58 : (c == 58) = false) (e43 : (c == 43) = false) (e42 : (c == 42) = false) (e47 : (c == 47) = false) (e37 : (c == 37) = false) (e94 : (c == 94) = false) (e35 : (c == 35) = false) (e40 : (c == 40) = false) (e41 : (c == 41) = false) (e123 : (c == 123) = false) (e125 : (c == 125) = false) (e93 : (c == 93) = false) (e59 : (c == 59) = false) (e44 : (c == 44) = false)
    (hQ : ∀ a w, YRet W0 R M sv all rb line col pn ((false, 0, [], st) : Bool × Int × List UInt8 × St) a w → Q .ret a w) (u2 u3 u5 u9 u10 u11 u12 u13 u14 u15 u16 u17 u18 u19 u20 u21 u22 u23 u24 u25 u26 u27 u28 u29 u30 u31 u32 u33 u34 u35 u36 u37 u38 u39 u40 u41 u42 u43 u44 u45 u46 u47 u48 u49 u50 u51 u52 u53 u54 u55 u56 u57 u58 u59 u60 u61 u62 u63 u64 u65 u66 u67 u68 u69 u70 u71 u72 u73 u74 u75 u76 u77 u78 u79 u80 u81 u82 u83 u84 u85 u86 u87 u88 u89 u90 u91 u92 u93 u94 u95 u96 u97 u98 u99 u100 u101 u102 u103 u104 u105 u106 u107 u108 u109 u110 u111 u112 u113 u114 u115 u116 u117 u118 u119 u120 u121 u122 u123 u124 u125 u126 u127 u128 u129 u130 u131 u132 u133 u134 u135 u136 u137 u138 u139 u140 u141 u142 u143 u144 u145 u146 u147 u148 u149 u150 u151 u152 u153 u154 u155 u156 u157 u158 u159 u160 u161 u162 u163 u164 u165 u166 u167 u168 u169 u170 u171 u172 u173 u174 u175 u176 u177 u178 u179 u180 u181 u182 u183 u184 u185 u186 u187 u188 u189 u190 u191 u192 u193 u194 u195 u196 u197 u198 u199 u200 u201 u202 u203 u204 u205 u206 u207 u208 u209 u210 u211 u212 u213 u214 u215 u216 u217 u218 u219 u220 u221 u222 u223 u224 u225 u226 u227 : Value) : Code.wp Tryz.prog yM Q ⟨#[Value.pointer (some ⟨R, 0, none⟩), Value.int .i64 prev, u2, u3, Value.pointer (some ⟨rb, 0, none⟩), u5, Value.bool nl, Value.int .i64 c, Value.pointer (some ⟨tb, 0, none⟩), u9, u10, u11, u12, u13, u14, u15, u16, u17, u18, u19, u20, u21, u22, u23, u24, u25, u26, u27, u28, u29, u30, u31, u32, u33, u34, u35, u36, u37, u38, u39, u40, u41, u42, u43, u44, u45, u46, u47, u48, u49, u50, u51, u52, u53, u54, u55, u56, u57, u58, u59, u60, u61, u62, u63, u64, u65, u66, u67, u68, u69, u70, u71, u72, u73, u74, u75, u76, u77, u78, u79, u80, u81, u82, u83, u84, u85, u86, u87, u88, u89, u90, u91, u92, u93, u94, u95, u96, u97, u98, u99, u100, u101, u102, u103, u104, u105, u106, u107, u108, u109, u110, u111, u112, u113, u114, u115, u116, u117, u118, u119, u120, u121, u122, u123, u124, u125, u126, u127, u128, u129, u130, u131, u132, u133, u134, u135, u136, u137, u138, u139, u140, u141, u142, u143, u144, u145, u146, u147, u148, u149, u150, u151, u152, u153, u154, u155, u156, u157, u158, u159, u160, u161, u162, u163, u164, u165, u166, u167, u168, u169, u170, u171, u172, u173, u174, u175, u176, u177, u178, u179, u180, u181, u182, u183, u184, u185, u186, u187, u188, u189, u190, u191, u192, u193, u194, u195, u196, u197, u198, u199, u200, u201, u202, u203, u204, u205, u206, u207, u208, u209, u210, u211, u212, u213, u214, u215, u216, u217, u218, u219, u220, u221, u222, u223, u224, u225, u226, u227], []⟩ w := by
  conv => arg 2; whnf
  obtain ⟨t0, t1, t2, t3, t4, f0, f1⟩ := h.facts
  obtain ⟨⟨r0, r1, r2, r3, r4⟩, q0, q1, q2, q3, q4⟩ := h.rfacts
  have g2 := Lib.hid h.fin
  clear h
  go_wp2_with (first | (go_at_call 25; refine (rstart_false _ _ HI.out).mono ?_; rintro e w' ⟨rfl, rfl⟩) | (go_at_call 30; refine (rdec_false _ _ HD.out).mono ?_; rintro e w' ⟨rfl, rfl⟩))
  first | exact hQ _ _ (YRet.intro g2.out rfl (fun e => by cases e)) | exact (YRet.intro g2.out rfl (fun e => by cases e))

end Go.Proofs.YtgiklkapedlckaaGreatDoor
