/- The token model's scan of n005_77: its code in parts, the memory that it holds. -/
import Derived.Test.YtnmpeipccpgkpaaGreatDoorRo77
import Derived.Test.YtnmpeipccpgkpaaGreatDoorRc77
import Derived.Test.YtnmpeipccpgkpaaGreatDoorP77
import Derived.BigRegion
import Derived.Laws.ResultCell
namespace Go.Proofs.YtnmpeipccpgkpaaGreatDoor
open Go.RowKit

def zSnd : Code → Code
  | .seq _ c => c
  | c => c
def zFst : Code → Code
  | .seq c _ => c
  | c => c
def zBlk : Code → Code
  | .block _ c => c
  | c => c
def zLp : Code → Code
  | .loop c => c
  | c => c
/-- One round; from its second operation on; from the token's first test on. -/
noncomputable def zBody : Code := zBlk (zLp (zBlk (zSnd (Tryz.f11.body.getD .skip))))
noncomputable def z2 : Code := zSnd zBody
noncomputable def z3 : Code := zSnd z2
noncomputable def z4 : Code := zSnd z3
noncomputable def z5 : Code := zSnd z4
noncomputable def zM : Code := zSnd z5

def zcells (typ : Int) (str : ByteArray) (line col : Int) (nl : Bool) (sta : Int) : List Value := [.int .i64 typ, .string str, .int .i64 line, .int .i64 col, .bool nl, .int .i64 sta]

/-- The result's cells (not written yet), the token's cells, the reader. -/
structure Zk (W0 : World) (R M : Nat) (sv : Value) (all : List UInt8) (rb tb : Nat) (w : World) (st : St) (typ : Int) (str : ByteArray) (line col : Int) (nl : Bool) (sta : Int) : Prop where
  rf : Rf w R M sv all st
  hR : Blk w rb (zcells 0 ⟨#[]⟩ 0 0 false 0)
  hT : Blk w tb (zcells typ str line col nl sta)
  fb : Fb [R] W0.heap.size W0 w
  rn : W0.heap.size ≤ rb
  rt : rb < tb
  lR : R < W0.heap.size
  lM : M < W0.heap.size
section
variable {W0 w w' : World} {R M rb tb : Nat} {sv : Value} {all : List UInt8} {st st' : St} {typ : Int} {str : ByteArray} {line col : Int} {nl : Bool} {sta : Int}
theorem Zk.step (h : Zk W0 R M sv all rb tb w st typ str line col nl sta) (h' : Rf w' R M sv all st') (f : Fr [R] w w') : Zk W0 R M sv all rb tb w' st' typ str line col nl sta :=
  ⟨h', f.blk h.hR (by have := h.rn; have := h.lR; simp only [List.mem_singleton]; omega), f.blk h.hT (by have := h.rn; have := h.rt; have := h.lR; simp only [List.mem_singleton]; omega), h.fb.trans (f.fb h.fb.size), h.rn, h.rt, h.lR, h.lM⟩
theorem Zk.still (h : Zk W0 R M sv all rb tb w st typ str line col nl sta) (f : Fr [] w w') : Zk W0 R M sv all rb tb w' st typ str line col nl sta :=
  h.step (h.rf.fr f (by simp) (by simp)) (f.mono (by simp))
theorem Zk.low {B : Nat} (h : Zk W0 R M sv all rb tb w st typ str line col nl sta) (hB : tb < B) (f : Below B w w') : Zk W0 R M sv all rb tb w' st typ str line col nl sta :=
  ⟨h.rf.bl f (by have := h.rn; have := h.rt; have := h.lR; omega) (by have := h.rn; have := h.rt; have := h.lM; omega), h.hR.of_block (f.block _ (by have := h.rt; omega)), h.hT.of_block (f.block _ hB),
    h.fb.trans ⟨f.os, f.tape, f.output, f.size, fun k hk _ => f.block k (by have := h.rn; have := h.rt; omega)⟩, h.rn, h.rt, h.lR, h.lM⟩
theorem Zk.tset {typ' : Int} {str' : ByteArray} {sta' : Int} (h : Zk W0 R M sv all rb tb w st typ str line col nl sta) (hT : Blk w' tb (zcells typ' str' line col nl sta')) (f : Fr [tb] w w') : Zk W0 R M sv all rb tb w' st typ' str' line col nl sta' :=
  ⟨h.rf.fr f (by have := h.rn; have := h.rt; have := h.lR; simp only [List.mem_singleton]; omega) (by have := h.rn; have := h.rt; have := h.lM; simp only [List.mem_singleton]; omega), f.blk h.hR (by have := h.rt; simp only [List.mem_singleton]; omega), hT,
    h.fb.trans ⟨f.os, f.tape, f.output, f.size, fun k hk _ => f.block k (Nat.lt_of_lt_of_le hk h.fb.size) (by have := h.rn; have := h.rt; simp only [List.mem_singleton]; omega)⟩, h.rn, h.rt, h.lR, h.lM⟩
theorem Zk.setTyp (h : Zk W0 R M sv all rb tb w st typ str line col nl sta) (x : Int) : Zk W0 R M sv all rb tb (w.setCell ⟨tb, 0, none⟩ (.int .i64 x)) st x str line col nl sta :=
  h.tset (h.hT.set 0 (.int .i64 x)) ((Fr.refl _ w).setCell (by simp) _)
theorem Zk.setStr (h : Zk W0 R M sv all rb tb w st typ str line col nl sta) (x : ByteArray) : Zk W0 R M sv all rb tb (w.setCell ⟨tb, 1, none⟩ (.string x)) st typ x line col nl sta :=
  h.tset (h.hT.set 1 (.string x)) ((Fr.refl _ w).setCell (by simp) _)
theorem Zk.setSta (h : Zk W0 R M sv all rb tb w st typ str line col nl sta) (x : Int) : Zk W0 R M sv all rb tb (w.setCell ⟨tb, 5, none⟩ (.int .i64 x)) st typ str line col nl x :=
  h.tset (h.hT.set 5 (.int .i64 x)) ((Fr.refl _ w).setCell (by simp) _)
theorem Zk.facts (h : Zk W0 R M sv all rb tb w st typ str line col nl sta) :
    w.cell? ⟨tb, 0, none⟩ = some (.int .i64 typ) ∧ w.cell? ⟨tb, 1, none⟩ = some (.string str) ∧ w.cell? ⟨tb, 2, none⟩ = some (.int .i64 line) ∧ w.cell? ⟨tb, 3, none⟩ = some (.int .i64 col) ∧ w.cell? ⟨tb, 4, none⟩ = some (.bool nl) ∧ w.cell? ⟨tb, 5, none⟩ = some (.int .i64 sta) ∧
    w.frozen? ⟨tb, 0, none⟩ = false ∧ w.frozen? ⟨tb, 1, none⟩ = false ∧ w.frozen? ⟨tb, 5, none⟩ = false := by
  have b := h.hT
  unfold zcells at b
  exact ⟨b.cell 0 _ rfl, b.cell 1 _ rfl, b.cell 2 _ rfl, b.cell 3 _ rfl, b.cell 4 _ rfl, b.cell 5 _ rfl, b.free 0, b.free 1, b.free 5⟩
theorem Zk.rfacts (h : Zk W0 R M sv all rb tb w st typ str line col nl sta) :
    (w.cell? ⟨rb, 0, none⟩ = some (.int .i64 0) ∧ w.cell? ⟨rb, 1, none⟩ = some (.string ⟨#[]⟩) ∧ w.cell? ⟨rb, 2, none⟩ = some (.int .i64 0) ∧ w.cell? ⟨rb, 3, none⟩ = some (.int .i64 0) ∧ w.cell? ⟨rb, 4, none⟩ = some (.bool false) ∧ w.cell? ⟨rb, 5, none⟩ = some (.int .i64 0)) ∧
    w.frozen? ⟨rb, 0, none⟩ = false ∧ w.frozen? ⟨rb, 1, none⟩ = false ∧ w.frozen? ⟨rb, 2, none⟩ = false ∧ w.frozen? ⟨rb, 3, none⟩ = false ∧ w.frozen? ⟨rb, 4, none⟩ = false ∧ w.frozen? ⟨rb, 5, none⟩ = false := by
  have b := h.hR
  unfold zcells at b
  exact ⟨⟨b.cell 0 _ rfl, b.cell 1 _ rfl, b.cell 2 _ rfl, b.cell 3 _ rfl, b.cell 4 _ rfl, b.cell 5 _ rfl⟩, b.free 0, b.free 1, b.free 2, b.free 3, b.free 4, b.free 5⟩
/-- The result stored. -/
def zput (w : World) (b : Nat) (typ : Int) (str : ByteArray) (line col : Int) (nl : Bool) (sta : Int) : World :=
  (((((w.setCell ⟨b, 0, none⟩ (.int .i64 typ)).setCell ⟨b, 1, none⟩ (.string str)).setCell ⟨b, 2, none⟩ (.int .i64 line)).setCell ⟨b, 3, none⟩ (.int .i64 col)).setCell ⟨b, 4, none⟩ (.bool nl)).setCell ⟨b, 5, none⟩ (.int .i64 sta)
theorem zput_fr (w : World) (b : Nat) (typ : Int) (str : ByteArray) (line col : Int) (nl : Bool) (sta : Int) : Fr [b] w (zput w b typ str line col nl sta) :=
  ((((((Fr.refl _ _).setCell (by simp) _).setCell (by simp) _).setCell (by simp) _).setCell (by simp) _).setCell (by simp) _).setCell (by simp) _
theorem zput_blk {w : World} {b : Nat} {t0 : Int} {s0 : ByteArray} {l0 c0 : Int} {n0 : Bool} {z0 : Int} (h : Blk w b (zcells t0 s0 l0 c0 n0 z0)) (typ : Int) (str : ByteArray) (line col : Int) (nl : Bool) (sta : Int) : Blk (zput w b typ str line col nl sta) b (zcells typ str line col nl sta) :=
  (((((h.set 0 (.int .i64 typ)).set 1 (.string str)).set 2 (.int .i64 line)).set 3 (.int .i64 col)).set 4 (.bool nl)).set 5 (.int .i64 sta)
/-- Behind 'return t'. -/
structure Ze (W0 : World) (R M : Nat) (sv : Value) (all : List UInt8) (rb : Nat) (w : World) (st : St) (typ : Int) (str : ByteArray) (line col : Int) (nl : Bool) (sta : Int) : Prop where
  rf : Rf w R M sv all st
  hR : Blk w rb (zcells typ str line col nl sta)
  fb : Fb [R] W0.heap.size W0 w
theorem Zk.fin (h : Zk W0 R M sv all rb tb w st typ str line col nl sta) : Ze W0 R M sv all rb (zput w rb typ str line col nl sta) st typ str line col nl sta := by
  have f := zput_fr w rb typ str line col nl sta
  have hr := h.rn
  have hl := h.lR
  have hm := h.lM
  exact ⟨h.rf.fr f (by simp only [List.mem_singleton]; omega) (by simp only [List.mem_singleton]; omega), zput_blk h.hR _ _ _ _ _ _,
    h.fb.trans ⟨f.os, f.tape, f.output, f.size, fun k hk _ => f.block k (Nat.lt_of_lt_of_le hk h.fb.size) (by simp only [List.mem_singleton]; omega)⟩⟩
/-- The token's value laid beside. -/
structure Zu (W0 : World) (R M : Nat) (sv : Value) (all : List UInt8) (rb tb ub : Nat) (w : World) (st : St) (line col : Int) (nl : Bool) (ut : Int) (us : ByteArray) : Prop where
  zk : Zk W0 R M sv all rb tb w st 0 ⟨#[]⟩ line col nl 0
  hU : Blk w ub (zcells ut us 0 0 false 0)
  tu : tb < ub
theorem Zu.start (h : Zk W0 R M sv all rb tb w st 0 ⟨#[]⟩ line col nl 0) : Zu W0 R M sv all rb tb w.heap.size (w.alloc (.cells #[.int .i64 0, .string ⟨#[]⟩, .int .i64 0, .int .i64 0, .bool false, .int .i64 0] 31)) st line col nl 0 ⟨#[]⟩ :=
  ⟨h.still ((Fr.refl _ w).alloc _), Blk.new w _ _, h.hT.lt⟩
theorem Zu.step {ub : Nat} {ut : Int} {us : ByteArray} (h : Zu W0 R M sv all rb tb ub w st line col nl ut us) (h' : Rf w' R M sv all st') (f : Fr [R] w w') : Zu W0 R M sv all rb tb ub w' st' line col nl ut us :=
  ⟨h.zk.step h' f, f.blk h.hU (by have := h.zk.rn; have := h.zk.rt; have := h.zk.lR; have := h.tu; simp only [List.mem_singleton]; omega), h.tu⟩
theorem Zu.still {ub : Nat} {ut : Int} {us : ByteArray} (h : Zu W0 R M sv all rb tb ub w st line col nl ut us) (f : Fr [] w w') : Zu W0 R M sv all rb tb ub w' st line col nl ut us :=
  h.step (h.zk.rf.fr f (by simp) (by simp)) (f.mono (by simp))
theorem Zu.low {ub B : Nat} {ut : Int} {us : ByteArray} (h : Zu W0 R M sv all rb tb ub w st line col nl ut us) (hB : ub < B) (f : Below B w w') : Zu W0 R M sv all rb tb ub w' st line col nl ut us :=
  ⟨h.zk.low (by have := h.tu; omega) f, h.hU.of_block (f.block _ hB), h.tu⟩
theorem Zu.put {ub : Nat} {ut : Int} {us : ByteArray} (h : Zu W0 R M sv all rb tb ub w st line col nl ut us) (x : Int) (s : ByteArray) : Zu W0 R M sv all rb tb ub (zput w ub x s 0 0 false 0) st line col nl x s := by
  have f := zput_fr w ub x s 0 0 false 0
  have hr := h.zk.rn
  have ht := h.zk.rt
  have hl := h.zk.lR
  have hm := h.zk.lM
  have hu := h.tu
  exact ⟨⟨h.zk.rf.fr f (by simp only [List.mem_singleton]; omega) (by simp only [List.mem_singleton]; omega), f.blk h.zk.hR (by simp only [List.mem_singleton]; omega), f.blk h.zk.hT (by simp only [List.mem_singleton]; omega),
    h.zk.fb.trans ⟨f.os, f.tape, f.output, f.size, fun k hk _ => f.block k (Nat.lt_of_lt_of_le hk h.zk.fb.size) (by simp only [List.mem_singleton]; omega)⟩, h.zk.rn, h.zk.rt, h.zk.lR, h.zk.lM⟩, zput_blk h.hU _ _ _ _ _ _, h.tu⟩
theorem Zu.facts {ub : Nat} {ut : Int} {us : ByteArray} (h : Zu W0 R M sv all rb tb ub w st line col nl ut us) :
    (w.cell? ⟨ub, 0, none⟩ = some (.int .i64 ut) ∧ w.cell? ⟨ub, 1, none⟩ = some (.string us) ∧ w.cell? ⟨ub, 2, none⟩ = some (.int .i64 0) ∧ w.cell? ⟨ub, 3, none⟩ = some (.int .i64 0) ∧ w.cell? ⟨ub, 4, none⟩ = some (.bool false) ∧ w.cell? ⟨ub, 5, none⟩ = some (.int .i64 0)) ∧
    w.frozen? ⟨ub, 0, none⟩ = false ∧ w.frozen? ⟨ub, 1, none⟩ = false ∧ w.frozen? ⟨ub, 2, none⟩ = false ∧ w.frozen? ⟨ub, 3, none⟩ = false ∧ w.frozen? ⟨ub, 4, none⟩ = false ∧ w.frozen? ⟨ub, 5, none⟩ = false := by
  have b := h.hU
  unfold zcells at b
  exact ⟨⟨b.cell 0 _ rfl, b.cell 1 _ rfl, b.cell 2 _ rfl, b.cell 3 _ rfl, b.cell 4 _ rfl, b.cell 5 _ rfl⟩, b.free 0, b.free 1, b.free 2, b.free 3, b.free 4, b.free 5⟩
end
theorem results_cell1 {fn : Func} {p : Tmp} {ty : TypeId} (h : fn.results = #[.cell p ty]) (tmps : Array Value) (P : Program) (w : World) :
    (results fn tmps).run P w = ((asAddr (tmps.getD p undef)).run P w).andThen fun a w₁ => (loadVar ty a).run P w₁ := by
  simp only [results, h]
  simp [Sem.run_bind, Result.andThen]
theorem Fr.past {own : List Nat} {w wA w1 w2 : World} {rb : Nat} (f1 : Fr [] w wA) (f2 : Fr own wA w1) (f3 : Fr [rb] w1 w2) (hr : w.heap.size ≤ rb) : Fr own w w2 :=
  ⟨f3.os.trans (f2.os.trans f1.os), f3.tape.trans (f2.tape.trans f1.tape), f3.output.trans (f2.output.trans f1.output), Nat.le_trans f1.size (Nat.le_trans f2.size f3.size), fun k hk ho =>
    (f3.block k (Nat.lt_of_lt_of_le hk (Nat.le_trans f1.size f2.size)) (by simp only [List.mem_singleton]; omega)).trans ((f2.block k (Nat.lt_of_lt_of_le hk f1.size) ho).trans (f1.block k hk (by simp)))⟩
/-- At scan's end: the result's cells; where the status is 0, they tell r. -/
def ZRet (W0 : World) (R M : Nat) (sv : Value) (all : List UInt8) (rb : Nat) (line col : Int) (nl : Bool) (r : Bool × Int × List UInt8 × St) (a : Act) (w : World) : Prop :=
  ∃ (u1 : Value) (tl : List Value) (typ : Int) (str : ByteArray) (sta : Int), a = ⟨(Value.pointer (some ⟨R, 0, none⟩) :: u1 :: Value.pointer (some ⟨rb, 0, none⟩) :: tl).toArray, []⟩ ∧ Blk w rb (zcells typ str line col nl sta) ∧ Fb [R] W0.heap.size W0 w ∧
    (sta = 0 → r.1 = true ∧ typ = r.2.1 ∧ str = ⟨r.2.2.1.toArray⟩ ∧ Rf w R M sv all r.2.2.2)
/-- At a round's end. -/
def ZAgain (W0 : World) (R M : Nat) (sv : Value) (all : List UInt8) (rb : Nat) (st : St) (a : Act) (w : World) : Prop :=
  ∃ (u1 : Value) (tl : List Value), a = ⟨(Value.pointer (some ⟨R, 0, none⟩) :: u1 :: Value.pointer (some ⟨rb, 0, none⟩) :: tl).toArray, []⟩ ∧ tl.length = 302 ∧ Rf w R M sv all st ∧ Blk w rb (zcells 0 ⟨#[]⟩ 0 0 false 0) ∧ Fb [R] W0.heap.size W0 w

set_option maxRecDepth 100000 in
set_option maxHeartbeats 1600000 in
/-- zzOne. -/
theorem zone_any (w : World) (c typ : Int) : Calls Tryz.prog 21 #[.int .i64 c, .int .i64 typ] w
    fun e w' => e = .returned (.agg (zcells typ ⟨[by8 c].toArray⟩ 0 0 false 0).toArray) ∧ Fr [] w w' := by
  have hcv := (Bs.one (w.alloc (.cells #[.int .i64 0, .string ⟨#[]⟩, .int .i64 0, .int .i64 0, .bool false, .int .i64 0] 31)) (c % 256) (by8 c) (by rw [by8_toNat])).text
  rw [size_alloc] at hcv
  go_enter Tryz.func21, Tryz.ntmps21
  go_wp2
  refine bodyPost_ret (v := .agg (zcells typ ⟨[by8 c].toArray⟩ 0 0 false 0).toArray) ?_ rfl ⟨rfl, ?_⟩
  · rw [results_cell1 rfl]
    unfold zcells
    go_simp
  · exact ((Fr.refl [] w).alloc _).alloc _
end Go.Proofs.YtnmpeipccpgkpaaGreatDoor
