/- Slices that came in: []byte, []int. -/
import Derived.Test.YtgiklkapedlckaaGreatDoorSc
import Derived.Lib.SlBytesRowKit
import Derived.ProofKit
namespace Go.Proofs.YtgiklkapedlckaaGreatDoor
open Go.ChangeShapes Go.WideShapes Go.ChangeAt Go.RowKit

/-- A slice that came in (or not) reads as the bytes l. -/
def Sl (w : World) (v : Value) (l : List UInt8) : Prop := ∃ a c, v = .slice a l.length c ∧ l.length ≤ c ∧ (a = none → c = 0) ∧
  (0 < l.length → ∃ ad, a = some ad ∧ ad.block < w.heap.size ∧ ∀ i (h : i < l.length), w.cell? (ad.add i) = some (.int .u8 l[i].toNat))
theorem add_flat (g i : Nat) : (⟨g, 0, none⟩ : Addr).add i = ⟨g, i, none⟩ := by rw [Lib.addr_add, Nat.zero_add]
theorem block_add' (a : Addr) (i : Nat) : (a.add i).block = a.block := by unfold Addr.add; split <;> rfl
theorem Sl.below {w w' : World} {v : Value} {l : List UInt8} (h : Sl w v l) (f : Below w.heap.size w w') : Sl w' v l := by
  obtain ⟨a, c, h1, h2, h3, h4⟩ := h
  refine ⟨a, c, h1, h2, h3, fun hp => ?_⟩
  obtain ⟨ad, h5, h6, h7⟩ := h4 hp
  exact ⟨ad, h5, Nat.lt_of_lt_of_le h6 f.size, fun i hi => (f.cell (p := ad.add i) (by rw [block_add']; exact h6)).trans (h7 i hi)⟩

/-- A slice that came in reads as the numbers l. -/
def Si (w : World) (v : Value) (l : List Int) : Prop := ∃ a c, v = .slice a l.length c ∧ l.length ≤ c ∧
  (0 < l.length → ∃ ad, a = some ad ∧ ad.block < w.heap.size ∧ ∀ i (h : i < l.length), w.cell? (ad.add i) = some (.int .i64 l[i]))


theorem opened_any {H : Type} {enc : TypeId × Value → H} {P : Program} {t e : TypeId} {k : IntKind} (ht : P.underlying t = some (.slice e)) (he : P.underlying e = some (.int k)) (hc : P.cellsOf e = 1) {W : World} {a0 : Option Addr} {len cap : Nat} {d0 : DataW H} {p : List MemPlace}
    (h0 : DataW.Trod enc P W 0 (fun _ => true) true t (.slice a0 len cap) d0 p) :
    ∃ xs : List Int, xs.length = len ∧ len ≤ cap ∧ (a0 = none → cap = 0) ∧ (∀ x ∈ xs, (Lit.int k x).wf = true) ∧
      (0 < xs.length → ∃ ad, a0 = some ad ∧ ad.block < W.heap.size ∧ ∀ i (h : i < xs.length), W.cell? (ad.add i) = some (.int k xs[i])) := by
  obtain ⟨fuel, hf⟩ := h0
  rcases open_ints ht he hc hf with ⟨hcs, hx⟩ | ⟨a, len', cap', zs, hcs, _, hl, hm, hz, hx, hcell, hwz⟩
  · simp [Value.cells] at hcs
    obtain ⟨rfl, rfl, rfl⟩ := hcs
    exact ⟨[], rfl, Nat.le_refl _, fun _ => rfl, (fun _ h => by cases h), fun h => absurd h (by simp)⟩
  · simp [Value.cells] at hcs
    obtain ⟨rfl, rfl, rfl⟩ := hcs
    simp only [if_true] at hz
    have hlen : (zs.take len).length = len := by simp; omega
    refine ⟨zs.take len, hlen, hl, (fun h => by cases h), (fun x hx' => hwz x (List.mem_of_mem_take hx')), fun hp => ⟨a, rfl, ?_, fun i hi => ?_⟩⟩
    · rw [hlen] at hp
      have := World.block_lt_of_cell? _ _ (hcell 0 (by omega))
      rw [block_add'] at this; exact this
    · rw [hlen] at hi
      rw [hcell i (by omega)]
      simp [List.getD, hi, show i < zs.length by omega]

theorem Si.opened {H : Type} {enc : TypeId × Value → H} {P : Program} {t e : TypeId} (ht : P.underlying t = some (.slice e)) (he : P.underlying e = some (.int .i64)) (hc : P.cellsOf e = 1) {W : World} {a0 : Option Addr} {len cap : Nat} {d0 : DataW H} {p : List MemPlace}
    (h0 : DataW.Trod enc P W 0 (fun _ => true) true t (.slice a0 len cap) d0 p) : ∃ l, Si W (.slice a0 len cap) l := by
  obtain ⟨xs, rfl, h1, _, _, h2⟩ := opened_any ht he hc h0
  exact ⟨xs, a0, cap, rfl, h1, h2⟩

theorem Sl.opened {H : Type} {enc : TypeId × Value → H} {P : Program} {t e : TypeId} (ht : P.underlying t = some (.slice e)) (he : P.underlying e = some (.int .u8)) (hc : P.cellsOf e = 1) {W : World} {a0 : Option Addr} {len cap : Nat} {d0 : DataW H} {p : List MemPlace}
    (h0 : DataW.Trod enc P W 0 (fun _ => true) true t (.slice a0 len cap) d0 p) : ∃ l, Sl W (.slice a0 len cap) l := by
  obtain ⟨xs, rfl, h1, h3, hw, h2⟩ := opened_any ht he hc h0
  have hlen : (xs.map fun x => UInt8.ofNat x.toNat).length = xs.length := by simp
  refine ⟨xs.map fun x => UInt8.ofNat x.toNat, a0, cap, by rw [hlen], by rw [hlen]; exact h1, h3, fun hp => ?_⟩
  rw [hlen] at hp
  obtain ⟨ad, h4, h5, h6⟩ := h2 hp
  refine ⟨ad, h4, h5, fun i hi => ?_⟩
  rw [hlen] at hi
  rw [h6 i hi, List.getElem_map]
  have hb := byte_of_wf (hw xs[i] (List.getElem_mem hi))
  have e : (UInt8.ofNat xs[i].toNat).toNat = xs[i].toNat := by rw [UInt8.toNat_ofNat']; omega
  rw [e, Int.toNat_of_nonneg hb.1]
end Go.Proofs.YtgiklkapedlckaaGreatDoor
