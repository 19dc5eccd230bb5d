/- TokenName, walked. What a row's variable gives: the table of token names. -/
import Derived.Test.YtgiklkapedlckaaGreatDoorWr
import Derived.Test.YtgiklkapedlckaaGreatDoorBs
import Derived.OpenShut
import Derived.ProofKit
namespace Go.Proofs.YtgiklkapedlckaaGreatDoor
open Go.RowKit

/-- The table of the token's names. -/
def HasTok (w : World) : Prop := 0 < w.heap.size ∧ ∀ i, i < 56 → ∃ s : ByteArray, w.cell? ⟨0, i, none⟩ = some (.string s)
theorem HasTok.of_block {w w' : World} (h : HasTok w) (e : w'.heap[0]? = w.heap[0]?) (hs : w.heap.size ≤ w'.heap.size) : HasTok w' :=
  ⟨Nat.lt_of_lt_of_le h.1 hs, fun i hi => by
    obtain ⟨s, hc⟩ := h.2 i hi
    exact ⟨s, (World.cell?_of_block (w := w) e).trans hc⟩⟩

set_option maxRecDepth 100000 in
set_option maxHeartbeats 1600000 in
theorem tn_low (w : World) (c : Int) (h : c < 57346) (h2 : -1 ≤ c) : Calls Tryz.prog 23 #[.int .i64 c] w fun e w' => (∃ nm : ByteArray, e = .returned (.string nm)) ∧ Fr [] w w' := by
  have hcv := (Bs.one w (c % 256) (by8 c) (by rw [by8_toNat])).text
  go_enter Tryz.func23, Tryz.ntmps23
  go_wp2
  go_ret
  exact ⟨⟨_, rfl⟩, (Fr.refl _ _).alloc _⟩

set_option maxRecDepth 100000 in
set_option maxHeartbeats 1600000 in
theorem tn_high (w : World) (i : Nat) (h : HasTok w) (hi : i < 56) : Calls Tryz.prog 23 #[.int .i64 ((57346 : Int) + i)] w fun e w' => (∃ nm : ByteArray, e = .returned (.string nm)) ∧ Fr [] w w' := by
  obtain ⟨s, hc⟩ := h.2 i hi
  obtain ⟨c, hcc⟩ : ∃ c : Int, c = 57346 + i := ⟨_, rfl⟩
  rw [← hcc]
  have h1 : 57346 ≤ c := by omega
  have h2 : c - 57346 = (i : Int) := by omega
  have h3 : (i : Int) < 56 := by omega
  have h4 : c ≤ 100000 := by omega
  have hcv := (Bs.one w (c % 256) (by8 c) (by rw [by8_toNat])).text
  clear hcc
  cases hb : s.toList.isEmpty
  · go_enter Tryz.func23, Tryz.ntmps23
    go_wp2
    go_ret
    exact ⟨⟨_, rfl⟩, Fr.refl _ _⟩
  · go_enter Tryz.func23, Tryz.ntmps23
    go_wp2
    go_ret
    exact ⟨⟨_, rfl⟩, (Fr.refl _ _).alloc _⟩
theorem tn_any (w : World) (c : Int) (h : HasTok w) (h0 : -1 ≤ c) (h1 : c < 57402) : Calls Tryz.prog 23 #[.int .i64 c] w fun e w' => (∃ nm : ByteArray, e = .returned (.string nm)) ∧ Fr [] w w' := by
  by_cases hc : c < 57346
  · exact tn_low w c hc h0
  · obtain ⟨i, hi⟩ : ∃ i : Nat, c = 57346 + i := ⟨(c - 57346).toNat, by omega⟩
    rw [hi]; exact tn_high w i h (by omega)
end Go.Proofs.YtgiklkapedlckaaGreatDoor

namespace Go.Proofs.YtgiklkapedlckaaGreatDoor
open Go.RowKit

theorem gTok : Tryz.prog.globalNamed "github.com/yuin/gopher-lua/parse.yyToknames" = some 0 := by kernel_rfl
theorem gTokType : (Tryz.prog.globals[0]?).map (·.type) = some 96 := by kernel_rfl
theorem cellsTok : Tryz.prog.cellsOf 9 = 1 := by kernel_rfl

theorem tok_of_var {H : Type} {enc : TypeId × Value → H} {W : World} {sp : Nat → Bool} {g : Nat} {t : TypeId} {cs : Array Value} {fuel : Nat} {d : DataW H} {p : List MemPlace}
    (hg : Tryz.prog.globalNamed "github.com/yuin/gopher-lua/parse.yyToknames" = some g) (ht : (Tryz.prog.globals[g]?).map (·.type) = some t)
    (hvar : W.var? Tryz.prog "github.com/yuin/gopher-lua/parse.yyToknames" = some cs) (hd : DataW.trod enc Tryz.prog W 0 sp true fuel t cs.toList = some (d, p)) : HasTok W := by
  obtain rfl := Option.some.inj (gTok.symm.trans hg)
  obtain rfl := Option.some.inj (gTokType.symm.trans ht)
  obtain ⟨xs, m, rfl, -, hlen, hxs, hel⟩ := DataW.trod_array Tryz.underlying96 hd
  have key : ∀ i, i < 56 → ∃ s : ByteArray, W.cell? ⟨0, i, none⟩ = some (.string s) := fun i hi => by
    have h := hel i hi
    rw [cellsTok, List.getElem?_eq_getElem (by omega)] at h
    obtain ⟨s, hs, -, -⟩ := DataW.trod_string Tryz.underlying9 h
    refine ⟨s, (World.var?_cell hg hvar i).trans ?_⟩
    have h2 : ((cs.toList.drop (i * 1)).take 1)[0]? = some (.string s) := by rw [hs]; rfl
    rw [List.getElem?_take_of_lt (by decide), List.getElem?_drop] at h2
    simpa using h2
  refine ⟨?_, key⟩
  obtain ⟨s, hc⟩ := key 0 (by decide)
  rcases Nat.lt_or_ge 0 W.heap.size with h' | h'
  · exact h'
  · simp [World.cell?, Array.getElem?_eq_none h'] at hc
end Go.Proofs.YtgiklkapedlckaaGreatDoor
