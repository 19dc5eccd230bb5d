/- Small lemmas for the laws' walks. -/
import Derived.Test.YtbolfnpocmbbhaaDoorNew
namespace Go.Proofs.YtbolfnpocmbbhaaDoor
open Go.RowKit

/-- What is written in blocks that are new since a, is new since a. -/
theorem Fr.new {own : List Nat} {a b c : World} (h : Fr [] a b) (k : Fr own b c) (ho : ∀ j ∈ own, a.heap.size ≤ j) : Fr [] a c :=
  ⟨k.os.trans h.os, k.tape.trans h.tape, k.output.trans h.output, Nat.le_trans h.size k.size, fun i hi _ => (k.block i (Nat.lt_of_lt_of_le hi h.size) (fun hm => by have := ho i hm; omega)).trans (h.block i hi (by simp))⟩
theorem Loc.own_new {L : Loc} {n : Nat} (hS : n ≤ L.S) (hR : n ≤ L.R) (hD : n ≤ L.D) (hU : n ≤ L.U) : ∀ k ∈ L.own, n ≤ k := by
  intro k hk
  simp only [Loc.own, List.mem_cons, List.not_mem_nil, or_false] at hk
  omega
/-- A string's k-th byte, and what is left from there. -/
theorem str_drop (s : ByteArray) (k : Nat) (h : k < s.size) : s.data.toList.drop k = s[k] :: s.data.toList.drop (k + 1) := by
  have hlen : s.data.toList.length = s.size := by rw [Array.length_toList]; rfl
  rw [List.drop_eq_getElem_cons (by omega)]
  rfl
theorem str_drop_end (s : ByteArray) (k : Nat) (h : ¬ k < s.size) : s.data.toList.drop k = [] := by
  have hlen : s.data.toList.length = s.size := by rw [Array.length_toList]; rfl
  exact List.drop_eq_nil_of_le (by omega)
end Go.Proofs.YtbolfnpocmbbhaaDoor
