/- Bits of a 64-bit mask, in plain Lean. No program in sight. -/
import Derived.WalkKit
namespace Go.Proofs.YtgiklkapedlckaaGreatDoor
open Go.RowKit

/-- Is the character in the set? As the machine reckons it. -/
def inM (m c : Int) : Bool := bits BinOp.and IntKind.i64 m (wrap64 (2 ^ min (IntKind.u64.wrap c).toNat 64)) != 0
/-- Bit k of the mask. -/
def bitM (m : Int) (k : Nat) : Bool := (BitVec.ofInt 64 m).getLsbD k

theorem wrap64_zero (x : Nat) (h : x < 18446744073709551616) : (wrap64 (x : Int) != 0) = decide (x ≠ 0) := by
  unfold wrap64
  rw [Bool.eq_iff_iff]
  simp only [bne_iff_ne, decide_eq_true_eq]
  omega

theorem ofInt_wrap64 (n : Int) : BitVec.ofInt 64 (wrap64 n) = BitVec.ofInt 64 n := by
  apply BitVec.eq_of_toNat_eq
  rw [BitVec.toNat_ofInt, BitVec.toNat_ofInt]
  congr 1
  unfold wrap64
  show ((n + 9223372036854775808) % 18446744073709551616 - 9223372036854775808) % 18446744073709551616 = n % 18446744073709551616
  omega

theorem inM_and (m c : Int) (k : Nat) (hk : min (IntKind.u64.wrap c).toNat 64 = k) : inM m c = decide ((BitVec.ofInt 64 m &&& BitVec.ofInt 64 (2 ^ k)) ≠ 0#64) := by
  have e : bits BinOp.and IntKind.i64 m (wrap64 (2 ^ k)) = wrap64 ((BitVec.ofInt 64 m &&& BitVec.ofInt 64 (2 ^ k)).toNat : Int) := by
    show IntKind.i64.wrap ((BitVec.ofInt 64 m &&& BitVec.ofInt 64 (wrap64 (2 ^ k))).toNat : Int) = _
    rw [ofInt_wrap64, IntKind.wrap_i64]
    unfold wrap64
    generalize ((BitVec.ofInt 64 m &&& BitVec.ofInt 64 (2 ^ k)).toNat : Int) = x
    omega
  unfold inM
  have hb := (BitVec.ofInt 64 m &&& BitVec.ofInt 64 (2 ^ k)).isLt
  have h := wrap64_zero (BitVec.ofInt 64 m &&& BitVec.ofInt 64 (2 ^ k)).toNat hb
  rw [hk, e, h]
  congr 1
  apply propext
  rw [ne_eq, ne_eq, ← BitVec.toNat_inj]
  simp

theorem ofInt_pow (k : Nat) : BitVec.ofInt 64 (2 ^ k) = BitVec.twoPow 64 k := by
  apply BitVec.eq_of_toNat_eq
  rw [BitVec.toNat_ofInt, BitVec.toNat_twoPow]
  have : ((2 : Int) ^ k) = ((2 ^ k : Nat) : Int) := by simp
  rw [this]
  have h2 : ((2 ^ 64 : Nat) : Int) = (2 : Int) ^ 64 := by simp
  norm_cast

theorem inM_bit (m c : Int) (h0 : 0 ≤ c) (h1 : c < 64) : inM m c = bitM m c.toNat := by
  have hk : min (IntKind.u64.wrap c).toNat 64 = c.toNat := by
    rw [IntKind.wrap_u64, Int.emod_eq_of_lt h0 (by omega)]
    omega
  rw [inM_and m c _ hk, ofInt_pow, BitVec.and_twoPow]
  unfold bitM
  cases h : (BitVec.ofInt 64 m).getLsbD c.toNat
  · simp
  · simp only [if_true]
    rw [decide_eq_true_eq]
    intro e
    have := congrArg (fun x => BitVec.getLsbD x c.toNat) e
    simp at this
    omega

theorem inM_out (m c : Int) (h : c = -1 ∨ (64 ≤ c ∧ c ≤ 255)) : inM m c = false := by
  have hk : min (IntKind.u64.wrap c).toNat 64 = 64 := by
    rw [IntKind.wrap_u64]
    rcases h with h | h
    · subst h; decide
    · omega
  rw [inM_and m c _ hk]
  have : BitVec.ofInt 64 (2 ^ 64) = 0#64 := by decide
  rw [this]
  simp

theorem u64_bit (m : Int) (k : Nat) : (bits BinOp.and IntKind.u64 (IntKind.u64.wrap m / 2 ^ k) 1 == 0) = !bitM m k := by
  have hw : IntKind.u64.wrap m = ((BitVec.ofInt 64 m).toNat : Int) := by
    rw [IntKind.wrap_u64, BitVec.toNat_ofInt]
    have : (0 : Int) ≤ m % 18446744073709551616 := by omega
    show m % 18446744073709551616 = ((m % 18446744073709551616).toNat : Int)
    omega
  have hlt := (BitVec.ofInt 64 m).isLt
  rw [hw]
  unfold bitM
  rw [BitVec.getLsbD]
  generalize (BitVec.ofInt 64 m).toNat = a at hlt ⊢
  have hp : ((a : Int) / 2 ^ k) = ((a / 2 ^ k : Nat) : Int) := by simp
  have h1 : (1 : Int) = ((1 : Nat) : Int) := rfl
  rw [hp, h1, u64_and_nat _ _ (Nat.lt_of_le_of_lt (Nat.div_le_self _ _) hlt) (by decide)]
  rw [Nat.testBit_eq_decide_div_mod_eq, Nat.and_one_is_mod]
  have : a / 2 ^ k % 2 = 0 ∨ a / 2 ^ k % 2 = 1 := by omega
  rcases this with h | h <;> rw [h] <;> rfl
theorem b_no {a b : Int} (h : a ≠ b) : (a == b) = false ∧ (a != b) = true := ⟨beq_eq_false_iff_ne.2 h, bne_iff_ne.2 h⟩
theorem b_yes {a b : Int} (h : a = b) : (a == b) = true ∧ (a != b) = false := ⟨beq_iff_eq.2 h, by simp [h]⟩
end Go.Proofs.YtgiklkapedlckaaGreatDoor
