/- Bits of a word, as numbers. -/
import Derived.Test.Qxb6613472aMap
namespace Go.Proofs.Qxb6613472a.Quorum
open Go Go.RowKit Go.Proofs.Qxb6613472a.Base Go.Proofs.Qxb6613472a.Plain

theorem wrap_u64 {m : Nat} (h : m < 2 ^ 64) : IntKind.u64.wrap (m : Int) = (m : Int) := by
  simp [IntKind.wrap, IntKind.bits, IntKind.signed]
  omega

theorem wrap_pow {k : Nat} (hk : k < 64) : IntKind.u64.wrap (2 ^ k) = ((2 ^ k : Nat) : Int) := by
  have h : (2 : Int) ^ k = ((2 ^ k : Nat) : Int) := by simp
  rw [h]
  exact wrap_u64 (Nat.pow_lt_pow_right (by omega) hk)

theorem ofInt_nat (m : Nat) : BitVec.ofInt 64 (m : Int) = BitVec.ofNat 64 m := by simp

theorem and_bits {B m : Nat} (hB : B < 2 ^ 64) (hm : m < 2 ^ 64) : bits .and .u64 (B : Int) (m : Int) = ((B &&& m : Nat) : Int) := by
  have h := Nat.and_lt_two_pow B hm
  show IntKind.u64.wrap ((BitVec.ofInt 64 (B : Int) &&& BitVec.ofInt 64 (m : Int)).toNat : Int) = _
  rw [ofInt_nat, ofInt_nat, BitVec.toNat_and, BitVec.toNat_ofNat, BitVec.toNat_ofNat, Nat.mod_eq_of_lt hB, Nat.mod_eq_of_lt hm]
  exact wrap_u64 h

theorem or_bits {B m : Nat} (hB : B < 2 ^ 64) (hm : m < 2 ^ 64) : bits .or .u64 (B : Int) (m : Int) = ((B ||| m : Nat) : Int) := by
  have h := Nat.or_lt_two_pow hB hm
  show IntKind.u64.wrap ((BitVec.ofInt 64 (B : Int) ||| BitVec.ofInt 64 (m : Int)).toNat : Int) = _
  rw [ofInt_nat, ofInt_nat, BitVec.toNat_or, BitVec.toNat_ofNat, BitVec.toNat_ofNat, Nat.mod_eq_of_lt hB, Nat.mod_eq_of_lt hm]
  exact wrap_u64 h

theorem and_pow (B k : Nat) : B &&& 2 ^ k = if B.testBit k then 2 ^ k else 0 := by
  apply Nat.eq_of_testBit_eq
  intro i
  rw [Nat.testBit_and, Nat.testBit_two_pow]
  by_cases e : k = i
  · subst e
    cases h : B.testBit k <;> simp
  · cases h : B.testBit k <;> simp [e]

/-- Is bit k set. -/
theorem bit_asked {B k : Nat} (hB : B < 2 ^ 64) (hk : k < 64) : (bits .and .u64 (B : Int) (IntKind.u64.wrap (2 ^ k)) != 0) = B.testBit k := by
  rw [wrap_pow hk, and_bits hB (Nat.pow_lt_pow_right (by omega) hk), and_pow]
  cases h : B.testBit k
  · rfl
  · have : (0 : Nat) < 2 ^ k := Nat.two_pow_pos k
    simp only [if_true, bne_iff_ne]
    omega

/-- Bit k is set. -/
theorem bit_set {B k : Nat} (hB : B < 2 ^ 64) (hk : k < 64) : bits .or .u64 (B : Int) (IntKind.u64.wrap (2 ^ k)) = ((B ||| 2 ^ k : Nat) : Int) := by
  rw [wrap_pow hk, or_bits hB (Nat.pow_lt_pow_right (by omega) hk)]

theorem bit_lt {B k : Nat} (hB : B < 2 ^ 64) (hk : k < 64) : B ||| 2 ^ k < 2 ^ 64 := Nat.or_lt_two_pow hB (Nat.pow_lt_pow_right (by omega) hk)

theorem bit_just {B k n : Nat} {f : Nat → Int} {pre : List Int} (hinc : Incr n f) (hk : k < n) (h : ∀ i, i < n → B.testBit i = decide (f i ∈ pre)) : ∀ i, i < n → (B ||| 2 ^ k).testBit i = decide (f i ∈ pre ++ [f k]) := by
  intro i hi
  rw [Nat.testBit_or, Nat.testBit_two_pow, h i hi]
  by_cases e : k = i
  · subst e; simp
  · have : f i ≠ f k := fun e' => e (incr_inj hinc hi hk e').symm
    simp [e, this]

end Go.Proofs.Qxb6613472a.Quorum
