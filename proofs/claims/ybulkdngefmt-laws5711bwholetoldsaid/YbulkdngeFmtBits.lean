/-
  Seat b5711aF: bits of a REAL: no Go in sight.
-/
import Derived.Test.YbulkdngeFmtFloat
import Derived.Laws.Bits64
import Derived.Laws.Bits64b
namespace Go.Proofs.YbulkdngeFmt
set_option linter.unusedVariables false

theorem or_top (x : Nat) (h : x < 9223372036854775808) : x ||| 9223372036854775808 = x + 9223372036854775808 := by
  have := Nat.two_pow_add_eq_or_of_lt (i := 63) (b := x) (by simpa using h) 1
  rw [Nat.mul_one, show (2 : Nat) ^ 63 = 9223372036854775808 from rfl] at this
  rw [Nat.or_comm, ← this, Nat.add_comm]
theorem xor_top (x : Nat) (h : x < 9223372036854775808) : x ^^^ 9223372036854775808 = x + 9223372036854775808 := by
  rw [← or_top x h]
  apply Nat.eq_of_testBit_eq
  intro i
  rw [Nat.testBit_xor, Nat.testBit_or, show (9223372036854775808 : Nat) = 2 ^ 63 from rfl, Nat.testBit_two_pow]
  by_cases hi : 63 = i
  · subst hi
    have : x.testBit 63 = false := Nat.testBit_lt_two_pow (by simpa using h)
    simp [this]
  · simp [hi]
theorem all_xor (x : Nat) (h : x < 18446744073709551616) : 18446744073709551615 ^^^ x = 18446744073709551615 - x := by
  have h1 : (BitVec.allOnes 64 ^^^ BitVec.ofNat 64 x).toNat = 2 ^ 64 - 1 - x := by
    rw [BitVec.allOnes_xor, BitVec.toNat_not, BitVec.toNat_ofNat, Nat.mod_eq_of_lt (by omega)]
  rw [BitVec.toNat_xor, BitVec.toNat_allOnes, BitVec.toNat_ofNat, Nat.mod_eq_of_lt (by omega)] at h1
  exact h1

theorem or_top_i (x : Nat) (h : x < 9223372036854775808) : bits .or .u64 (x : Int) 9223372036854775808 = (x : Int) + 9223372036854775808 := by
  have := bits_or_u64_nat x 9223372036854775808 (by omega) (by omega)
  rw [or_top x h] at this
  simpa using this
theorem xor_top_i (x : Nat) (h : x < 9223372036854775808) : bits .xor .u64 (x : Int) 9223372036854775808 = (x : Int) + 9223372036854775808 := by
  have := bits_xor_u64_nat x 9223372036854775808 (by omega) (by omega)
  rw [xor_top x h] at this
  simpa using this
theorem all_xor_i (x : Nat) (h : x < 18446744073709551616) : bits .xor .u64 18446744073709551615 (x : Int) = 18446744073709551615 - (x : Int) := by
  have := bits_xor_u64_nat 18446744073709551615 x (by omega) (by omega)
  rw [all_xor x h] at this
  rw [show ((18446744073709551615 : Nat) : Int) = 18446744073709551615 from rfl] at this
  omega
theorem xor_all_i (x : Nat) (h : x < 18446744073709551616) : bits .xor .u64 (x : Int) 18446744073709551615 = 18446744073709551615 - (x : Int) := by
  have := bits_xor_u64_nat x 18446744073709551615 (by omega) (by omega)
  rw [Nat.xor_comm, all_xor x h] at this
  rw [show ((18446744073709551615 : Nat) : Int) = 18446744073709551615 from rfl] at this
  omega
end Go.Proofs.YbulkdngeFmt
