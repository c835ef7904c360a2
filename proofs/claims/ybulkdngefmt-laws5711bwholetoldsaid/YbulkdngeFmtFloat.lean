/-
  Seat b5711aF: a float is equal to zero where its bits, the top one left out, are zero.
-/
import Derived.Test.YbulkdngeFmtKey
namespace Go.Proofs.YbulkdngeFmt
open Go.RowKit Ieee
set_option linter.unusedVariables false

theorem shl_zero (m k : Nat) : m <<< k = 0 ↔ m = 0 := by
  rw [Nat.shiftLeft_eq]
  constructor
  · intro h
    rcases Nat.mul_eq_zero.1 h with h | h
    · exact h
    · exact absurd h (Nat.ne_of_gt (Nat.two_pow_pos k))
  · intro h; rw [h, Nat.zero_mul]

theorem signed_zero (s : Bool) (m k : Nat) : signed s m k = 0 ↔ m = 0 := by
  unfold signed
  cases s
  · simp
  · simp

theorem compare_eq (a b : Int) : compare a b = Ordering.eq ↔ a = b := by
  simp

theorem order_zero (fb : Nat) (h : fb < 18446744073709551616) : (FloatKind.f64.format.order fb 0 == some Ordering.eq) = decide (fb % 9223372036854775808 = 0) := by
  have hr0 : (FloatKind.f64.format.read 0) = .number false 0 FloatKind.f64.format.leastPlace := by rfl
  have hsw : FloatKind.f64.format.signWeight = 9223372036854775808 := by rfl
  have hbi : FloatKind.f64.format.binade = 4503599627370496 := by rfl
  have key : (FloatKind.f64.format.order fb 0 = some Ordering.eq) ↔ fb % 9223372036854775808 = 0 := by
    unfold Format.order
    rw [hr0]
    unfold Format.read
    rw [hsw, hbi]
    simp only []
    split
    · next hlt =>
      show some (compare (signed _ (fb % 9223372036854775808) _) (signed false 0 _)) = some Ordering.eq ↔ _
      rw [Option.some.injEq, compare_eq, show ∀ k, signed false 0 k = 0 from fun k => (signed_zero false 0 k).2 rfl, signed_zero]
    · next hge =>
      split
      · next hlt =>
        show some (compare (signed _ (4503599627370496 + fb % 9223372036854775808 % 4503599627370496) _) (signed false 0 _)) = some Ordering.eq ↔ _
        rw [Option.some.injEq, compare_eq, show ∀ k, signed false 0 k = 0 from fun k => (signed_zero false 0 k).2 rfl, signed_zero]
        omega
      · split
        · next hi =>
          show some (if _ then Ordering.lt else Ordering.gt) = some Ordering.eq ↔ _
          constructor
          · intro he
            split at he <;> simp at he
          · intro he; omega
        · show (none : Option Ordering) = some Ordering.eq ↔ _
          constructor
          · intro he; cases he
          · intro he; omega
  rw [Bool.eq_iff_iff]
  simp [key]
end Go.Proofs.YbulkdngeFmt
