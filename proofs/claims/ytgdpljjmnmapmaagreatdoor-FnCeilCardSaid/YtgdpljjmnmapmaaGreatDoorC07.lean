/- Powers by squaring: plain facts. -/
import Derived.Test.YtgdpljjmnmapmaaGreatDoorC01
namespace Go.Proofs.YtgdpljjmnmapmaaGreatDoor

theorem top_bit {Y k : Nat} (hk : k ≤ 63) : Y * 2 ^ (63 - k) % 18446744073709551616 / 9223372036854775808 = Y / 2 ^ k % 2 := by
  have e1 : (18446744073709551616 : Nat) = 2 ^ k * 2 * 2 ^ (63 - k) := by
    rw [Nat.mul_assoc, Nat.mul_comm 2, ← Nat.mul_assoc, ← Nat.pow_add, show k + (63 - k) = 63 by omega]
  have e2 : (9223372036854775808 : Nat) = 2 ^ k * 2 ^ (63 - k) := by
    rw [← Nat.pow_add, show k + (63 - k) = 63 by omega]
  rw [e1, e2, Nat.mul_mod_mul_right, Nat.mul_div_mul_right _ _ (Nat.pow_pos (by omega)), Nat.mod_mul_right_div_self]
theorem next_word {Y a : Nat} : Y * 2 ^ a % 18446744073709551616 * 2 % 18446744073709551616 = Y * 2 ^ (a + 1) % 18446744073709551616 := by
  rw [Nat.pow_succ, ← Nat.mul_assoc]
  omega
theorem half_step (Y k : Nat) : Y / 2 ^ k = 2 * (Y / 2 ^ (k + 1)) + Y / 2 ^ k % 2 := by
  rw [Nat.pow_succ, ← Nat.div_div_eq_div_mul]; omega
theorem pow_step (X Y k : Nat) : X ^ (Y / 2 ^ k) = X ^ (Y / 2 ^ (k + 1)) * X ^ (Y / 2 ^ (k + 1)) * X ^ (Y / 2 ^ k % 2) := by
  conv => lhs; rw [half_step]
  rw [Nat.pow_add, Nat.two_mul, Nat.pow_add]
theorem pow_mono {X a b : Nat} (hX : 0 < X) (h : a ≤ b) : X ^ a ≤ X ^ b := Nat.pow_le_pow_right hX h
theorem sq_lt {a B : Nat} {k : Nat} (h : a * a < B ^ (2 * k)) : a < B ^ k := by
  rcases Nat.lt_or_ge a (B ^ k) with h1 | h1
  · exact h1
  · have := Nat.mul_le_mul h1 h1
    rw [← Nat.pow_add, ← Nat.two_mul] at this
    omega
/-- Squares on the way are small. -/
theorem way_lt {X Y k c : Nat} (hX : 0 < X) (h : X ^ Y < WB ^ (2 * c)) : X ^ (Y / 2 ^ (k + 1)) < WB ^ c := by
  refine sq_lt (Nat.lt_of_le_of_lt ?_ h)
  rw [← Nat.pow_add]
  refine pow_mono hX ?_
  have h1 : Y / 2 ^ (k + 1) = Y / 2 ^ k / 2 := by rw [Nat.pow_succ, Nat.div_div_eq_div_mul]
  have h2 : Y / 2 ^ k ≤ Y := Nat.div_le_self _ _
  omega
end Go.Proofs.YtgdpljjmnmapmaaGreatDoor
