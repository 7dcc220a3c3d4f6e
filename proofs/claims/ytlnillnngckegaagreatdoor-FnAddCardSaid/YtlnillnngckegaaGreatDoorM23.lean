/- Powers by squaring: plain facts. nat: expNN without a modulus: a power of a word. -/
import Derived.Test.YtlnillnngckegaaGreatDoorM01
import Derived.Test.YtlnillnngckegaaGreatDoorM06
import Derived.Test.YtlnillnngckegaaGreatDoorM11
import Derived.Test.YtlnillnngckegaaGreatDoorM22
namespace Go.Proofs.YtlnillnngckegaaGreatDoor

theorem top_bit {Y k : Nat} (hk : k ≤ 63) : Y * 2 ^ (63 - k) % 18446744073709551616 / 9223372036854775808 = Y / 2 ^ k % 2 := by
  have e1 : (18446744073709551616 : Nat) = 2 ^ k * 2 * 2 ^ (63 - k) := by
    rw [Nat.mul_assoc, Nat.mul_comm 2, ← Nat.mul_assoc, ← Nat.pow_add, show k + (63 - k) = 63 by omega]
  have e2 : (9223372036854775808 : Nat) = 2 ^ k * 2 ^ (63 - k) := by
    rw [← Nat.pow_add, show k + (63 - k) = 63 by omega]
  rw [e1, e2, Nat.mul_mod_mul_right, Nat.mul_div_mul_right _ _ (Nat.pow_pos (by omega)), Nat.mod_mul_right_div_self]
theorem next_word {Y a : Nat} : Y * 2 ^ a % 18446744073709551616 * 2 % 18446744073709551616 = Y * 2 ^ (a + 1) % 18446744073709551616 := by
  rw [Nat.pow_succ, ← Nat.mul_assoc]
  omega
theorem half_step (Y k : Nat) : Y / 2 ^ k = 2 * (Y / 2 ^ (k + 1)) + Y / 2 ^ k % 2 := by
  rw [Nat.pow_succ, ← Nat.div_div_eq_div_mul]; omega
theorem pow_step (X Y k : Nat) : X ^ (Y / 2 ^ k) = X ^ (Y / 2 ^ (k + 1)) * X ^ (Y / 2 ^ (k + 1)) * X ^ (Y / 2 ^ k % 2) := by
  conv => lhs; rw [half_step]
  rw [Nat.pow_add, Nat.two_mul, Nat.pow_add]
theorem pow_mono {X a b : Nat} (hX : 0 < X) (h : a ≤ b) : X ^ a ≤ X ^ b := Nat.pow_le_pow_right hX h
theorem sq_lt {a B : Nat} {k : Nat} (h : a * a < B ^ (2 * k)) : a < B ^ k := by
  rcases Nat.lt_or_ge a (B ^ k) with h1 | h1
  · exact h1
  · have := Nat.mul_le_mul h1 h1
    rw [← Nat.pow_add, ← Nat.two_mul] at this
    omega
/-- Squares on the way are small. -/
theorem way_lt {X Y k c : Nat} (hX : 0 < X) (h : X ^ Y < WB ^ (2 * c)) : X ^ (Y / 2 ^ (k + 1)) < WB ^ c := by
  refine sq_lt (Nat.lt_of_le_of_lt ?_ h)
  rw [← Nat.pow_add]
  refine pow_mono hX ?_
  have h1 : Y / 2 ^ (k + 1) = Y / 2 ^ k / 2 := by rw [Nat.pow_succ, Nat.div_div_eq_div_mul]
  have h2 : Y / 2 ^ k ≤ Y := Nat.div_le_self _ _
  omega
end Go.Proofs.YtlnillnngckegaaGreatDoor

namespace Go.Proofs.YtlnillnngckegaaGreatDoor
open Go Go.RowKit

theorem Glob.chgS {w w' : World} {v : Value} {o : Option Nat} (h : Glob w) (hs : Stor w v o) (hc : Chg w w' (fun k => some k = o)) : Glob w' :=
  ⟨hc.cell h.g0 (fun e => Stor.neVar (by rw [e]; exact hs) h.g0 rfl), hc.cell h.g1 (fun e => Stor.neVar (by rw [e]; exact hs) h.g1 rfl), hc.cell h.g2 (fun e => Stor.neVar (by rw [e]; exact hs) h.g2 rfl), hc.cell h.g3 (fun e => Stor.neVar (by rw [e]; exact hs) h.g3 rfl), hc.cell h.g6 (fun e => Stor.neVar (by rw [e]; exact hs) h.g6 rfl)⟩
theorem shlw_shlw (Y a : Nat) : shlw (shlw Y a) 1 = shlw Y (a + 1) := by
  unfold shlw
  rw [WB_eq]
  have := @next_word Y a
  rw [Nat.pow_one]; exact this
/-- The bit at the top. -/
theorem bits_top (x : Nat) (hx : x < WB) : bits .and .u64 (x : Int) 9223372036854775808 = ((x / 9223372036854775808 * 9223372036854775808 : Nat) : Int) := by
  have h1 := bits_and_u64_nat x 9223372036854775808 (by rw [WB_eq] at hx; omega) (by omega)
  rw [show (9223372036854775808 : Int) = ((9223372036854775808 : Nat) : Int) from rfl, h1]
  congr 1
  rw [WB_eq] at hx
  rcases (by omega : x / 9223372036854775808 = 0 ∨ x / 9223372036854775808 = 1) with h | h
  · rw [h, Nat.zero_mul]
    apply Nat.eq_of_testBit_eq
    intro i
    rw [Nat.testBit_and, show (9223372036854775808 : Nat) = 2 ^ 63 from rfl, Nat.testBit_two_pow, Nat.zero_testBit]
    by_cases hi : 63 = i
    · subst hi
      rw [Nat.testBit_lt_two_pow (by omega)]; rfl
    · simp [hi]
  · rw [h, Nat.one_mul]
    apply Nat.eq_of_testBit_eq
    intro i
    rw [Nat.testBit_and, show (9223372036854775808 : Nat) = 2 ^ 63 from rfl, Nat.testBit_two_pow]
    by_cases hi : 63 = i
    · subst hi
      rw [Nat.testBit_eq_decide_div_mod_eq, show (2 : Nat) ^ 63 = 9223372036854775808 from rfl, h]; rfl
    · simp [hi]
theorem norm_nat (w : World) (v : Value) (N : Nat) (o : Option Nat) (h : IsNat w v N o) (h0 : N ≠ 0) (hn : (digs N).length ≤ 1000000) : Calls Tryz.prog 100 #[v] w fun e w' => e = .returned v ∧ w = w' := by
  obtain ⟨b, cap, C, rfl, rfl, ha, hc, hcap, ht, hl, hp⟩ := h.pos h0
  have := norm_c w b (digs N).length cap C ha hl (by omega) hn
  rw [ht, val_digs] at this
  exact this

end Go.Proofs.YtlnillnngckegaaGreatDoor
