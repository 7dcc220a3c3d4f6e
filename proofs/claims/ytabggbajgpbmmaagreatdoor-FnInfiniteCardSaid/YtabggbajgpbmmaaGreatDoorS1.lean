/- Shifts of words. -/
import Derived.Test.YtabggbajgpbmmaaGreatDoorV2
namespace Go.Proofs.YtabggbajgpbmmaaGreatDoor
open Go Go.RowKit

def shrw (x t : Nat) : Nat := x / 2 ^ t
noncomputable def shlw (x t : Nat) : Nat := x * 2 ^ t % WB
def orw (x y : Nat) : Nat := x ||| y
theorem WB_two_pow : WB = 2 ^ 64 := by rw [WB_eq]
theorem shrw_le (x t : Nat) : shrw x t ≤ x := Nat.div_le_self _ _
theorem shrw_lt {x : Nat} (t : Nat) (h : x < WB) : shrw x t < WB := Nat.lt_of_le_of_lt (shrw_le _ _) h
theorem shlw_lt (x t : Nat) : shlw x t < WB := Nat.mod_lt _ WB_pos
theorem orw_lt {x y : Nat} (hx : x < WB) (hy : y < WB) : orw x y < WB := by
  rw [WB_two_pow] at *; exact Nat.or_lt_two_pow hx hy
/-- The two parts of a word times a power of two. -/
theorem shl_shr {x s t : Nat} (hst : s + t = 64) : shlw x s + WB * shrw x t = x * 2 ^ s := by
  unfold shlw shrw
  have e : x / 2 ^ t = x * 2 ^ s / WB := by
    rw [WB_two_pow, ← hst, Nat.pow_add, Nat.mul_comm (2 ^ s) (2 ^ t), Nat.mul_div_mul_right _ _ (Nat.two_pow_pos s)]
  rw [e]; exact Nat.mod_add_div _ _
theorem orw_add {x y s t : Nat} (hst : s + t = 64) (hy : y < WB) : orw (shlw x s) (shrw y t) = shlw x s + shrw y t := by
  unfold orw
  have hb : shrw y t < 2 ^ s := by
    unfold shrw; rw [Nat.div_lt_iff_lt_mul (Nat.two_pow_pos t), ← Nat.pow_add, hst, ← WB_two_pow]; exact hy
  have ha : shlw x s = 2 ^ s * (x % 2 ^ t) := by
    unfold shlw; rw [WB_two_pow, ← hst, Nat.add_comm s t, Nat.pow_add, Nat.mul_comm (2 ^ t) (2 ^ s), Nat.mul_comm x (2 ^ s), Nat.mul_mod_mul_left]
  rw [ha, Nat.two_pow_add_eq_or_of_lt hb]
theorem orw_add' {x y s t : Nat} (hst : s + t = 64) (hy : y < WB) : orw (shrw y t) (shlw x s) = shrw y t + shlw x s := by
  have := orw_add (x := x) hst hy
  unfold orw at *
  rw [Nat.or_comm, this, Nat.add_comm]

@[go_sem ↓ high] theorem shift_shr_nat (x t : Nat) (ht : t < 64) : Op.shift .shr .u64 (x : Int) .u64 (t : Int) = pure (.int .u64 (shrw x t : Int)) := by
  unfold Op.shift shrw
  rw [if_neg (by omega)]
  simp only [Int.toNat_natCast, IntKind.bits, Nat.min_eq_left (Nat.le_of_lt ht)]
  congr 2
  rw [Int.fdiv_eq_ediv_of_nonneg _ (by exact_mod_cast Nat.zero_le (2 ^ t))]
  simp
@[go_sem ↓ high] theorem shift_shl_nat (x t : Nat) (ht : t < 64) : Op.shift .shl .u64 (x : Int) .u64 (t : Int) = pure (.int .u64 (shlw x t : Int)) := by
  unfold Op.shift shlw
  rw [if_neg (by omega)]
  simp only [Int.toNat_natCast, IntKind.bits, Nat.min_eq_left (Nat.le_of_lt ht)]
  congr 2
  rw [IntKind.wrap_u64, WB_eq]
  simp
@[go_sem ↓ high] theorem bits_and63 (s : Nat) (h : s < 64) : bits .and .u64 (s : Int) 63 = (s : Int) := by
  have h1 := bits_and_u64_nat s 63 (by omega) (by omega)
  have e : s &&& 63 = s := by
    rw [show (63 : Nat) = 2 ^ 6 - 1 from rfl, Nat.and_two_pow_sub_one_eq_mod]; exact Nat.mod_eq_of_lt h
  rw [e] at h1; exact h1
theorem bits_orw (x y : Nat) (hx : x < WB) (hy : y < WB) : bits .or .u64 (x : Int) (y : Int) = (orw x y : Int) := by
  rw [WB_eq] at *; exact bits_or_u64_nat x y hx hy
@[go_sem ↓ high] theorem bits_or_lr (x s y t : Nat) (hy : y < WB) : bits .or .u64 (shlw x s : Int) (shrw y t : Int) = (orw (shlw x s) (shrw y t) : Int) := bits_orw _ _ (shlw_lt _ _) (shrw_lt _ hy)
@[go_sem ↓ high] theorem bits_or_rl (x s y t : Nat) (hy : y < WB) : bits .or .u64 (shrw y t : Int) (shlw x s : Int) = (orw (shrw y t) (shlw x s) : Int) := bits_orw _ _ (shrw_lt _ hy) (shlw_lt _ _)

end Go.Proofs.YtabggbajgpbmmaaGreatDoor
