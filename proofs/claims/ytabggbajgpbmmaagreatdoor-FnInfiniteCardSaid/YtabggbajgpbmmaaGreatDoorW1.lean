/- Words reckoned with modulo the base. -/
import Derived.Test.YtabggbajgpbmmaaGreatDoorV5
import Derived.Test.YtabggbajgpbmmaaGreatDoorD0
namespace Go.Proofs.YtabggbajgpbmmaaGreatDoor
open Go Go.RowKit

noncomputable def wadd (x y : Nat) : Nat := (x + y) % WB
noncomputable def wsub (x y : Nat) : Nat := (x % WB + (WB - y % WB)) % WB
noncomputable def wmul (x y : Nat) : Nat := x * y % WB
def low32 (x : Nat) : Nat := x % 4294967296
theorem wadd_lt (x y : Nat) : wadd x y < WB := Nat.mod_lt _ WB_pos
theorem wsub_lt (x y : Nat) : wsub x y < WB := Nat.mod_lt _ WB_pos
theorem wmul_lt (x y : Nat) : wmul x y < WB := Nat.mod_lt _ WB_pos
theorem wadd_of {x y : Nat} (h : x + y < WB) : wadd x y = x + y := Nat.mod_eq_of_lt h
theorem wmul_of {x y : Nat} (h : x * y < WB) : wmul x y = x * y := Nat.mod_eq_of_lt h
theorem wsub_of {x y : Nat} (h : y ≤ x) (hx : x < WB) : wsub x y = x - y := mod_diff (by omega) (by omega)
theorem wsub_borrow {x y : Nat} (h : x < y) (hy : y < WB) : wsub x y = x + WB - y := by
  unfold wsub
  rw [Nat.mod_eq_of_lt (show x < WB by omega), Nat.mod_eq_of_lt hy, Nat.mod_eq_of_lt (by omega)]; omega

theorem wsub_chain {u H v q y r : Nat} (h : u * H + v = q * y + r) (hr : r < WB) : wsub (wadd (wmul u H) v) (wmul q y) = r := by
  unfold wsub wadd wmul
  have := mod_diff h hr
  simp only [Nat.mod_mod, Nat.mod_add_mod] at this ⊢
  exact this

theorem wrap_u64_mod (a : Nat) : IntKind.u64.wrap (a : Int) = ((a % WB : Nat) : Int) := by rw [IntKind.wrap_u64, WB_eq]; omega
@[go_sem] theorem wrap_u64_lt (x : Nat) (h : x < WB) : IntKind.u64.wrap (x : Int) = (x : Int) := wrap_u64_nat x h
@[go_sem] theorem wrap_wadd (x y : Nat) : IntKind.u64.wrap ((x : Int) + (y : Int)) = (wadd x y : Int) := by
  rw [← Int.natCast_add, wrap_u64_mod]; rfl
@[go_sem] theorem wrap_wadd1 (x : Nat) : IntKind.u64.wrap ((x : Int) + 1) = (wadd x 1 : Int) := wrap_wadd x 1
@[go_sem] theorem wrap_wmul (x y : Nat) : IntKind.u64.wrap ((x : Int) * (y : Int)) = (wmul x y : Int) := by
  rw [← Int.natCast_mul, wrap_u64_mod]; rfl
@[go_sem] theorem wrap_wsub (x y : Nat) : IntKind.u64.wrap ((x : Int) - (y : Int)) = (wsub x y : Int) := by
  unfold wsub
  rw [IntKind.wrap_u64, WB_eq]
  have := Nat.mod_lt y (show 0 < 18446744073709551616 by decide)
  omega
@[go_sem] theorem wrap_wsub1 (x : Nat) : IntKind.u64.wrap ((x : Int) - 1) = (wsub x 1 : Int) := wrap_wsub x 1
@[go_sem ↓ high] theorem shift_shr_32 (x : Nat) : Op.shift .shr .u64 (x : Int) .u64 32 = pure (.int .u64 (shrw x 32 : Int)) := shift_shr_nat x 32 (by decide)
@[go_sem ↓ high] theorem bits_low32 (x : Nat) (h : x < WB) : bits .and .u64 (x : Int) 4294967295 = (low32 x : Int) := M64.maskN x (by rw [WB_eq] at h; exact h)
def wdiv (x y : Nat) : Nat := x / y
def wmod (x y : Nat) : Nat := x % y
@[go_sem] theorem wrap_tdiv (x y : Nat) (h : x < WB) : IntKind.u64.wrap ((x : Int).tdiv (y : Int)) = (wdiv x y : Int) := by
  rw [← Int.ofNat_tdiv, wrap_u64_nat _ (Nat.lt_of_le_of_lt (Nat.div_le_self x y) h)]; rfl
@[go_sem] theorem wrap_tmod (x y : Nat) (h : x < WB) : IntKind.u64.wrap ((x : Int).tmod (y : Int)) = (wmod x y : Int) := by
  rw [Int.tmod_eq_emod_of_nonneg (by omega), ← Int.natCast_emod, wrap_u64_nat _ (Nat.lt_of_le_of_lt (Nat.mod_le x y) h)]; rfl
@[go_sem] theorem wrap_ediv (x y : Nat) (h : x < WB) : IntKind.u64.wrap ((x : Int) / (y : Int)) = (wdiv x y : Int) := by
  rw [← Int.natCast_ediv, wrap_u64_nat _ (Nat.lt_of_le_of_lt (Nat.div_le_self x y) h)]; rfl
@[go_sem] theorem wrap_emod (x y : Nat) (h : x < WB) : IntKind.u64.wrap ((x : Int) % (y : Int)) = (wmod x y : Int) := by
  rw [← Int.natCast_emod, wrap_u64_nat _ (Nat.lt_of_le_of_lt (Nat.mod_le x y) h)]; rfl
@[go_sem] theorem bits_or_top (x y : Nat) (hx : x < WB) (hy : y < WB) : bits .or .u64 (x : Int) ((y : Int) / 18446744073709551616) = (x : Int) := by
  have : (y : Int) / 18446744073709551616 = ((0 : Nat) : Int) := by rw [WB_eq] at hy; omega
  rw [this, bits_orw x 0 hx WB_pos]
  unfold orw; simp
theorem shrw32 (x : Nat) : shrw x 32 = x / 4294967296 := rfl
theorem low_high (x : Nat) : shrw x 32 * 4294967296 + low32 x = x := Nat.div_add_mod' x 4294967296
theorem low32_lt (x : Nat) : low32 x < 4294967296 := Nat.mod_lt _ (by decide)
theorem HB_ex : ∃ n : Nat, n = 4294967296 := ⟨_, rfl⟩
/-- What half a word counts to. -/
noncomputable def HB : Nat := Classical.choose HB_ex
theorem HB_eq : HB = 4294967296 := Classical.choose_spec HB_ex
theorem HB_pos : 0 < HB := by rw [HB_eq]; decide
theorem HB_int : (HB : Int) = 4294967296 := by rw [HB_eq]; rfl
theorem HB_two_le : HB + HB + 2 ≤ WB := by rw [WB_eq, HB_eq]; decide
theorem WB_half : WB = HB * HB := by rw [WB_eq, HB_eq]
theorem low_highH (x : Nat) : shrw x 32 * HB + low32 x = x := by rw [HB_eq]; exact low_high x
theorem low32_ltH (x : Nat) : low32 x < HB := by rw [HB_eq]; exact low32_lt x
theorem shrw32_ltH {x : Nat} (h : x < WB) : shrw x 32 < HB := by rw [HB_eq, shrw32]; rw [WB_eq] at h; omega
theorem shrw32_geH {x : Nat} (h : WB ≤ 2 * x) : HB ≤ 2 * shrw x 32 := by rw [HB_eq, shrw32]; rw [WB_eq] at h; omega

@[go_sem] theorem wrap_wmul_l (x : Nat) : IntKind.u64.wrap (4294967296 * (x : Int)) = (wmul HB x : Int) := by rw [← HB_int]; exact wrap_wmul HB x
@[go_sem] theorem wrap_wmul_r (x : Nat) : IntKind.u64.wrap ((x : Int) * 4294967296) = (wmul x HB : Int) := by rw [← HB_int]; exact wrap_wmul x HB

end Go.Proofs.YtabggbajgpbmmaaGreatDoor
