/- Functions on single words: sums and products with a carry. -/
import Derived.Test.YtabggbajgpbmmaaGreatDoorProg
import Derived.Test.YtabggbajgpbmmaaGreatDoorL1
import Derived.Laws.Externs
import Derived.Lib.Mul64
namespace Go.Proofs.YtabggbajgpbmmaaGreatDoor
open Go Go.RowKit

theorem run_Add64 (x y c : Nat) (hx : x < WB) (hy : y < WB) (hc : c ≤ 1) (w : World) :
    (callFunc 214 #[.int .u64 x, .int .u64 y, .int .u64 c]).run Tryz.prog w =
      .ok (.value (.tuple #[.int .u64 (adds x y c : Int), .int .u64 (addc x y c : Int)])) w := by
  unfold adds addc
  rw [run_callFunc_extern Tryz.func214 (by kernel_rfl) (by kernel_rfl) (by kernel_rfl) (e := add64Entry) (by kernel_rfl)]
  rw [WB_eq] at *
  rw [run_add64 x y c (by omega) (by omega) (by omega) (by omega)]
  simp only [Result.andThen]
  congr 5 <;> omega

theorem run_Sub64 (x y c : Nat) (hc : c ≤ 1) (w : World) :
    (callFunc 216 #[.int .u64 x, .int .u64 y, .int .u64 c]).run Tryz.prog w =
      .ok (.value (.tuple #[.int .u64 (subs x y c : Int), .int .u64 (subc x y c : Int)])) w := by
  unfold subs subc
  rw [run_callFunc_extern Tryz.func216 (by kernel_rfl) (by kernel_rfl) (by kernel_rfl) (e := sub64Entry) (by kernel_rfl)]
  rw [WB_eq] at *
  rw [run_sub64 x y c hc]
  rfl

set_option maxHeartbeats 400000 in
theorem bits_Add (x y c : Nat) (hx : x < WB) (hy : y < WB) (hc : c ≤ 1) (w : World) :
    Calls Tryz.prog 187 #[.int .u64 x, .int .u64 y, .int .u64 c] w fun e w' => e = .returned (.tuple #[.int .u64 (adds x y c : Int), .int .u64 (addc x y c : Int)]) ∧ w' = w := by
  have H := run_Add64 x y c hx hy hc
  go_enter Tryz.func187, Tryz.ntmps187
  go_wp2
  go_ret2
  exact ⟨rfl, rfl⟩

set_option maxHeartbeats 400000 in
theorem bits_Sub (x y c : Nat) (hc : c ≤ 1) (w : World) :
    Calls Tryz.prog 189 #[.int .u64 x, .int .u64 y, .int .u64 c] w fun e w' => e = .returned (.tuple #[.int .u64 (subs x y c : Int), .int .u64 (subc x y c : Int)]) ∧ w' = w := by
  have H := run_Sub64 x y c hc
  go_enter Tryz.func189, Tryz.ntmps189
  go_wp2
  go_ret2
  exact ⟨rfl, rfl⟩

namespace M64
theorem maskN (a : Nat) (ha : a < 18446744073709551616) : bits .and .u64 (a : Int) 4294967295 = ((a % 4294967296 : Nat) : Int) := by
  have h := bits_and_u64_nat a 4294967295 ha (by omega)
  have e : a &&& 4294967295 = a % 4294967296 := Nat.and_two_pow_sub_one_eq_mod a 32
  rw [e] at h
  exact h
theorem divN (a : Nat) : (a : Int) / 4294967296 = ((a / 4294967296 : Nat) : Int) := by omega
theorem mulN (a b : Nat) : (a : Int) * (b : Int) = ((a * b : Nat) : Int) := (Int.natCast_mul a b).symm
theorem addN (a b : Nat) : (a : Int) + (b : Int) = ((a + b : Nat) : Int) := (Int.natCast_add a b).symm
theorem wrapN (a : Nat) (ha : a < 18446744073709551616) : IntKind.u64.wrap (a : Int) = (a : Int) := by rw [IntKind.wrap_u64]; omega
theorem wrapM (a : Nat) : IntKind.u64.wrap (a : Int) = ((a % 18446744073709551616 : Nat) : Int) := by rw [IntKind.wrap_u64]; omega
end M64

set_option maxHeartbeats 1000000 in
theorem bits_Mul64 (x y : Nat) (hx : x < WB) (hy : y < WB) (w : World) :
    Calls Tryz.prog 233 #[.int .u64 x, .int .u64 y] w fun e w' => e = .returned (.tuple #[.int .u64 (mulhi x y : Int), .int .u64 (mullo x y : Int)]) ∧ w' = w := by
  unfold mulhi mullo
  rw [WB_eq] at *
  obtain ⟨bd, bt, bw, hhi⟩ := Lib.mul64_hi x y hx hy
  have ba := Lib.half_mul_le (a := x / 4294967296) (b := y / 4294967296) (by omega) (by omega)
  have bb := Lib.half_mul_le (a := x / 4294967296) (b := y % 4294967296) (by omega) (by omega)
  have bc := Lib.half_mul_le (a := x % 4294967296) (b := y / 4294967296) (by omega) (by omega)
  have ba' : x / 4294967296 * (y / 4294967296) < 18446744073709551616 := by omega
  have bb' : x / 4294967296 * (y % 4294967296) < 18446744073709551616 := by omega
  have bc' : x % 4294967296 * (y / 4294967296) < 18446744073709551616 := by omega
  have bh1 : x / 4294967296 * (y / 4294967296) + (x / 4294967296 * (y % 4294967296) + x % 4294967296 * (y % 4294967296) / 4294967296) / 4294967296 < 18446744073709551616 := by omega
  have bh : x / 4294967296 * (y / 4294967296) + (x / 4294967296 * (y % 4294967296) + x % 4294967296 * (y % 4294967296) / 4294967296) / 4294967296 + ((x / 4294967296 * (y % 4294967296) + x % 4294967296 * (y % 4294967296) / 4294967296) % 4294967296 + x % 4294967296 * (y / 4294967296)) / 4294967296 < 18446744073709551616 := by omega
  go_enter Tryz.func233, Tryz.ntmps233
  go_wp2
  simp only [M64.maskN x hx, M64.maskN y hy, M64.divN, M64.mulN, M64.addN, M64.wrapN _ bd, M64.wrapN _ bb', M64.wrapN _ bt, M64.maskN _ bt, M64.wrapN _ bc', M64.wrapN _ bw, M64.wrapN _ ba', M64.wrapN _ bh1, M64.wrapN _ bh, M64.wrapM (x * y)]
  rw [hhi]
  go_ret2
  exact ⟨rfl, rfl⟩

set_option maxHeartbeats 400000 in
theorem bits_Mul (x y : Nat) (hx : x < WB) (hy : y < WB) (w : World) :
    Calls Tryz.prog 198 #[.int .u64 x, .int .u64 y] w fun e w' => e = .returned (.tuple #[.int .u64 (mulhi x y : Int), .int .u64 (mullo x y : Int)]) ∧ w' = w := by
  go_enter Tryz.func198, Tryz.ntmps198
  go_wp2_with (go_at_call 233; refine (bits_Mul64 x y hx hy _).mono ?_; rintro e w' ⟨rfl, rfl⟩)
  go_ret2
  exact ⟨rfl, rfl⟩

set_option maxHeartbeats 400000 in
theorem mulWW_c (x y : Nat) (hx : x < WB) (hy : y < WB) (w : World) :
    Calls Tryz.prog 166 #[.int .u64 x, .int .u64 y] w fun e w' => e = .returned (.tuple #[.int .u64 (mulhi x y : Int), .int .u64 (mullo x y : Int)]) ∧ w' = w := by
  go_enter Tryz.func166, Tryz.ntmps166
  go_wp2_with (go_at_call 198; refine (bits_Mul x y hx hy _).mono ?_; rintro e w' ⟨rfl, rfl⟩)
  go_ret2
  exact ⟨rfl, rfl⟩

/-- The product of two words and a third one, in two words. -/
noncomputable def mac1 (x y c : Nat) : Nat := (x * y + c) / WB
noncomputable def mac0 (x y c : Nat) : Nat := (x * y + c) % WB
theorem mac_eq (x y c : Nat) : mac0 x y c + WB * mac1 x y c = x * y + c := Nat.mod_add_div _ _
theorem mac0_lt (x y c : Nat) : mac0 x y c < WB := Nat.mod_lt _ WB_pos
theorem mac_bound {x y c d : Nat} (hx : x < WB) (hy : y < WB) (hc : c < WB) (hd : d < WB) : x * y + c + d < WB * WB := by
  have h1 : x * y ≤ (WB - 1) * (WB - 1) := Nat.mul_le_mul (by omega) (by omega)
  have h2 : (WB - 1) * (WB - 1) + (WB - 1) + (WB - 1) < WB * WB := by rw [WB_eq]; decide
  omega
theorem mac1_lt {x y c : Nat} (hx : x < WB) (hy : y < WB) (hc : c < WB) : mac1 x y c < WB := by
  unfold mac1
  rw [Nat.div_lt_iff_lt_mul WB_pos]
  have := mac_bound hx hy hc WB_pos
  omega
theorem mac_of (x y c : Nat) (_hx : x < WB) (_hy : y < WB) (_hc : c < WB) : mulhi x y + addc (mullo x y) c 0 = mac1 x y c ∧ adds (mullo x y) c 0 = mac0 x y c := by
  have e1 := mullo_mulhi x y
  have e2 := adds_addc (mullo x y) c 0
  have e3 := mac_eq x y c
  have l1 := adds_lt (mullo x y) c 0
  have l2 := mac0_lt x y c
  have e : mac0 x y c + WB * mac1 x y c = adds (mullo x y) c 0 + WB * (mulhi x y + addc (mullo x y) c 0) := by rw [Nat.mul_add]; omega
  have a := congrArg (· % WB) e
  simp only [Nat.add_mul_mod_self_left, Nat.mod_eq_of_lt l1, Nat.mod_eq_of_lt l2] at a
  have b : mac1 x y c = mulhi x y + addc (mullo x y) c 0 := Nat.eq_of_mul_eq_mul_left WB_pos (by omega)
  exact ⟨b.symm, a.symm⟩

theorem wrap_u64_nat (a : Nat) (h : a < WB) : IntKind.u64.wrap (a : Int) = (a : Int) := by rw [WB_eq] at h; rw [IntKind.wrap_u64]; omega

set_option maxHeartbeats 400000 in
theorem mulAddWWW_g_c (x y c : Nat) (hx : x < WB) (hy : y < WB) (hc : c < WB) (w : World) :
    Calls Tryz.prog 251 #[.int .u64 x, .int .u64 y, .int .u64 c] w fun e w' => e = .returned (.tuple #[.int .u64 (mac1 x y c : Int), .int .u64 (mac0 x y c : Int)]) ∧ w' = w := by
  have H := mac_of x y c hx hy hc
  have L := mac1_lt hx hy hc
  obtain ⟨H1, H2⟩ := H
  have HH1 := Lib.hid H1
  have HH2 := Lib.hid H2
  have HL := Lib.hid L
  clear H1 H2 L
  have hl := mullo_lt x y
  go_enter Tryz.func251, Tryz.ntmps251
  go_wp2_with (first
    | (go_at_call 198; refine (bits_Mul x y hx hy _).mono ?_; rintro e w' ⟨rfl, rfl⟩)
    | (go_at_call 187; refine (bits_Add (mullo x y) c 0 hl hc (by omega) _).mono ?_; rintro e w' ⟨rfl, rfl⟩))
  go_ret2
  refine ⟨ret2_i ?_ ?_, rfl⟩
  · rw [← Int.natCast_add, HH1.out]; exact wrap_u64_nat _ HL.out
  · rw [HH2.out]

end Go.Proofs.YtabggbajgpbmmaaGreatDoor
