/- The length of a word in bits. -/
import Derived.Test.YtabggbajgpbmmaaGreatDoorB0
import Derived.Test.YtabggbajgpbmmaaGreatDoorD1
import Derived.Lib.BitFns
namespace Go.Proofs.YtabggbajgpbmmaaGreatDoor
open Go Go.RowKit

theorem bl_spec (f : Nat) : ∀ x, x < 2 ^ f → x < 2 ^ Lib.bitLenAux f x ∧ (x ≠ 0 → 2 ^ Lib.bitLenAux f x ≤ 2 * x) ∧ Lib.bitLenAux f x ≤ f := by
  induction f with
  | zero => intro x h; simp at h; subst h; simp [Lib.bitLenAux]
  | succ f ih =>
    intro x h
    by_cases h0 : x = 0
    · subst h0; simp [Lib.bitLenAux]
    · have hs : Lib.bitLenAux (f + 1) x = 1 + Lib.bitLenAux f (x / 2) := by simp [Lib.bitLenAux, h0]
      rw [hs]
      obtain ⟨h1, h2, h3⟩ := ih (x / 2) (by rw [Nat.pow_succ] at h; omega)
      rw [Nat.pow_add, Nat.pow_one]
      refine ⟨by omega, fun _ => ?_, by omega⟩
      by_cases h4 : x / 2 = 0
      · have hx : x = 1 := by omega
        subst hx
        have : Lib.bitLenAux f 0 = 0 := by cases f <;> simp [Lib.bitLenAux]
        simp [this]
      · have := h2 h4; omega
/-- How many bits a word has. -/
def blen (x : Nat) : Nat := Lib.bitLen x
theorem blen_lt {x : Nat} (h : x < WB) : x < 2 ^ blen x := (bl_spec 64 x (by rw [← WB_two_pow]; exact h)).1
theorem blen_ge {x : Nat} (h : x < WB) (h0 : 0 < x) : 2 ^ blen x ≤ 2 * x := (bl_spec 64 x (by rw [← WB_two_pow]; exact h)).2.1 (by omega)
theorem blen_le {x : Nat} (h : x < WB) : blen x ≤ 64 := (bl_spec 64 x (by rw [← WB_two_pow]; exact h)).2.2
theorem blen_pos {x : Nat} (h : x < WB) (h0 : 0 < x) : 0 < blen x := by
  have := blen_lt h
  rcases Nat.eq_zero_or_pos (blen x) with h1 | h1
  · rw [h1] at this; simp at this; omega
  · exact h1
/-- How many noughts stand before its first one. -/
def nlzN (x : Nat) : Nat := 64 - blen x
theorem nlzN_lt {x : Nat} (h : x < WB) (h0 : 0 < x) : nlzN x < 64 := by have := blen_pos h h0; unfold nlzN; omega
theorem nlz_shift {x : Nat} (h : x < WB) (h0 : 0 < x) : x * 2 ^ nlzN x < WB ∧ WB ≤ 2 * (x * 2 ^ nlzN x) := by
  have h1 := blen_lt h
  have h2 := blen_ge h h0
  have h3 := blen_le h
  have e : WB = 2 ^ blen x * 2 ^ nlzN x := by rw [← Nat.pow_add, WB_two_pow]; congr 1; unfold nlzN; omega
  rw [e]
  have hp : 0 < 2 ^ nlzN x := Nat.two_pow_pos _
  exact ⟨Nat.mul_lt_mul_of_pos_right h1 hp, by rw [← Nat.mul_assoc]; exact Nat.mul_le_mul_right _ h2⟩

theorem bits_Len64_c (x : Nat) (h : x < WB) (w : World) : Calls Tryz.prog 193 #[.int .u64 x] w fun e w' => e = .returned (.int .i64 (blen x : Int)) ∧ w = w' := by
  rw [WB_eq] at h
  refine (shelf_bits_Len64 (x : Int) w (by omega) (by omega)).mono ?_
  rintro e w' ⟨rfl, hw⟩
  exact ⟨by unfold blen; rw [Int.toNat_natCast], hw.symm⟩

set_option maxHeartbeats 400000 in
theorem bits_Len_c (x : Nat) (h : x < WB) (w : World) : Calls Tryz.prog 162 #[.int .u64 x] w fun e w' => e = .returned (.int .i64 (blen x : Int)) ∧ w = w' := by
  go_enter Tryz.func162, Tryz.ntmps162
  go_wp2_with (go_at_call 193; refine (bits_Len64_c x h _).mono ?_; rintro e w' ⟨rfl, hw⟩; obtain rfl := hw)
  go_ret
  exact ⟨rfl, rfl⟩
set_option maxHeartbeats 400000 in
theorem bits_LeadingZeros64_c (x : Nat) (h : x < WB) (w : World) : Calls Tryz.prog 252 #[.int .u64 x] w fun e w' => e = .returned (.int .i64 (nlzN x : Int)) ∧ w = w' := by
  have hl := blen_le h
  have hn : nlzN x = 64 - blen x := rfl
  replace hn := Lib.hid hn
  go_enter Tryz.func252, Tryz.ntmps252
  go_wp2_with (go_at_call 193; refine (bits_Len64_c x h _).mono ?_; rintro e w' ⟨rfl, hw⟩; obtain rfl := hw)
  go_ret
  exact ⟨ret_i (by rw [hn.out]; omega), rfl⟩
set_option maxHeartbeats 400000 in
theorem bits_LeadingZeros_c (x : Nat) (h : x < WB) (w : World) : Calls Tryz.prog 208 #[.int .u64 x] w fun e w' => e = .returned (.int .i64 (nlzN x : Int)) ∧ w = w' := by
  have hl := blen_le h
  have hn : nlzN x = 64 - blen x := rfl
  replace hn := Lib.hid hn
  go_enter Tryz.func208, Tryz.ntmps208
  go_wp2_with (go_at_call 162; refine (bits_Len_c x h _).mono ?_; rintro e w' ⟨rfl, hw⟩; obtain rfl := hw)
  go_ret
  exact ⟨ret_i (by rw [hn.out]; omega), rfl⟩
set_option maxHeartbeats 400000 in
theorem nlz_c (x : Nat) (h : x < WB) (w : World) : Calls Tryz.prog 179 #[.int .u64 x] w fun e w' => e = .returned (.int .u64 (nlzN x : Int)) ∧ w = w' := by
  have hl : nlzN x ≤ 64 := Nat.sub_le _ _
  go_enter Tryz.func179, Tryz.ntmps179
  go_wp2_with (go_at_call 208; refine (bits_LeadingZeros_c x h _).mono ?_; rintro e w' ⟨rfl, hw⟩; obtain rfl := hw)
  go_ret
  exact ⟨rfl, rfl⟩

set_option maxHeartbeats 400000 in
theorem bitsDiv_c (hi lo y : Nat) (hl : lo < WB) (hy : y < WB) (hh : hi < y) (hy0 : hi = 0 ∨ WB ≤ 2 * y) (w : World) :
    Calls Tryz.prog 205 #[.int .u64 hi, .int .u64 lo, .int .u64 y] w fun e w' => e = .returned (.tuple #[.int .u64 (wdiv (hi * WB + lo) y : Int), .int .u64 (wmod (hi * WB + lo) y : Int)]) ∧ ∃ n, w' = w.drewN n := by
  have lz : hi ≠ 0 → ∀ w, Calls Tryz.prog 252 #[.int .u64 y] w fun e w' => e = .returned (.int .i64 0) ∧ w = w' := by
    intro h0 w
    have hn : nlzN y = 0 := by
      have h1 := blen_lt hy
      have h2 : WB ≤ 2 * y := hy0.resolve_left h0
      have h3 := blen_le hy
      rcases Nat.lt_or_ge (blen y) 64 with h4 | h4
      · have : 2 ^ blen y ≤ 2 ^ 63 := Nat.pow_le_pow_right (by decide) (by omega)
        have e : 2 * 2 ^ 63 = WB := by rw [WB_two_pow]
        omega
      · unfold nlzN; omega
    have := bits_LeadingZeros64_c y hy w
    rw [hn] at this
    exact this
  replace lz := Lib.hid lz
  go_enter Tryz.func205, Tryz.ntmps205
  go_wp2_with (go_at_call 237; refine (bitsDiv64_c hi lo y hl hy hh hy0 _ lz.out).mono ?_; rintro e w' ⟨rfl, n, rfl⟩)
  go_ret2
  exact ⟨rfl, _, rfl⟩
end Go.Proofs.YtabggbajgpbmmaaGreatDoor
