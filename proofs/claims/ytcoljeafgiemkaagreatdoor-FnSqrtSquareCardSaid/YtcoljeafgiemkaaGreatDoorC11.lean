/- Bits of a number, and its figures. math.Log2 of 10; quotients of floats that count figures. -/
import Derived.Laws.Externs
import Derived.WalkLawsBesides
import Derived.Test.YtcoljeafgiemkaaGreatDoorC01
import Derived.Test.YtcoljeafgiemkaaGreatDoorC03
import Derived.Test.YtcoljeafgiemkaaGreatDoorC08
namespace Go.Proofs.YtcoljeafgiemkaaGreatDoor
open Go Go.RowKit

/-- How many bits a number has. -/
def nbits (n : Nat) : Nat := if n = 0 then 0 else n.log2 + 1
theorem nbits_zero : nbits 0 = 0 := rfl
theorem nbits_pos {n : Nat} (h : n ≠ 0) : 1 ≤ nbits n := by unfold nbits; rw [if_neg h]; omega
theorem nbits_lt (n : Nat) : n < 2 ^ nbits n := by
  unfold nbits; split
  · next h => subst h; decide
  · next h => exact Nat.lt_log2_self
theorem nbits_ge {n : Nat} (h : n ≠ 0) : 2 ^ (nbits n - 1) ≤ n := by
  unfold nbits; rw [if_neg h, Nat.add_sub_cancel]; exact Nat.log2_self_le h
theorem two_lt_iff {a b : Nat} : 2 ^ a < 2 ^ b ↔ a < b := Nat.pow_lt_pow_iff_right (by omega)
theorem nbits_eq {n k : Nat} (hk : 1 ≤ k) (h1 : 2 ^ (k - 1) ≤ n) (h2 : n < 2 ^ k) : nbits n = k := by
  have h0 : n ≠ 0 := by rintro rfl; have := Nat.pow_pos (n := k - 1) (show 0 < 2 by omega); omega
  have h3 := two_lt_iff.1 (Nat.lt_of_le_of_lt h1 (nbits_lt n))
  have h4 := two_lt_iff.1 (Nat.lt_of_le_of_lt (nbits_ge h0) h2)
  have := nbits_pos h0
  omega
theorem nbits_le_iff {n k : Nat} : nbits n ≤ k ↔ n < 2 ^ k := by
  refine ⟨fun h => Nat.lt_of_lt_of_le (nbits_lt n) (Nat.pow_le_pow_right (by omega) h), fun h => ?_⟩
  by_cases h0 : n = 0
  · subst h0; exact Nat.zero_le _
  · have h4 := two_lt_iff.1 (Nat.lt_of_le_of_lt (nbits_ge h0) h)
    omega
theorem nbits_blen {x : Nat} (h : x < WB) : nbits x = blen x := by
  by_cases h0 : x = 0
  · subst h0; rfl
  · have h1 := blen_lt h
    have h2 := blen_ge h (by omega)
    have h3 := blen_pos h (by omega)
    refine nbits_eq h3 ?_ h1
    obtain ⟨k, hk⟩ : ∃ k, blen x = k + 1 := ⟨blen x - 1, by omega⟩
    rw [hk] at h2 ⊢
    rw [Nat.pow_succ] at h2
    rw [Nat.add_sub_cancel]; omega
/-- A word that has its top bit spread keeps its bits' count. -/
theorem nbits_spread (x s : Nat) : nbits (x ||| x / 2 ^ s) = nbits x := by
  by_cases h0 : x = 0
  · subst h0; simp
  · refine nbits_eq (nbits_pos h0) (Nat.le_trans (nbits_ge h0) Nat.left_le_or) (Nat.or_lt_two_pow (nbits_lt x) (Nat.lt_of_le_of_lt (Nat.div_le_self _ _) (nbits_lt x)))
theorem WB_bits : WB = 2 ^ 64 := by rw [WB_eq]
/-- Bits of a list of words. -/
theorem nbits_digs {n : Nat} (h : n ≠ 0) : nbits n = 64 * ((digs n).length - 1) + nbits (nth (digs n) ((digs n).length - 1)) := by
  have hl : 0 < (digs n).length := Nat.pos_of_ne_zero (fun e => h (digs_len_eq_zero.1 e))
  obtain ⟨k, hk⟩ : ∃ k, (digs n).length = k + 1 := ⟨(digs n).length - 1, by omega⟩
  rw [hk, Nat.add_sub_cancel]
  have hv := val_digs n
  have hw := Wd_digs n
  have ht : nth (digs n) k ≠ 0 := by
    have hne : digs n ≠ [] := fun e => h (digs_eq_nil.1 e)
    have h1 := digs_last hne
    rw [List.getLast_eq_getElem] at h1
    unfold nth
    rw [List.getElem?_eq_getElem (by omega)]
    simp only [hk, Nat.add_sub_cancel] at h1
    exact h1
  have hs : n = val ((digs n).take k) + WB ^ k * nth (digs n) k := by
    conv => lhs; rw [← hv]
    rw [← val_take_succ (by omega), List.take_of_length_le (by omega)]
  have hlt : val ((digs n).take k) < WB ^ k := by
    have := val_lt (hw.take k)
    rw [List.length_take, Nat.min_eq_left (by omega)] at this
    exact this
  have e : WB ^ k = 2 ^ (64 * k) := by rw [WB_bits, ← Nat.pow_mul]
  rw [e] at hs hlt
  generalize nth (digs n) k = t at *
  generalize val ((digs n).take k) = r at *
  have h1 := nbits_lt t
  have h2 := nbits_ge ht
  have h3 := nbits_pos ht
  refine nbits_eq (by omega) ?_ ?_
  · rw [show 64 * k + nbits t - 1 = 64 * k + (nbits t - 1) by omega, Nat.pow_add, hs]
    have := Nat.mul_le_mul_left (2 ^ (64 * k)) h2
    omega
  · rw [Nat.pow_add, hs]
    have := Nat.mul_le_mul_left (2 ^ (64 * k)) (Nat.succ_le_of_lt h1)
    rw [Nat.mul_succ] at this
    omega
end Go.Proofs.YtcoljeafgiemkaaGreatDoor

namespace Go.Proofs.YtcoljeafgiemkaaGreatDoor
open Go Go.RowKit

theorem run_f64bits (x : Nat) (w : World) : (callFunc 318 #[.float .f64 x]).run Tryz.prog w = .ok (.value (.int .u64 (x : Int))) w := by
  rw [run_callFunc_extern Tryz.func318 (by kernel_rfl) (by kernel_rfl) (by kernel_rfl) (e := Extern.MathFloatBits.float64bits) (by kernel_rfl)]
  rfl
theorem run_f64from (x : Int) (w : World) : (callFunc 319 #[.int .u64 x]).run Tryz.prog w = .ok (.value (.float .f64 x.toNat)) w := by
  rw [run_callFunc_extern Tryz.func319 (by kernel_rfl) (by kernel_rfl) (by kernel_rfl) (e := Extern.MathFloatBits.float64frombits) (by kernel_rfl)]
  rfl
theorem run_archLog (w : World) : (callFunc 313 #[.float .f64 4603804719079489536]).run Tryz.prog w = .ok (.value (.float .f64 13825510489450817230)) w := by
  rw [run_callFunc_extern Tryz.func313 (by kernel_rfl) (by kernel_rfl) (by kernel_rfl) (e := Extern.MathLog.archLog) (by kernel_rfl)]
  have h : (Extern.MathLog.archLog #[.float .f64 4603804719079489536]).run Tryz.prog w = .ok (.float .f64 13825510489450817230) w := by kernel_rfl
  rw [h]; rfl
theorem abs10 (w : World) : Calls Tryz.prog 322 #[.float .f64 4621819117588971520] w fun e w' => e = .returned (.float .f64 4621819117588971520) ∧ w = w' := by
  have h1 := run_f64bits
  have h2 := run_f64from
  have h3 : bits .andNot .u64 (4621819117588971520 : Int) 9223372036854775808 = 4621819117588971520 := by kernel_rfl
  go_enter Tryz.func322, Tryz.ntmps322
  go_wp2
  go_ret
  exact ⟨rfl, rfl⟩
theorem isInf10 (w : World) : Calls Tryz.prog 315 #[.float .f64 4621819117588971520, .int .i64 0] w fun e w' => e = .returned (.bool false) ∧ w = w' := by
  have k := abs10
  have h1 : (FloatKind.f64.format.order 4621819117588971520 9218868437227405311 == some .gt) = false := by kernel_rfl
  replace k := Lib.hid k
  go_enter Tryz.func315, Tryz.ntmps315
  go_wp2_with (with_reducible refine (k.out _).mono ?_; rintro e w' ⟨rfl, rfl⟩)
  go_ret
  exact ⟨rfl, rfl⟩
theorem isNaN10 (w : World) : Calls Tryz.prog 316 #[.float .f64 4621819117588971520] w fun e w' => e = .returned (.bool false) ∧ w = w' := by
  have h1 : (FloatKind.f64.format.order 4621819117588971520 4621819117588971520 != some .eq) = false := by kernel_rfl
  go_enter Tryz.func316, Tryz.ntmps316
  go_wp2
  go_ret
  exact ⟨rfl, rfl⟩
theorem normalize10 (w : World) : Calls Tryz.prog 317 #[.float .f64 4621819117588971520] w fun e w' => e = .returned (.tuple #[.float .f64 4621819117588971520, .int .i64 0]) ∧ w = w' := by
  have k := abs10
  have h1 : (FloatKind.f64.format.order 4621819117588971520 4503599627370496 == some .lt) = false := by kernel_rfl
  replace k := Lib.hid k
  go_enter Tryz.func317, Tryz.ntmps317
  go_wp2_with (with_reducible refine (k.out _).mono ?_; rintro e w' ⟨rfl, rfl⟩)
  go_ret2
  exact ⟨rfl, rfl⟩
theorem frexp10 (w : World) : Calls Tryz.prog 312 #[.float .f64 4621819117588971520] w fun e w' => e = .returned (.tuple #[.float .f64 4603804719079489536, .int .i64 4]) ∧ w = w' := by
  have k1 := isInf10
  have k2 := isNaN10
  have k3 := normalize10
  have h0 : (FloatKind.f64.format.order 4621819117588971520 0 == some .eq) = false := by kernel_rfl
  have h1 := run_f64bits
  have h2 := run_f64from
  have h3 : bits .and .u64 1026 2047 = 1026 := by kernel_rfl
  have h4 : bits .andNot .u64 4621819117588971520 9218868437227405312 = 1125899906842624 := by kernel_rfl
  have h5 : bits .or .u64 1125899906842624 4602678819172646912 = 4603804719079489536 := by kernel_rfl
  replace k1 := Lib.hid k1
  replace k2 := Lib.hid k2
  replace k3 := Lib.hid k3
  go_enter Tryz.func312, Tryz.ntmps312
  go_wp2_with fail
  with_reducible refine (k1.out _).mono ?_
  rintro e w' ⟨rfl, rfl⟩
  go_wp2_with fail
  with_reducible refine (k2.out _).mono ?_
  rintro e w' ⟨rfl, rfl⟩
  go_wp2_with fail
  with_reducible refine (k3.out _).mono ?_
  rintro e w' ⟨rfl, rfl⟩
  go_wp2
  go_ret2
  exact ⟨rfl, rfl⟩
theorem Frexp10 (w : World) : Calls Tryz.prog 304 #[.float .f64 4621819117588971520] w fun e w' => e = .returned (.tuple #[.float .f64 4603804719079489536, .int .i64 4]) ∧ w = w' := by
  have k := frexp10
  replace k := Lib.hid k
  go_enter Tryz.func304, Tryz.ntmps304
  go_wp2_with (with_reducible refine (k.out _).mono ?_; rintro e w' ⟨rfl, rfl⟩)
  go_ret2
  exact ⟨rfl, rfl⟩
theorem Log0 (w : World) : Calls Tryz.prog 305 #[.float .f64 4603804719079489536] w fun e w' => e = .returned (.float .f64 13825510489450817230) ∧ w = w' := by
  have h := run_archLog
  go_enter Tryz.func305, Tryz.ntmps305
  go_wp2
  go_ret
  exact ⟨rfl, rfl⟩
theorem log2_10 (w : World) : Calls Tryz.prog 292 #[.float .f64 4621819117588971520] w fun e w' => e = .returned (.float .f64 4614662735865160561) ∧ w = w' := by
  have k1 := Frexp10
  have k2 := Log0
  have h0 : (FloatKind.f64.format.order 4603804719079489536 4602678819172646912 == some .eq) = false := by kernel_rfl
  have hr1 : floatBits .mul .f64 13825510489450817230 4609176140021203710 = some 13827654785158443579 := by kernel_rfl
  have hr2 : floatBits .add .f64 13827654785158443579 (floatOfInt .f64 4) = some 4614662735865160561 := by kernel_rfl
  have g1 := fun (w : World) (t : TypeId) => run_float_arith (P := Tryz.prog) w .mul t .f64 _ _ _ hr1
  have g2 := fun (w : World) (t : TypeId) => run_float_arith (P := Tryz.prog) w .add t .f64 _ _ _ hr2
  replace k1 := Lib.hid k1
  replace k2 := Lib.hid k2
  replace hr1 := Lib.hid hr1
  replace hr2 := Lib.hid hr2
  go_enter Tryz.func292, Tryz.ntmps292
  go_wp2_with fail
  with_reducible refine (k1.out _).mono ?_
  rintro e w' ⟨rfl, rfl⟩
  go_wp2_with fail
  with_reducible refine (k2.out _).mono ?_
  rintro e w' ⟨rfl, rfl⟩
  go_wp2
  go_ret
  exact ⟨rfl, rfl⟩
theorem Log2_10 (w : World) : Calls Tryz.prog 276 #[.float .f64 4621819117588971520] w fun e w' => e = .returned (.float .f64 4614662735865160561) ∧ w = w' := by
  have k := log2_10
  replace k := Lib.hid k
  go_enter Tryz.func276, Tryz.ntmps276
  go_wp2_with (with_reducible refine (k.out _).mono ?_; rintro e w' ⟨rfl, rfl⟩)
  go_ret
  exact ⟨rfl, rfl⟩

/-- The guess of figures by bits: what the code's quotient comes to. -/
def fguess (b : Nat) : Nat := match floatBits .quo .f64 (floatOfInt .f64 (b : Int)) 4614662735865160561 with
  | some q => (match floatToIntVal .f64 q .i64 with | some n => n.toNat | none => 0)
  | none => 0
def fgood (b : Nat) : Bool := match floatBits .quo .f64 (floatOfInt .f64 (b : Int)) 4614662735865160561 with
  | some q => (match floatToIntVal .f64 q .i64 with | some n => decide (0 ≤ n ∧ n ≤ 400 ∧ 2 ^ b ≤ 10 ^ (n.toNat + 1) ∧ (b = 0 ∨ 10 ^ (n.toNat - 1) ≤ 2 ^ (b - 1))) | none => false)
  | none => false
theorem fgood_all : (List.range 1200).all fgood = true := by kernel_rfl
theorem fguess_spec {b : Nat} (h : b < 1200) : ∃ q, floatBits .quo .f64 (floatOfInt .f64 (b : Int)) 4614662735865160561 = some q ∧ floatToIntVal .f64 q .i64 = some (fguess b : Int) ∧ fguess b ≤ 400 ∧ 2 ^ b ≤ 10 ^ (fguess b + 1) ∧ (b = 0 ∨ 10 ^ (fguess b - 1) ≤ 2 ^ (b - 1)) := by
  have h1 := List.all_eq_true.1 fgood_all b (List.mem_range.2 h)
  unfold fgood at h1
  unfold fguess
  cases hq : floatBits .quo .f64 (floatOfInt .f64 (b : Int)) 4614662735865160561 with
  | none => rw [hq] at h1; cases h1
  | some q =>
    rw [hq] at h1
    simp only at h1 ⊢
    cases hn : floatToIntVal .f64 q .i64 with
    | none => rw [hn] at h1; cases h1
    | some n =>
      rw [hn] at h1
      simp only at h1 ⊢
      have h2 := of_decide_eq_true h1
      exact ⟨q, rfl, by rw [Int.toNat_of_nonneg h2.1]; exact hn, by omega, h2.2.2.1, h2.2.2.2⟩
end Go.Proofs.YtcoljeafgiemkaaGreatDoor
