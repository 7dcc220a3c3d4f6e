/- Bits of a number, and its figures. math.Log2 of 10; quotients of floats that count figures. Magnitudes in the root's iteration: plain facts, no program. The root's iteration as a run: plain facts, no program. The square root's laws on what the iteration comes to: plain facts, no program. -/
import Derived.Laws.Externs
import Derived.WalkLawsBesides
import Derived.Test.YtonepclpllelfaaGreatDoorC01
import Derived.Test.YtonepclpllelfaaGreatDoorC02
import Derived.Test.YtonepclpllelfaaGreatDoorC06
namespace Go.Proofs.YtonepclpllelfaaGreatDoor
open Go Go.RowKit

/-- How many bits a number has. -/
def nbits (n : Nat) : Nat := if n = 0 then 0 else n.log2 + 1
theorem nbits_zero : nbits 0 = 0 := rfl
theorem nbits_pos {n : Nat} (h : n ≠ 0) : 1 ≤ nbits n := by unfold nbits; rw [if_neg h]; omega
theorem nbits_lt (n : Nat) : n < 2 ^ nbits n := by
  unfold nbits; split
  · next h => subst h; decide
  · next h => exact Nat.lt_log2_self
theorem nbits_ge {n : Nat} (h : n ≠ 0) : 2 ^ (nbits n - 1) ≤ n := by
  unfold nbits; rw [if_neg h, Nat.add_sub_cancel]; exact Nat.log2_self_le h
theorem two_lt_iff {a b : Nat} : 2 ^ a < 2 ^ b ↔ a < b := Nat.pow_lt_pow_iff_right (by omega)
theorem nbits_eq {n k : Nat} (hk : 1 ≤ k) (h1 : 2 ^ (k - 1) ≤ n) (h2 : n < 2 ^ k) : nbits n = k := by
  have h0 : n ≠ 0 := by rintro rfl; have := Nat.pow_pos (n := k - 1) (show 0 < 2 by omega); omega
  have h3 := two_lt_iff.1 (Nat.lt_of_le_of_lt h1 (nbits_lt n))
  have h4 := two_lt_iff.1 (Nat.lt_of_le_of_lt (nbits_ge h0) h2)
  have := nbits_pos h0
  omega
theorem nbits_le_iff {n k : Nat} : nbits n ≤ k ↔ n < 2 ^ k := by
  refine ⟨fun h => Nat.lt_of_lt_of_le (nbits_lt n) (Nat.pow_le_pow_right (by omega) h), fun h => ?_⟩
  by_cases h0 : n = 0
  · subst h0; exact Nat.zero_le _
  · have h4 := two_lt_iff.1 (Nat.lt_of_le_of_lt (nbits_ge h0) h)
    omega
theorem nbits_blen {x : Nat} (h : x < WB) : nbits x = blen x := by
  by_cases h0 : x = 0
  · subst h0; rfl
  · have h1 := blen_lt h
    have h2 := blen_ge h (by omega)
    have h3 := blen_pos h (by omega)
    refine nbits_eq h3 ?_ h1
    obtain ⟨k, hk⟩ : ∃ k, blen x = k + 1 := ⟨blen x - 1, by omega⟩
    rw [hk] at h2 ⊢
    rw [Nat.pow_succ] at h2
    rw [Nat.add_sub_cancel]; omega
/-- A word that has its top bit spread keeps its bits' count. -/
theorem nbits_spread (x s : Nat) : nbits (x ||| x / 2 ^ s) = nbits x := by
  by_cases h0 : x = 0
  · subst h0; simp
  · refine nbits_eq (nbits_pos h0) (Nat.le_trans (nbits_ge h0) Nat.left_le_or) (Nat.or_lt_two_pow (nbits_lt x) (Nat.lt_of_le_of_lt (Nat.div_le_self _ _) (nbits_lt x)))
theorem WB_bits : WB = 2 ^ 64 := by rw [WB_eq]
/-- Bits of a list of words. -/
theorem nbits_digs {n : Nat} (h : n ≠ 0) : nbits n = 64 * ((digs n).length - 1) + nbits (nth (digs n) ((digs n).length - 1)) := by
  have hl : 0 < (digs n).length := Nat.pos_of_ne_zero (fun e => h (digs_len_eq_zero.1 e))
  obtain ⟨k, hk⟩ : ∃ k, (digs n).length = k + 1 := ⟨(digs n).length - 1, by omega⟩
  rw [hk, Nat.add_sub_cancel]
  have hv := val_digs n
  have hw := Wd_digs n
  have ht : nth (digs n) k ≠ 0 := by
    have hne : digs n ≠ [] := fun e => h (digs_eq_nil.1 e)
    have h1 := digs_last hne
    rw [List.getLast_eq_getElem] at h1
    unfold nth
    rw [List.getElem?_eq_getElem (by omega)]
    simp only [hk, Nat.add_sub_cancel] at h1
    exact h1
  have hs : n = val ((digs n).take k) + WB ^ k * nth (digs n) k := by
    conv => lhs; rw [← hv]
    rw [← val_take_succ (by omega), List.take_of_length_le (by omega)]
  have hlt : val ((digs n).take k) < WB ^ k := by
    have := val_lt (hw.take k)
    rw [List.length_take, Nat.min_eq_left (by omega)] at this
    exact this
  have e : WB ^ k = 2 ^ (64 * k) := by rw [WB_bits, ← Nat.pow_mul]
  rw [e] at hs hlt
  generalize nth (digs n) k = t at *
  generalize val ((digs n).take k) = r at *
  have h1 := nbits_lt t
  have h2 := nbits_ge ht
  have h3 := nbits_pos ht
  refine nbits_eq (by omega) ?_ ?_
  · rw [show 64 * k + nbits t - 1 = 64 * k + (nbits t - 1) by omega, Nat.pow_add, hs]
    have := Nat.mul_le_mul_left (2 ^ (64 * k)) h2
    omega
  · rw [Nat.pow_add, hs]
    have := Nat.mul_le_mul_left (2 ^ (64 * k)) (Nat.succ_le_of_lt h1)
    rw [Nat.mul_succ] at this
    omega
end Go.Proofs.YtonepclpllelfaaGreatDoor

namespace Go.Proofs.YtonepclpllelfaaGreatDoor
open Go Go.RowKit

theorem run_f64bits (x : Nat) (w : World) : (callFunc 265 #[.float .f64 x]).run Tryz.prog w = .ok (.value (.int .u64 (x : Int))) w := by
  rw [run_callFunc_extern Tryz.func265 (by kernel_rfl) (by kernel_rfl) (by kernel_rfl) (e := Extern.MathFloatBits.float64bits) (by kernel_rfl)]
  rfl
theorem run_f64from (x : Int) (w : World) : (callFunc 266 #[.int .u64 x]).run Tryz.prog w = .ok (.value (.float .f64 x.toNat)) w := by
  rw [run_callFunc_extern Tryz.func266 (by kernel_rfl) (by kernel_rfl) (by kernel_rfl) (e := Extern.MathFloatBits.float64frombits) (by kernel_rfl)]
  rfl
theorem run_archLog (w : World) : (callFunc 260 #[.float .f64 4603804719079489536]).run Tryz.prog w = .ok (.value (.float .f64 13825510489450817230)) w := by
  rw [run_callFunc_extern Tryz.func260 (by kernel_rfl) (by kernel_rfl) (by kernel_rfl) (e := Extern.MathLog.archLog) (by kernel_rfl)]
  have h : (Extern.MathLog.archLog #[.float .f64 4603804719079489536]).run Tryz.prog w = .ok (.float .f64 13825510489450817230) w := by kernel_rfl
  rw [h]; rfl
theorem abs10 (w : World) : Calls Tryz.prog 269 #[.float .f64 4621819117588971520] w fun e w' => e = .returned (.float .f64 4621819117588971520) ∧ w = w' := by
  have h1 := run_f64bits
  have h2 := run_f64from
  have h3 : bits .andNot .u64 (4621819117588971520 : Int) 9223372036854775808 = 4621819117588971520 := by kernel_rfl
  go_enter Tryz.func269, Tryz.ntmps269
  go_wp2
  go_ret
  exact ⟨rfl, rfl⟩
theorem isInf10 (w : World) : Calls Tryz.prog 262 #[.float .f64 4621819117588971520, .int .i64 0] w fun e w' => e = .returned (.bool false) ∧ w = w' := by
  have k := abs10
  have h1 : (FloatKind.f64.format.order 4621819117588971520 9218868437227405311 == some .gt) = false := by kernel_rfl
  replace k := Lib.hid k
  go_enter Tryz.func262, Tryz.ntmps262
  go_wp2_with (with_reducible refine (k.out _).mono ?_; rintro e w' ⟨rfl, rfl⟩)
  go_ret
  exact ⟨rfl, rfl⟩
theorem isNaN10 (w : World) : Calls Tryz.prog 263 #[.float .f64 4621819117588971520] w fun e w' => e = .returned (.bool false) ∧ w = w' := by
  have h1 : (FloatKind.f64.format.order 4621819117588971520 4621819117588971520 != some .eq) = false := by kernel_rfl
  go_enter Tryz.func263, Tryz.ntmps263
  go_wp2
  go_ret
  exact ⟨rfl, rfl⟩
theorem normalize10 (w : World) : Calls Tryz.prog 264 #[.float .f64 4621819117588971520] w fun e w' => e = .returned (.tuple #[.float .f64 4621819117588971520, .int .i64 0]) ∧ w = w' := by
  have k := abs10
  have h1 : (FloatKind.f64.format.order 4621819117588971520 4503599627370496 == some .lt) = false := by kernel_rfl
  replace k := Lib.hid k
  go_enter Tryz.func264, Tryz.ntmps264
  go_wp2_with (with_reducible refine (k.out _).mono ?_; rintro e w' ⟨rfl, rfl⟩)
  go_ret2
  exact ⟨rfl, rfl⟩
theorem frexp10 (w : World) : Calls Tryz.prog 259 #[.float .f64 4621819117588971520] w fun e w' => e = .returned (.tuple #[.float .f64 4603804719079489536, .int .i64 4]) ∧ w = w' := by
  have k1 := isInf10
  have k2 := isNaN10
  have k3 := normalize10
  have h0 : (FloatKind.f64.format.order 4621819117588971520 0 == some .eq) = false := by kernel_rfl
  have h1 := run_f64bits
  have h2 := run_f64from
  have h3 : bits .and .u64 1026 2047 = 1026 := by kernel_rfl
  have h4 : bits .andNot .u64 4621819117588971520 9218868437227405312 = 1125899906842624 := by kernel_rfl
  have h5 : bits .or .u64 1125899906842624 4602678819172646912 = 4603804719079489536 := by kernel_rfl
  replace k1 := Lib.hid k1
  replace k2 := Lib.hid k2
  replace k3 := Lib.hid k3
  go_enter Tryz.func259, Tryz.ntmps259
  go_wp2_with fail
  with_reducible refine (k1.out _).mono ?_
  rintro e w' ⟨rfl, rfl⟩
  go_wp2_with fail
  with_reducible refine (k2.out _).mono ?_
  rintro e w' ⟨rfl, rfl⟩
  go_wp2_with fail
  with_reducible refine (k3.out _).mono ?_
  rintro e w' ⟨rfl, rfl⟩
  go_wp2
  go_ret2
  exact ⟨rfl, rfl⟩
theorem Frexp10 (w : World) : Calls Tryz.prog 249 #[.float .f64 4621819117588971520] w fun e w' => e = .returned (.tuple #[.float .f64 4603804719079489536, .int .i64 4]) ∧ w = w' := by
  have k := frexp10
  replace k := Lib.hid k
  go_enter Tryz.func249, Tryz.ntmps249
  go_wp2_with (with_reducible refine (k.out _).mono ?_; rintro e w' ⟨rfl, rfl⟩)
  go_ret2
  exact ⟨rfl, rfl⟩
theorem Log0 (w : World) : Calls Tryz.prog 250 #[.float .f64 4603804719079489536] w fun e w' => e = .returned (.float .f64 13825510489450817230) ∧ w = w' := by
  have h := run_archLog
  go_enter Tryz.func250, Tryz.ntmps250
  go_wp2
  go_ret
  exact ⟨rfl, rfl⟩
theorem log2_10 (w : World) : Calls Tryz.prog 231 #[.float .f64 4621819117588971520] w fun e w' => e = .returned (.float .f64 4614662735865160561) ∧ w = w' := by
  have k1 := Frexp10
  have k2 := Log0
  have h0 : (FloatKind.f64.format.order 4603804719079489536 4602678819172646912 == some .eq) = false := by kernel_rfl
  have hr1 : floatBits .mul .f64 13825510489450817230 4609176140021203710 = some 13827654785158443579 := by kernel_rfl
  have hr2 : floatBits .add .f64 13827654785158443579 (floatOfInt .f64 4) = some 4614662735865160561 := by kernel_rfl
  have g1 := fun (w : World) (t : TypeId) => run_float_arith (P := Tryz.prog) w .mul t .f64 _ _ _ hr1
  have g2 := fun (w : World) (t : TypeId) => run_float_arith (P := Tryz.prog) w .add t .f64 _ _ _ hr2
  replace k1 := Lib.hid k1
  replace k2 := Lib.hid k2
  replace hr1 := Lib.hid hr1
  replace hr2 := Lib.hid hr2
  go_enter Tryz.func231, Tryz.ntmps231
  go_wp2_with fail
  with_reducible refine (k1.out _).mono ?_
  rintro e w' ⟨rfl, rfl⟩
  go_wp2_with fail
  with_reducible refine (k2.out _).mono ?_
  rintro e w' ⟨rfl, rfl⟩
  go_wp2
  go_ret
  exact ⟨rfl, rfl⟩
theorem Log2_10 (w : World) : Calls Tryz.prog 199 #[.float .f64 4621819117588971520] w fun e w' => e = .returned (.float .f64 4614662735865160561) ∧ w = w' := by
  have k := log2_10
  replace k := Lib.hid k
  go_enter Tryz.func199, Tryz.ntmps199
  go_wp2_with (with_reducible refine (k.out _).mono ?_; rintro e w' ⟨rfl, rfl⟩)
  go_ret
  exact ⟨rfl, rfl⟩

/-- The guess of figures by bits: what the code's quotient comes to. -/
def fguess (b : Nat) : Nat := match floatBits .quo .f64 (floatOfInt .f64 (b : Int)) 4614662735865160561 with
  | some q => (match floatToIntVal .f64 q .i64 with | some n => n.toNat | none => 0)
  | none => 0
def fgood (b : Nat) : Bool := match floatBits .quo .f64 (floatOfInt .f64 (b : Int)) 4614662735865160561 with
  | some q => (match floatToIntVal .f64 q .i64 with | some n => decide (0 ≤ n ∧ n ≤ 400 ∧ 2 ^ b ≤ 10 ^ (n.toNat + 1) ∧ (b = 0 ∨ 10 ^ (n.toNat - 1) ≤ 2 ^ (b - 1))) | none => false)
  | none => false
theorem fgood_all : (List.range 1200).all fgood = true := by kernel_rfl
theorem fguess_spec {b : Nat} (h : b < 1200) : ∃ q, floatBits .quo .f64 (floatOfInt .f64 (b : Int)) 4614662735865160561 = some q ∧ floatToIntVal .f64 q .i64 = some (fguess b : Int) ∧ fguess b ≤ 400 ∧ 2 ^ b ≤ 10 ^ (fguess b + 1) ∧ (b = 0 ∨ 10 ^ (fguess b - 1) ≤ 2 ^ (b - 1)) := by
  have h1 := List.all_eq_true.1 fgood_all b (List.mem_range.2 h)
  unfold fgood at h1
  unfold fguess
  cases hq : floatBits .quo .f64 (floatOfInt .f64 (b : Int)) 4614662735865160561 with
  | none => rw [hq] at h1; cases h1
  | some q =>
    rw [hq] at h1
    simp only at h1 ⊢
    cases hn : floatToIntVal .f64 q .i64 with
    | none => rw [hn] at h1; cases h1
    | some n =>
      rw [hn] at h1
      simp only at h1 ⊢
      have h2 := of_decide_eq_true h1
      exact ⟨q, rfl, by rw [Int.toNat_of_nonneg h2.1]; exact hn, by omega, h2.2.2.1, h2.2.2.2⟩
end Go.Proofs.YtonepclpllelfaaGreatDoor

namespace Go.Proofs.YtonepclpllelfaaGreatDoor

theorem sq_mag {S V p C n : Nat} {e : Int} (hp : 3 ≤ p) (inv : SqInv S V p C e n) (hS : 200 ≤ S) (hn : n ≤ 100) (hV1 : 10 ^ (2 * S - 2) ≤ V) (hV2 : V ≤ 10 ^ (2 * S)) : -1 ≤ (figs C : Int) + e ∧ (figs C : Int) + e ≤ 1 := by
  obtain ⟨hk, hk0, hka⟩ := kOf_le hp
  have ha : (0 : Int) < 10 ^ p := Int.pow_pos (by omega)
  have hlo := inv.lo
  have hhi := inv.hi
  have hne := inv.ne
  have h := inv.near
  have hV0 : 0 < V := Nat.lt_of_lt_of_le (ten_pos _) hV1
  have h1 : dval S C e ^ 2 ≤ 2 * V := by
    have h2 := h.1
    have h3 := Int.mul_le_mul_of_nonneg_right hk (show (0 : Int) ≤ V by omega)
    have h5 := Int.mul_nonneg (show (0 : Int) ≤ 10 ^ p by omega) (show (0 : Int) ≤ V by omega)
    have h4 : 10 ^ p * (((dval S C e : Nat) : Int) ^ 2) ≤ 10 ^ p * (2 * V) := by
      generalize (10 : Int) ^ p = P at *
      grind
    exact_mod_cast Int.le_of_mul_le_mul_left h4 ha
  have h2 : V ≤ 4 * dval S C e ^ 2 := by
    have h2 := h.2
    have h3 := Int.mul_le_mul_of_nonneg_right hk (show (0 : Int) ≤ V by omega)
    have h4 : 10 ^ p * (V : Int) ≤ 10 ^ p * (4 * ((dval S C e : Nat) : Int) ^ 2) := by
      generalize (10 : Int) ^ p = P at *
      grind
    exact_mod_cast Int.le_of_mul_le_mul_left h4 ha
  obtain ⟨t, ht⟩ : ∃ t, (e + (S : Int)).toNat = t := ⟨_, rfl⟩
  have hd : dval S C e = C * 10 ^ t := by unfold dval; rw [ht]
  have hf := figs_mul_pow hne t
  rw [← hd] at hf
  rw [Nat.pow_two] at h1 h2
  generalize dval S C e = D at *
  have e2 : 10 ^ (2 * S) = 10 ^ S * 10 ^ S := by rw [← Nat.pow_add]; congr 1; omega
  have u : D < 10 ^ (S + 1) := by
    apply Decidable.byContradiction
    intro hc
    have g1 : 10 * 10 ^ S ≤ D := by rw [← ten_succ]; omega
    have g2 := Nat.mul_le_mul g1 g1
    have g3 := ten_pos S
    rw [e2] at hV2
    generalize 10 ^ S = s at *
    have g4 := Nat.mul_pos g3 g3
    grind
  have l : 10 ^ (S - 2) ≤ D := by
    apply Decidable.byContradiction
    intro hc
    have g2 : D * D ≤ 10 ^ (S - 2) * 10 ^ (S - 2) := Nat.mul_le_mul (by omega) (by omega)
    rw [← Nat.pow_add] at g2
    have g3 : 10 ^ (2 * S - 2) = 100 * 10 ^ (S - 2 + (S - 2)) := by
      rw [show 2 * S - 2 = (S - 2 + (S - 2)) + 1 + 1 by omega, ten_succ, ten_succ]; omega
    have g4 := ten_pos (S - 2 + (S - 2))
    omega
  have f1 := (figs_le_iff (n := D) (k := S + 1) (by omega)).2 u
  have f2 : S - 1 ≤ figs D := by
    have h3 := figs_mono l
    rw [figs_pow] at h3
    omega
  omega
theorem stQ_mag {F C q : Nat} {eF e : Int} (hq : 1 ≤ q) (h1 : -1 ≤ (figs F : Int) + eF ∧ (figs F : Int) + eF ≤ 0) (h2 : -1 ≤ (figs C : Int) + e ∧ (figs C : Int) + e ≤ 1) : -(q : Int) - 2 ≤ stQ F eF C e q ∧ stQ F eF C e q ≤ -(q : Int) + 2 := by
  unfold stQ qE quoU
  split <;> omega
theorem qC_small {F C q : Nat} (hF : F ≠ 0) (hC : C ≠ 0) (hq : 1 ≤ q) : qC F C q < 10 ^ (q + 1) := by
  rcases quo_figs false 2 hF hC hq rfl rfl with h | ⟨h, _⟩
  · exact Nat.lt_of_lt_of_le (figs_lt _) (ten_le (by unfold qC; omega))
  · unfold qC; rw [h]; exact ten_lt (by omega)
theorem nb_ten {N j : Nat} (h : N < 10 ^ j) : nbits N ≤ 4 * j := by
  refine nbits_le_iff.2 (Nat.lt_of_lt_of_le h ?_)
  rw [Nat.pow_mul]
  exact Nat.pow_le_pow_left (by decide) j
theorem rndN_small (n : Bool) {N p m : Nat} (hp : 1 ≤ p) : rndN n N p m < 10 ^ p := Nat.lt_of_lt_of_le (figs_lt _) (ten_le (rndN_figs hp))
end Go.Proofs.YtonepclpllelfaaGreatDoor

namespace Go.Proofs.YtonepclpllelfaaGreatDoor

/-- The iteration: at precision p, toward precision M. -/
def sqRun (X : Nat) (eF : Int) (M : Nat) : Nat → Nat → Nat → Int → Nat × Int
  | 0, _, C, e => (C, e)
  | k + 1, p, C, e => if p = M then (C, e) else sqRun X eF M k (min (2 * p - 2) M) (stY X eF C e (min (2 * p - 2) M)) (stYe X eF C e (min (2 * p - 2) M))
theorem sqRun_end (X : Nat) (eF : Int) (M k C : Nat) (e : Int) : sqRun X eF M k M C e = (C, e) := by
  cases k with
  | zero => rfl
  | succ k => unfold sqRun; rw [if_pos rfl]
theorem sqRun_go (X : Nat) (eF : Int) {M k p C : Nat} {e : Int} (h : p ≠ M) : sqRun X eF M (k + 1) p C e = sqRun X eF M k (min (2 * p - 2) M) (stY X eF C e (min (2 * p - 2) M)) (stYe X eF C e (min (2 * p - 2) M)) := by
  rw [sqRun, if_neg h]
/-- What holds at the loop's head. -/
structure SqL (S X : Nat) (eF : Int) (M CL : Nat) (eL : Int) (k p C : Nat) (e : Int) (n : Nat) : Prop where
  run : sqRun X eF M k p C e = (CL, eL)
  inv : SqInv S (dval (2 * S) X eF) p C e n
  fuel : M - 2 ≤ 2 ^ k * (p - 2)
  pp : p = 3 ∨ p = 4 ∨ p = 6 ∨ 10 ≤ p
  le : p ≤ M
  n1 : n ≤ 100
  np : 10 ≤ p → n ≤ p
/-- The dividend: between a tenth of a tenth and one, in units of 10^-(2S). -/
structure SqF (S X : Nat) (eF : Int) (M : Nat) : Prop where
  s : 1000 ≤ S
  ne : X ≠ 0
  lo : -200 ≤ eF
  hi : eF ≤ 0
  v1 : 10 ^ (2 * S - 2) ≤ dval (2 * S) X eF
  v2 : dval (2 * S) X eF < 10 ^ (2 * S)
  m1 : 12 ≤ M
  m2 : M ≤ 66
theorem SqL.step {S X M CL k p C n : Nat} {eF eL e : Int} (f : SqF S X eF M) (h : SqL S X eF M CL eL k p C e n) (hp : p ≠ M) :
    ∃ k', k = k' + 1 ∧ SqL S X eF M CL eL k' (min (2 * p - 2) M) (stY X eF C e (min (2 * p - 2) M)) (stYe X eF C e (min (2 * p - 2) M)) (min (2 * p - 2) M) := by
  have hle := h.le
  have hm1 := f.m1
  have hm2 := f.m2
  have hpp := h.pp
  have hfu := h.fuel
  cases k with
  | zero => rw [Nat.pow_zero, Nat.one_mul] at hfu; omega
  | succ k =>
    have hr := h.run
    rw [sqRun_go X eF hp] at hr
    refine ⟨k, rfl, hr, ?_, ?_, ?_, by omega, by omega, fun _ => Nat.le_refl _⟩
    · refine sq_step f.s f.ne ⟨f.lo, f.hi⟩ f.v1 (Nat.le_of_lt f.v2) h.n1 (by omega) h.inv ?_
      rcases hpp with rfl | rfl | rfl | h10
      · left; omega
      · right; left; omega
      · right; right; left; omega
      · right; right; right; omega
    · rw [Nat.pow_succ, Nat.mul_assoc] at hfu
      by_cases hq : 2 * p - 2 ≤ M
      · rw [Nat.min_eq_left hq, show 2 * p - 2 - 2 = 2 * (p - 2) by omega]
        exact hfu
      · rw [Nat.min_eq_right (by omega)]
        exact Nat.le_trans (Nat.le_of_eq (Nat.one_mul _).symm) (Nat.mul_le_mul_right _ (Nat.pos_of_ne_zero (by have := Nat.pow_pos (n := k) (show 0 < 2 by omega); omega)))
    · rcases hpp with rfl | rfl | rfl | h10
      · right; left; omega
      · right; right; left; omega
      · right; right; right; omega
      · right; right; right; omega
/-- The last step begins with at least ten figures, and ends with all. -/
theorem SqL.last {S X M CL : Nat} {eF eL : Int} (f : SqF S X eF M) : ∀ (k p C n : Nat) (e : Int), SqL S X eF M CL eL k p C e n → p ≠ M →
    SqInv S (dval (2 * S) X eF) M CL eL M ∧ ∃ pp C' e' n', 10 ≤ pp ∧ pp < M ∧ M ≤ 2 * pp - 2 ∧ n' ≤ pp ∧ SqInv S (dval (2 * S) X eF) pp C' e' n' ∧ CL = stY X eF C' e' M ∧ eL = stYe X eF C' e' M := by
  intro k
  induction k with
  | zero =>
    intro p C n e h hp
    obtain ⟨k', hk, _⟩ := h.step f hp
    omega
  | succ k ih =>
    intro p C n e h hp
    obtain ⟨k', hk, h2⟩ := h.step f hp
    obtain rfl : k' = k := by omega
    have hle := h.le
    have hm1 := f.m1
    have hpp := h.pp
    obtain ⟨q, hq⟩ : ∃ q, min (2 * p - 2) M = q := ⟨_, rfl⟩
    rw [hq] at h2
    by_cases hqM : q = M
    · subst hqM
      have hr := h2.run
      rw [sqRun_end] at hr
      have e1 : stY X eF C e q = CL := congrArg Prod.fst hr
      have e2 : stYe X eF C e q = eL := congrArg Prod.snd hr
      have hi := h2.inv
      rw [e1, e2] at hi
      have h10 : 10 ≤ p := by omega
      exact ⟨hi, p, C, e, n, h10, by omega, by omega, h.np h10, h.inv, e1.symm, e2.symm⟩
    · exact ih q _ _ _ h2 hqM

theorem tmod2 (e : Int) : -1 ≤ e.tmod 2 ∧ e.tmod 2 ≤ 1 ∧ (e.tmod 2 = 0 ↔ e % 2 = 0) := by
  rcases Int.le_total 0 e with h | h
  · rw [Int.tmod_eq_emod_of_nonneg h]; omega
  · have h1 := Int.neg_tmod (a := -e) (b := 2)
    have h2 := Int.tmod_eq_emod_of_nonneg (a := -e) (b := 2) (by omega)
    rw [Int.neg_neg] at h1
    omega
/-- The scaled dividend's exponent, the root's shift, the first guess, the precision of the work. -/
abbrev sqEv (X : Nat) (ex : Int) : Prop := ((figs X : Int) + ex) % 2 = 0
def sqEF (X : Nat) (ex : Int) : Int := if sqEv X ex then -(figs X : Int) else -(figs X : Int) - 1
def sqE2 (X : Nat) (ex : Int) : Int := if sqEv X ex then (figs X : Int) + ex else (figs X : Int) + ex + 1
def sqW (X p : Nat) : Nat := max (max (p + 1) (figs X)) 7
def sqC0 (X : Nat) (ex : Int) (w : Nat) : Nat := if sqEv X ex then gC X 819 259 w (-(figs X : Int)) (-3) (-3) else gC X 259 819 w (-(figs X : Int) - 1) (-2) (-4)
def sqE0 (X : Nat) (ex : Int) (w : Nat) : Int := if sqEv X ex then gE X 819 259 w (-(figs X : Int)) (-3) (-3) else gE X 259 819 w (-(figs X : Int) - 1) (-2) (-4)
/-- What the iteration comes to. -/
def sqR (X : Nat) (ex : Int) (p : Nat) : Nat × Int := sqRun X (sqEF X ex) (sqW X p + 5) 6 3 (sqC0 X ex (sqW X p)) (sqE0 X ex (sqW X p))
theorem sqE2_ev (X : Nat) (ex : Int) : sqE2 X ex % 2 = 0 := by
  unfold sqE2
  split
  · assumption
  · rename_i h; omega
/-- The exponents: the number is the scaled dividend, shifted twice by half. -/
theorem sqE2_ex (X : Nat) (ex : Int) : sqEF X ex + 2 * (sqE2 X ex / 2) = ex := by
  have h := sqE2_ev X ex
  have h2 : 2 * (sqE2 X ex / 2) = sqE2 X ex := by omega
  rw [h2]
  unfold sqEF sqE2
  split <;> omega
theorem sq_start {X p : Nat} {ex : Int} (hX0 : X ≠ 0) (hX : figs X ≤ 61) (hp : 1 ≤ p ∧ p ≤ 60) :
    SqF 1000 X (sqEF X ex) (sqW X p + 5) ∧ SqInv 1000 (dval (2 * 1000) X (sqEF X ex)) 3 (sqC0 X ex (sqW X p)) (sqE0 X ex (sqW X p)) (sqW X p) ∧ 7 ≤ sqW X p ∧ p + 1 ≤ sqW X p ∧ sqW X p ≤ 61 := by
  have hf1 := figs_pos X
  obtain ⟨w, hw⟩ : ∃ w, sqW X p = w := ⟨_, rfl⟩
  have hw1 : 7 ≤ w ∧ p + 1 ≤ w ∧ w ≤ 61 := by rw [← hw]; unfold sqW; omega
  obtain ⟨S, hS⟩ : ∃ S, S = 1000 := ⟨_, rfl⟩
  rw [hw, ← hS]
  have hlt := figs_lt X
  have hge := figs_ge hX0
  have hv : ∀ (j : Nat) (eF : Int), eF = -(figs X : Int) - (j : Int) → j ≤ 1 → 10 ^ (2 * S - 1 - j) ≤ dval (2 * S) X eF ∧ dval (2 * S) X eF < 10 ^ (2 * S - j) := by
    intro j eF he hj
    unfold dval
    have ht : (eF + ((2 * S : Nat) : Int)).toNat = 2 * S - figs X - j := by omega
    rw [ht]
    refine ⟨?_, ?_⟩
    · have h1 := Nat.mul_le_mul_right (10 ^ (2 * S - figs X - j)) hge
      rw [← Nat.pow_add, show figs X - 1 + (2 * S - figs X - j) = 2 * S - 1 - j by omega] at h1
      exact h1
    · have h1 := Nat.mul_lt_mul_of_pos_right hlt (ten_pos (2 * S - figs X - j))
      rw [← Nat.pow_add, show figs X + (2 * S - figs X - j) = 2 * S - j by omega] at h1
      exact h1
  by_cases h : sqEv X ex
  · have e1 : sqEF X ex = -(figs X : Int) := by unfold sqEF; rw [if_pos h]
    have e2 : sqC0 X ex w = gC X 819 259 w (-(figs X : Int)) (-3) (-3) := by unfold sqC0; rw [if_pos h]
    have e3 : sqE0 X ex w = gE X 819 259 w (-(figs X : Int)) (-3) (-3) := by unfold sqE0; rw [if_pos h]
    rw [e1, e2, e3]
    obtain ⟨v1, v2⟩ := hv 0 (-(figs X : Int)) (by omega) (by omega)
    rw [Nat.sub_zero] at v1 v2
    exact ⟨⟨by omega, hX0, by omega, by omega, Nat.le_trans (ten_le (by omega)) v1, v2, by omega, by omega⟩, guess_even (by omega) hw1.1 (by omega) (by omega) v1 (Nat.le_of_lt v2), hw1⟩
  · have e1 : sqEF X ex = -(figs X : Int) - 1 := by unfold sqEF; rw [if_neg h]
    have e2 : sqC0 X ex w = gC X 259 819 w (-(figs X : Int) - 1) (-2) (-4) := by unfold sqC0; rw [if_neg h]
    have e3 : sqE0 X ex w = gE X 259 819 w (-(figs X : Int) - 1) (-2) (-4) := by unfold sqE0; rw [if_neg h]
    rw [e1, e2, e3]
    obtain ⟨v1, v2⟩ := hv 1 (-(figs X : Int) - 1) (by omega) (by omega)
    rw [show 2 * S - 1 - 1 = 2 * S - 2 by omega] at v1
    exact ⟨⟨by omega, hX0, by omega, by omega, v1, Nat.lt_of_lt_of_le v2 (ten_le (by omega)), by omega, by omega⟩, guess_odd (by omega) hw1.1 (by omega) (by omega) v1 (Nat.le_of_lt v2), hw1⟩
theorem sq_begin {X p : Nat} {ex : Int} (hX0 : X ≠ 0) (hX : figs X ≤ 61) (hp : 1 ≤ p ∧ p ≤ 60) {CL : Nat} {eL : Int} (hR : sqR X ex p = (CL, eL)) :
    SqL 1000 X (sqEF X ex) (sqW X p + 5) CL eL 6 3 (sqC0 X ex (sqW X p)) (sqE0 X ex (sqW X p)) (sqW X p) := by
  obtain ⟨f, hi, h7, h8, h9⟩ := sq_start (ex := ex) hX0 hX hp
  exact ⟨hR, hi, by have : (2 : Nat) ^ 6 = 64 := rfl; omega, .inl rfl, by omega, by omega, fun h => by omega⟩
end Go.Proofs.YtonepclpllelfaaGreatDoor

namespace Go.Proofs.YtonepclpllelfaaGreatDoor

theorem dval_def (S C : Nat) (e : Int) : dval S C e = C * 10 ^ (e + S).toNat := rfl
/-- What is known of what the iteration comes to. -/
theorem sq_end {X p : Nat} {ex : Int} (hX0 : X ≠ 0) (hX : figs X ≤ 61) (hp : 1 ≤ p ∧ p ≤ 60) {CL : Nat} {eL : Int} (hR : sqR X ex p = (CL, eL)) :
    SqInv 1000 (dval (2 * 1000) X (sqEF X ex)) (sqW X p + 5) CL eL (sqW X p + 5) ∧ figs CL ≤ 66 ∧ CL ≠ 0 ∧ -67 ≤ eL ∧ eL ≤ 0 := by
  obtain ⟨f, hi, h7, h8, h9⟩ := sq_start (ex := ex) hX0 hX hp
  have h := (SqL.last f _ _ _ _ _ (sq_begin hX0 hX hp hR) (by omega)).1
  have h1 := h.figs
  have h2 := h.lo
  exact ⟨h, by omega, h.ne, by omega, h.hi⟩
theorem cancel_ten {a b i j t u v : Nat} (hu : u = i + t) (hv : v = j + t) : (a * 10 ^ u < b * 10 ^ v ↔ a * 10 ^ i < b * 10 ^ j) := by
  subst hu hv
  rw [Nat.pow_add, Nat.pow_add, ← Nat.mul_assoc, ← Nat.mul_assoc]
  exact ⟨fun h => Nat.lt_of_mul_lt_mul_right h, fun h => Nat.mul_lt_mul_of_pos_right h (ten_pos _)⟩
/-- The root less and more a unit. -/
theorem sqrt_between {X p : Nat} {ex : Int} (hX0 : X ≠ 0) (hX : figs X ≤ 61) (hp : 1 ≤ p ∧ p ≤ 60) {CL : Nat} {eL : Int} (hR : sqR X ex p = (CL, eL)) {R K D : Nat} (hRR : rndN false CL p 2 = R) (hK : rndK false CL p 2 = K) (hD : D = p - figs R) {Eu g : Int} {i j : Nat}
    (hEu : Eu = eL + sqE2 X ex / 2 + K - D) (hg : g = min (Eu + Eu) ex) (hi : (i : Int) = Eu + Eu - g) (hj : (j : Int) = ex - g) :
    (R * 10 ^ D - 1) * (R * 10 ^ D - 1) * 10 ^ i < X * 10 ^ j ∧ X * 10 ^ j < (R * 10 ^ D + 1) * (R * 10 ^ D + 1) * 10 ^ i := by
  obtain ⟨f, -, h7, h8, h9⟩ := sq_start (ex := ex) hX0 hX hp
  obtain ⟨h, h1, h2, h3, h4⟩ := sq_end hX0 hX hp hR
  have hxx := sqE2_ex X ex
  have hfR : figs R ≤ p := by rw [← hRR]; exact rndN_figs hp.1
  have hfR1 := figs_pos R
  have hs := f.s
  have hlo := f.lo
  have hhi := f.hi
  have hv1 := f.v1
  obtain ⟨S, hS⟩ : ∃ S, S = 1000 := ⟨_, rfl⟩
  rw [← hS] at h hv1 hs
  have hV : 0 < dval (2 * S) X (sqEF X ex) := Nat.lt_of_lt_of_le (ten_pos _) hv1
  have hl := root_law (p := p) hV h (by omega) (by omega) hp.1 (by omega) rfl rfl
  rw [hRR, hK] at hl
  obtain ⟨-, l1, l2⟩ := hl
  obtain ⟨hh, hhe⟩ : ∃ hh, sqE2 X ex / 2 = hh := ⟨_, rfl⟩
  rw [hhe] at hEu hxx
  obtain ⟨eF, heF⟩ : ∃ eF, sqEF X ex = eF := ⟨_, rfl⟩
  rw [heF] at l1 l2 hxx hlo hhi
  obtain ⟨u, hu⟩ : ∃ u, (eL + K + figs R - p + S).toNat = u := ⟨_, rfl⟩
  obtain ⟨v, hv⟩ : ∃ v, (eF + ((2 * S : Nat) : Int)).toNat = v := ⟨_, rfl⟩
  rw [dval_def, dval_def, dval_def, hu, hv, show (eL + (K : Int) + (S : Int)).toNat = D + u by omega, Nat.pow_add, ← Nat.mul_assoc, Nat.one_mul] at l1 l2
  generalize R * 10 ^ D = G at *
  have e1 : G * 10 ^ u - 10 ^ u = (G - 1) * 10 ^ u := by rw [Nat.sub_mul, Nat.one_mul]
  have e2 : G * 10 ^ u + 10 ^ u = (G + 1) * 10 ^ u := by rw [Nat.add_mul, Nat.one_mul]
  have e3 : ∀ a, (a * 10 ^ u) ^ 2 = a * a * 10 ^ (2 * u) := by
    intro a
    rw [Nat.mul_pow, ← Nat.pow_mul, Nat.pow_two, Nat.mul_comm u 2]
  rw [e1, e3] at l1
  rw [e2, e3] at l2
  have hu2 : 2 * u = i + (2 * u - i) := by omega
  have hv2 : v = j + (2 * u - i) := by omega
  exact ⟨(cancel_ten hu2 hv2).1 l1, (cancel_ten hv2 hu2).1 l2⟩
end Go.Proofs.YtonepclpllelfaaGreatDoor
