/- bits.Len64, from the shelf (laid by the kit's program, plain). Decimal figures and rounding of natural numbers: plain facts, no program. Fractions rounded to whole numbers, and the reference's quotient with a figure that tells of the rest: plain facts, no program. The square root: Newton's step with rounded quotient, sum and half: plain facts, no program. The quotient's laws: what the code computes beside what the reference rounds: plain facts, no program. The square root: the first guess and the iteration keep what is near the root: plain facts, no program. The square root: the rounded root is within one unit of the last place: plain facts, no program. -/
import Derived.Shelf.Small.Bits
import Derived.Test.YtonepclpllelfaaGreatDoorProg
namespace Go.Proofs.YtonepclpllelfaaGreatDoor
open Go.Shelf Go.Proofs
def shelf_lays129_ren : Go.Shelf.Ren := ⟨fun | 129 => 167 | n => n, fun | 53 => 164 | 3 => 3 | 4 => 4 | 46 => 33 | 5 => 5 | 9 => 9 | n => n, fun | n => n⟩
theorem shelf_lays129 : Go.Proofs.Lays.n129 Tryz.prog shelf_lays129_ren := {
  mixed := by kernel_rfl
  f129 := Tryz.func167.trans (congrArg some (by kernel_rfl))
  t3 := Tryz.underlying3
  a3 := Tryz.isAgg3
  z3 := Tryz.sizeOf3
  v3 := Tryz.zeroValue3
  t4 := Tryz.underlying4
  a4 := Tryz.isAgg4
  z4 := Tryz.sizeOf4
  v4 := Tryz.zeroValue4
  t5 := Tryz.underlying5
  a5 := Tryz.isAgg5
  z5 := Tryz.sizeOf5
  v5 := Tryz.zeroValue5
  t9 := Tryz.underlying9
  a9 := Tryz.isAgg9
  z9 := Tryz.sizeOf9
  v9 := Tryz.zeroValue9
  t46 := Tryz.underlying33
  a46 := Tryz.isAgg33
  z46 := Tryz.sizeOf33
  v46 := Tryz.zeroValue33
  t53 := Tryz.underlying164
  a53 := Tryz.isAgg164
  z53 := Tryz.sizeOf164
  v53 := Tryz.zeroValue164 }
theorem shelf_bits_Len64 (x : Int) (w : World) (h0 : 0 ≤ x) (h1 : x ≤ 18446744073709551615) :
    Calls Tryz.prog 167 #[.int .u64 x] w fun e w' => e = .returned (.int .i64 (Lib.bitLen x.toNat)) ∧ w' = w := Any.bits_Len64 shelf_lays129 x w h0 h1
end Go.Proofs.YtonepclpllelfaaGreatDoor

namespace Go.Proofs.YtonepclpllelfaaGreatDoor

def figsF : Nat → Nat → Nat
  | 0, _ => 1
  | f + 1, n => if n < 10 then 1 else figsF f (n / 10) + 1
/-- How many decimal figures a number has; 0 has one. -/
def figs (n : Nat) : Nat := figsF n n
theorem ten_pos (k : Nat) : 0 < 10 ^ k := Nat.pow_pos (by omega)
theorem ten_succ (k : Nat) : 10 ^ (k + 1) = 10 * 10 ^ k := by rw [Nat.pow_succ, Nat.mul_comm]
theorem ten_le {a b : Nat} (h : a ≤ b) : 10 ^ a ≤ 10 ^ b := Nat.pow_le_pow_right (by omega) h
theorem ten_lt {a b : Nat} (h : a < b) : 10 ^ a < 10 ^ b := Nat.pow_lt_pow_right (by omega) h
theorem ten_lt_iff {a b : Nat} : 10 ^ a < 10 ^ b ↔ a < b := by
  refine ⟨fun h => ?_, ten_lt⟩
  rcases Nat.lt_or_ge a b with h1 | h1
  · exact h1
  · have := ten_le h1; omega
theorem figsF_spec (f : Nat) : ∀ n, n ≤ f → 1 ≤ figsF f n ∧ n < 10 ^ figsF f n ∧ (n ≠ 0 → 10 ^ (figsF f n - 1) ≤ n) := by
  induction f with
  | zero => intro n hn; obtain rfl : n = 0 := by omega
            exact ⟨Nat.le_refl _, by decide, fun h => absurd rfl h⟩
  | succ f ih =>
    intro n hn
    unfold figsF
    by_cases h : n < 10
    · rw [if_pos h]; exact ⟨Nat.le_refl _, by simpa using h, fun h0 => by simp; omega⟩
    · rw [if_neg h]
      obtain ⟨h1, h2, h3⟩ := ih (n / 10) (by omega)
      have h3 := h3 (by omega)
      refine ⟨by omega, ?_, fun _ => ?_⟩
      · rw [ten_succ]; omega
      · rw [Nat.add_sub_cancel]
        obtain ⟨m, hm⟩ : ∃ m, figsF f (n / 10) = m + 1 := ⟨figsF f (n / 10) - 1, by omega⟩
        rw [hm] at h3 ⊢
        rw [Nat.add_sub_cancel] at h3
        rw [ten_succ]; omega
theorem figs_pos (n : Nat) : 1 ≤ figs n := (figsF_spec n n (Nat.le_refl _)).1
theorem figs_lt (n : Nat) : n < 10 ^ figs n := (figsF_spec n n (Nat.le_refl _)).2.1
theorem figs_ge {n : Nat} (h : n ≠ 0) : 10 ^ (figs n - 1) ≤ n := (figsF_spec n n (Nat.le_refl _)).2.2 h
theorem figs_zero : figs 0 = 1 := rfl
theorem figs_le_iff {n k : Nat} (hk : 1 ≤ k) : figs n ≤ k ↔ n < 10 ^ k := by
  refine ⟨fun h => Nat.lt_of_lt_of_le (figs_lt n) (ten_le h), fun h => ?_⟩
  by_cases h0 : n = 0
  · subst h0; rw [figs_zero]; exact hk
  · have h1 := figs_ge h0
    have h2 : 10 ^ (figs n - 1) < 10 ^ k := Nat.lt_of_le_of_lt h1 h
    have := ten_lt_iff.1 h2
    have := figs_pos n
    omega
theorem figs_eq {n k : Nat} (hk : 1 ≤ k) (h1 : 10 ^ (k - 1) ≤ n) (h2 : n < 10 ^ k) : figs n = k := by
  have h3 := (figs_le_iff hk).2 h2
  have h4 := figs_lt n
  have h5 : 10 ^ (k - 1) < 10 ^ figs n := Nat.lt_of_le_of_lt h1 h4
  have := ten_lt_iff.1 h5
  omega
theorem figs_mono {a b : Nat} (h : a ≤ b) : figs a ≤ figs b := (figs_le_iff (figs_pos b)).2 (Nat.lt_of_le_of_lt h (figs_lt b))
theorem figs_step {n : Nat} (h : 10 ≤ n) : figs n = figs (n / 10) + 1 := by
  have h1 := figs_lt (n / 10)
  have h2 := figs_ge (n := n / 10) (by omega)
  have h3 := figs_pos (n / 10)
  obtain ⟨m, hm⟩ : ∃ m, figs (n / 10) = m + 1 := ⟨figs (n / 10) - 1, by omega⟩
  rw [hm] at h1 h2 ⊢
  rw [Nat.add_sub_cancel] at h2
  refine figs_eq (by omega) ?_ ?_
  · rw [Nat.add_sub_cancel, ten_succ]; omega
  · rw [ten_succ]; omega
theorem figs_small {n : Nat} (h : n < 10) : figs n = 1 := by
  have h1 := (figs_le_iff (n := n) (k := 1) (Nat.le_refl _)).2 (by simpa using h)
  have := figs_pos n
  omega
/-- Figures of a number with noughts behind. -/
theorem figs_mul_pow {n : Nat} (h : n ≠ 0) (k : Nat) : figs (n * 10 ^ k) = figs n + k := by
  have h1 := figs_lt n
  have h2 := figs_ge h
  have h3 := figs_pos n
  refine figs_eq (by omega) ?_ ?_
  · rw [show figs n + k - 1 = (figs n - 1) + k by omega, Nat.pow_add]
    exact Nat.mul_le_mul_right _ h2
  · rw [Nat.pow_add]
    exact Nat.mul_lt_mul_of_pos_right h1 (ten_pos k)
/-- Figures cut off. -/
theorem figs_div_pow {n k : Nat} (hk : k < figs n) (h : n ≠ 0) : figs (n / 10 ^ k) = figs n - k := by
  have h1 := figs_lt n
  have h2 := figs_ge h
  refine figs_eq (by omega) ?_ ?_
  · rw [Nat.le_div_iff_mul_le (ten_pos k), ← Nat.pow_add]
    rw [show figs n - k - 1 + k = figs n - 1 by omega]; exact h2
  · rw [Nat.div_lt_iff_lt_mul (ten_pos k), ← Nat.pow_add]
    rw [show figs n - k + k = figs n by omega]; exact h1
theorem figs_pow (k : Nat) : figs (10 ^ k) = k + 1 := figs_eq (by omega) (by simp) (ten_lt (by omega))

/-- -1, 0 or 1. -/
def ord3 (a b : Nat) : Int := if a < b then -1 else if b < a then 1 else 0
/-- Whether a magnitude is made one greater. -/
def awayN (neg : Bool) (last : Nat) (half : Int) (mode : Nat) : Bool :=
  match mode with
  | 0 => false
  | 2 => decide (half > 0) || (half == 0 && last % 2 == 1)
  | 3 => !neg
  | 4 => neg
  | 5 => decide (half > 0)
  | 6 => true
  | 7 => last % 5 == 0
  | _ => decide (half ≥ 0)
/-- k figures less, rounded. -/
def cutN (neg : Bool) (C k mode : Nat) : Nat := if C % 10 ^ k = 0 then C / 10 ^ k else if awayN neg (C / 10 ^ k % 10) (ord3 (2 * (C % 10 ^ k)) (10 ^ k)) mode then C / 10 ^ k + 1 else C / 10 ^ k
def inexN (C k : Nat) : Bool := !decide (C % 10 ^ k = 0)
/-- Rounded to p figures: the coefficient, and how many figures are off. -/
def rndN (neg : Bool) (C p mode : Nat) : Nat := if figs C ≤ p then C else if figs (cutN neg C (figs C - p) mode) > p then cutN neg C (figs C - p) mode / 10 else cutN neg C (figs C - p) mode
def rndK (neg : Bool) (C p mode : Nat) : Nat := if figs C ≤ p then 0 else if figs (cutN neg C (figs C - p) mode) > p then figs C - p + 1 else figs C - p
def rndX (C p : Nat) : Bool := if figs C ≤ p then false else inexN C (figs C - p)
/-- Conditions: Rounded 64, Inexact 16, as apd has them. -/
def rndC (C p : Nat) : Nat := if figs C ≤ p then 0 else if inexN C (figs C - p) then 80 else 64

theorem cutN_le (neg : Bool) (C k mode : Nat) : C / 10 ^ k ≤ cutN neg C k mode ∧ cutN neg C k mode ≤ C / 10 ^ k + 1 := by
  unfold cutN; split <;> (try split) <;> omega
/-- What is cut to p figures has p figures, or is the next power of 10. -/
theorem cutN_figs {neg : Bool} {C p mode : Nat} (hp : 1 ≤ p) (h : p < figs C) : 10 ^ (p - 1) ≤ cutN neg C (figs C - p) mode ∧ cutN neg C (figs C - p) mode ≤ 10 ^ p := by
  have h0 : C ≠ 0 := by rintro rfl; rw [figs_zero] at h; omega
  have h1 := cutN_le neg C (figs C - p) mode
  have h2 := figs_div_pow (n := C) (k := figs C - p) (by omega) h0
  have hq0 : C / 10 ^ (figs C - p) ≠ 0 := by
    intro e
    rw [e, figs_zero] at h2
    have h3 := (Nat.div_eq_zero_iff.1 e).resolve_left (by have := ten_pos (figs C - p); omega)
    have h4 := figs_ge h0
    have := Nat.lt_of_le_of_lt h4 h3
    have := ten_lt_iff.1 this
    omega
  have h3 := figs_lt (C / 10 ^ (figs C - p))
  have h4 := figs_ge hq0
  rw [h2, show figs C - (figs C - p) = p by omega] at h3 h4
  omega
theorem cutN_over {neg : Bool} {C p mode : Nat} (hp : 1 ≤ p) (h : p < figs C) (ho : figs (cutN neg C (figs C - p) mode) > p) : cutN neg C (figs C - p) mode = 10 ^ p := by
  have h1 := (cutN_figs (neg := neg) (mode := mode) hp h).2
  have h2 : ¬ cutN neg C (figs C - p) mode < 10 ^ p := fun h3 => by have := (figs_le_iff hp).2 h3; omega
  omega
theorem rndN_figs {neg : Bool} {C p mode : Nat} (hp : 1 ≤ p) : figs (rndN neg C p mode) ≤ p := by
  unfold rndN
  split
  · assumption
  · next h =>
    split
    · next ho =>
      rw [cutN_over hp (by omega) ho]
      obtain ⟨q, rfl⟩ : ∃ q, p = q + 1 := ⟨p - 1, by omega⟩
      rw [ten_succ, Nat.mul_div_cancel_left _ (by omega), figs_pow]; omega
    · omega
/-- The half that decides, as the code finds it: the rest against 5 with noughts behind. -/
theorem ord3_half {m k : Nat} (hk : 1 ≤ k) : ord3 m (5 * 10 ^ (k - 1)) = ord3 (2 * m) (10 ^ k) := by
  obtain ⟨j, rfl⟩ : ∃ j, k = j + 1 := ⟨k - 1, by omega⟩
  rw [Nat.add_sub_cancel, ten_succ]
  unfold ord3
  have : 0 < 10 ^ j := ten_pos j
  generalize 10 ^ j = t at *
  split <;> split <;> (try split) <;> (try split) <;> omega
end Go.Proofs.YtonepclpllelfaaGreatDoor

namespace Go.Proofs.YtonepclpllelfaaGreatDoor

/-- A fraction rounded to a whole number. -/
def rndF (neg : Bool) (D E mode : Nat) : Nat := if D % E = 0 then D / E else if awayN neg (D / E % 10) (ord3 (2 * (D % E)) E) mode then D / E + 1 else D / E
theorem cutN_rndF (neg : Bool) (C k mode : Nat) : cutN neg C k mode = rndF neg C (10 ^ k) mode := rfl
theorem rndF_le (neg : Bool) (D E mode : Nat) : D / E ≤ rndF neg D E mode ∧ rndF neg D E mode ≤ D / E + 1 := by
  unfold rndF; split <;> (try split) <;> omega

/-- A quotient with one more figure, that tells whether something is left. -/
def sticky (X B : Nat) : Nat := 10 * (X / B) + if X % B = 0 then 0 else 1
/-- The code's way: both brought to as many figures, ten times the first where it is less. -/
def quoU (A B : Nat) : Nat := figs B - figs A + if A * 10 ^ (figs B - figs A) < B * 10 ^ (figs A - figs B) then 1 else 0
theorem quoU_le {A B p : Nat} (hA : A ≠ 0) (hB : B ≠ 0) (hp : 1 ≤ p) : 10 ^ (p - 1) ≤ A * 10 ^ (quoU A B + (p - 1)) / (B * 10 ^ (figs A - figs B)) ∧ A * 10 ^ (quoU A B + (p - 1)) / (B * 10 ^ (figs A - figs B)) < 10 ^ p := by
  have hA1 := figs_mul_pow hA (figs B - figs A)
  have hB1 := figs_mul_pow hB (figs A - figs B)
  have hE : 0 < B * 10 ^ (figs A - figs B) := Nat.mul_pos (by omega) (ten_pos _)
  have a1 := figs_lt (A * 10 ^ (figs B - figs A))
  have b0 := figs_ge (n := B * 10 ^ (figs A - figs B)) (by omega)
  have hF : figs (B * 10 ^ (figs A - figs B)) = figs (A * 10 ^ (figs B - figs A)) := by omega
  have hA0 : A * 10 ^ (figs B - figs A) ≠ 0 := by have := Nat.mul_pos (show 0 < A by omega) (ten_pos (figs B - figs A)); omega
  have a0 := figs_ge hA0
  have b1 := figs_lt (B * 10 ^ (figs A - figs B))
  rw [Nat.le_div_iff_mul_le hE, Nat.div_lt_iff_lt_mul hE]
  obtain ⟨q, rfl⟩ : ∃ q, p = q + 1 := ⟨p - 1, by omega⟩
  rw [Nat.add_sub_cancel]
  have hf := figs_pos (A * 10 ^ (figs B - figs A))
  obtain ⟨f, hf⟩ : ∃ f, figs (A * 10 ^ (figs B - figs A)) = f + 1 := ⟨figs (A * 10 ^ (figs B - figs A)) - 1, by omega⟩
  rw [hF] at b0 b1
  rw [hf] at a0 a1 b0 b1
  rw [Nat.add_sub_cancel] at a0 b0
  rw [ten_succ] at a1 b1
  unfold quoU
  have hq := ten_pos q
  split
  · next h =>
    rw [show A * 10 ^ (figs B - figs A + 1 + q) = 10 * (A * 10 ^ (figs B - figs A)) * 10 ^ q by rw [Nat.pow_add, Nat.pow_succ]; ac_rfl, ten_succ]
    generalize A * 10 ^ (figs B - figs A) = a at *
    generalize B * 10 ^ (figs A - figs B) = b at *
    constructor
    · rw [Nat.mul_comm]; exact Nat.mul_le_mul_right _ (by omega)
    · rw [Nat.mul_right_comm 10 (10 ^ q) b]; exact Nat.mul_lt_mul_of_pos_right (show 10 * a < 10 * b by omega) hq
  · next h =>
    rw [show A * 10 ^ (figs B - figs A + 0 + q) = A * 10 ^ (figs B - figs A) * 10 ^ q by rw [Nat.add_zero, Nat.pow_add]; ac_rfl, ten_succ]
    generalize A * 10 ^ (figs B - figs A) = a at *
    generalize B * 10 ^ (figs A - figs B) = b at *
    constructor
    · rw [Nat.mul_comm]; exact Nat.mul_le_mul_right _ (by omega)
    · rw [Nat.mul_right_comm 10 (10 ^ q) b]; exact Nat.mul_lt_mul_of_pos_right (show a < 10 * b by omega) hq
end Go.Proofs.YtonepclpllelfaaGreatDoor

namespace Go.Proofs.YtonepclpllelfaaGreatDoor
/-- To the nearest: off by half at most. -/
theorem rndF_near (neg : Bool) (D E : Nat) (hE : 0 < E) : 2 * D ≤ 2 * (E * rndF neg D E 2) + E ∧ 2 * (E * rndF neg D E 2) ≤ 2 * D + E := by
  have h := Nat.div_add_mod D E
  have h1 := Nat.mod_lt D hE
  unfold rndF
  split
  · omega
  · split
    · next h2 =>
      have h3 : E ≤ 2 * (D % E) := by
        unfold awayN ord3 at h2
        apply Decidable.byContradiction
        intro h4
        rw [if_pos (by omega)] at h2
        simp at h2
      rw [Nat.mul_add]
      omega
    · next h2 =>
      have h3 : 2 * (D % E) ≤ E := by
        unfold awayN ord3 at h2
        apply Decidable.byContradiction
        intro h4
        rw [if_neg (by omega), if_pos (by omega)] at h2
        simp at h2
      omega
theorem rnd_same (n : Bool) {C p m : Nat} (hp : 1 ≤ p) (h : p < figs C) : rndN n C p m * 10 ^ rndK n C p m = cutN n C (figs C - p) m * 10 ^ (figs C - p) := by
  unfold rndN rndK
  rw [if_neg (show ¬ figs C ≤ p by omega), if_neg (show ¬ figs C ≤ p by omega)]
  by_cases ho : figs (cutN n C (figs C - p) m) > p
  · rw [if_pos ho, if_pos ho, cutN_over hp h ho]
    obtain ⟨q, rfl⟩ : ∃ q, p = q + 1 := ⟨p - 1, by omega⟩
    rw [ten_succ q, Nat.mul_div_cancel_left _ (by omega), ten_succ, Nat.mul_comm (10 ^ q), Nat.mul_assoc, Nat.mul_assoc, Nat.mul_comm _ (10 ^ q)]
  · rw [if_neg ho, if_neg ho]
/-- Rounded to the nearest: off by less than one in twice 10^(p-1). -/
theorem rnd_near (n : Bool) {C p : Nat} (hp : 1 ≤ p) : 2 * 10 ^ (p - 1) * (rndN n C p 2 * 10 ^ rndK n C p 2) ≤ (2 * 10 ^ (p - 1) + 1) * C ∧ 2 * 10 ^ (p - 1) * C ≤ 2 * 10 ^ (p - 1) * (rndN n C p 2 * 10 ^ rndK n C p 2) + C := by
  by_cases h : figs C ≤ p
  · rw [show rndN n C p 2 = C by unfold rndN; rw [if_pos h], show rndK n C p 2 = 0 by unfold rndK; rw [if_pos h], Nat.pow_zero, Nat.mul_one, Nat.add_mul]
    omega
  · rw [rnd_same n hp (by omega), cutN_rndF]
    have h1 := rndF_near n C (10 ^ (figs C - p)) (ten_pos _)
    have h2 := figs_ge (n := C) (by rintro rfl; rw [figs_zero] at h; omega)
    rw [show figs C - 1 = (p - 1) + (figs C - p) by omega, Nat.pow_add] at h2
    rw [Nat.mul_comm (rndF ..)]
    generalize 10 ^ (figs C - p) * rndF n C (10 ^ (figs C - p)) 2 = v at *
    generalize 10 ^ (figs C - p) = t at *
    generalize 10 ^ (p - 1) = q at *
    have h3 := Nat.mul_le_mul_left q h1.1
    have h4 := Nat.mul_le_mul_left q h1.2
    constructor <;> grind
/-- A quotient rounded to the nearest. -/
theorem quo_near (n : Bool) {D E p : Nat} (hE : 0 < E) (h : 10 ^ (p - 1) ≤ D / E) : 2 * 10 ^ (p - 1) * (E * rndF n D E 2) ≤ (2 * 10 ^ (p - 1) + 1) * D ∧ 2 * 10 ^ (p - 1) * D ≤ 2 * 10 ^ (p - 1) * (E * rndF n D E 2) + D := by
  rw [Nat.le_div_iff_mul_le hE] at h
  have h1 := rndF_near n D E hE
  generalize E * rndF n D E 2 = v at *
  generalize 10 ^ (p - 1) = q at *
  have h3 := Nat.mul_le_mul_left q h1.1
  have h4 := Nat.mul_le_mul_left q h1.2
  constructor <;> grind

/-- A decimal's value in units of 10^-S. -/
def dval (S C : Nat) (e : Int) : Nat := C * 10 ^ (e + S).toNat
theorem val_pow (S C k : Nat) (e : Int) (h : 0 ≤ e + S) : dval S (C * 10 ^ k) e = dval S C (e + k) := by
  unfold dval
  rw [show (e + (k : Int) + S).toNat = k + (e + S).toNat by omega, Nat.pow_add, Nat.mul_assoc]
theorem val_mul (S A B : Nat) (a b : Int) (ha : 0 ≤ a + S) (hb : 0 ≤ b + S) : dval S A a * dval S B b = dval (2 * S) (A * B) (a + b) := by
  unfold dval
  rw [show (a + b + ((2 * S : Nat) : Int)).toNat = (a + S).toNat + (b + S).toNat by omega, Nat.pow_add]
  ac_rfl
theorem val_add (S A B : Nat) (e : Int) : dval S (A + B) e = dval S A e + dval S B e := Nat.add_mul ..
theorem val_pos {S A : Nat} {e : Int} (h : 0 < A) : 0 < dval S A e := Nat.mul_pos h (ten_pos _)

/-- A quotient of p figures, and what its exponent is beside the difference of the two. -/
def qC (A B p : Nat) : Nat := rndF false (A * 10 ^ (quoU A B + (p - 1))) (B * 10 ^ (figs A - figs B)) 2
def qE (A B p : Nat) : Int := ((figs A - figs B : Nat) : Int) - (quoU A B + (p - 1) : Nat)
theorem q_val {S A B p : Nat} {a b : Int} (hA : A ≠ 0) (hB : B ≠ 0) (hp : 1 ≤ p) (hb : 0 ≤ b + S) (hs : 0 ≤ a - b + qE A B p + S) (ha : 0 ≤ a + 2 * S - (quoU A B + (p - 1) : Nat)) :
    2 * 10 ^ (p - 1) * (dval S (qC A B p) (a - b + qE A B p) * dval S B b) ≤ (2 * 10 ^ (p - 1) + 1) * dval (2 * S) A a ∧ 2 * 10 ^ (p - 1) * dval (2 * S) A a ≤ 2 * 10 ^ (p - 1) * (dval S (qC A B p) (a - b + qE A B p) * dval S B b) + dval (2 * S) A a := by
  have hE : 0 < B * 10 ^ (figs A - figs B) := Nat.mul_pos (by omega) (ten_pos _)
  have h := quo_near false hE (quoU_le (p := p) hA hB hp).1
  rw [val_mul S _ _ _ _ hs hb]
  obtain ⟨w, hw⟩ : ∃ w : Nat, a + 2 * S - (quoU A B + (p - 1) : Nat) = (w : Int) := ⟨_, (Int.toNat_of_nonneg ha).symm⟩
  have e1 : dval (2 * S) (qC A B p * B) (a - b + qE A B p + b) = B * 10 ^ (figs A - figs B) * qC A B p * 10 ^ w := by
    unfold dval qE
    rw [show (a - b + (((figs A - figs B : Nat) : Int) - (quoU A B + (p - 1) : Nat)) + b + ((2 * S : Nat) : Int)).toNat = (figs A - figs B) + w by omega, Nat.pow_add]
    ac_rfl
  have e2 : dval (2 * S) A a = A * 10 ^ (quoU A B + (p - 1)) * 10 ^ w := by
    unfold dval
    rw [show (a + ((2 * S : Nat) : Int)).toNat = (quoU A B + (p - 1)) + w by omega, Nat.pow_add, Nat.mul_assoc]
  rw [e1, e2]
  unfold qC
  generalize A * 10 ^ (quoU A B + (p - 1)) = D at *
  generalize B * 10 ^ (figs A - figs B) = E at *
  generalize E * rndF false D E 2 = v at *
  have h3 := Nat.mul_le_mul_right (10 ^ w) h.1
  have h4 := Nat.mul_le_mul_right (10 ^ w) h.2
  constructor <;> grind
theorem r_val {S C p : Nat} {e : Int} (hp : 1 ≤ p) (he : 0 ≤ e + S) :
    2 * 10 ^ (p - 1) * dval S (rndN false C p 2) (e + rndK false C p 2) ≤ (2 * 10 ^ (p - 1) + 1) * dval S C e ∧ 2 * 10 ^ (p - 1) * dval S C e ≤ 2 * 10 ^ (p - 1) * dval S (rndN false C p 2) (e + rndK false C p 2) + dval S C e := by
  have h := rnd_near false (C := C) hp
  rw [← val_pow _ _ _ _ he]
  unfold dval
  generalize rndN false C p 2 * 10 ^ rndK false C p 2 = v at *
  generalize 10 ^ (e + S).toNat = t at *
  have h3 := Nat.mul_le_mul_right t h.1
  have h4 := Nat.mul_le_mul_right t h.2
  constructor <;> grind
theorem mulL {a b c : Int} (h : a ≤ b) (hc : 0 ≤ c) : c * a ≤ c * b := Int.mul_le_mul_of_nonneg_left h hc
theorem nw_up {P X T S Y F : Int} (hP : 0 < P) (hX : 0 < X) (ht : P * (T * X) ≤ (P + 1) * F) (hs : P * S ≤ (P + 1) * (X + T)) (hy : 2 * (P * Y) ≤ (P + 1) * S) :
    2 * P ^ 3 * (X * Y) ≤ (P + 1) ^ 2 * (P * X ^ 2 + (P + 1) * F) := by
  have h1 := mulL hy (c := P ^ 2 * X) (Int.mul_nonneg (Int.pow_nonneg (by omega)) (by omega))
  have h2 := mulL hs (c := (P + 1) * P * X) (Int.mul_nonneg (Int.mul_nonneg (by omega) (by omega)) (by omega))
  have h3 := mulL ht (c := (P + 1) ^ 2) (Int.pow_nonneg (by omega))
  grind
theorem nw_lo {P X T S Y F : Int} (hP : 1 < P) (hX : 0 < X) (ht : (P - 1) * F ≤ P * (T * X)) (hs : (P - 1) * (X + T) ≤ P * S) (hy : (P - 1) * S ≤ 2 * (P * Y)) :
    (P - 1) ^ 2 * (P * X ^ 2 + (P - 1) * F) ≤ 2 * P ^ 3 * (X * Y) := by
  have h1 := mulL hy (c := P ^ 2 * X) (Int.mul_nonneg (Int.pow_nonneg (by omega)) (by omega))
  have h2 := mulL hs (c := (P - 1) * P * X) (Int.mul_nonneg (Int.mul_nonneg (by omega) (by omega)) (by omega))
  have h3 := mulL ht (c := (P - 1) ^ 2) (Int.pow_nonneg (by omega))
  grind
theorem sq_nn (a : Int) : 0 ≤ a ^ 2 := by
  rcases Int.le_total 0 a with h | h
  · exact Int.pow_nonneg h
  · have := Int.pow_nonneg (m := 2) (show 0 ≤ -a by omega)
    grind
theorem sq_le {a b : Int} (ha : 0 ≤ a) (h : a ≤ b) : a ^ 2 ≤ b ^ 2 := by
  have h1 := mulL h ha
  have h2 := Int.mul_le_mul_of_nonneg_right h (show 0 ≤ b by omega)
  grind
/-- The lower side: no square is too small. -/
theorem nw_lo2 {P X T S Y F : Int} (hP : 1 < P) (hX : 0 < X) (hF : 0 < F) (ht : (P - 1) * F ≤ P * (T * X)) (hs : (P - 1) * (X + T) ≤ P * S) (hy : (P - 1) * S ≤ 2 * (P * Y)) :
    (P - 1) ^ 5 * F ≤ P ^ 5 * Y ^ 2 := by
  have h := nw_lo hP hX ht hs hy
  have hU : 0 ≤ P * X ^ 2 + (P - 1) * F := by
    have := Int.mul_nonneg (show 0 ≤ P by omega) (Int.pow_nonneg (m := 2) (show 0 ≤ X by omega))
    have := Int.mul_nonneg (show 0 ≤ P - 1 by omega) (show 0 ≤ F by omega)
    omega
  have h2 := sq_le (Int.mul_nonneg (Int.pow_nonneg (m := 2) (show 0 ≤ P - 1 by omega)) hU) h
  have h3 : 4 * (P * X ^ 2) * ((P - 1) * F) ≤ (P * X ^ 2 + (P - 1) * F) ^ 2 := by
    have : 0 ≤ (P * X ^ 2 - (P - 1) * F) ^ 2 := sq_nn _
    grind
  have h4 := mulL h3 (c := (P - 1) ^ 4) (Int.pow_nonneg (by omega))
  have h5 : 4 * P * X ^ 2 * ((P - 1) ^ 5 * F) ≤ 4 * P * X ^ 2 * (P ^ 5 * Y ^ 2) := by grind
  have h6 : 0 < 4 * P * X ^ 2 := Int.mul_pos (by omega) (Int.pow_pos hX)
  exact Int.le_of_mul_le_mul_left h5 h6
/-- the upper side; D = X^2 - F -/
theorem nw_up2 {P X T S Y F a e : Int} (hP : 0 < P) (hX : 0 < X) (hF : 0 < F) (he : 0 ≤ e) (hea : e < a) (ht : P * (T * X) ≤ (P + 1) * F) (hs : P * S ≤ (P + 1) * (X + T)) (hy : 2 * (P * Y) ≤ (P + 1) * S) (hY : 0 ≤ Y)
    (h1 : a * (X ^ 2 - F) ≤ e * F) (h2 : a * (F - X ^ 2) ≤ e * F) :
    4 * P ^ 6 * Y ^ 2 * (a * (a - e)) ≤ (P + 1) ^ 4 * F * (4 * P * (P + 1) * (a * (a - e)) + (P * e + a) ^ 2) := by
  have h := nw_up hP hX ht hs hy
  have hl : 0 ≤ 2 * P ^ 3 * (X * Y) := Int.mul_nonneg (Int.mul_nonneg (by omega) (Int.pow_nonneg (by omega))) (Int.mul_nonneg (by omega) hY)
  have g1 := sq_le hl h
  have hV : (P * X ^ 2 + (P + 1) * F) ^ 2 = 4 * P * (P + 1) * X ^ 2 * F + (P * (X ^ 2 - F) - F) ^ 2 := by grind
  have b1 : a * (P * (X ^ 2 - F) - F) ≤ (P * e + a) * F := by
    have := mulL h1 (c := P) (by omega)
    have := Int.mul_nonneg (show 0 ≤ a by omega) (show 0 ≤ F by omega)
    grind
  have b2 : -((P * e + a) * F) ≤ a * (P * (X ^ 2 - F) - F) := by
    have := mulL h2 (c := P) (by omega)
    grind
  have b3 : (a * (P * (X ^ 2 - F) - F)) ^ 2 ≤ ((P * e + a) * F) ^ 2 := by
    rcases Int.le_total 0 (a * (P * (X ^ 2 - F) - F)) with h0 | h0
    · exact sq_le h0 b1
    · have := sq_le (a := -(a * (P * (X ^ 2 - F) - F))) (b := (P * e + a) * F) (by omega) (by omega)
      grind
  have c1 : (a - e) * F ≤ a * X ^ 2 := by grind
  have c2 : (a - e) * ((P * e + a) * F) ^ 2 ≤ a * X ^ 2 * ((P * e + a) ^ 2 * F) := by
    have := mulL c1 (c := (P * e + a) ^ 2 * F) (Int.mul_nonneg (Int.pow_nonneg (by have := Int.mul_nonneg (show 0 ≤ P by omega) he; omega)) (by omega))
    grind
  have c3 := mulL b3 (c := a - e) (by omega)
  have c4 : (a - e) * a * (P * (X ^ 2 - F) - F) ^ 2 * a ≤ X ^ 2 * ((P * e + a) ^ 2 * F) * a := by grind
  have c5 := Int.le_of_mul_le_mul_right c4 (show 0 < a by omega)
  have d1 : (a * (a - e)) * (P * X ^ 2 + (P + 1) * F) ^ 2 ≤ X ^ 2 * (F * (4 * P * (P + 1) * (a * (a - e)) + (P * e + a) ^ 2)) := by
    rw [hV]; grind
  have d2 := mulL d1 (c := (P + 1) ^ 4) (Int.pow_nonneg (by omega))
  have d3 := mulL g1 (c := a * (a - e)) (Int.mul_nonneg (by omega) (by omega))
  have d4 : X ^ 2 * (4 * P ^ 6 * Y ^ 2 * (a * (a - e))) ≤ X ^ 2 * ((P + 1) ^ 4 * F * (4 * P * (P + 1) * (a * (a - e)) + (P * e + a) ^ 2)) := by grind
  exact Int.le_of_mul_le_mul_left d4 (Int.pow_pos hX)
/-- What a square may be off by; a = 10^p of the digits. -/
def Near (a e F X : Int) : Prop := a * (X ^ 2 - F) ≤ e * F ∧ a * (F - X ^ 2) ≤ e * F
theorem nw_step {P X T S Y F a e g : Int} (hP : 2000 ≤ P) (hX : 0 < X) (hF : 0 < F) (he : 0 ≤ e) (hea : e < a) (ht1 : P * (T * X) ≤ (P + 1) * F) (ht2 : (P - 1) * F ≤ P * (T * X)) (hs1 : P * S ≤ (P + 1) * (X + T)) (hs2 : (P - 1) * (X + T) ≤ P * S)
    (hy1 : 2 * (P * Y) ≤ (P + 1) * S) (hy2 : (P - 1) * S ≤ 2 * (P * Y)) (hY : 0 ≤ Y) (hn : Near a e F X) (hpa : 500 * P ≤ a ^ 2) (hap : 2 * a ≤ P) (hg : 0 ≤ g ∧ g ≤ 83) (hge : (2 * e + 1) ^ 2 * a ≤ 1600 * g * (a - e)) :
    Near (5 * P) (26 + g) F Y := by
  obtain ⟨hg0, hg1⟩ := hg
  constructor
  · have h := nw_up2 (show 0 < P by omega) hX hF he hea ht1 hs1 hy1 hY hn.1 hn.2
    have hA : 0 < a * (a - e) := Int.mul_pos (by omega) (by omega)
    -- (P e + a)^2 <= (4/5) P g A
    have h1 : (2 * (P * e + a)) ^ 2 ≤ (P * (2 * e + 1)) ^ 2 := sq_le (by have := Int.mul_nonneg (show 0 ≤ P by omega) he; omega) (by grind)
    have h2 := mulL hge (c := a) (by omega)
    have h3 : (2 * e + 1) ^ 2 * (500 * P) ≤ 1600 * g * (a * (a - e)) := by
      have := mulL hpa (c := (2 * e + 1) ^ 2) (sq_nn _)
      grind
    have h4 : 5 * (P * e + a) ^ 2 ≤ 4 * P * g * (a * (a - e)) := by
      have := mulL h3 (c := P) (by omega)
      grind
    generalize a * (a - e) = A at *
    have h5 : (P + 1) ^ 4 * F * (5 * (P * e + a) ^ 2) ≤ (P + 1) ^ 4 * F * (4 * P * g * A) := mulL h4 (Int.mul_nonneg (Int.pow_nonneg (by omega)) (by omega))
    have h6 : (4 * P * A) * (5 * P ^ 5 * Y ^ 2) ≤ (4 * P * A) * ((P + 1) ^ 4 * (5 * P + 5 + g) * F) := by grind
    have h7 := Int.le_of_mul_le_mul_left h6 (Int.mul_pos (by omega) hA)
    have p1 := mulL hP (c := P) (by omega)
    have p2 := mulL hP (c := P ^ 2) (sq_nn _)
    have p3 := mulL hP (c := P ^ 3) (Int.pow_nonneg (by omega))
    have q1 := mulL hg1 (c := P) (by omega)
    have q2 := mulL hg1 (c := P ^ 2) (sq_nn _)
    have q3 := mulL hg1 (c := P ^ 3) (Int.pow_nonneg (by omega))
    have h8 : (P + 1) ^ 4 * (5 * P + 5 + g) ≤ P ^ 4 * (5 * P + 26 + g) := by grind
    have h9 := mulL h8 (c := F) (by omega)
    have h10 : P ^ 4 * (5 * P * (Y ^ 2 - F)) ≤ P ^ 4 * ((26 + g) * F) := by grind
    exact Int.le_of_mul_le_mul_left h10 (Int.pow_pos (by omega))
  · have h := nw_lo2 (show 1 < P by omega) hX hF ht2 hs2 hy2
    have h8 : P ^ 4 * (P - 5) ≤ (P - 1) ^ 5 := by
      have p1 := mulL hP (c := P) (by omega)
      have p2 := mulL hP (c := P ^ 2) (sq_nn _)
      grind
    have h9 := mulL h8 (c := F) (by omega)
    have h11 : P ^ 4 * (5 * P * (F - Y ^ 2)) ≤ P ^ 4 * (25 * F) := by grind
    have h12 := Int.le_of_mul_le_mul_left h11 (Int.pow_pos (by omega))
    have := Int.mul_nonneg hg0 (show 0 ≤ F by omega)
    grind

theorem val_half {S C : Nat} {e : Int} (h : 0 ≤ e - 1 + S) : 2 * dval S (C * 5) (e - 1) = dval S C e := by
  unfold dval
  rw [show (e + (S : Int)).toNat = (e - 1 + S).toNat + 1 by omega, ten_succ]
  generalize 10 ^ (e - 1 + (S : Int)).toNat = t
  grind
theorem ten_int (p : Nat) (hp : 1 ≤ p) : (10 : Int) ^ p = 5 * ((2 * 10 ^ (p - 1) : Nat) : Int) := by
  obtain ⟨q, rfl⟩ : ∃ q, p = q + 1 := ⟨p - 1, by omega⟩
  rw [Nat.add_sub_cancel, Int.pow_succ]
  push_cast
  omega
/-- The iteration's parts: the quotient's exponent, the sum, half of it. -/
def stQ (F : Nat) (eF : Int) (C : Nat) (e : Int) (p : Nat) : Int := eF - e + qE F C p
def stSum (F : Nat) (eF : Int) (C : Nat) (e : Int) (p : Nat) : Nat := qC F C p * 10 ^ (stQ F eF C e p - min (stQ F eF C e p) e).toNat + C * 10 ^ (e - min (stQ F eF C e p) e).toNat
theorem st_sum {S F C p : Nat} {eF e : Int} (h1 : 0 ≤ stQ F eF C e p + S) (h2 : 0 ≤ e + S) : dval S (stSum F eF C e p) (min (stQ F eF C e p) e) = dval S (qC F C p) (stQ F eF C e p) + dval S C e := by
  unfold stSum
  rw [val_add, val_pow _ _ _ _ (by omega), val_pow _ _ _ _ (by omega)]
  rw [show min (stQ F eF C e p) e + ((stQ F eF C e p - min (stQ F eF C e p) e).toNat : Int) = stQ F eF C e p by omega, show min (stQ F eF C e p) e + ((e - min (stQ F eF C e p) e).toNat : Int) = e by omega]
def stH (F : Nat) (eF : Int) (C : Nat) (e : Int) (p : Nat) : Nat := rndN false (stSum F eF C e p) p 2
def stHe (F : Nat) (eF : Int) (C : Nat) (e : Int) (p : Nat) : Int := min (stQ F eF C e p) e + rndK false (stSum F eF C e p) p 2
def stY (F : Nat) (eF : Int) (C : Nat) (e : Int) (p : Nat) : Nat := rndN false (stH F eF C e p * 5) p 2
def stYe (F : Nat) (eF : Int) (C : Nat) (e : Int) (p : Nat) : Int := stHe F eF C e p - 1 + rndK false (stH F eF C e p * 5) p 2
theorem twoU {P Y H : Int} (h : P * Y ≤ (P + 1) * H) : 2 * (P * Y) ≤ (P + 1) * (2 * H) := by grind
theorem twoL {P Y H : Int} (h : P * H ≤ P * Y + H) : (P - 1) * (2 * H) ≤ 2 * (P * Y) := by grind
theorem st_near {S F C p : Nat} {eF e : Int} {a k g : Int} (hp : 4 ≤ p) (hF : F ≠ 0) (hC : C ≠ 0) (h1 : 1 ≤ stQ F eF C e p + S) (h2 : 1 ≤ e + S) (h3 : 0 ≤ eF + 2 * S - (quoU F C + (p - 1) : Nat))
    (hk : 0 ≤ k) (hka : k < a) (hn : Near a k (dval (2 * S) F eF : Nat) (dval S C e : Nat)) (hpa : 500 * ((2 * 10 ^ (p - 1) : Nat) : Int) ≤ a ^ 2) (hap : 2 * a ≤ ((2 * 10 ^ (p - 1) : Nat) : Int)) (hg : 0 ≤ g ∧ g ≤ 83) (hge : (2 * k + 1) ^ 2 * a ≤ 1600 * g * (a - k)) :
    Near (10 ^ p) (26 + g) (dval (2 * S) F eF : Nat) (dval S (stY F eF C e p) (stYe F eF C e p) : Nat) := by
  have q := q_val (S := S) (p := p) (a := eF) (b := e) hF hC (by omega) (by omega) (by unfold stQ at h1; omega) h3
  have su := st_sum (S := S) (F := F) (C := C) (p := p) (eF := eF) (e := e) (by omega) (by omega)
  have r := r_val (S := S) (C := stSum F eF C e p) (p := p) (e := min (stQ F eF C e p) e) (by omega) (by omega)
  have y := r_val (S := S) (C := stH F eF C e p * 5) (p := p) (e := stHe F eF C e p - 1) (by omega) (by unfold stHe; omega)
  have hh := val_half (S := S) (C := stH F eF C e p) (e := stHe F eF C e p) (by unfold stHe; omega)
  change _ ∧ _ ≤ _ * dval S (stH F eF C e p) (stHe F eF C e p) + _ at r
  change 2 * 10 ^ (p - 1) * dval S (stH F eF C e p) (stHe F eF C e p) ≤ _ ∧ _ at r
  rw [su] at r
  change 2 * 10 ^ (p - 1) * dval S (stY F eF C e p) (stYe F eF C e p) ≤ _ ∧ _ ≤ 2 * 10 ^ (p - 1) * dval S (stY F eF C e p) (stYe F eF C e p) + _ at y
  change 2 * 10 ^ (p - 1) * (dval S (qC F C p) (stQ F eF C e p) * dval S C e) ≤ _ ∧ _ ≤ 2 * 10 ^ (p - 1) * (dval S (qC F C p) (stQ F eF C e p) * dval S C e) + _ at q
  rw [ten_int p (by omega)]
  have hP : 2000 ≤ 2 * 10 ^ (p - 1) := by have := ten_le (show 3 ≤ p - 1 by omega); omega
  have hX : 0 < dval S C e := val_pos (by omega)
  have hFv : 0 < dval (2 * S) F eF := val_pos (by omega)
  generalize dval S C e = X at *
  generalize dval (2 * S) F eF = V at *
  generalize dval S (qC F C p) (stQ F eF C e p) = T at *
  generalize dval S (stH F eF C e p) (stHe F eF C e p) = H at *
  generalize dval S (stH F eF C e p * 5) (stHe F eF C e p - 1) = H5 at *
  generalize dval S (stY F eF C e p) (stYe F eF C e p) = Y at *
  generalize 2 * 10 ^ (p - 1) = P at *
  obtain ⟨q1, q2⟩ := q
  obtain ⟨r1, r2⟩ := r
  obtain ⟨y1, y2⟩ := y
  refine nw_step (P := (P : Int)) (X := (X : Int)) (T := (T : Int)) (S := (H : Int)) (Y := (Y : Int)) (F := (V : Int)) (by omega) (by omega) (by omega) hk hka ?_ ?_ ?_ ?_ ?_ ?_ (by omega) hn hpa hap hg hge
  · exact_mod_cast q1
  · have : (P : Int) * V ≤ P * (T * X) + V := by exact_mod_cast q2
    grind
  · rw [Int.add_comm (X : Int) T]; exact_mod_cast r1
  · have : (P : Int) * (T + X) ≤ P * H + (T + X) := by exact_mod_cast r2
    grind
  · have y3 : (P : Int) * Y ≤ (P + 1) * H5 := by exact_mod_cast y1
    rw [show (H : Int) = 2 * H5 by omega]
    exact twoU y3
  · have y3 : (P : Int) * H5 ≤ P * Y + H5 := by exact_mod_cast y2
    rw [show (H : Int) = 2 * H5 by omega]
    exact twoL y3
end Go.Proofs.YtonepclpllelfaaGreatDoor

namespace Go.Proofs.YtonepclpllelfaaGreatDoor
/-- The code's coefficient has not more figures than asked for, but where it is rounded up to a power of ten. -/
theorem quo_figs {A B p : Nat} (n : Bool) (m : Nat) (hA : A ≠ 0) (hB : B ≠ 0) (hp : 1 ≤ p) {D E : Nat} (hD : A * 10 ^ (quoU A B + (p - 1)) = D) (hE : B * 10 ^ (figs A - figs B) = E) :
    figs (rndF n D E m) ≤ p ∨ (rndF n D E m = 10 ^ p ∧ D % E ≠ 0) := by
  have h2 := (quoU_le (p := p) hA hB hp).2
  rw [hD, hE] at h2
  have h3 := rndF_le n D E m
  by_cases h : rndF n D E m < 10 ^ p
  · left; exact (figs_le_iff hp).2 h
  · right
    refine ⟨by omega, fun h0 => ?_⟩
    unfold rndF at h
    rw [if_pos h0] at h
    omega
end Go.Proofs.YtonepclpllelfaaGreatDoor

namespace Go.Proofs.YtonepclpllelfaaGreatDoor
theorem guess_e {U B : Int} (hB : 0 < B) (h1 : B ≤ 10 * U) (h2 : U ≤ B) : (819 * U + 259 * B) ^ 2 ≤ 1162200 * (U * B) ∧ 848000 * (U * B) ≤ (819 * U + 259 * B) ^ 2 := by
  have q1 := Int.mul_nonneg (show 0 ≤ B - U by omega) (show 0 ≤ 10 * U - B by omega)
  have q2 := sq_nn (819 * U - 259 * B)
  have q3 := Int.mul_nonneg (show 0 ≤ B by omega) (show 0 ≤ 10 * U - B by omega)
  have q4 := Int.mul_nonneg (show 0 ≤ B by omega) (show 0 ≤ U by omega)
  constructor <;> grind
theorem guess_o {U B : Int} (hB : 0 < B) (h1 : B ≤ 10 * U) (h2 : U ≤ B) : (2590 * U + 819 * B) ^ 2 ≤ 11622000 * (U * B) ∧ 8480000 * (U * B) ≤ (2590 * U + 819 * B) ^ 2 := by
  have q1 := Int.mul_nonneg (show 0 ≤ B - U by omega) (show 0 ≤ 10 * U - B by omega)
  have q2 := sq_nn (2590 * U - 819 * B)
  have q3 := Int.mul_nonneg (show 0 ≤ B by omega) (show 0 ≤ 10 * U - B by omega)
  have q4 := Int.mul_nonneg (show 0 ≤ B by omega) (show 0 ≤ U by omega)
  have q5 := sq_nn B
  have e1 : (2590 * U + 819 * B) ^ 2 = 6708100 * U ^ 2 + 4242420 * (U * B) + 670761 * B ^ 2 := by grind
  have e2 : (2590 * U - 819 * B) ^ 2 = 6708100 * U ^ 2 - 4242420 * (U * B) + 670761 * B ^ 2 := by grind
  have e3 : (B - U) * (10 * U - B) = 11 * (U * B) - 10 * U ^ 2 - B ^ 2 := by grind
  have e4 : B * (10 * U - B) = 10 * (U * B) - B ^ 2 := by grind
  rw [e1]
  rw [e2] at q2
  rw [e3] at q1
  rw [e4] at q3
  rw [Int.mul_comm B U] at q4
  generalize U ^ 2 = a at *
  generalize U * B = b at *
  generalize B ^ 2 = c at *
  omega
/-- Rounded twice. -/
theorem guess_up {P A X W0 Z : Int} (hP : 2000000 ≤ P) (hZ : 0 ≤ Z) (hX : 0 ≤ X) (h1 : P * A ≤ (P + 1) * W0) (h2 : P * X ≤ (P + 1) * (A + Z)) : P ^ 4 * X ^ 2 ≤ (P + 1) ^ 4 * (W0 + Z) ^ 2 := by
  have k1 := mulL h2 (c := P) (by omega)
  have k2 := mulL h1 (c := P + 1) (by omega)
  have k3 := Int.mul_nonneg (show 0 ≤ P + 1 by omega) hZ
  have k4 : P ^ 2 * X ≤ (P + 1) ^ 2 * (W0 + Z) := by grind
  have k5 := sq_le (Int.mul_nonneg (Int.pow_nonneg (by omega)) hX) k4
  grind
theorem guess_lo {P A X W0 Z : Int} (hP : 2000000 ≤ P) (hZ : 0 ≤ Z) (hW : 0 ≤ W0) (h1 : (P - 1) * W0 ≤ P * A) (h2 : (P - 1) * (A + Z) ≤ P * X) : (P - 1) ^ 4 * (W0 + Z) ^ 2 ≤ P ^ 4 * X ^ 2 := by
  have k1 := mulL h2 (c := P) (by omega)
  have k2 := mulL h1 (c := P - 1) (by omega)
  have k3 := Int.mul_nonneg (show 0 ≤ P - 1 by omega) hZ
  have k4 : (P - 1) ^ 2 * (W0 + Z) ≤ P ^ 2 * X := by grind
  have k5 := sq_le (Int.mul_nonneg (Int.pow_nonneg (by omega)) (show 0 ≤ W0 + Z by omega)) k4
  grind
theorem P_up {P : Int} (hP : 2000000 ≤ P) : 1000000 * (P + 1) ^ 4 ≤ 1000100 * P ^ 4 := by
  have p1 := mulL hP (c := P) (by omega)
  have p2 := mulL hP (c := P ^ 2) (sq_nn _)
  have p3 := mulL hP (c := P ^ 3) (Int.pow_nonneg (by omega))
  grind
theorem P_lo {P : Int} (hP : 2000000 ≤ P) : 999900 * P ^ 4 ≤ 1000000 * (P - 1) ^ 4 := by
  have p1 := mulL hP (c := P) (by omega)
  have p2 := mulL hP (c := P ^ 2) (sq_nn _)
  have p3 := mulL hP (c := P ^ 3) (Int.pow_nonneg (by omega))
  grind
theorem guess_near {P A X W0 Z V n : Int} (hP : 2000000 ≤ P) (hZ : 0 ≤ Z) (hW : 0 ≤ W0) (hX : 0 ≤ X) (hV : 0 ≤ V) (a1 : P * A ≤ (P + 1) * W0) (a2 : P * X ≤ (P + 1) * (A + Z)) (b1 : (P - 1) * W0 ≤ P * A) (b2 : (P - 1) * (A + Z) ≤ P * X)
    (hn : 0 < n) (g1 : 1000000 * (W0 + Z) ^ 2 ≤ 1162200 * (n * V)) (g2 : 848000 * (n * V) ≤ 1000000 * (W0 + Z) ^ 2) : 1000 * (X ^ 2 - n * V) ≤ 163 * (n * V) ∧ 1000 * (n * V - X ^ 2) ≤ 163 * (n * V) := by
  have k1 := guess_up hP hZ hX a1 a2
  have k2 := guess_lo hP hZ hW b1 b2
  have hP4 : 0 < P ^ 4 := Int.pow_pos (by omega)
  have hnV := Int.mul_nonneg (show 0 ≤ n by omega) hV
  generalize n * V = N at *
  generalize W0 + Z = W at *
  have l1 := Int.mul_le_mul_of_nonneg_right (P_up hP) (sq_nn W)
  have l2 := Int.mul_le_mul_of_nonneg_right (P_lo hP) (sq_nn W)
  have m1 := mulL g1 (c := P ^ 4) (by omega)
  have m2 := mulL g2 (c := P ^ 4) (by omega)
  have hN4 := Int.mul_nonneg (show 0 ≤ P ^ 4 by omega) hnV
  generalize P ^ 4 = Q at *
  generalize (P + 1) ^ 4 = Qu at *
  generalize (P - 1) ^ 4 = Ql at *
  constructor
  · have : Q * (1000 * (X ^ 2 - N)) ≤ Q * (163 * N) := by grind
    exact Int.le_of_mul_le_mul_left this hP4
  · have : Q * (1000 * (N - X ^ 2)) ≤ Q * (163 * N) := by grind
    exact Int.le_of_mul_le_mul_left this hP4

theorem near_mono {a k k' V X : Int} (h : Near a k V X) (hk : k ≤ k') (hV : 0 ≤ V) : Near a k' V X := by
  have := Int.mul_le_mul_of_nonneg_right hk hV
  exact ⟨Int.le_trans h.1 this, Int.le_trans h.2 this⟩
/-- What is near a root has an exponent that its figures bound. -/
theorem near_exp {S C n : Nat} {e : Int} {a k : Int} {V : Nat} (ha : 0 < a) (hk : 4 * k ≤ 3 * a) (h : Near a k (V : Int) (dval S C e : Nat)) (hV1 : 10 ^ (2 * S - 2) ≤ V) (hV2 : V ≤ 10 ^ (2 * S)) (hn : figs C ≤ n) (hS : n + 3 ≤ S) : C ≠ 0 ∧ e ≤ 0 ∧ -(n : Int) - 1 ≤ e := by
  have hV0 : 0 < V := Nat.lt_of_lt_of_le (ten_pos _) hV1
  have h1 : dval S C e ^ 2 ≤ 2 * V := by
    have h2 := h.1
    have h3 := Int.mul_le_mul_of_nonneg_right hk (show (0 : Int) ≤ V by omega)
    have h5 := Int.mul_nonneg (show 0 ≤ a by omega) (show (0 : Int) ≤ V by omega)
    have h4 : a * (((dval S C e : Nat) : Int) ^ 2) ≤ a * (2 * V) := by grind
    exact_mod_cast Int.le_of_mul_le_mul_left h4 ha
  have h2 : V ≤ 4 * dval S C e ^ 2 := by
    have h2 := h.2
    have h3 := Int.mul_le_mul_of_nonneg_right hk (show (0 : Int) ≤ V by omega)
    have h4 : a * (V : Int) ≤ a * (4 * ((dval S C e : Nat) : Int) ^ 2) := by grind
    exact_mod_cast Int.le_of_mul_le_mul_left h4 ha
  have hC : C ≠ 0 := by
    rintro rfl
    unfold dval at h2
    rw [Nat.zero_mul] at h2
    omega
  have e2 : 10 ^ (2 * S) = 10 ^ S * 10 ^ S := by rw [← Nat.pow_add]; congr 1; omega
  refine ⟨hC, ?_, ?_⟩
  · apply Decidable.byContradiction
    intro he
    have g1 : 10 * 10 ^ S ≤ dval S C e := by
      unfold dval
      have : 10 ^ (S + 1) ≤ 10 ^ (e + S).toNat := ten_le (by omega)
      rw [ten_succ] at this
      exact Nat.le_trans this (Nat.le_mul_of_pos_left _ (by omega))
    have g2 := Nat.mul_le_mul g1 g1
    have g3 := ten_pos S
    rw [Nat.pow_two] at h1
    rw [e2] at hV2
    generalize 10 ^ S = t at *
    have g4 := Nat.mul_pos g3 g3
    grind
  · apply Decidable.byContradiction
    intro he
    have g1 : dval S C e < 10 ^ (S - 2) := by
      unfold dval
      have q1 := figs_lt C
      have q2 : 10 ^ figs C ≤ 10 ^ n := ten_le hn
      have q3 : (e + (S : Int)).toNat ≤ S - 2 - n := by omega
      have q4 := ten_le q3
      calc C * 10 ^ (e + (S : Int)).toNat ≤ C * 10 ^ (S - 2 - n) := Nat.mul_le_mul_left _ q4
        _ < 10 ^ n * 10 ^ (S - 2 - n) := Nat.mul_lt_mul_of_pos_right (by omega) (ten_pos _)
        _ = 10 ^ (S - 2) := by rw [← Nat.pow_add]; congr 1; omega
    have g2 : dval S C e * dval S C e ≤ 10 ^ (S - 2) * 10 ^ (S - 2) := Nat.mul_le_mul (Nat.le_of_lt g1) (Nat.le_of_lt g1)
    rw [← Nat.pow_add] at g2
    have g3 : 10 ^ (2 * S - 2) = 100 * 10 ^ (S - 2 + (S - 2)) := by
      rw [show 2 * S - 2 = (S - 2 + (S - 2)) + 1 + 1 by omega, ten_succ, ten_succ]; omega
    have g4 := ten_pos (S - 2 + (S - 2))
    rw [Nat.pow_two] at h2
    omega
def kOf (p : Nat) : Int := if p ≤ 3 then 163 else if p ≤ 4 then 106 else if p ≤ 6 then 55 else 34
/-- What the iteration holds: p figures are right, or nearly; n figures at most. -/
structure SqInv (S V : Nat) (p : Nat) (C : Nat) (e : Int) (n : Nat) : Prop where
  figs : figs C ≤ n
  near : Near (10 ^ p) (kOf p) (V : Int) (dval S C e : Nat)
  ne : C ≠ 0
  hi : e ≤ 0
  lo : -(n : Int) - 1 ≤ e
theorem kOf_le {p : Nat} (hp : 3 ≤ p) : 4 * kOf p ≤ 3 * (10 : Int) ^ p ∧ 0 ≤ kOf p ∧ kOf p < 10 ^ p := by
  have h : (10 : Int) ^ 3 ≤ 10 ^ p := by exact_mod_cast ten_le hp
  have h0 : (10 : Int) ^ 3 = 1000 := by rfl
  rw [h0] at h
  unfold kOf
  split <;> (try split) <;> (try split) <;> omega
theorem sqInv_mk {S V p C n : Nat} {e : Int} (hp : 3 ≤ p) (hV1 : 10 ^ (2 * S - 2) ≤ V) (hV2 : V ≤ 10 ^ (2 * S)) (hn : figs C ≤ n) (hS : n + 3 ≤ S) (h : Near (10 ^ p) (kOf p) (V : Int) (dval S C e : Nat)) : SqInv S V p C e n := by
  obtain ⟨h1, h2, h3⟩ := near_exp (Int.pow_pos (by omega)) (kOf_le hp).1 h hV1 hV2 hn hS
  exact ⟨hn, h, h1, h2, h3⟩
theorem quoU_bound (A B : Nat) : quoU A B ≤ figs B + 1 := by
  have := figs_pos A
  unfold quoU; split <;> omega
theorem sq_step {S F p q C n : Nat} {eF e : Int} (hS : 1000 ≤ S) (hF : F ≠ 0) (heF : -200 ≤ eF ∧ eF ≤ 0) (hV1 : 10 ^ (2 * S - 2) ≤ dval (2 * S) F eF) (hV2 : dval (2 * S) F eF ≤ 10 ^ (2 * S)) (hn : n ≤ 100) (hq : q ≤ 100)
    (h : SqInv S (dval (2 * S) F eF) p C e n) (hpq : (p = 3 ∧ q = 4) ∨ (p = 4 ∧ q = 6) ∨ (p = 6 ∧ q = 10) ∨ (10 ≤ p ∧ p < q ∧ q ≤ 2 * p - 2)) :
    SqInv S (dval (2 * S) F eF) q (stY F eF C e q) (stYe F eF C e q) q := by
  have hp3 : 3 ≤ p := by omega
  have hq4 : 4 ≤ q := by omega
  have hu := quoU_bound F C
  have hfC := h.figs
  have hlo := h.lo
  have hhi := h.hi
  have hk := kOf_le hp3
  have hg : ∃ g : Int, (0 ≤ g ∧ g ≤ 83) ∧ 26 + g ≤ kOf q ∧ (2 * kOf p + 1) ^ 2 * 10 ^ p ≤ 1600 * g * (10 ^ p - kOf p) := by
    rcases hpq with ⟨rfl, rfl⟩ | ⟨rfl, rfl⟩ | ⟨rfl, rfl⟩ | ⟨h1, h2, h3⟩
    · exact ⟨80, by omega, by decide, by decide⟩
    · exact ⟨29, by omega, by decide, by decide⟩
    · exact ⟨8, by omega, by decide, by decide⟩
    · refine ⟨8, by omega, ?_, ?_⟩
      · unfold kOf; rw [if_neg (by omega), if_neg (by omega), if_neg (by omega)]; omega
      · have h4 : (10 : Int) ^ 10 ≤ 10 ^ p := by exact_mod_cast ten_le h1
        have h5 : (10 : Int) ^ 10 = 10000000000 := by rfl
        rw [h5] at h4
        unfold kOf; rw [if_neg (by omega), if_neg (by omega), if_neg (by omega)]; omega
  obtain ⟨g, hg0, hg1, hg2⟩ := hg
  have hnear := st_near (S := S) (F := F) (C := C) (p := q) (eF := eF) (e := e) (a := 10 ^ p) (k := kOf p) (g := g) hq4 hF h.ne (by unfold stQ qE; omega) (by omega) (by omega) hk.2.1 hk.2.2 h.near (by
    have h1 : 10 ^ (q + 2) ≤ 10 ^ (2 * p) := ten_le (by omega)
    have h2 : 500 * (2 * 10 ^ (q - 1)) = 10 ^ (q + 2) := by
      rw [show q + 2 = (q - 1) + 1 + 1 + 1 by omega, ten_succ, ten_succ, ten_succ]; omega
    rw [← h2, Nat.mul_comm 2 p, Nat.pow_mul] at h1
    generalize 2 * 10 ^ (q - 1) = P at *
    have h3 : (((10 : Nat) ^ p : Nat) : Int) = 10 ^ p := by push_cast; rfl
    rw [← h3]
    generalize 10 ^ p = t at *
    have h4 : ((500 * P : Nat) : Int) ≤ ((t ^ 2 : Nat) : Int) := Int.ofNat_le.2 h1
    rw [Int.natCast_mul, Int.natCast_pow] at h4
    exact h4) (by
    have h1 : 10 ^ p ≤ 10 ^ (q - 1) := ten_le (by omega)
    have h3 : (((10 : Nat) ^ p : Nat) : Int) = 10 ^ p := by push_cast; rfl
    rw [← h3]
    generalize 10 ^ p = t at *
    generalize 10 ^ (q - 1) = P at *
    omega) hg0 hg2
  exact sqInv_mk (by omega) hV1 hV2 (rndN_figs (by omega)) (by omega) (near_mono hnear hg1 (by omega))

/-- The first guess: al times F, rounded, and be, rounded. -/
def gA (F al w : Nat) : Nat := rndN false (al * F) w 2
def gAe (F al w : Nat) (eF ea : Int) : Int := ea + eF + rndK false (al * F) w 2
def gSum (F al be w : Nat) (eF ea eb : Int) : Nat := gA F al w * 10 ^ (gAe F al w eF ea - min (gAe F al w eF ea) eb).toNat + be * 10 ^ (eb - min (gAe F al w eF ea) eb).toNat
def gC (F al be w : Nat) (eF ea eb : Int) : Nat := rndN false (gSum F al be w eF ea eb) w 2
def gE (F al be w : Nat) (eF ea eb : Int) : Int := min (gAe F al w eF ea) eb + rndK false (gSum F al be w eF ea eb) w 2
theorem dval_ten {S C k : Nat} {e : Int} (h : 0 ≤ e - k + S) : 10 ^ k * dval S C (e - k) = dval S C e := by
  rw [Nat.mul_comm, show dval S C (e - k) * 10 ^ k = dval S (C * 10 ^ k) (e - k) by unfold dval; ac_rfl, val_pow _ _ _ _ h]
  congr 1; omega
theorem dval_mulL (S a C : Nat) (e : Int) : dval S (a * C) e = a * dval S C e := Nat.mul_assoc ..
theorem dval_zero (S C : Nat) : dval S C 0 = C * 10 ^ S := by unfold dval; rw [Int.zero_add, Int.toNat_natCast]
theorem guess_r {S F al be w : Nat} {eF ea eb : Int} (hw : 7 ≤ w) (h1 : 0 ≤ ea + eF + S) (h2 : 0 ≤ eb + S) :
    ∃ A : Nat, 2 * 10 ^ (w - 1) * A ≤ (2 * 10 ^ (w - 1) + 1) * dval S (al * F) (ea + eF) ∧ 2 * 10 ^ (w - 1) * dval S (al * F) (ea + eF) ≤ 2 * 10 ^ (w - 1) * A + dval S (al * F) (ea + eF) ∧
      2 * 10 ^ (w - 1) * dval S (gC F al be w eF ea eb) (gE F al be w eF ea eb) ≤ (2 * 10 ^ (w - 1) + 1) * (A + dval S be eb) ∧ 2 * 10 ^ (w - 1) * (A + dval S be eb) ≤ 2 * 10 ^ (w - 1) * dval S (gC F al be w eF ea eb) (gE F al be w eF ea eb) + (A + dval S be eb) := by
  have a := r_val (S := S) (C := al * F) (p := w) (e := ea + eF) (by omega) (by omega)
  have hg : 0 ≤ gAe F al w eF ea + S := by unfold gAe; omega
  have s := r_val (S := S) (C := gSum F al be w eF ea eb) (p := w) (e := min (gAe F al w eF ea) eb) (by omega) (by omega)
  have e1 : dval S (gSum F al be w eF ea eb) (min (gAe F al w eF ea) eb) = dval S (gA F al w) (gAe F al w eF ea) + dval S be eb := by
    unfold gSum
    rw [val_add, val_pow _ _ _ _ (by omega), val_pow _ _ _ _ (by omega)]
    rw [show min (gAe F al w eF ea) eb + ((gAe F al w eF ea - min (gAe F al w eF ea) eb).toNat : Int) = gAe F al w eF ea by omega, show min (gAe F al w eF ea) eb + ((eb - min (gAe F al w eF ea) eb).toNat : Int) = eb by omega]
  rw [e1] at s
  exact ⟨dval S (gA F al w) (gAe F al w eF ea), a.1, a.2, s.1, s.2⟩
theorem guess_fin {V w : Nat} {t W0 Z X A : Nat} {a0 z0 : Nat} (hw : 7 ≤ w) (ht : 0 < t) (h1 : 2 * 10 ^ (w - 1) * A ≤ (2 * 10 ^ (w - 1) + 1) * a0) (h2 : 2 * 10 ^ (w - 1) * a0 ≤ 2 * 10 ^ (w - 1) * A + a0)
    (h3 : 2 * 10 ^ (w - 1) * X ≤ (2 * 10 ^ (w - 1) + 1) * (A + z0)) (h4 : 2 * 10 ^ (w - 1) * (A + z0) ≤ 2 * 10 ^ (w - 1) * X + (A + z0)) (ha : t * a0 = W0) (hz : t * z0 = Z)
    (g1 : 1000000 * ((W0 : Int) + Z) ^ 2 ≤ 1162200 * ((t : Int) ^ 2 * V)) (g2 : 848000 * ((t : Int) ^ 2 * V) ≤ 1000000 * ((W0 : Int) + Z) ^ 2) : Near (10 ^ 3) (kOf 3) (V : Int) (X : Int) := by
  have hP : 2000000 ≤ 2 * 10 ^ (w - 1) := by have := ten_le (show 6 ≤ w - 1 by omega); omega
  generalize 2 * 10 ^ (w - 1) = P at *
  have b1 := Nat.mul_le_mul_left t h1
  have b2 := Nat.mul_le_mul_left t h2
  have b3 := Nat.mul_le_mul_left t h3
  have b4 := Nat.mul_le_mul_left t h4
  subst ha hz
  have hn : (0 : Int) < (t : Int) ^ 2 := Int.pow_pos (by omega)
  obtain ⟨u1, u2⟩ := guess_near (P := (P : Int)) (A := ((t * A : Nat) : Int)) (X := ((t * X : Nat) : Int)) (W0 := ((t * a0 : Nat) : Int)) (Z := ((t * z0 : Nat) : Int)) (V := (V : Int)) (n := (t : Int) ^ 2) (by omega) (by omega) (by omega) (by omega) (by omega) (by
      have : P * (t * A) ≤ (P + 1) * (t * a0) := by grind
      exact_mod_cast this) (by
      have : P * (t * X) ≤ (P + 1) * (t * A + t * z0) := by grind
      exact_mod_cast this) (by
      have : P * (t * a0) ≤ P * (t * A) + t * a0 := by grind
      have : (P : Int) * ((t * a0 : Nat) : Int) ≤ P * ((t * A : Nat) : Int) + ((t * a0 : Nat) : Int) := by exact_mod_cast this
      rw [Int.sub_mul]; omega) (by
      have : P * (t * A + t * z0) ≤ P * (t * X) + (t * A + t * z0) := by grind
      have : (P : Int) * (((t * A : Nat) : Int) + ((t * z0 : Nat) : Int)) ≤ P * ((t * X : Nat) : Int) + (((t * A : Nat) : Int) + ((t * z0 : Nat) : Int)) := by exact_mod_cast this
      rw [Int.sub_mul]; omega) hn g1 g2
  rw [Int.natCast_mul t X] at u1 u2
  have v1 : (t : Int) ^ 2 * (1000 * ((X : Int) ^ 2 - V)) ≤ (t : Int) ^ 2 * (163 * V) := by grind
  have v2 : (t : Int) ^ 2 * (1000 * ((V : Int) - X ^ 2)) ≤ (t : Int) ^ 2 * (163 * V) := by grind
  exact ⟨Int.le_of_mul_le_mul_left v1 hn, Int.le_of_mul_le_mul_left v2 hn⟩
theorem guess_even {S F w : Nat} {eF : Int} (hS : 300 ≤ S) (hw : 7 ≤ w) (hw2 : w ≤ 100) (heF : -200 ≤ eF ∧ eF ≤ 0) (h1 : 10 ^ (2 * S - 1) ≤ dval (2 * S) F eF) (h2 : dval (2 * S) F eF ≤ 10 ^ (2 * S)) :
    SqInv S (dval (2 * S) F eF) 3 (gC F 819 259 w eF (-3) (-3)) (gE F 819 259 w eF (-3) (-3)) w := by
  obtain ⟨A, a1, a2, a3, a4⟩ := guess_r (S := S) (F := F) (al := 819) (be := 259) (w := w) (eF := eF) (ea := -3) (eb := -3) hw (by omega) (by omega)
  have hV : dval (2 * S) F eF = dval S F eF * 10 ^ S := by
    unfold dval
    rw [show (eF + ((2 * S : Nat) : Int)).toNat = (eF + S).toNat + S by omega, Nat.pow_add, Nat.mul_assoc]
  refine sqInv_mk (by omega) (Nat.le_trans (ten_le (by omega)) h1) h2 (rndN_figs (by omega)) (by omega) ?_
  have k1 : 10 ^ 3 * dval S (819 * F) (-3 + eF) = 819 * dval S F eF := by
    have := dval_ten (S := S) (C := 819 * F) (k := 3) (e := eF) (by omega)
    rw [show (-3 : Int) + eF = eF - (3 : Nat) by omega, this, dval_mulL]
  have k2 : 10 ^ 3 * dval S 259 (-3) = 259 * 10 ^ S := by
    have := dval_ten (S := S) (C := 259) (k := 3) (e := 0) (by omega)
    rw [show (-3 : Int) = 0 - (3 : Nat) by omega, this, dval_zero]
  have hB := ten_pos S
  have i1 : 10 ^ S ≤ 10 * dval S F eF := by
    rw [hV, show 2 * S - 1 = (S - 1) + S by omega, Nat.pow_add] at h1
    have := Nat.le_of_mul_le_mul_right h1 hB
    have e : 10 ^ S = 10 * 10 ^ (S - 1) := by rw [← ten_succ]; congr 1; omega
    omega
  have i2 : dval S F eF ≤ 10 ^ S := by
    rw [hV, show 2 * S = S + S by omega, Nat.pow_add] at h2
    exact Nat.le_of_mul_le_mul_right h2 hB
  have hg := guess_e (U := (dval S F eF : Nat)) (B := ((10 ^ S : Nat) : Int)) (by omega) (by omega) (by omega)
  rw [show (10 : Nat) ^ 3 = 1000 by decide] at k1 k2
  refine guess_fin (t := 1000) hw (by omega) a1 a2 a3 a4 k1 k2 ?_ ?_
  all_goals
    rw [hV]
    generalize dval S F eF = U at *
    generalize 10 ^ S = B at *
    obtain ⟨g1, g2⟩ := hg
    rw [show ((819 * U : Nat) : Int) = 819 * (U : Int) by omega, show ((259 * B : Nat) : Int) = 259 * (B : Int) by omega, Int.natCast_mul U B, show (((1000 : Nat) : Int)) ^ 2 = 1000000 by decide]
    generalize (819 * (U : Int) + 259 * (B : Int)) ^ 2 = v at *
    generalize (U : Int) * (B : Int) = u at *
    omega
theorem guess_odd {S F w : Nat} {eF : Int} (hS : 300 ≤ S) (hw : 7 ≤ w) (hw2 : w ≤ 100) (heF : -200 ≤ eF ∧ eF ≤ 0) (h1 : 10 ^ (2 * S - 2) ≤ dval (2 * S) F eF) (h2 : dval (2 * S) F eF ≤ 10 ^ (2 * S - 1)) :
    SqInv S (dval (2 * S) F eF) 3 (gC F 259 819 w eF (-2) (-4)) (gE F 259 819 w eF (-2) (-4)) w := by
  obtain ⟨A, a1, a2, a3, a4⟩ := guess_r (S := S) (F := F) (al := 259) (be := 819) (w := w) (eF := eF) (ea := -2) (eb := -4) hw (by omega) (by omega)
  have hV : dval (2 * S) F eF = dval S F eF * 10 ^ S := by
    unfold dval
    rw [show (eF + ((2 * S : Nat) : Int)).toNat = (eF + S).toNat + S by omega, Nat.pow_add, Nat.mul_assoc]
  refine sqInv_mk (by omega) (Nat.le_trans (ten_le (by omega)) h1) (Nat.le_trans h2 (ten_le (by omega))) (rndN_figs (by omega)) (by omega) ?_
  have k1 : 10 ^ 4 * dval S (259 * F) (-2 + eF) = 25900 * dval S F eF := by
    have := dval_ten (S := S) (C := 259 * F) (k := 2) (e := eF) (by omega)
    rw [show (-2 : Int) + eF = eF - (2 : Nat) by omega, show (10 : Nat) ^ 4 = 100 * 10 ^ 2 by decide, Nat.mul_assoc, this, dval_mulL]
    omega
  have k2 : 10 ^ 4 * dval S 819 (-4) = 819 * 10 ^ S := by
    have := dval_ten (S := S) (C := 819) (k := 4) (e := 0) (by omega)
    rw [show (-4 : Int) = 0 - (4 : Nat) by omega, this, dval_zero]
  have hB := ten_pos S
  have e0 : 10 ^ S = 10 * 10 ^ (S - 1) := by rw [← ten_succ]; congr 1; omega
  have i1 : 10 ^ S ≤ 10 * (10 * dval S F eF) := by
    rw [hV, show 2 * S - 2 = (S - 2) + S by omega, Nat.pow_add] at h1
    have := Nat.le_of_mul_le_mul_right h1 hB
    have e : 10 ^ (S - 1) = 10 * 10 ^ (S - 2) := by rw [← ten_succ]; congr 1; omega
    omega
  have i2 : 10 * dval S F eF ≤ 10 ^ S := by
    rw [hV, show 2 * S - 1 = (S - 1) + S by omega, Nat.pow_add] at h2
    have := Nat.le_of_mul_le_mul_right h2 hB
    omega
  have hg := guess_o (U := ((10 * dval S F eF : Nat) : Int)) (B := ((10 ^ S : Nat) : Int)) (by omega) (by omega) (by omega)
  rw [show (10 : Nat) ^ 4 = 10000 by decide] at k1 k2
  refine guess_fin (t := 10000) hw (by omega) a1 a2 a3 a4 k1 k2 ?_ ?_
  all_goals
    rw [hV]
    generalize dval S F eF = U at *
    generalize 10 ^ S = B at *
    obtain ⟨g1, g2⟩ := hg
    have e1 : 2590 * ((10 * U : Nat) : Int) + 819 * (B : Int) = 25900 * (U : Int) + 819 * (B : Int) := by omega
    have e2 : ((10 * U : Nat) : Int) * (B : Int) = 10 * ((U : Int) * B) := by rw [show ((10 * U : Nat) : Int) = 10 * (U : Int) by omega, Int.mul_assoc]
    rw [e1, e2] at g1 g2
    rw [show ((25900 * U : Nat) : Int) = 25900 * (U : Int) by omega, show ((819 * B : Nat) : Int) = 819 * (B : Int) by omega, Int.natCast_mul U B, show (((10000 : Nat) : Int)) ^ 2 = 100000000 by decide]
    generalize (25900 * (U : Int) + 819 * (B : Int)) ^ 2 = v at *
    generalize (U : Int) * (B : Int) = u at *
    omega
end Go.Proofs.YtonepclpllelfaaGreatDoor

namespace Go.Proofs.YtonepclpllelfaaGreatDoor
theorem root_near {Q T X V U : Int} (hT : 1 ≤ T) (hQ : 1000000 * T ≤ Q) (hX : 0 < X) (hV : 0 < V) (hU : 0 < U) (h1 : Q * (X ^ 2 - V) ≤ 34 * V) (h2 : Q * (V - X ^ 2) ≤ 34 * V) (h3 : X ≤ (T + 1) * U) : 2 * (V - X ^ 2) < X * U ∧ 2 * (X ^ 2 - V) < X * U := by
  have hv : V ≤ 2 * X ^ 2 := by
    have a1 := Int.mul_le_mul_of_nonneg_right (show (1000000 : Int) ≤ Q by omega) (sq_nn X)
    have a2 := Int.mul_le_mul_of_nonneg_right (show (1000000 : Int) ≤ Q by omega) (show 0 ≤ V by omega)
    have a3 : (Q - 34) * V ≤ (Q - 34) * (2 * X ^ 2) := by grind
    exact Int.le_of_mul_le_mul_left a3 (by omega)
  have b1 := mulL h3 (c := X) (by omega)
  have b2 := Int.mul_pos hX hU
  have b3 := mulL hT (c := X * U) (by omega)
  have b4 := mulL hQ (c := X * U) (by omega)
  have b5 : 0 < X * U * T := Int.mul_pos b2 (by omega)
  have c1 : 68 * V < Q * (X * U) := by grind
  constructor
  · have : Q * (2 * (V - X ^ 2)) < Q * (X * U) := by grind
    exact Int.lt_of_mul_lt_mul_left this (by omega)
  · have : Q * (2 * (X ^ 2 - V)) < Q * (X * U) := by grind
    exact Int.lt_of_mul_lt_mul_left this (by omega)
theorem root_unit {Q T X V U G : Int} (hT : 1 ≤ T) (hQ : 1000000 * T ≤ Q) (hX : 0 < X) (hV : 0 < V) (hU : 0 < U) (h1 : Q * (X ^ 2 - V) ≤ 34 * V) (h2 : Q * (V - X ^ 2) ≤ 34 * V) (g1 : 2 * G ≤ 2 * X + U) (g2 : 2 * X ≤ 2 * G + U) (g3 : G < T * U) (g4 : U ≤ G) :
    (G - U) ^ 2 < V ∧ V < (G + U) ^ 2 := by
  have h3 : X ≤ (T + 1) * U := by grind
  obtain ⟨k1, k2⟩ := root_near hT hQ hX hV hU h1 h2 h3
  have d1 := sq_le (a := 2 * (G - U)) (b := 2 * X - U) (by omega) (by omega)
  have d2 := sq_le (a := 2 * X + U) (b := 2 * (G + U)) (by omega) (by omega)
  have d3 := Int.mul_le_mul_of_nonneg_right (show U ≤ 2 * X by omega) (show 0 ≤ U by omega)
  have d4 := sq_nn U
  constructor <;> grind
theorem rnd_adjG {n : Bool} {N p m : Nat} (hp : 1 ≤ p) : figs N ≤ rndK n N p m + figs (rndN n N p m) := by
  by_cases h : figs N ≤ p
  · unfold rndN rndK
    rw [if_pos h, if_pos h]; omega
  · have h1 := (cutN_figs (neg := n) (C := N) (p := p) (mode := m) hp (by omega)).1
    unfold rndN rndK
    rw [if_neg h, if_neg h]
    by_cases ho : figs (cutN n N (figs N - p) m) > p
    · rw [if_pos ho, if_pos ho, cutN_over hp (by omega) ho]
      obtain ⟨q, rfl⟩ : ∃ q, p = q + 1 := ⟨p - 1, by omega⟩
      rw [ten_succ, Nat.mul_div_cancel_left _ (by omega), figs_pow]; omega
    · rw [if_neg ho, if_neg ho]
      have h2 := figs_mono h1
      rw [figs_pow] at h2
      omega
theorem rnd_ne {n : Bool} {N p m : Nat} (hp : 1 ≤ p) (h : N ≠ 0) : rndN n N p m ≠ 0 := by
  by_cases hq : figs N ≤ p
  · unfold rndN; rw [if_pos hq]; exact h
  · have h1 := (cutN_figs (neg := n) (C := N) (p := p) (mode := m) hp (by omega)).1
    have h2 := ten_pos (p - 1)
    unfold rndN
    rw [if_neg hq]
    by_cases ho : figs (cutN n N (figs N - p) m) > p
    · rw [if_pos ho, cutN_over hp (by omega) ho]
      obtain ⟨q, rfl⟩ : ∃ q, p = q + 1 := ⟨p - 1, by omega⟩
      rw [ten_succ, Nat.mul_div_cancel_left _ (by omega)]
      have := ten_pos q; omega
    · rw [if_neg ho]; omega
/-- The rounded root and its unit. -/
theorem root_law {S V M C n p : Nat} {e : Int} (hV : 0 < V) (h : SqInv S V M C e n) (hM : p + 6 ≤ M) (hM2 : 7 ≤ M) (hp : 1 ≤ p) (hS : n + p + 10 ≤ S) {G U : Nat}
    (hG : dval S (rndN false C p 2) (e + rndK false C p 2) = G) (hU : dval S 1 (e + rndK false C p 2 + figs (rndN false C p 2) - p) = U) :
    U ≤ G ∧ (G - U) ^ 2 < V ∧ V < (G + U) ^ 2 := by
  have hlo := h.lo
  have hf := h.figs
  have ha := rnd_adjG (n := false) (N := C) (p := p) (m := 2) hp
  have hc := rnd_ne (n := false) (N := C) (p := p) (m := 2) hp h.ne
  have hnear := h.near
  have hk : kOf M = 34 := by unfold kOf; rw [if_neg (by omega), if_neg (by omega), if_neg (by omega)]
  rw [hk] at hnear
  have hX : 0 < dval S C e := val_pos (by have := h.ne; omega)
  have e1 : U = 10 ^ (e + rndK false C p 2 + figs (rndN false C p 2) - p + S).toNat := by rw [← hU]; unfold dval; rw [Nat.one_mul]
  have hU0 : 0 < U := by rw [e1]; exact ten_pos _
  have g3 : G < 10 ^ p * U := by
    rw [← hG, e1, ← Nat.pow_add]
    unfold dval
    have := figs_lt (rndN false C p 2)
    rw [show p + (e + rndK false C p 2 + figs (rndN false C p 2) - p + S).toNat = figs (rndN false C p 2) + (e + rndK false C p 2 + S).toNat by omega, Nat.pow_add]
    exact Nat.mul_lt_mul_of_pos_right this (ten_pos _)
  have g4 : U ≤ G := by
    have h1 := figs_ge hc
    have h2 := figs_pos (rndN false C p 2)
    rw [← hG, e1]
    unfold dval
    calc 10 ^ (e + rndK false C p 2 + figs (rndN false C p 2) - p + S).toNat ≤ 10 ^ (figs (rndN false C p 2) - 1 + (e + rndK false C p 2 + S).toNat) := ten_le (by omega)
      _ = 10 ^ (figs (rndN false C p 2) - 1) * 10 ^ (e + rndK false C p 2 + S).toNat := Nat.pow_add ..
      _ ≤ _ := Nat.mul_le_mul_right _ h1
  have g12 : 2 * G ≤ 2 * dval S C e + U ∧ 2 * dval S C e ≤ 2 * G + U := by
    by_cases hq : figs C ≤ p
    · have : G = dval S C e := by
        rw [← hG, show rndN false C p 2 = C by unfold rndN; rw [if_pos hq], show rndK false C p 2 = 0 by unfold rndK; rw [if_pos hq]]
        congr 1; omega
      omega
    · have h1 := rnd_same false (C := C) (p := p) (m := 2) hp (by omega)
      have h2 := rndF_near false C (10 ^ (figs C - p)) (ten_pos _)
      rw [← val_pow _ _ _ _ (by omega), h1, cutN_rndF, Nat.mul_comm (rndF ..)] at hG
      have h3 : 10 ^ (figs C - p) * 10 ^ (e + (S : Int)).toNat ≤ U := by
        rw [e1, ← Nat.pow_add]
        exact ten_le (by omega)
      rw [← hG]
      unfold dval
      generalize 10 ^ (figs C - p) * rndF false C (10 ^ (figs C - p)) 2 = v at *
      generalize 10 ^ (figs C - p) = E at *
      generalize 10 ^ (e + (S : Int)).toNat = t at *
      have h4 := Nat.mul_le_mul_right t h2.1
      have h5 := Nat.mul_le_mul_right t h2.2
      constructor <;> grind
  have hQ : 1000000 * 10 ^ p ≤ 10 ^ M := by
    rw [show (1000000 : Nat) = 10 ^ 6 by decide, ← Nat.pow_add]; exact ten_le (by omega)
  have hT := ten_pos p
  generalize dval S C e = X at *
  have h3 : (((10 : Nat) ^ M : Nat) : Int) = 10 ^ M := Int.natCast_pow ..
  rw [← h3] at hnear
  generalize 10 ^ M = Q at *
  generalize 10 ^ p = T at *
  obtain ⟨r1, r2⟩ := root_unit (Q := (Q : Int)) (T := (T : Int)) (X := (X : Int)) (V := (V : Int)) (U := (U : Int)) (G := (G : Int)) (by omega) (by omega) (by omega) (by omega) (by omega) hnear.1 hnear.2 (by omega) (by omega) (by exact_mod_cast g3) (by omega)
  refine ⟨g4, ?_, ?_⟩
  · have : (((G - U : Nat) : Int)) = (G : Int) - U := by omega
    rw [← this] at r1
    exact_mod_cast r1
  · exact_mod_cast r2
end Go.Proofs.YtonepclpllelfaaGreatDoor





