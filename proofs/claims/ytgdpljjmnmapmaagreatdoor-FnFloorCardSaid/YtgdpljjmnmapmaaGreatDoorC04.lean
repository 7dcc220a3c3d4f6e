/- Decimal figures and rounding of natural numbers: plain facts, no program. Fractions rounded to whole numbers, and the reference's quotient with a figure that tells of the rest: plain facts, no program. The square root: Newton's step with rounded quotient, sum and half: plain facts, no program. The quotient's laws: what the code computes beside what the reference rounds: plain facts, no program. What the laws of rounding near limits and of quotients need: plain facts, no program. -/

namespace Go.Proofs.YtgdpljjmnmapmaaGreatDoor

def figsF : Nat → Nat → Nat
  | 0, _ => 1
  | f + 1, n => if n < 10 then 1 else figsF f (n / 10) + 1
/-- How many decimal figures a number has; 0 has one. -/
def figs (n : Nat) : Nat := figsF n n
theorem ten_pos (k : Nat) : 0 < 10 ^ k := Nat.pow_pos (by omega)
theorem ten_succ (k : Nat) : 10 ^ (k + 1) = 10 * 10 ^ k := by rw [Nat.pow_succ, Nat.mul_comm]
theorem ten_le {a b : Nat} (h : a ≤ b) : 10 ^ a ≤ 10 ^ b := Nat.pow_le_pow_right (by omega) h
theorem ten_lt {a b : Nat} (h : a < b) : 10 ^ a < 10 ^ b := Nat.pow_lt_pow_right (by omega) h
theorem ten_lt_iff {a b : Nat} : 10 ^ a < 10 ^ b ↔ a < b := by
  refine ⟨fun h => ?_, ten_lt⟩
  rcases Nat.lt_or_ge a b with h1 | h1
  · exact h1
  · have := ten_le h1; omega
theorem figsF_spec (f : Nat) : ∀ n, n ≤ f → 1 ≤ figsF f n ∧ n < 10 ^ figsF f n ∧ (n ≠ 0 → 10 ^ (figsF f n - 1) ≤ n) := by
  induction f with
  | zero => intro n hn; obtain rfl : n = 0 := by omega
            exact ⟨Nat.le_refl _, by decide, fun h => absurd rfl h⟩
  | succ f ih =>
    intro n hn
    unfold figsF
    by_cases h : n < 10
    · rw [if_pos h]; exact ⟨Nat.le_refl _, by simpa using h, fun h0 => by simp; omega⟩
    · rw [if_neg h]
      obtain ⟨h1, h2, h3⟩ := ih (n / 10) (by omega)
      have h3 := h3 (by omega)
      refine ⟨by omega, ?_, fun _ => ?_⟩
      · rw [ten_succ]; omega
      · rw [Nat.add_sub_cancel]
        obtain ⟨m, hm⟩ : ∃ m, figsF f (n / 10) = m + 1 := ⟨figsF f (n / 10) - 1, by omega⟩
        rw [hm] at h3 ⊢
        rw [Nat.add_sub_cancel] at h3
        rw [ten_succ]; omega
theorem figs_pos (n : Nat) : 1 ≤ figs n := (figsF_spec n n (Nat.le_refl _)).1
theorem figs_lt (n : Nat) : n < 10 ^ figs n := (figsF_spec n n (Nat.le_refl _)).2.1
theorem figs_ge {n : Nat} (h : n ≠ 0) : 10 ^ (figs n - 1) ≤ n := (figsF_spec n n (Nat.le_refl _)).2.2 h
theorem figs_zero : figs 0 = 1 := rfl
theorem figs_le_iff {n k : Nat} (hk : 1 ≤ k) : figs n ≤ k ↔ n < 10 ^ k := by
  refine ⟨fun h => Nat.lt_of_lt_of_le (figs_lt n) (ten_le h), fun h => ?_⟩
  by_cases h0 : n = 0
  · subst h0; rw [figs_zero]; exact hk
  · have h1 := figs_ge h0
    have h2 : 10 ^ (figs n - 1) < 10 ^ k := Nat.lt_of_le_of_lt h1 h
    have := ten_lt_iff.1 h2
    have := figs_pos n
    omega
theorem figs_eq {n k : Nat} (hk : 1 ≤ k) (h1 : 10 ^ (k - 1) ≤ n) (h2 : n < 10 ^ k) : figs n = k := by
  have h3 := (figs_le_iff hk).2 h2
  have h4 := figs_lt n
  have h5 : 10 ^ (k - 1) < 10 ^ figs n := Nat.lt_of_le_of_lt h1 h4
  have := ten_lt_iff.1 h5
  omega
theorem figs_mono {a b : Nat} (h : a ≤ b) : figs a ≤ figs b := (figs_le_iff (figs_pos b)).2 (Nat.lt_of_le_of_lt h (figs_lt b))
theorem figs_step {n : Nat} (h : 10 ≤ n) : figs n = figs (n / 10) + 1 := by
  have h1 := figs_lt (n / 10)
  have h2 := figs_ge (n := n / 10) (by omega)
  have h3 := figs_pos (n / 10)
  obtain ⟨m, hm⟩ : ∃ m, figs (n / 10) = m + 1 := ⟨figs (n / 10) - 1, by omega⟩
  rw [hm] at h1 h2 ⊢
  rw [Nat.add_sub_cancel] at h2
  refine figs_eq (by omega) ?_ ?_
  · rw [Nat.add_sub_cancel, ten_succ]; omega
  · rw [ten_succ]; omega
theorem figs_small {n : Nat} (h : n < 10) : figs n = 1 := by
  have h1 := (figs_le_iff (n := n) (k := 1) (Nat.le_refl _)).2 (by simpa using h)
  have := figs_pos n
  omega
/-- Figures of a number with noughts behind. -/
theorem figs_mul_pow {n : Nat} (h : n ≠ 0) (k : Nat) : figs (n * 10 ^ k) = figs n + k := by
  have h1 := figs_lt n
  have h2 := figs_ge h
  have h3 := figs_pos n
  refine figs_eq (by omega) ?_ ?_
  · rw [show figs n + k - 1 = (figs n - 1) + k by omega, Nat.pow_add]
    exact Nat.mul_le_mul_right _ h2
  · rw [Nat.pow_add]
    exact Nat.mul_lt_mul_of_pos_right h1 (ten_pos k)
/-- Figures cut off. -/
theorem figs_div_pow {n k : Nat} (hk : k < figs n) (h : n ≠ 0) : figs (n / 10 ^ k) = figs n - k := by
  have h1 := figs_lt n
  have h2 := figs_ge h
  refine figs_eq (by omega) ?_ ?_
  · rw [Nat.le_div_iff_mul_le (ten_pos k), ← Nat.pow_add]
    rw [show figs n - k - 1 + k = figs n - 1 by omega]; exact h2
  · rw [Nat.div_lt_iff_lt_mul (ten_pos k), ← Nat.pow_add]
    rw [show figs n - k + k = figs n by omega]; exact h1
theorem figs_pow (k : Nat) : figs (10 ^ k) = k + 1 := figs_eq (by omega) (by simp) (ten_lt (by omega))

/-- -1, 0 or 1. -/
def ord3 (a b : Nat) : Int := if a < b then -1 else if b < a then 1 else 0
/-- Whether a magnitude is made one greater. -/
def awayN (neg : Bool) (last : Nat) (half : Int) (mode : Nat) : Bool :=
  match mode with
  | 0 => false
  | 2 => decide (half > 0) || (half == 0 && last % 2 == 1)
  | 3 => !neg
  | 4 => neg
  | 5 => decide (half > 0)
  | 6 => true
  | 7 => last % 5 == 0
  | _ => decide (half ≥ 0)
/-- k figures less, rounded. -/
def cutN (neg : Bool) (C k mode : Nat) : Nat := if C % 10 ^ k = 0 then C / 10 ^ k else if awayN neg (C / 10 ^ k % 10) (ord3 (2 * (C % 10 ^ k)) (10 ^ k)) mode then C / 10 ^ k + 1 else C / 10 ^ k
def inexN (C k : Nat) : Bool := !decide (C % 10 ^ k = 0)
/-- Rounded to p figures: the coefficient, and how many figures are off. -/
def rndN (neg : Bool) (C p mode : Nat) : Nat := if figs C ≤ p then C else if figs (cutN neg C (figs C - p) mode) > p then cutN neg C (figs C - p) mode / 10 else cutN neg C (figs C - p) mode
def rndK (neg : Bool) (C p mode : Nat) : Nat := if figs C ≤ p then 0 else if figs (cutN neg C (figs C - p) mode) > p then figs C - p + 1 else figs C - p
def rndX (C p : Nat) : Bool := if figs C ≤ p then false else inexN C (figs C - p)
/-- Conditions: Rounded 64, Inexact 16, as apd has them. -/
def rndC (C p : Nat) : Nat := if figs C ≤ p then 0 else if inexN C (figs C - p) then 80 else 64

theorem cutN_le (neg : Bool) (C k mode : Nat) : C / 10 ^ k ≤ cutN neg C k mode ∧ cutN neg C k mode ≤ C / 10 ^ k + 1 := by
  unfold cutN; split <;> (try split) <;> omega
/-- What is cut to p figures has p figures, or is the next power of 10. -/
theorem cutN_figs {neg : Bool} {C p mode : Nat} (hp : 1 ≤ p) (h : p < figs C) : 10 ^ (p - 1) ≤ cutN neg C (figs C - p) mode ∧ cutN neg C (figs C - p) mode ≤ 10 ^ p := by
  have h0 : C ≠ 0 := by rintro rfl; rw [figs_zero] at h; omega
  have h1 := cutN_le neg C (figs C - p) mode
  have h2 := figs_div_pow (n := C) (k := figs C - p) (by omega) h0
  have hq0 : C / 10 ^ (figs C - p) ≠ 0 := by
    intro e
    rw [e, figs_zero] at h2
    have h3 := (Nat.div_eq_zero_iff.1 e).resolve_left (by have := ten_pos (figs C - p); omega)
    have h4 := figs_ge h0
    have := Nat.lt_of_le_of_lt h4 h3
    have := ten_lt_iff.1 this
    omega
  have h3 := figs_lt (C / 10 ^ (figs C - p))
  have h4 := figs_ge hq0
  rw [h2, show figs C - (figs C - p) = p by omega] at h3 h4
  omega
theorem cutN_over {neg : Bool} {C p mode : Nat} (hp : 1 ≤ p) (h : p < figs C) (ho : figs (cutN neg C (figs C - p) mode) > p) : cutN neg C (figs C - p) mode = 10 ^ p := by
  have h1 := (cutN_figs (neg := neg) (mode := mode) hp h).2
  have h2 : ¬ cutN neg C (figs C - p) mode < 10 ^ p := fun h3 => by have := (figs_le_iff hp).2 h3; omega
  omega
theorem rndN_figs {neg : Bool} {C p mode : Nat} (hp : 1 ≤ p) : figs (rndN neg C p mode) ≤ p := by
  unfold rndN
  split
  · assumption
  · next h =>
    split
    · next ho =>
      rw [cutN_over hp (by omega) ho]
      obtain ⟨q, rfl⟩ : ∃ q, p = q + 1 := ⟨p - 1, by omega⟩
      rw [ten_succ, Nat.mul_div_cancel_left _ (by omega), figs_pow]; omega
    · omega
/-- The half that decides, as the code finds it: the rest against 5 with noughts behind. -/
theorem ord3_half {m k : Nat} (hk : 1 ≤ k) : ord3 m (5 * 10 ^ (k - 1)) = ord3 (2 * m) (10 ^ k) := by
  obtain ⟨j, rfl⟩ : ∃ j, k = j + 1 := ⟨k - 1, by omega⟩
  rw [Nat.add_sub_cancel, ten_succ]
  unfold ord3
  have : 0 < 10 ^ j := ten_pos j
  generalize 10 ^ j = t at *
  split <;> split <;> (try split) <;> (try split) <;> omega
/-- A rest with fewer figures than the place is below a half. -/
theorem ord3_few {m k : Nat} (h : figs m < k) : ord3 (2 * m) (10 ^ k) = -1 := by
  have h1 := figs_lt m
  have h2 : 10 ^ figs m ≤ 10 ^ (k - 1) := ten_le (by omega)
  obtain ⟨j, rfl⟩ : ∃ j, k = j + 1 := ⟨k - 1, by omega⟩
  rw [Nat.add_sub_cancel] at h2
  unfold ord3
  rw [ten_succ, if_pos (by omega)]
end Go.Proofs.YtgdpljjmnmapmaaGreatDoor

namespace Go.Proofs.YtgdpljjmnmapmaaGreatDoor

/-- A fraction rounded to a whole number. -/
def rndF (neg : Bool) (D E mode : Nat) : Nat := if D % E = 0 then D / E else if awayN neg (D / E % 10) (ord3 (2 * (D % E)) E) mode then D / E + 1 else D / E
theorem ord3_mul (a b : Nat) {c : Nat} (hc : 0 < c) : ord3 (a * c) (b * c) = ord3 a b := by
  unfold ord3
  simp only [Nat.mul_lt_mul_right hc]
theorem rndF_mul (neg : Bool) (D E mode : Nat) {c : Nat} (hc : 0 < c) : rndF neg (D * c) (E * c) mode = rndF neg D E mode := by
  unfold rndF
  rw [Nat.mul_mod_mul_right, Nat.mul_div_mul_right _ _ hc, ← Nat.mul_assoc, ord3_mul _ _ hc]
  have : (D % E * c = 0) ↔ (D % E = 0) := by rw [Nat.mul_eq_zero]; omega
  simp only [this]
theorem cutN_rndF (neg : Bool) (C k mode : Nat) : cutN neg C k mode = rndF neg C (10 ^ k) mode := rfl
theorem rndF_le (neg : Bool) (D E mode : Nat) : D / E ≤ rndF neg D E mode ∧ rndF neg D E mode ≤ D / E + 1 := by
  unfold rndF; split <;> (try split) <;> omega

/-- A quotient with one more figure, that tells whether something is left. -/
def sticky (X B : Nat) : Nat := 10 * (X / B) + if X % B = 0 then 0 else 1
theorem sticky_div (X B : Nat) : sticky X B / 10 = X / B := by unfold sticky; split <;> omega
theorem sticky_mod (X B : Nat) : sticky X B % 10 = if X % B = 0 then 0 else 1 := by unfold sticky; split <;> omega
theorem sticky_rest (X B T : Nat) : sticky X B % (10 * T) = (if X % B = 0 then 0 else 1) + 10 * (X / B % T) := by
  rw [Nat.mod_mul, sticky_mod, sticky_div]
theorem sticky_quot (X B T : Nat) : sticky X B / (10 * T) = X / (B * T) := by
  rw [← Nat.div_div_eq_div_mul, sticky_div, Nat.div_div_eq_div_mul]
theorem sticky_zero {X B T : Nat} (hB : 0 < B) : sticky X B % (10 * T) = 0 ↔ X % (B * T) = 0 := by
  rw [sticky_rest, show X % (B * T) = X % B + B * (X / B % T) from Nat.mod_mul]
  have : B * (X / B % T) = 0 ↔ X / B % T = 0 := by rw [Nat.mul_eq_zero]; omega
  split <;> omega
theorem sticky_half {X B U : Nat} (hB : 0 < B) (hU : 0 < U) : ord3 (2 * (sticky X B % (10 * (2 * U)))) (10 * (2 * U)) = ord3 (2 * (X % (B * (2 * U)))) (B * (2 * U)) := by
  rw [sticky_rest, show X % (B * (2 * U)) = X % B + B * (X / B % (2 * U)) from Nat.mod_mul]
  have h1 : X % B < B := Nat.mod_lt _ hB
  have h2 : X / B % (2 * U) < 2 * U := Nat.mod_lt _ (by omega)
  generalize X / B % (2 * U) = t at *
  generalize X % B = r at *
  have e1 : B * (2 * U) = 2 * (B * U) := by rw [← Nat.mul_assoc, Nat.mul_comm B 2, Nat.mul_assoc]
  rw [e1]
  unfold ord3
  rcases Nat.lt_trichotomy t U with h | rfl | h
  · have h3 : B * t + B ≤ B * U := by have := Nat.mul_le_mul_left B (show t + 1 ≤ U by omega); rwa [Nat.mul_add, Nat.mul_one] at this
    rw [if_pos (by split <;> omega), if_pos (by omega)]
  · split
    · rw [if_neg (by omega), if_neg (by omega), if_neg (by omega), if_neg (by omega)]
    · rw [if_neg (by omega), if_pos (by omega), if_neg (by omega), if_pos (by omega)]
  · have h3 : B * U + B ≤ B * t := by have := Nat.mul_le_mul_left B (show U + 1 ≤ t by omega); rwa [Nat.mul_add, Nat.mul_one] at this
    rw [if_neg (by split <;> omega), if_pos (by split <;> omega), if_neg (by omega), if_pos (by omega)]
theorem sticky_rndF {X B U : Nat} (neg : Bool) (mode : Nat) (hB : 0 < B) (hU : 0 < U) : rndF neg (sticky X B) (10 * (2 * U)) mode = rndF neg X (B * (2 * U)) mode := by
  unfold rndF
  rw [sticky_quot, sticky_half hB hU]
  simp only [sticky_zero hB]

/-- One quotient, brought by powers of ten between 10^(p-1) and 10^p in two ways. -/
theorem same_scale {A B p j k u v : Nat} (hB : 0 < B) (hp : 1 ≤ p) (h1 : 10 ^ (p - 1) ≤ A * 10 ^ k / (B * 10 ^ j)) (h2 : A * 10 ^ k / (B * 10 ^ j) < 10 ^ p) (h3 : 10 ^ (p - 1) ≤ A * 10 ^ u / (B * 10 ^ v)) (h4 : A * 10 ^ u / (B * 10 ^ v) < 10 ^ p) : j + u = v + k := by
  have hj : 0 < B * 10 ^ j := Nat.mul_pos hB (ten_pos _)
  have hv : 0 < B * 10 ^ v := Nat.mul_pos hB (ten_pos _)
  rw [Nat.le_div_iff_mul_le hj] at h1
  rw [Nat.div_lt_iff_lt_mul hj] at h2
  rw [Nat.le_div_iff_mul_le hv] at h3
  rw [Nat.div_lt_iff_lt_mul hv] at h4
  have g1 := Nat.lt_of_le_of_lt (Nat.mul_le_mul_right (10 ^ u) h1) (by
    rw [show A * 10 ^ k * 10 ^ u = A * 10 ^ u * 10 ^ k by rw [Nat.mul_right_comm]]
    exact Nat.mul_lt_mul_of_pos_right h4 (ten_pos k))
  have g2 := Nat.lt_of_le_of_lt (Nat.mul_le_mul_right (10 ^ k) h3) (by
    rw [show A * 10 ^ u * 10 ^ k = A * 10 ^ k * 10 ^ u by rw [Nat.mul_right_comm]]
    exact Nat.mul_lt_mul_of_pos_right h2 (ten_pos u))
  rw [show 10 ^ (p - 1) * (B * 10 ^ j) * 10 ^ u = B * 10 ^ (p - 1 + j + u) by rw [Nat.pow_add, Nat.pow_add]; ac_rfl,
    show 10 ^ p * (B * 10 ^ v) * 10 ^ k = B * 10 ^ (p + v + k) by rw [Nat.pow_add, Nat.pow_add]; ac_rfl] at g1
  rw [show 10 ^ (p - 1) * (B * 10 ^ v) * 10 ^ k = B * 10 ^ (p - 1 + v + k) by rw [Nat.pow_add, Nat.pow_add]; ac_rfl,
    show 10 ^ p * (B * 10 ^ j) * 10 ^ u = B * 10 ^ (p + j + u) by rw [Nat.pow_add, Nat.pow_add]; ac_rfl] at g2
  have g1 := ten_lt_iff.1 (Nat.lt_of_mul_lt_mul_left g1)
  have g2 := ten_lt_iff.1 (Nat.lt_of_mul_lt_mul_left g2)
  omega
/-- The reference's way to a quotient and the code's. -/
theorem quo_two {A B p k u v : Nat} (neg : Bool) (mode : Nat) (hB : 0 < B) (hp : 1 ≤ p) (hq : p + 2 ≤ figs (sticky (A * 10 ^ k) B))
    (h3 : 10 ^ (p - 1) ≤ A * 10 ^ u / (B * 10 ^ v)) (h4 : A * 10 ^ u / (B * 10 ^ v) < 10 ^ p) :
    cutN neg (sticky (A * 10 ^ k) B) (figs (sticky (A * 10 ^ k) B) - p) mode = rndF neg (A * 10 ^ u) (B * 10 ^ v) mode ∧ inexN (sticky (A * 10 ^ k) B) (figs (sticky (A * 10 ^ k) B) - p) = !decide (A * 10 ^ u % (B * 10 ^ v) = 0) ∧ figs (sticky (A * 10 ^ k) B) - p + u = v + k + 1 := by
  obtain ⟨i, hi⟩ : ∃ i, figs (sticky (A * 10 ^ k) B) = p + (i + 2) := ⟨figs (sticky (A * 10 ^ k) B) - p - 2, by omega⟩
  have hl := figs_lt (sticky (A * 10 ^ k) B)
  have hg := figs_ge (n := sticky (A * 10 ^ k) B) (by intro e; rw [e, figs_zero] at hi; omega)
  rw [hi] at hl hg ⊢
  rw [show p + (i + 2) - p = i + 2 by omega]
  have e10 : 10 ^ (i + 2) = 10 * (2 * (5 * 10 ^ i)) := by rw [ten_succ, ten_succ]; omega
  have ej : 2 * (5 * 10 ^ i) = 10 ^ (i + 1) := by rw [ten_succ]; omega
  have hU : 0 < 5 * 10 ^ i := by have := ten_pos i; omega
  have hsq := sticky_quot (A * 10 ^ k) B (10 ^ (i + 1))
  rw [← ej, ← e10, ej] at hsq
  have h1 : 10 ^ (p - 1) ≤ A * 10 ^ k / (B * 10 ^ (i + 1)) := by
    rw [← hsq, Nat.le_div_iff_mul_le (ten_pos _), ← Nat.pow_add, show p - 1 + (i + 2) = p + (i + 2) - 1 by omega]; exact hg
  have h2 : A * 10 ^ k / (B * 10 ^ (i + 1)) < 10 ^ p := by
    rw [← hsq, Nat.div_lt_iff_lt_mul (ten_pos _), ← Nat.pow_add]; exact hl
  have hs := same_scale hB hp h1 h2 h3 h4
  have ea : A * 10 ^ k * 10 ^ u = A * 10 ^ u * 10 ^ k := by rw [Nat.mul_right_comm]
  have eb : B * 10 ^ (i + 1) * 10 ^ u = B * 10 ^ v * 10 ^ k := by rw [Nat.mul_assoc, Nat.mul_assoc, ← Nat.pow_add, ← Nat.pow_add, hs]
  refine ⟨?_, ?_, by omega⟩
  · rw [cutN_rndF, e10, sticky_rndF neg mode hB hU, ej, ← rndF_mul neg _ _ mode (ten_pos u), ea, eb, rndF_mul neg _ _ mode (ten_pos k)]
  · unfold inexN
    rw [e10]
    have hz := sticky_zero (X := A * 10 ^ k) (B := B) (T := 2 * (5 * 10 ^ i)) hB
    rw [ej] at hz ⊢
    have hz2 : A * 10 ^ k % (B * 10 ^ (i + 1)) = 0 ↔ A * 10 ^ u % (B * 10 ^ v) = 0 := by
      have a1 : A * 10 ^ k % (B * 10 ^ (i + 1)) * 10 ^ u = A * 10 ^ u % (B * 10 ^ v) * 10 ^ k := by
        rw [← Nat.mul_mod_mul_right, ← Nat.mul_mod_mul_right, ea, eb]
      have := ten_pos u
      have := ten_pos k
      constructor
      · intro e; rw [e, Nat.zero_mul] at a1
        have := Nat.mul_eq_zero.1 a1.symm; omega
      · intro e; rw [e, Nat.zero_mul] at a1
        have := Nat.mul_eq_zero.1 a1; omega
    simp only [hz, hz2]
/-- Its figures. -/
theorem sticky_figs {A B p k : Nat} (hA : A ≠ 0) (hB : B ≠ 0) (hk : p + 2 + figs B ≤ figs A + k) : p + 2 ≤ figs (sticky (A * 10 ^ k) B) := by
  have h1 := figs_ge hA
  have h2 := figs_lt B
  have h3 := figs_pos A
  have h4 : 10 ^ (p + 1) ≤ A * 10 ^ k / B := by
    rw [Nat.le_div_iff_mul_le (by omega)]
    calc 10 ^ (p + 1) * B ≤ 10 ^ (p + 1) * 10 ^ figs B := Nat.mul_le_mul_left _ (by omega)
      _ = 10 ^ (p + 1 + figs B) := (Nat.pow_add ..).symm
      _ ≤ 10 ^ (figs A - 1 + k) := ten_le (by omega)
      _ = 10 ^ (figs A - 1) * 10 ^ k := Nat.pow_add ..
      _ ≤ A * 10 ^ k := Nat.mul_le_mul_right _ h1
  have h5 : 10 ^ (p + 1) ≤ sticky (A * 10 ^ k) B := by unfold sticky; omega
  have := figs_mono h5
  rwa [figs_pow] at this

/-- The code's way: both brought to as many figures, ten times the first where it is less. -/
def quoU (A B : Nat) : Nat := figs B - figs A + if A * 10 ^ (figs B - figs A) < B * 10 ^ (figs A - figs B) then 1 else 0
theorem quoU_le {A B p : Nat} (hA : A ≠ 0) (hB : B ≠ 0) (hp : 1 ≤ p) : 10 ^ (p - 1) ≤ A * 10 ^ (quoU A B + (p - 1)) / (B * 10 ^ (figs A - figs B)) ∧ A * 10 ^ (quoU A B + (p - 1)) / (B * 10 ^ (figs A - figs B)) < 10 ^ p := by
  have hA1 := figs_mul_pow hA (figs B - figs A)
  have hB1 := figs_mul_pow hB (figs A - figs B)
  have hE : 0 < B * 10 ^ (figs A - figs B) := Nat.mul_pos (by omega) (ten_pos _)
  have a1 := figs_lt (A * 10 ^ (figs B - figs A))
  have b0 := figs_ge (n := B * 10 ^ (figs A - figs B)) (by omega)
  have hF : figs (B * 10 ^ (figs A - figs B)) = figs (A * 10 ^ (figs B - figs A)) := by omega
  have hA0 : A * 10 ^ (figs B - figs A) ≠ 0 := by have := Nat.mul_pos (show 0 < A by omega) (ten_pos (figs B - figs A)); omega
  have a0 := figs_ge hA0
  have b1 := figs_lt (B * 10 ^ (figs A - figs B))
  rw [Nat.le_div_iff_mul_le hE, Nat.div_lt_iff_lt_mul hE]
  obtain ⟨q, rfl⟩ : ∃ q, p = q + 1 := ⟨p - 1, by omega⟩
  rw [Nat.add_sub_cancel]
  have hf := figs_pos (A * 10 ^ (figs B - figs A))
  obtain ⟨f, hf⟩ : ∃ f, figs (A * 10 ^ (figs B - figs A)) = f + 1 := ⟨figs (A * 10 ^ (figs B - figs A)) - 1, by omega⟩
  rw [hF] at b0 b1
  rw [hf] at a0 a1 b0 b1
  rw [Nat.add_sub_cancel] at a0 b0
  rw [ten_succ] at a1 b1
  unfold quoU
  have hq := ten_pos q
  split
  · next h =>
    rw [show A * 10 ^ (figs B - figs A + 1 + q) = 10 * (A * 10 ^ (figs B - figs A)) * 10 ^ q by rw [Nat.pow_add, Nat.pow_succ]; ac_rfl, ten_succ]
    generalize A * 10 ^ (figs B - figs A) = a at *
    generalize B * 10 ^ (figs A - figs B) = b at *
    constructor
    · rw [Nat.mul_comm]; exact Nat.mul_le_mul_right _ (by omega)
    · rw [Nat.mul_right_comm 10 (10 ^ q) b]; exact Nat.mul_lt_mul_of_pos_right (show 10 * a < 10 * b by omega) hq
  · next h =>
    rw [show A * 10 ^ (figs B - figs A + 0 + q) = A * 10 ^ (figs B - figs A) * 10 ^ q by rw [Nat.add_zero, Nat.pow_add]; ac_rfl, ten_succ]
    generalize A * 10 ^ (figs B - figs A) = a at *
    generalize B * 10 ^ (figs A - figs B) = b at *
    constructor
    · rw [Nat.mul_comm]; exact Nat.mul_le_mul_right _ (by omega)
    · rw [Nat.mul_right_comm 10 (10 ^ q) b]; exact Nat.mul_lt_mul_of_pos_right (show a < 10 * b by omega) hq
end Go.Proofs.YtgdpljjmnmapmaaGreatDoor

namespace Go.Proofs.YtgdpljjmnmapmaaGreatDoor
/-- To the nearest: off by half at most. -/
theorem rndF_near (neg : Bool) (D E : Nat) (hE : 0 < E) : 2 * D ≤ 2 * (E * rndF neg D E 2) + E ∧ 2 * (E * rndF neg D E 2) ≤ 2 * D + E := by
  have h := Nat.div_add_mod D E
  have h1 := Nat.mod_lt D hE
  unfold rndF
  split
  · omega
  · split
    · next h2 =>
      have h3 : E ≤ 2 * (D % E) := by
        unfold awayN ord3 at h2
        apply Decidable.byContradiction
        intro h4
        rw [if_pos (by omega)] at h2
        simp at h2
      rw [Nat.mul_add]
      omega
    · next h2 =>
      have h3 : 2 * (D % E) ≤ E := by
        unfold awayN ord3 at h2
        apply Decidable.byContradiction
        intro h4
        rw [if_neg (by omega), if_pos (by omega)] at h2
        simp at h2
      omega
theorem rnd_same (n : Bool) {C p m : Nat} (hp : 1 ≤ p) (h : p < figs C) : rndN n C p m * 10 ^ rndK n C p m = cutN n C (figs C - p) m * 10 ^ (figs C - p) := by
  unfold rndN rndK
  rw [if_neg (show ¬ figs C ≤ p by omega), if_neg (show ¬ figs C ≤ p by omega)]
  by_cases ho : figs (cutN n C (figs C - p) m) > p
  · rw [if_pos ho, if_pos ho, cutN_over hp h ho]
    obtain ⟨q, rfl⟩ : ∃ q, p = q + 1 := ⟨p - 1, by omega⟩
    rw [ten_succ q, Nat.mul_div_cancel_left _ (by omega), ten_succ, Nat.mul_comm (10 ^ q), Nat.mul_assoc, Nat.mul_assoc, Nat.mul_comm _ (10 ^ q)]
  · rw [if_neg ho, if_neg ho]
/-- Rounded to the nearest: off by less than one in twice 10^(p-1). -/
theorem rnd_near (n : Bool) {C p : Nat} (hp : 1 ≤ p) : 2 * 10 ^ (p - 1) * (rndN n C p 2 * 10 ^ rndK n C p 2) ≤ (2 * 10 ^ (p - 1) + 1) * C ∧ 2 * 10 ^ (p - 1) * C ≤ 2 * 10 ^ (p - 1) * (rndN n C p 2 * 10 ^ rndK n C p 2) + C := by
  by_cases h : figs C ≤ p
  · rw [show rndN n C p 2 = C by unfold rndN; rw [if_pos h], show rndK n C p 2 = 0 by unfold rndK; rw [if_pos h], Nat.pow_zero, Nat.mul_one, Nat.add_mul]
    omega
  · rw [rnd_same n hp (by omega), cutN_rndF]
    have h1 := rndF_near n C (10 ^ (figs C - p)) (ten_pos _)
    have h2 := figs_ge (n := C) (by rintro rfl; rw [figs_zero] at h; omega)
    rw [show figs C - 1 = (p - 1) + (figs C - p) by omega, Nat.pow_add] at h2
    rw [Nat.mul_comm (rndF ..)]
    generalize 10 ^ (figs C - p) * rndF n C (10 ^ (figs C - p)) 2 = v at *
    generalize 10 ^ (figs C - p) = t at *
    generalize 10 ^ (p - 1) = q at *
    have h3 := Nat.mul_le_mul_left q h1.1
    have h4 := Nat.mul_le_mul_left q h1.2
    constructor <;> grind
/-- A quotient rounded to the nearest. -/
theorem quo_near (n : Bool) {D E p : Nat} (hE : 0 < E) (h : 10 ^ (p - 1) ≤ D / E) : 2 * 10 ^ (p - 1) * (E * rndF n D E 2) ≤ (2 * 10 ^ (p - 1) + 1) * D ∧ 2 * 10 ^ (p - 1) * D ≤ 2 * 10 ^ (p - 1) * (E * rndF n D E 2) + D := by
  rw [Nat.le_div_iff_mul_le hE] at h
  have h1 := rndF_near n D E hE
  generalize E * rndF n D E 2 = v at *
  generalize 10 ^ (p - 1) = q at *
  have h3 := Nat.mul_le_mul_left q h1.1
  have h4 := Nat.mul_le_mul_left q h1.2
  constructor <;> grind

/-- A decimal's value in units of 10^-S. -/
def dval (S C : Nat) (e : Int) : Nat := C * 10 ^ (e + S).toNat
theorem val_pow (S C k : Nat) (e : Int) (h : 0 ≤ e + S) : dval S (C * 10 ^ k) e = dval S C (e + k) := by
  unfold dval
  rw [show (e + (k : Int) + S).toNat = k + (e + S).toNat by omega, Nat.pow_add, Nat.mul_assoc]
theorem val_mul (S A B : Nat) (a b : Int) (ha : 0 ≤ a + S) (hb : 0 ≤ b + S) : dval S A a * dval S B b = dval (2 * S) (A * B) (a + b) := by
  unfold dval
  rw [show (a + b + ((2 * S : Nat) : Int)).toNat = (a + S).toNat + (b + S).toNat by omega, Nat.pow_add]
  ac_rfl
theorem val_add (S A B : Nat) (e : Int) : dval S (A + B) e = dval S A e + dval S B e := Nat.add_mul ..
theorem val_pos {S A : Nat} {e : Int} (h : 0 < A) : 0 < dval S A e := Nat.mul_pos h (ten_pos _)

/-- A quotient of p figures, and what its exponent is beside the difference of the two. -/
def qC (A B p : Nat) : Nat := rndF false (A * 10 ^ (quoU A B + (p - 1))) (B * 10 ^ (figs A - figs B)) 2
def qE (A B p : Nat) : Int := ((figs A - figs B : Nat) : Int) - (quoU A B + (p - 1) : Nat)
theorem q_val {S A B p : Nat} {a b : Int} (hA : A ≠ 0) (hB : B ≠ 0) (hp : 1 ≤ p) (hb : 0 ≤ b + S) (hs : 0 ≤ a - b + qE A B p + S) (ha : 0 ≤ a + 2 * S - (quoU A B + (p - 1) : Nat)) :
    2 * 10 ^ (p - 1) * (dval S (qC A B p) (a - b + qE A B p) * dval S B b) ≤ (2 * 10 ^ (p - 1) + 1) * dval (2 * S) A a ∧ 2 * 10 ^ (p - 1) * dval (2 * S) A a ≤ 2 * 10 ^ (p - 1) * (dval S (qC A B p) (a - b + qE A B p) * dval S B b) + dval (2 * S) A a := by
  have hE : 0 < B * 10 ^ (figs A - figs B) := Nat.mul_pos (by omega) (ten_pos _)
  have h := quo_near false hE (quoU_le (p := p) hA hB hp).1
  rw [val_mul S _ _ _ _ hs hb]
  obtain ⟨w, hw⟩ : ∃ w : Nat, a + 2 * S - (quoU A B + (p - 1) : Nat) = (w : Int) := ⟨_, (Int.toNat_of_nonneg ha).symm⟩
  have e1 : dval (2 * S) (qC A B p * B) (a - b + qE A B p + b) = B * 10 ^ (figs A - figs B) * qC A B p * 10 ^ w := by
    unfold dval qE
    rw [show (a - b + (((figs A - figs B : Nat) : Int) - (quoU A B + (p - 1) : Nat)) + b + ((2 * S : Nat) : Int)).toNat = (figs A - figs B) + w by omega, Nat.pow_add]
    ac_rfl
  have e2 : dval (2 * S) A a = A * 10 ^ (quoU A B + (p - 1)) * 10 ^ w := by
    unfold dval
    rw [show (a + ((2 * S : Nat) : Int)).toNat = (quoU A B + (p - 1)) + w by omega, Nat.pow_add, Nat.mul_assoc]
  rw [e1, e2]
  unfold qC
  generalize A * 10 ^ (quoU A B + (p - 1)) = D at *
  generalize B * 10 ^ (figs A - figs B) = E at *
  generalize E * rndF false D E 2 = v at *
  have h3 := Nat.mul_le_mul_right (10 ^ w) h.1
  have h4 := Nat.mul_le_mul_right (10 ^ w) h.2
  constructor <;> grind
theorem r_val {S C p : Nat} {e : Int} (hp : 1 ≤ p) (he : 0 ≤ e + S) :
    2 * 10 ^ (p - 1) * dval S (rndN false C p 2) (e + rndK false C p 2) ≤ (2 * 10 ^ (p - 1) + 1) * dval S C e ∧ 2 * 10 ^ (p - 1) * dval S C e ≤ 2 * 10 ^ (p - 1) * dval S (rndN false C p 2) (e + rndK false C p 2) + dval S C e := by
  have h := rnd_near false (C := C) hp
  rw [← val_pow _ _ _ _ he]
  unfold dval
  generalize rndN false C p 2 * 10 ^ rndK false C p 2 = v at *
  generalize 10 ^ (e + S).toNat = t at *
  have h3 := Nat.mul_le_mul_right t h.1
  have h4 := Nat.mul_le_mul_right t h.2
  constructor <;> grind
theorem mulL {a b c : Int} (h : a ≤ b) (hc : 0 ≤ c) : c * a ≤ c * b := Int.mul_le_mul_of_nonneg_left h hc
theorem nw_up {P X T S Y F : Int} (hP : 0 < P) (hX : 0 < X) (ht : P * (T * X) ≤ (P + 1) * F) (hs : P * S ≤ (P + 1) * (X + T)) (hy : 2 * (P * Y) ≤ (P + 1) * S) :
    2 * P ^ 3 * (X * Y) ≤ (P + 1) ^ 2 * (P * X ^ 2 + (P + 1) * F) := by
  have h1 := mulL hy (c := P ^ 2 * X) (Int.mul_nonneg (Int.pow_nonneg (by omega)) (by omega))
  have h2 := mulL hs (c := (P + 1) * P * X) (Int.mul_nonneg (Int.mul_nonneg (by omega) (by omega)) (by omega))
  have h3 := mulL ht (c := (P + 1) ^ 2) (Int.pow_nonneg (by omega))
  grind
theorem nw_lo {P X T S Y F : Int} (hP : 1 < P) (hX : 0 < X) (ht : (P - 1) * F ≤ P * (T * X)) (hs : (P - 1) * (X + T) ≤ P * S) (hy : (P - 1) * S ≤ 2 * (P * Y)) :
    (P - 1) ^ 2 * (P * X ^ 2 + (P - 1) * F) ≤ 2 * P ^ 3 * (X * Y) := by
  have h1 := mulL hy (c := P ^ 2 * X) (Int.mul_nonneg (Int.pow_nonneg (by omega)) (by omega))
  have h2 := mulL hs (c := (P - 1) * P * X) (Int.mul_nonneg (Int.mul_nonneg (by omega) (by omega)) (by omega))
  have h3 := mulL ht (c := (P - 1) ^ 2) (Int.pow_nonneg (by omega))
  grind
theorem sq_nn (a : Int) : 0 ≤ a ^ 2 := by
  rcases Int.le_total 0 a with h | h
  · exact Int.pow_nonneg h
  · have := Int.pow_nonneg (m := 2) (show 0 ≤ -a by omega)
    grind
theorem sq_le {a b : Int} (ha : 0 ≤ a) (h : a ≤ b) : a ^ 2 ≤ b ^ 2 := by
  have h1 := mulL h ha
  have h2 := Int.mul_le_mul_of_nonneg_right h (show 0 ≤ b by omega)
  grind
/-- The lower side: no square is too small. -/
theorem nw_lo2 {P X T S Y F : Int} (hP : 1 < P) (hX : 0 < X) (hF : 0 < F) (ht : (P - 1) * F ≤ P * (T * X)) (hs : (P - 1) * (X + T) ≤ P * S) (hy : (P - 1) * S ≤ 2 * (P * Y)) :
    (P - 1) ^ 5 * F ≤ P ^ 5 * Y ^ 2 := by
  have h := nw_lo hP hX ht hs hy
  have hU : 0 ≤ P * X ^ 2 + (P - 1) * F := by
    have := Int.mul_nonneg (show 0 ≤ P by omega) (Int.pow_nonneg (m := 2) (show 0 ≤ X by omega))
    have := Int.mul_nonneg (show 0 ≤ P - 1 by omega) (show 0 ≤ F by omega)
    omega
  have h2 := sq_le (Int.mul_nonneg (Int.pow_nonneg (m := 2) (show 0 ≤ P - 1 by omega)) hU) h
  have h3 : 4 * (P * X ^ 2) * ((P - 1) * F) ≤ (P * X ^ 2 + (P - 1) * F) ^ 2 := by
    have : 0 ≤ (P * X ^ 2 - (P - 1) * F) ^ 2 := sq_nn _
    grind
  have h4 := mulL h3 (c := (P - 1) ^ 4) (Int.pow_nonneg (by omega))
  have h5 : 4 * P * X ^ 2 * ((P - 1) ^ 5 * F) ≤ 4 * P * X ^ 2 * (P ^ 5 * Y ^ 2) := by grind
  have h6 : 0 < 4 * P * X ^ 2 := Int.mul_pos (by omega) (Int.pow_pos hX)
  exact Int.le_of_mul_le_mul_left h5 h6
/-- the upper side; D = X^2 - F -/
theorem nw_up2 {P X T S Y F a e : Int} (hP : 0 < P) (hX : 0 < X) (hF : 0 < F) (he : 0 ≤ e) (hea : e < a) (ht : P * (T * X) ≤ (P + 1) * F) (hs : P * S ≤ (P + 1) * (X + T)) (hy : 2 * (P * Y) ≤ (P + 1) * S) (hY : 0 ≤ Y)
    (h1 : a * (X ^ 2 - F) ≤ e * F) (h2 : a * (F - X ^ 2) ≤ e * F) :
    4 * P ^ 6 * Y ^ 2 * (a * (a - e)) ≤ (P + 1) ^ 4 * F * (4 * P * (P + 1) * (a * (a - e)) + (P * e + a) ^ 2) := by
  have h := nw_up hP hX ht hs hy
  have hl : 0 ≤ 2 * P ^ 3 * (X * Y) := Int.mul_nonneg (Int.mul_nonneg (by omega) (Int.pow_nonneg (by omega))) (Int.mul_nonneg (by omega) hY)
  have g1 := sq_le hl h
  have hV : (P * X ^ 2 + (P + 1) * F) ^ 2 = 4 * P * (P + 1) * X ^ 2 * F + (P * (X ^ 2 - F) - F) ^ 2 := by grind
  have b1 : a * (P * (X ^ 2 - F) - F) ≤ (P * e + a) * F := by
    have := mulL h1 (c := P) (by omega)
    have := Int.mul_nonneg (show 0 ≤ a by omega) (show 0 ≤ F by omega)
    grind
  have b2 : -((P * e + a) * F) ≤ a * (P * (X ^ 2 - F) - F) := by
    have := mulL h2 (c := P) (by omega)
    grind
  have b3 : (a * (P * (X ^ 2 - F) - F)) ^ 2 ≤ ((P * e + a) * F) ^ 2 := by
    rcases Int.le_total 0 (a * (P * (X ^ 2 - F) - F)) with h0 | h0
    · exact sq_le h0 b1
    · have := sq_le (a := -(a * (P * (X ^ 2 - F) - F))) (b := (P * e + a) * F) (by omega) (by omega)
      grind
  have c1 : (a - e) * F ≤ a * X ^ 2 := by grind
  have c2 : (a - e) * ((P * e + a) * F) ^ 2 ≤ a * X ^ 2 * ((P * e + a) ^ 2 * F) := by
    have := mulL c1 (c := (P * e + a) ^ 2 * F) (Int.mul_nonneg (Int.pow_nonneg (by have := Int.mul_nonneg (show 0 ≤ P by omega) he; omega)) (by omega))
    grind
  have c3 := mulL b3 (c := a - e) (by omega)
  have c4 : (a - e) * a * (P * (X ^ 2 - F) - F) ^ 2 * a ≤ X ^ 2 * ((P * e + a) ^ 2 * F) * a := by grind
  have c5 := Int.le_of_mul_le_mul_right c4 (show 0 < a by omega)
  have d1 : (a * (a - e)) * (P * X ^ 2 + (P + 1) * F) ^ 2 ≤ X ^ 2 * (F * (4 * P * (P + 1) * (a * (a - e)) + (P * e + a) ^ 2)) := by
    rw [hV]; grind
  have d2 := mulL d1 (c := (P + 1) ^ 4) (Int.pow_nonneg (by omega))
  have d3 := mulL g1 (c := a * (a - e)) (Int.mul_nonneg (by omega) (by omega))
  have d4 : X ^ 2 * (4 * P ^ 6 * Y ^ 2 * (a * (a - e))) ≤ X ^ 2 * ((P + 1) ^ 4 * F * (4 * P * (P + 1) * (a * (a - e)) + (P * e + a) ^ 2)) := by grind
  exact Int.le_of_mul_le_mul_left d4 (Int.pow_pos hX)
/-- What a square may be off by; a = 10^p of the digits. -/
def Near (a e F X : Int) : Prop := a * (X ^ 2 - F) ≤ e * F ∧ a * (F - X ^ 2) ≤ e * F
theorem nw_step {P X T S Y F a e g : Int} (hP : 2000 ≤ P) (hX : 0 < X) (hF : 0 < F) (he : 0 ≤ e) (hea : e < a) (ht1 : P * (T * X) ≤ (P + 1) * F) (ht2 : (P - 1) * F ≤ P * (T * X)) (hs1 : P * S ≤ (P + 1) * (X + T)) (hs2 : (P - 1) * (X + T) ≤ P * S)
    (hy1 : 2 * (P * Y) ≤ (P + 1) * S) (hy2 : (P - 1) * S ≤ 2 * (P * Y)) (hY : 0 ≤ Y) (hn : Near a e F X) (hpa : 500 * P ≤ a ^ 2) (hap : 2 * a ≤ P) (hg : 0 ≤ g ∧ g ≤ 83) (hge : (2 * e + 1) ^ 2 * a ≤ 1600 * g * (a - e)) :
    Near (5 * P) (26 + g) F Y := by
  obtain ⟨hg0, hg1⟩ := hg
  constructor
  · have h := nw_up2 (show 0 < P by omega) hX hF he hea ht1 hs1 hy1 hY hn.1 hn.2
    have hA : 0 < a * (a - e) := Int.mul_pos (by omega) (by omega)
    -- (P e + a)^2 <= (4/5) P g A
    have h1 : (2 * (P * e + a)) ^ 2 ≤ (P * (2 * e + 1)) ^ 2 := sq_le (by have := Int.mul_nonneg (show 0 ≤ P by omega) he; omega) (by grind)
    have h2 := mulL hge (c := a) (by omega)
    have h3 : (2 * e + 1) ^ 2 * (500 * P) ≤ 1600 * g * (a * (a - e)) := by
      have := mulL hpa (c := (2 * e + 1) ^ 2) (sq_nn _)
      grind
    have h4 : 5 * (P * e + a) ^ 2 ≤ 4 * P * g * (a * (a - e)) := by
      have := mulL h3 (c := P) (by omega)
      grind
    generalize a * (a - e) = A at *
    have h5 : (P + 1) ^ 4 * F * (5 * (P * e + a) ^ 2) ≤ (P + 1) ^ 4 * F * (4 * P * g * A) := mulL h4 (Int.mul_nonneg (Int.pow_nonneg (by omega)) (by omega))
    have h6 : (4 * P * A) * (5 * P ^ 5 * Y ^ 2) ≤ (4 * P * A) * ((P + 1) ^ 4 * (5 * P + 5 + g) * F) := by grind
    have h7 := Int.le_of_mul_le_mul_left h6 (Int.mul_pos (by omega) hA)
    have p1 := mulL hP (c := P) (by omega)
    have p2 := mulL hP (c := P ^ 2) (sq_nn _)
    have p3 := mulL hP (c := P ^ 3) (Int.pow_nonneg (by omega))
    have q1 := mulL hg1 (c := P) (by omega)
    have q2 := mulL hg1 (c := P ^ 2) (sq_nn _)
    have q3 := mulL hg1 (c := P ^ 3) (Int.pow_nonneg (by omega))
    have h8 : (P + 1) ^ 4 * (5 * P + 5 + g) ≤ P ^ 4 * (5 * P + 26 + g) := by grind
    have h9 := mulL h8 (c := F) (by omega)
    have h10 : P ^ 4 * (5 * P * (Y ^ 2 - F)) ≤ P ^ 4 * ((26 + g) * F) := by grind
    exact Int.le_of_mul_le_mul_left h10 (Int.pow_pos (by omega))
  · have h := nw_lo2 (show 1 < P by omega) hX hF ht2 hs2 hy2
    have h8 : P ^ 4 * (P - 5) ≤ (P - 1) ^ 5 := by
      have p1 := mulL hP (c := P) (by omega)
      have p2 := mulL hP (c := P ^ 2) (sq_nn _)
      grind
    have h9 := mulL h8 (c := F) (by omega)
    have h11 : P ^ 4 * (5 * P * (F - Y ^ 2)) ≤ P ^ 4 * (25 * F) := by grind
    have h12 := Int.le_of_mul_le_mul_left h11 (Int.pow_pos (by omega))
    have := Int.mul_nonneg hg0 (show 0 ≤ F by omega)
    grind

theorem val_half {S C : Nat} {e : Int} (h : 0 ≤ e - 1 + S) : 2 * dval S (C * 5) (e - 1) = dval S C e := by
  unfold dval
  rw [show (e + (S : Int)).toNat = (e - 1 + S).toNat + 1 by omega, ten_succ]
  generalize 10 ^ (e - 1 + (S : Int)).toNat = t
  grind
theorem ten_int (p : Nat) (hp : 1 ≤ p) : (10 : Int) ^ p = 5 * ((2 * 10 ^ (p - 1) : Nat) : Int) := by
  obtain ⟨q, rfl⟩ : ∃ q, p = q + 1 := ⟨p - 1, by omega⟩
  rw [Nat.add_sub_cancel, Int.pow_succ]
  push_cast
  omega
/-- The iteration's parts: the quotient's exponent, the sum, half of it. -/
def stQ (F : Nat) (eF : Int) (C : Nat) (e : Int) (p : Nat) : Int := eF - e + qE F C p
def stSum (F : Nat) (eF : Int) (C : Nat) (e : Int) (p : Nat) : Nat := qC F C p * 10 ^ (stQ F eF C e p - min (stQ F eF C e p) e).toNat + C * 10 ^ (e - min (stQ F eF C e p) e).toNat
theorem st_sum {S F C p : Nat} {eF e : Int} (h1 : 0 ≤ stQ F eF C e p + S) (h2 : 0 ≤ e + S) : dval S (stSum F eF C e p) (min (stQ F eF C e p) e) = dval S (qC F C p) (stQ F eF C e p) + dval S C e := by
  unfold stSum
  rw [val_add, val_pow _ _ _ _ (by omega), val_pow _ _ _ _ (by omega)]
  rw [show min (stQ F eF C e p) e + ((stQ F eF C e p - min (stQ F eF C e p) e).toNat : Int) = stQ F eF C e p by omega, show min (stQ F eF C e p) e + ((e - min (stQ F eF C e p) e).toNat : Int) = e by omega]
def stH (F : Nat) (eF : Int) (C : Nat) (e : Int) (p : Nat) : Nat := rndN false (stSum F eF C e p) p 2
def stHe (F : Nat) (eF : Int) (C : Nat) (e : Int) (p : Nat) : Int := min (stQ F eF C e p) e + rndK false (stSum F eF C e p) p 2
def stY (F : Nat) (eF : Int) (C : Nat) (e : Int) (p : Nat) : Nat := rndN false (stH F eF C e p * 5) p 2
def stYe (F : Nat) (eF : Int) (C : Nat) (e : Int) (p : Nat) : Int := stHe F eF C e p - 1 + rndK false (stH F eF C e p * 5) p 2
theorem twoU {P Y H : Int} (h : P * Y ≤ (P + 1) * H) : 2 * (P * Y) ≤ (P + 1) * (2 * H) := by grind
theorem twoL {P Y H : Int} (h : P * H ≤ P * Y + H) : (P - 1) * (2 * H) ≤ 2 * (P * Y) := by grind
theorem st_near {S F C p : Nat} {eF e : Int} {a k g : Int} (hp : 4 ≤ p) (hF : F ≠ 0) (hC : C ≠ 0) (h1 : 1 ≤ stQ F eF C e p + S) (h2 : 1 ≤ e + S) (h3 : 0 ≤ eF + 2 * S - (quoU F C + (p - 1) : Nat))
    (hk : 0 ≤ k) (hka : k < a) (hn : Near a k (dval (2 * S) F eF : Nat) (dval S C e : Nat)) (hpa : 500 * ((2 * 10 ^ (p - 1) : Nat) : Int) ≤ a ^ 2) (hap : 2 * a ≤ ((2 * 10 ^ (p - 1) : Nat) : Int)) (hg : 0 ≤ g ∧ g ≤ 83) (hge : (2 * k + 1) ^ 2 * a ≤ 1600 * g * (a - k)) :
    Near (10 ^ p) (26 + g) (dval (2 * S) F eF : Nat) (dval S (stY F eF C e p) (stYe F eF C e p) : Nat) := by
  have q := q_val (S := S) (p := p) (a := eF) (b := e) hF hC (by omega) (by omega) (by unfold stQ at h1; omega) h3
  have su := st_sum (S := S) (F := F) (C := C) (p := p) (eF := eF) (e := e) (by omega) (by omega)
  have r := r_val (S := S) (C := stSum F eF C e p) (p := p) (e := min (stQ F eF C e p) e) (by omega) (by omega)
  have y := r_val (S := S) (C := stH F eF C e p * 5) (p := p) (e := stHe F eF C e p - 1) (by omega) (by unfold stHe; omega)
  have hh := val_half (S := S) (C := stH F eF C e p) (e := stHe F eF C e p) (by unfold stHe; omega)
  change _ ∧ _ ≤ _ * dval S (stH F eF C e p) (stHe F eF C e p) + _ at r
  change 2 * 10 ^ (p - 1) * dval S (stH F eF C e p) (stHe F eF C e p) ≤ _ ∧ _ at r
  rw [su] at r
  change 2 * 10 ^ (p - 1) * dval S (stY F eF C e p) (stYe F eF C e p) ≤ _ ∧ _ ≤ 2 * 10 ^ (p - 1) * dval S (stY F eF C e p) (stYe F eF C e p) + _ at y
  change 2 * 10 ^ (p - 1) * (dval S (qC F C p) (stQ F eF C e p) * dval S C e) ≤ _ ∧ _ ≤ 2 * 10 ^ (p - 1) * (dval S (qC F C p) (stQ F eF C e p) * dval S C e) + _ at q
  rw [ten_int p (by omega)]
  have hP : 2000 ≤ 2 * 10 ^ (p - 1) := by have := ten_le (show 3 ≤ p - 1 by omega); omega
  have hX : 0 < dval S C e := val_pos (by omega)
  have hFv : 0 < dval (2 * S) F eF := val_pos (by omega)
  generalize dval S C e = X at *
  generalize dval (2 * S) F eF = V at *
  generalize dval S (qC F C p) (stQ F eF C e p) = T at *
  generalize dval S (stH F eF C e p) (stHe F eF C e p) = H at *
  generalize dval S (stH F eF C e p * 5) (stHe F eF C e p - 1) = H5 at *
  generalize dval S (stY F eF C e p) (stYe F eF C e p) = Y at *
  generalize 2 * 10 ^ (p - 1) = P at *
  obtain ⟨q1, q2⟩ := q
  obtain ⟨r1, r2⟩ := r
  obtain ⟨y1, y2⟩ := y
  refine nw_step (P := (P : Int)) (X := (X : Int)) (T := (T : Int)) (S := (H : Int)) (Y := (Y : Int)) (F := (V : Int)) (by omega) (by omega) (by omega) hk hka ?_ ?_ ?_ ?_ ?_ ?_ (by omega) hn hpa hap hg hge
  · exact_mod_cast q1
  · have : (P : Int) * V ≤ P * (T * X) + V := by exact_mod_cast q2
    grind
  · rw [Int.add_comm (X : Int) T]; exact_mod_cast r1
  · have : (P : Int) * (T + X) ≤ P * H + (T + X) := by exact_mod_cast r2
    grind
  · have y3 : (P : Int) * Y ≤ (P + 1) * H5 := by exact_mod_cast y1
    rw [show (H : Int) = 2 * H5 by omega]
    exact twoU y3
  · have y3 : (P : Int) * H5 ≤ P * Y + H5 := by exact_mod_cast y2
    rw [show (H : Int) = 2 * H5 by omega]
    exact twoL y3
end Go.Proofs.YtgdpljjmnmapmaaGreatDoor

namespace Go.Proofs.YtgdpljjmnmapmaaGreatDoor
theorem quo_law {A B p k : Nat} (n : Bool) (m : Nat) (hA : A ≠ 0) (hB : B ≠ 0) (hp : 1 ≤ p) (hk : p + 2 + figs B ≤ figs A + k) {q D E : Nat} (hq : sticky (A * 10 ^ k) B = q) (hD : A * 10 ^ (quoU A B + (p - 1)) = D) (hE : B * 10 ^ (figs A - figs B) = E) :
    p < figs q ∧ rndN n q p m * 10 ^ rndK n q p m = rndF n D E m * 10 ^ (figs q - p) ∧ inexN q (figs q - p) = (!decide (D % E = 0)) ∧ ((figs q - p : Nat) : Int) - k - 1 = qE A B p := by
  have h1 := sticky_figs hA hB hk
  have h2 := quoU_le (p := p) hA hB hp
  obtain ⟨h3, h4, h5⟩ := quo_two (A := A) (B := B) (p := p) (k := k) (u := quoU A B + (p - 1)) (v := figs A - figs B) n m (by omega) hp h1 h2.1 h2.2
  rw [hq] at h1 h3 h4 h5
  rw [hD, hE] at h3 h4
  refine ⟨by omega, ?_, h4, ?_⟩
  · rw [rnd_same n hp (by omega), h3]
  · unfold qE; omega
/-- The code's coefficient has not more figures than asked for, but where it is rounded up to a power of ten. -/
theorem quo_figs {A B p : Nat} (n : Bool) (m : Nat) (hA : A ≠ 0) (hB : B ≠ 0) (hp : 1 ≤ p) {D E : Nat} (hD : A * 10 ^ (quoU A B + (p - 1)) = D) (hE : B * 10 ^ (figs A - figs B) = E) :
    figs (rndF n D E m) ≤ p ∨ (rndF n D E m = 10 ^ p ∧ D % E ≠ 0) := by
  have h2 := (quoU_le (p := p) hA hB hp).2
  rw [hD, hE] at h2
  have h3 := rndF_le n D E m
  by_cases h : rndF n D E m < 10 ^ p
  · left; exact (figs_le_iff hp).2 h
  · right
    refine ⟨by omega, fun h0 => ?_⟩
    unfold rndF at h
    rw [if_pos h0] at h
    omega
/-- There the reference's coefficient is a power of ten as well. -/
theorem quo_ten {A B p k : Nat} (n : Bool) (m : Nat) (hA : A ≠ 0) (hB : B ≠ 0) (hp : 1 ≤ p) (hk : p + 2 + figs B ≤ figs A + k) {q D E : Nat} (hq : sticky (A * 10 ^ k) B = q) (hD : A * 10 ^ (quoU A B + (p - 1)) = D) (hE : B * 10 ^ (figs A - figs B) = E) (h : rndF n D E m = 10 ^ p) :
    rndN n q p m = 10 ^ (p - 1) ∧ rndX q p = true := by
  have h1 := sticky_figs hA hB hk
  have h2 := quoU_le (p := p) hA hB hp
  obtain ⟨h3, h4, _⟩ := quo_two (A := A) (B := B) (p := p) (k := k) (u := quoU A B + (p - 1)) (v := figs A - figs B) n m (by omega) hp h1 h2.1 h2.2
  rw [hq] at h1 h3 h4
  rw [hD, hE] at h3 h4 h2
  have hne : D % E ≠ 0 := by
    intro h0
    unfold rndF at h
    rw [if_pos h0] at h
    omega
  constructor
  · unfold rndN
    rw [if_neg (by omega), h3, h, figs_pow, if_pos (by omega)]
    obtain ⟨j, rfl⟩ : ∃ j, p = j + 1 := ⟨p - 1, by omega⟩
    rw [Nat.add_sub_cancel, ten_succ, Nat.mul_div_cancel_left _ (by omega)]
  · unfold rndX
    rw [if_neg (by omega), h4]
    simp [hne]
end Go.Proofs.YtgdpljjmnmapmaaGreatDoor

namespace Go.Proofs.YtgdpljjmnmapmaaGreatDoor

theorem awayN_sg {n : Bool} {l m : Nat} {h : Int} (hm : n = true → m ≠ 3 ∧ m ≠ 4) : awayN n l h m = awayN false l h m := by
  cases n with
  | false => rfl
  | true =>
    obtain ⟨h3, h4⟩ := hm rfl
    match m, h3, h4 with
    | 0, _, _ => rfl
    | 1, _, _ => rfl
    | 2, _, _ => rfl
    | 3, h3, _ => exact absurd rfl h3
    | 4, _, h4 => exact absurd rfl h4
    | 5, _, _ => rfl
    | 6, _, _ => rfl
    | 7, _, _ => rfl
    | _ + 8, _, _ => rfl
/-- Cutting without the sign, but for the modes that look at it. -/
theorem cutN_sg {n : Bool} {N k m : Nat} (hm : n = true → m ≠ 3 ∧ m ≠ 4) : cutN n N k m = cutN false N k m := by
  unfold cutN
  rw [awayN_sg hm]
theorem scale_eq {a b s t i j : Nat} (h : a * 10 ^ s = b * 10 ^ t) (hij : s + j = t + i) : a * 10 ^ i = b * 10 ^ j := by
  have h1 : a * 10 ^ i * 10 ^ (s + j) = b * 10 ^ j * 10 ^ (s + j) := by
    rw [show a * 10 ^ i * 10 ^ (s + j) = a * 10 ^ s * (10 ^ i * 10 ^ j) by rw [Nat.pow_add]; ac_rfl, h, hij, Nat.pow_add]
    ac_rfl
  exact Nat.eq_of_mul_eq_mul_right (ten_pos _) h1
/-- A power of ten whose noughts are off. -/
theorem bare_ten {C i j : Nat} (h : C * 10 ^ i = 10 ^ j) (hC : C % 10 ≠ 0) : C = 1 := by
  rcases Nat.lt_or_ge i j with hij | hij
  · have h1 : C = 10 ^ (j - i) := by
      have : C * 10 ^ i = 10 ^ (j - i) * 10 ^ i := by rw [h, ← Nat.pow_add]; congr 1; omega
      exact Nat.eq_of_mul_eq_mul_right (ten_pos i) this
    obtain ⟨q, hq⟩ : ∃ q, j - i = q + 1 := ⟨j - i - 1, by omega⟩
    rw [h1, hq, ten_succ] at hC
    omega
  · have h2 := ten_pos j
    have h3 : C * 10 ^ (i - j) = 1 := by
      have : C * 10 ^ (i - j) * 10 ^ j = 1 * 10 ^ j := by rw [Nat.mul_assoc, ← Nat.pow_add, Nat.one_mul, ← h]; congr 2; omega
      exact Nat.eq_of_mul_eq_mul_right h2 this
    have h4 := ten_pos (i - j)
    exact Nat.eq_one_of_mul_eq_one_right h3
theorem rndX_iff {C p : Nat} (h : p < figs C) : rndX C p = inexN C (figs C - p) := by unfold rndX; rw [if_neg (by omega)]
/-- The reference's quotient is not too long. -/
theorem sticky_ten {A B k j : Nat} (_hB : B ≠ 0) (h : A < 10 ^ j) : sticky (A * 10 ^ k) B < 10 ^ (j + k + 1) := by
  have h1 : A * 10 ^ k < 10 ^ (j + k) := by rw [Nat.pow_add]; exact Nat.mul_lt_mul_of_pos_right h (ten_pos k)
  have h2 := Nat.div_le_self (A * 10 ^ k) B
  have h3 := ten_succ (j + k)
  unfold sticky
  split <;> omega
end Go.Proofs.YtgdpljjmnmapmaaGreatDoor
