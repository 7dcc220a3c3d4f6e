/- Decimal figures and rounding of natural numbers: plain facts, no program. Fractions rounded to whole numbers, and the reference's quotient with a figure that tells of the rest: plain facts, no program. -/

namespace Go.Proofs.YtcoljeafgiemkaaGreatDoor

def figsF : Nat → Nat → Nat
  | 0, _ => 1
  | f + 1, n => if n < 10 then 1 else figsF f (n / 10) + 1
/-- How many decimal figures a number has; 0 has one. -/
def figs (n : Nat) : Nat := figsF n n
theorem ten_pos (k : Nat) : 0 < 10 ^ k := Nat.pow_pos (by omega)
theorem ten_succ (k : Nat) : 10 ^ (k + 1) = 10 * 10 ^ k := by rw [Nat.pow_succ, Nat.mul_comm]
theorem ten_le {a b : Nat} (h : a ≤ b) : 10 ^ a ≤ 10 ^ b := Nat.pow_le_pow_right (by omega) h
theorem ten_lt {a b : Nat} (h : a < b) : 10 ^ a < 10 ^ b := Nat.pow_lt_pow_right (by omega) h
theorem ten_lt_iff {a b : Nat} : 10 ^ a < 10 ^ b ↔ a < b := by
  refine ⟨fun h => ?_, ten_lt⟩
  rcases Nat.lt_or_ge a b with h1 | h1
  · exact h1
  · have := ten_le h1; omega
theorem figsF_spec (f : Nat) : ∀ n, n ≤ f → 1 ≤ figsF f n ∧ n < 10 ^ figsF f n ∧ (n ≠ 0 → 10 ^ (figsF f n - 1) ≤ n) := by
  induction f with
  | zero => intro n hn; obtain rfl : n = 0 := by omega
            exact ⟨Nat.le_refl _, by decide, fun h => absurd rfl h⟩
  | succ f ih =>
    intro n hn
    unfold figsF
    by_cases h : n < 10
    · rw [if_pos h]; exact ⟨Nat.le_refl _, by simpa using h, fun h0 => by simp; omega⟩
    · rw [if_neg h]
      obtain ⟨h1, h2, h3⟩ := ih (n / 10) (by omega)
      have h3 := h3 (by omega)
      refine ⟨by omega, ?_, fun _ => ?_⟩
      · rw [ten_succ]; omega
      · rw [Nat.add_sub_cancel]
        obtain ⟨m, hm⟩ : ∃ m, figsF f (n / 10) = m + 1 := ⟨figsF f (n / 10) - 1, by omega⟩
        rw [hm] at h3 ⊢
        rw [Nat.add_sub_cancel] at h3
        rw [ten_succ]; omega
theorem figs_pos (n : Nat) : 1 ≤ figs n := (figsF_spec n n (Nat.le_refl _)).1
theorem figs_lt (n : Nat) : n < 10 ^ figs n := (figsF_spec n n (Nat.le_refl _)).2.1
theorem figs_ge {n : Nat} (h : n ≠ 0) : 10 ^ (figs n - 1) ≤ n := (figsF_spec n n (Nat.le_refl _)).2.2 h
theorem figs_zero : figs 0 = 1 := rfl
theorem figs_le_iff {n k : Nat} (hk : 1 ≤ k) : figs n ≤ k ↔ n < 10 ^ k := by
  refine ⟨fun h => Nat.lt_of_lt_of_le (figs_lt n) (ten_le h), fun h => ?_⟩
  by_cases h0 : n = 0
  · subst h0; rw [figs_zero]; exact hk
  · have h1 := figs_ge h0
    have h2 : 10 ^ (figs n - 1) < 10 ^ k := Nat.lt_of_le_of_lt h1 h
    have := ten_lt_iff.1 h2
    have := figs_pos n
    omega
theorem figs_eq {n k : Nat} (hk : 1 ≤ k) (h1 : 10 ^ (k - 1) ≤ n) (h2 : n < 10 ^ k) : figs n = k := by
  have h3 := (figs_le_iff hk).2 h2
  have h4 := figs_lt n
  have h5 : 10 ^ (k - 1) < 10 ^ figs n := Nat.lt_of_le_of_lt h1 h4
  have := ten_lt_iff.1 h5
  omega
theorem figs_mono {a b : Nat} (h : a ≤ b) : figs a ≤ figs b := (figs_le_iff (figs_pos b)).2 (Nat.lt_of_le_of_lt h (figs_lt b))
theorem figs_step {n : Nat} (h : 10 ≤ n) : figs n = figs (n / 10) + 1 := by
  have h1 := figs_lt (n / 10)
  have h2 := figs_ge (n := n / 10) (by omega)
  have h3 := figs_pos (n / 10)
  obtain ⟨m, hm⟩ : ∃ m, figs (n / 10) = m + 1 := ⟨figs (n / 10) - 1, by omega⟩
  rw [hm] at h1 h2 ⊢
  rw [Nat.add_sub_cancel] at h2
  refine figs_eq (by omega) ?_ ?_
  · rw [Nat.add_sub_cancel, ten_succ]; omega
  · rw [ten_succ]; omega
theorem figs_small {n : Nat} (h : n < 10) : figs n = 1 := by
  have h1 := (figs_le_iff (n := n) (k := 1) (Nat.le_refl _)).2 (by simpa using h)
  have := figs_pos n
  omega
/-- Figures of a number with noughts behind. -/
theorem figs_mul_pow {n : Nat} (h : n ≠ 0) (k : Nat) : figs (n * 10 ^ k) = figs n + k := by
  have h1 := figs_lt n
  have h2 := figs_ge h
  have h3 := figs_pos n
  refine figs_eq (by omega) ?_ ?_
  · rw [show figs n + k - 1 = (figs n - 1) + k by omega, Nat.pow_add]
    exact Nat.mul_le_mul_right _ h2
  · rw [Nat.pow_add]
    exact Nat.mul_lt_mul_of_pos_right h1 (ten_pos k)
/-- Figures cut off. -/
theorem figs_div_pow {n k : Nat} (hk : k < figs n) (h : n ≠ 0) : figs (n / 10 ^ k) = figs n - k := by
  have h1 := figs_lt n
  have h2 := figs_ge h
  refine figs_eq (by omega) ?_ ?_
  · rw [Nat.le_div_iff_mul_le (ten_pos k), ← Nat.pow_add]
    rw [show figs n - k - 1 + k = figs n - 1 by omega]; exact h2
  · rw [Nat.div_lt_iff_lt_mul (ten_pos k), ← Nat.pow_add]
    rw [show figs n - k + k = figs n by omega]; exact h1
theorem figs_pow (k : Nat) : figs (10 ^ k) = k + 1 := figs_eq (by omega) (by simp) (ten_lt (by omega))

/-- -1, 0 or 1. -/
def ord3 (a b : Nat) : Int := if a < b then -1 else if b < a then 1 else 0
/-- Whether a magnitude is made one greater. -/
def awayN (neg : Bool) (last : Nat) (half : Int) (mode : Nat) : Bool :=
  match mode with
  | 0 => false
  | 2 => decide (half > 0) || (half == 0 && last % 2 == 1)
  | 3 => !neg
  | 4 => neg
  | 5 => decide (half > 0)
  | 6 => true
  | 7 => last % 5 == 0
  | _ => decide (half ≥ 0)
/-- k figures less, rounded. -/
def cutN (neg : Bool) (C k mode : Nat) : Nat := if C % 10 ^ k = 0 then C / 10 ^ k else if awayN neg (C / 10 ^ k % 10) (ord3 (2 * (C % 10 ^ k)) (10 ^ k)) mode then C / 10 ^ k + 1 else C / 10 ^ k
def inexN (C k : Nat) : Bool := !decide (C % 10 ^ k = 0)
/-- Rounded to p figures: the coefficient, and how many figures are off. -/
def rndN (neg : Bool) (C p mode : Nat) : Nat := if figs C ≤ p then C else if figs (cutN neg C (figs C - p) mode) > p then cutN neg C (figs C - p) mode / 10 else cutN neg C (figs C - p) mode
def rndK (neg : Bool) (C p mode : Nat) : Nat := if figs C ≤ p then 0 else if figs (cutN neg C (figs C - p) mode) > p then figs C - p + 1 else figs C - p
def rndX (C p : Nat) : Bool := if figs C ≤ p then false else inexN C (figs C - p)
/-- Conditions: Rounded 64, Inexact 16, as apd has them. -/
def rndC (C p : Nat) : Nat := if figs C ≤ p then 0 else if inexN C (figs C - p) then 80 else 64

theorem cutN_le (neg : Bool) (C k mode : Nat) : C / 10 ^ k ≤ cutN neg C k mode ∧ cutN neg C k mode ≤ C / 10 ^ k + 1 := by
  unfold cutN; split <;> (try split) <;> omega
/-- What is cut to p figures has p figures, or is the next power of 10. -/
theorem cutN_figs {neg : Bool} {C p mode : Nat} (hp : 1 ≤ p) (h : p < figs C) : 10 ^ (p - 1) ≤ cutN neg C (figs C - p) mode ∧ cutN neg C (figs C - p) mode ≤ 10 ^ p := by
  have h0 : C ≠ 0 := by rintro rfl; rw [figs_zero] at h; omega
  have h1 := cutN_le neg C (figs C - p) mode
  have h2 := figs_div_pow (n := C) (k := figs C - p) (by omega) h0
  have hq0 : C / 10 ^ (figs C - p) ≠ 0 := by
    intro e
    rw [e, figs_zero] at h2
    have h3 := (Nat.div_eq_zero_iff.1 e).resolve_left (by have := ten_pos (figs C - p); omega)
    have h4 := figs_ge h0
    have := Nat.lt_of_le_of_lt h4 h3
    have := ten_lt_iff.1 this
    omega
  have h3 := figs_lt (C / 10 ^ (figs C - p))
  have h4 := figs_ge hq0
  rw [h2, show figs C - (figs C - p) = p by omega] at h3 h4
  omega
theorem cutN_over {neg : Bool} {C p mode : Nat} (hp : 1 ≤ p) (h : p < figs C) (ho : figs (cutN neg C (figs C - p) mode) > p) : cutN neg C (figs C - p) mode = 10 ^ p := by
  have h1 := (cutN_figs (neg := neg) (mode := mode) hp h).2
  have h2 : ¬ cutN neg C (figs C - p) mode < 10 ^ p := fun h3 => by have := (figs_le_iff hp).2 h3; omega
  omega
theorem rndN_figs {neg : Bool} {C p mode : Nat} (hp : 1 ≤ p) : figs (rndN neg C p mode) ≤ p := by
  unfold rndN
  split
  · assumption
  · next h =>
    split
    · next ho =>
      rw [cutN_over hp (by omega) ho]
      obtain ⟨q, rfl⟩ : ∃ q, p = q + 1 := ⟨p - 1, by omega⟩
      rw [ten_succ, Nat.mul_div_cancel_left _ (by omega), figs_pow]; omega
    · omega
/-- The half that decides, as the code finds it: the rest against 5 with noughts behind. -/
theorem ord3_half {m k : Nat} (hk : 1 ≤ k) : ord3 m (5 * 10 ^ (k - 1)) = ord3 (2 * m) (10 ^ k) := by
  obtain ⟨j, rfl⟩ : ∃ j, k = j + 1 := ⟨k - 1, by omega⟩
  rw [Nat.add_sub_cancel, ten_succ]
  unfold ord3
  have : 0 < 10 ^ j := ten_pos j
  generalize 10 ^ j = t at *
  split <;> split <;> (try split) <;> (try split) <;> omega
/-- A rest with fewer figures than the place is below a half. -/
theorem ord3_few {m k : Nat} (h : figs m < k) : ord3 (2 * m) (10 ^ k) = -1 := by
  have h1 := figs_lt m
  have h2 : 10 ^ figs m ≤ 10 ^ (k - 1) := ten_le (by omega)
  obtain ⟨j, rfl⟩ : ∃ j, k = j + 1 := ⟨k - 1, by omega⟩
  rw [Nat.add_sub_cancel] at h2
  unfold ord3
  rw [ten_succ, if_pos (by omega)]
end Go.Proofs.YtcoljeafgiemkaaGreatDoor

namespace Go.Proofs.YtcoljeafgiemkaaGreatDoor

/-- A fraction rounded to a whole number. -/
def rndF (neg : Bool) (D E mode : Nat) : Nat := if D % E = 0 then D / E else if awayN neg (D / E % 10) (ord3 (2 * (D % E)) E) mode then D / E + 1 else D / E
theorem ord3_mul (a b : Nat) {c : Nat} (hc : 0 < c) : ord3 (a * c) (b * c) = ord3 a b := by
  unfold ord3
  simp only [Nat.mul_lt_mul_right hc]
theorem rndF_mul (neg : Bool) (D E mode : Nat) {c : Nat} (hc : 0 < c) : rndF neg (D * c) (E * c) mode = rndF neg D E mode := by
  unfold rndF
  rw [Nat.mul_mod_mul_right, Nat.mul_div_mul_right _ _ hc, ← Nat.mul_assoc, ord3_mul _ _ hc]
  have : (D % E * c = 0) ↔ (D % E = 0) := by rw [Nat.mul_eq_zero]; omega
  simp only [this]
theorem cutN_rndF (neg : Bool) (C k mode : Nat) : cutN neg C k mode = rndF neg C (10 ^ k) mode := rfl
theorem rndF_le (neg : Bool) (D E mode : Nat) : D / E ≤ rndF neg D E mode ∧ rndF neg D E mode ≤ D / E + 1 := by
  unfold rndF; split <;> (try split) <;> omega

/-- A quotient with one more figure, that tells whether something is left. -/
def sticky (X B : Nat) : Nat := 10 * (X / B) + if X % B = 0 then 0 else 1
theorem sticky_div (X B : Nat) : sticky X B / 10 = X / B := by unfold sticky; split <;> omega
theorem sticky_mod (X B : Nat) : sticky X B % 10 = if X % B = 0 then 0 else 1 := by unfold sticky; split <;> omega
theorem sticky_rest (X B T : Nat) : sticky X B % (10 * T) = (if X % B = 0 then 0 else 1) + 10 * (X / B % T) := by
  rw [Nat.mod_mul, sticky_mod, sticky_div]
theorem sticky_quot (X B T : Nat) : sticky X B / (10 * T) = X / (B * T) := by
  rw [← Nat.div_div_eq_div_mul, sticky_div, Nat.div_div_eq_div_mul]
theorem sticky_zero {X B T : Nat} (hB : 0 < B) : sticky X B % (10 * T) = 0 ↔ X % (B * T) = 0 := by
  rw [sticky_rest, show X % (B * T) = X % B + B * (X / B % T) from Nat.mod_mul]
  have : B * (X / B % T) = 0 ↔ X / B % T = 0 := by rw [Nat.mul_eq_zero]; omega
  split <;> omega
theorem sticky_half {X B U : Nat} (hB : 0 < B) (hU : 0 < U) : ord3 (2 * (sticky X B % (10 * (2 * U)))) (10 * (2 * U)) = ord3 (2 * (X % (B * (2 * U)))) (B * (2 * U)) := by
  rw [sticky_rest, show X % (B * (2 * U)) = X % B + B * (X / B % (2 * U)) from Nat.mod_mul]
  have h1 : X % B < B := Nat.mod_lt _ hB
  have h2 : X / B % (2 * U) < 2 * U := Nat.mod_lt _ (by omega)
  generalize X / B % (2 * U) = t at *
  generalize X % B = r at *
  have e1 : B * (2 * U) = 2 * (B * U) := by rw [← Nat.mul_assoc, Nat.mul_comm B 2, Nat.mul_assoc]
  rw [e1]
  unfold ord3
  rcases Nat.lt_trichotomy t U with h | rfl | h
  · have h3 : B * t + B ≤ B * U := by have := Nat.mul_le_mul_left B (show t + 1 ≤ U by omega); rwa [Nat.mul_add, Nat.mul_one] at this
    rw [if_pos (by split <;> omega), if_pos (by omega)]
  · split
    · rw [if_neg (by omega), if_neg (by omega), if_neg (by omega), if_neg (by omega)]
    · rw [if_neg (by omega), if_pos (by omega), if_neg (by omega), if_pos (by omega)]
  · have h3 : B * U + B ≤ B * t := by have := Nat.mul_le_mul_left B (show U + 1 ≤ t by omega); rwa [Nat.mul_add, Nat.mul_one] at this
    rw [if_neg (by split <;> omega), if_pos (by split <;> omega), if_neg (by omega), if_pos (by omega)]
theorem sticky_rndF {X B U : Nat} (neg : Bool) (mode : Nat) (hB : 0 < B) (hU : 0 < U) : rndF neg (sticky X B) (10 * (2 * U)) mode = rndF neg X (B * (2 * U)) mode := by
  unfold rndF
  rw [sticky_quot, sticky_half hB hU]
  simp only [sticky_zero hB]

/-- One quotient, brought by powers of ten between 10^(p-1) and 10^p in two ways. -/
theorem same_scale {A B p j k u v : Nat} (hB : 0 < B) (hp : 1 ≤ p) (h1 : 10 ^ (p - 1) ≤ A * 10 ^ k / (B * 10 ^ j)) (h2 : A * 10 ^ k / (B * 10 ^ j) < 10 ^ p) (h3 : 10 ^ (p - 1) ≤ A * 10 ^ u / (B * 10 ^ v)) (h4 : A * 10 ^ u / (B * 10 ^ v) < 10 ^ p) : j + u = v + k := by
  have hj : 0 < B * 10 ^ j := Nat.mul_pos hB (ten_pos _)
  have hv : 0 < B * 10 ^ v := Nat.mul_pos hB (ten_pos _)
  rw [Nat.le_div_iff_mul_le hj] at h1
  rw [Nat.div_lt_iff_lt_mul hj] at h2
  rw [Nat.le_div_iff_mul_le hv] at h3
  rw [Nat.div_lt_iff_lt_mul hv] at h4
  have g1 := Nat.lt_of_le_of_lt (Nat.mul_le_mul_right (10 ^ u) h1) (by
    rw [show A * 10 ^ k * 10 ^ u = A * 10 ^ u * 10 ^ k by rw [Nat.mul_right_comm]]
    exact Nat.mul_lt_mul_of_pos_right h4 (ten_pos k))
  have g2 := Nat.lt_of_le_of_lt (Nat.mul_le_mul_right (10 ^ k) h3) (by
    rw [show A * 10 ^ u * 10 ^ k = A * 10 ^ k * 10 ^ u by rw [Nat.mul_right_comm]]
    exact Nat.mul_lt_mul_of_pos_right h2 (ten_pos u))
  rw [show 10 ^ (p - 1) * (B * 10 ^ j) * 10 ^ u = B * 10 ^ (p - 1 + j + u) by rw [Nat.pow_add, Nat.pow_add]; ac_rfl,
    show 10 ^ p * (B * 10 ^ v) * 10 ^ k = B * 10 ^ (p + v + k) by rw [Nat.pow_add, Nat.pow_add]; ac_rfl] at g1
  rw [show 10 ^ (p - 1) * (B * 10 ^ v) * 10 ^ k = B * 10 ^ (p - 1 + v + k) by rw [Nat.pow_add, Nat.pow_add]; ac_rfl,
    show 10 ^ p * (B * 10 ^ j) * 10 ^ u = B * 10 ^ (p + j + u) by rw [Nat.pow_add, Nat.pow_add]; ac_rfl] at g2
  have g1 := ten_lt_iff.1 (Nat.lt_of_mul_lt_mul_left g1)
  have g2 := ten_lt_iff.1 (Nat.lt_of_mul_lt_mul_left g2)
  omega
/-- The reference's way to a quotient and the code's. -/
theorem quo_two {A B p k u v : Nat} (neg : Bool) (mode : Nat) (hB : 0 < B) (hp : 1 ≤ p) (hq : p + 2 ≤ figs (sticky (A * 10 ^ k) B))
    (h3 : 10 ^ (p - 1) ≤ A * 10 ^ u / (B * 10 ^ v)) (h4 : A * 10 ^ u / (B * 10 ^ v) < 10 ^ p) :
    cutN neg (sticky (A * 10 ^ k) B) (figs (sticky (A * 10 ^ k) B) - p) mode = rndF neg (A * 10 ^ u) (B * 10 ^ v) mode ∧ inexN (sticky (A * 10 ^ k) B) (figs (sticky (A * 10 ^ k) B) - p) = !decide (A * 10 ^ u % (B * 10 ^ v) = 0) ∧ figs (sticky (A * 10 ^ k) B) - p + u = v + k + 1 := by
  obtain ⟨i, hi⟩ : ∃ i, figs (sticky (A * 10 ^ k) B) = p + (i + 2) := ⟨figs (sticky (A * 10 ^ k) B) - p - 2, by omega⟩
  have hl := figs_lt (sticky (A * 10 ^ k) B)
  have hg := figs_ge (n := sticky (A * 10 ^ k) B) (by intro e; rw [e, figs_zero] at hi; omega)
  rw [hi] at hl hg ⊢
  rw [show p + (i + 2) - p = i + 2 by omega]
  have e10 : 10 ^ (i + 2) = 10 * (2 * (5 * 10 ^ i)) := by rw [ten_succ, ten_succ]; omega
  have ej : 2 * (5 * 10 ^ i) = 10 ^ (i + 1) := by rw [ten_succ]; omega
  have hU : 0 < 5 * 10 ^ i := by have := ten_pos i; omega
  have hsq := sticky_quot (A * 10 ^ k) B (10 ^ (i + 1))
  rw [← ej, ← e10, ej] at hsq
  have h1 : 10 ^ (p - 1) ≤ A * 10 ^ k / (B * 10 ^ (i + 1)) := by
    rw [← hsq, Nat.le_div_iff_mul_le (ten_pos _), ← Nat.pow_add, show p - 1 + (i + 2) = p + (i + 2) - 1 by omega]; exact hg
  have h2 : A * 10 ^ k / (B * 10 ^ (i + 1)) < 10 ^ p := by
    rw [← hsq, Nat.div_lt_iff_lt_mul (ten_pos _), ← Nat.pow_add]; exact hl
  have hs := same_scale hB hp h1 h2 h3 h4
  have ea : A * 10 ^ k * 10 ^ u = A * 10 ^ u * 10 ^ k := by rw [Nat.mul_right_comm]
  have eb : B * 10 ^ (i + 1) * 10 ^ u = B * 10 ^ v * 10 ^ k := by rw [Nat.mul_assoc, Nat.mul_assoc, ← Nat.pow_add, ← Nat.pow_add, hs]
  refine ⟨?_, ?_, by omega⟩
  · rw [cutN_rndF, e10, sticky_rndF neg mode hB hU, ej, ← rndF_mul neg _ _ mode (ten_pos u), ea, eb, rndF_mul neg _ _ mode (ten_pos k)]
  · unfold inexN
    rw [e10]
    have hz := sticky_zero (X := A * 10 ^ k) (B := B) (T := 2 * (5 * 10 ^ i)) hB
    rw [ej] at hz ⊢
    have hz2 : A * 10 ^ k % (B * 10 ^ (i + 1)) = 0 ↔ A * 10 ^ u % (B * 10 ^ v) = 0 := by
      have a1 : A * 10 ^ k % (B * 10 ^ (i + 1)) * 10 ^ u = A * 10 ^ u % (B * 10 ^ v) * 10 ^ k := by
        rw [← Nat.mul_mod_mul_right, ← Nat.mul_mod_mul_right, ea, eb]
      have := ten_pos u
      have := ten_pos k
      constructor
      · intro e; rw [e, Nat.zero_mul] at a1
        have := Nat.mul_eq_zero.1 a1.symm; omega
      · intro e; rw [e, Nat.zero_mul] at a1
        have := Nat.mul_eq_zero.1 a1; omega
    simp only [hz, hz2]
/-- Its figures. -/
theorem sticky_figs {A B p k : Nat} (hA : A ≠ 0) (hB : B ≠ 0) (hk : p + 2 + figs B ≤ figs A + k) : p + 2 ≤ figs (sticky (A * 10 ^ k) B) := by
  have h1 := figs_ge hA
  have h2 := figs_lt B
  have h3 := figs_pos A
  have h4 : 10 ^ (p + 1) ≤ A * 10 ^ k / B := by
    rw [Nat.le_div_iff_mul_le (by omega)]
    calc 10 ^ (p + 1) * B ≤ 10 ^ (p + 1) * 10 ^ figs B := Nat.mul_le_mul_left _ (by omega)
      _ = 10 ^ (p + 1 + figs B) := (Nat.pow_add ..).symm
      _ ≤ 10 ^ (figs A - 1 + k) := ten_le (by omega)
      _ = 10 ^ (figs A - 1) * 10 ^ k := Nat.pow_add ..
      _ ≤ A * 10 ^ k := Nat.mul_le_mul_right _ h1
  have h5 : 10 ^ (p + 1) ≤ sticky (A * 10 ^ k) B := by unfold sticky; omega
  have := figs_mono h5
  rwa [figs_pow] at this

/-- The code's way: both brought to as many figures, ten times the first where it is less. -/
def quoU (A B : Nat) : Nat := figs B - figs A + if A * 10 ^ (figs B - figs A) < B * 10 ^ (figs A - figs B) then 1 else 0
theorem quoU_le {A B p : Nat} (hA : A ≠ 0) (hB : B ≠ 0) (hp : 1 ≤ p) : 10 ^ (p - 1) ≤ A * 10 ^ (quoU A B + (p - 1)) / (B * 10 ^ (figs A - figs B)) ∧ A * 10 ^ (quoU A B + (p - 1)) / (B * 10 ^ (figs A - figs B)) < 10 ^ p := by
  have hA1 := figs_mul_pow hA (figs B - figs A)
  have hB1 := figs_mul_pow hB (figs A - figs B)
  have hE : 0 < B * 10 ^ (figs A - figs B) := Nat.mul_pos (by omega) (ten_pos _)
  have a1 := figs_lt (A * 10 ^ (figs B - figs A))
  have b0 := figs_ge (n := B * 10 ^ (figs A - figs B)) (by omega)
  have hF : figs (B * 10 ^ (figs A - figs B)) = figs (A * 10 ^ (figs B - figs A)) := by omega
  have hA0 : A * 10 ^ (figs B - figs A) ≠ 0 := by have := Nat.mul_pos (show 0 < A by omega) (ten_pos (figs B - figs A)); omega
  have a0 := figs_ge hA0
  have b1 := figs_lt (B * 10 ^ (figs A - figs B))
  rw [Nat.le_div_iff_mul_le hE, Nat.div_lt_iff_lt_mul hE]
  obtain ⟨q, rfl⟩ : ∃ q, p = q + 1 := ⟨p - 1, by omega⟩
  rw [Nat.add_sub_cancel]
  have hf := figs_pos (A * 10 ^ (figs B - figs A))
  obtain ⟨f, hf⟩ : ∃ f, figs (A * 10 ^ (figs B - figs A)) = f + 1 := ⟨figs (A * 10 ^ (figs B - figs A)) - 1, by omega⟩
  rw [hF] at b0 b1
  rw [hf] at a0 a1 b0 b1
  rw [Nat.add_sub_cancel] at a0 b0
  rw [ten_succ] at a1 b1
  unfold quoU
  have hq := ten_pos q
  split
  · next h =>
    rw [show A * 10 ^ (figs B - figs A + 1 + q) = 10 * (A * 10 ^ (figs B - figs A)) * 10 ^ q by rw [Nat.pow_add, Nat.pow_succ]; ac_rfl, ten_succ]
    generalize A * 10 ^ (figs B - figs A) = a at *
    generalize B * 10 ^ (figs A - figs B) = b at *
    constructor
    · rw [Nat.mul_comm]; exact Nat.mul_le_mul_right _ (by omega)
    · rw [Nat.mul_right_comm 10 (10 ^ q) b]; exact Nat.mul_lt_mul_of_pos_right (show 10 * a < 10 * b by omega) hq
  · next h =>
    rw [show A * 10 ^ (figs B - figs A + 0 + q) = A * 10 ^ (figs B - figs A) * 10 ^ q by rw [Nat.add_zero, Nat.pow_add]; ac_rfl, ten_succ]
    generalize A * 10 ^ (figs B - figs A) = a at *
    generalize B * 10 ^ (figs A - figs B) = b at *
    constructor
    · rw [Nat.mul_comm]; exact Nat.mul_le_mul_right _ (by omega)
    · rw [Nat.mul_right_comm 10 (10 ^ q) b]; exact Nat.mul_lt_mul_of_pos_right (show a < 10 * b by omega) hq
end Go.Proofs.YtcoljeafgiemkaaGreatDoor
