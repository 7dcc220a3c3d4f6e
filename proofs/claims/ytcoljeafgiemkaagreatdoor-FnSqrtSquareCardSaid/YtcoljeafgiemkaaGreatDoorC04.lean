/- The square root: Newton's step with rounded quotient, sum and half: plain facts, no program. The quotient's laws: what the code computes beside what the reference rounds: plain facts, no program. What the laws of rounding near limits and of quotients need: plain facts, no program. -/
import Derived.Test.YtcoljeafgiemkaaGreatDoorC03
namespace Go.Proofs.YtcoljeafgiemkaaGreatDoor
theorem rnd_same (n : Bool) {C p m : Nat} (hp : 1 ≤ p) (h : p < figs C) : rndN n C p m * 10 ^ rndK n C p m = cutN n C (figs C - p) m * 10 ^ (figs C - p) := by
  unfold rndN rndK
  rw [if_neg (show ¬ figs C ≤ p by omega), if_neg (show ¬ figs C ≤ p by omega)]
  by_cases ho : figs (cutN n C (figs C - p) m) > p
  · rw [if_pos ho, if_pos ho, cutN_over hp h ho]
    obtain ⟨q, rfl⟩ : ∃ q, p = q + 1 := ⟨p - 1, by omega⟩
    rw [ten_succ q, Nat.mul_div_cancel_left _ (by omega), ten_succ, Nat.mul_comm (10 ^ q), Nat.mul_assoc, Nat.mul_assoc, Nat.mul_comm _ (10 ^ q)]
  · rw [if_neg ho, if_neg ho]
/-- A decimal's value in units of 10^-S. -/
def dval (S C : Nat) (e : Int) : Nat := C * 10 ^ (e + S).toNat
/-- A quotient of p figures, and what its exponent is beside the difference of the two. -/
def qC (A B p : Nat) : Nat := rndF false (A * 10 ^ (quoU A B + (p - 1))) (B * 10 ^ (figs A - figs B)) 2
def qE (A B p : Nat) : Int := ((figs A - figs B : Nat) : Int) - (quoU A B + (p - 1) : Nat)
/-- What a square may be off by; a = 10^p of the digits. -/
def Near (a e F X : Int) : Prop := a * (X ^ 2 - F) ≤ e * F ∧ a * (F - X ^ 2) ≤ e * F
/-- The iteration's parts: the quotient's exponent, the sum, half of it. -/
def stQ (F : Nat) (eF : Int) (C : Nat) (e : Int) (p : Nat) : Int := eF - e + qE F C p
def stSum (F : Nat) (eF : Int) (C : Nat) (e : Int) (p : Nat) : Nat := qC F C p * 10 ^ (stQ F eF C e p - min (stQ F eF C e p) e).toNat + C * 10 ^ (e - min (stQ F eF C e p) e).toNat
def stH (F : Nat) (eF : Int) (C : Nat) (e : Int) (p : Nat) : Nat := rndN false (stSum F eF C e p) p 2
def stHe (F : Nat) (eF : Int) (C : Nat) (e : Int) (p : Nat) : Int := min (stQ F eF C e p) e + rndK false (stSum F eF C e p) p 2
def stY (F : Nat) (eF : Int) (C : Nat) (e : Int) (p : Nat) : Nat := rndN false (stH F eF C e p * 5) p 2
def stYe (F : Nat) (eF : Int) (C : Nat) (e : Int) (p : Nat) : Int := stHe F eF C e p - 1 + rndK false (stH F eF C e p * 5) p 2
end Go.Proofs.YtcoljeafgiemkaaGreatDoor

namespace Go.Proofs.YtcoljeafgiemkaaGreatDoor
theorem quo_law {A B p k : Nat} (n : Bool) (m : Nat) (hA : A ≠ 0) (hB : B ≠ 0) (hp : 1 ≤ p) (hk : p + 2 + figs B ≤ figs A + k) {q D E : Nat} (hq : sticky (A * 10 ^ k) B = q) (hD : A * 10 ^ (quoU A B + (p - 1)) = D) (hE : B * 10 ^ (figs A - figs B) = E) :
    p < figs q ∧ rndN n q p m * 10 ^ rndK n q p m = rndF n D E m * 10 ^ (figs q - p) ∧ inexN q (figs q - p) = (!decide (D % E = 0)) ∧ ((figs q - p : Nat) : Int) - k - 1 = qE A B p := by
  have h1 := sticky_figs hA hB hk
  have h2 := quoU_le (p := p) hA hB hp
  obtain ⟨h3, h4, h5⟩ := quo_two (A := A) (B := B) (p := p) (k := k) (u := quoU A B + (p - 1)) (v := figs A - figs B) n m (by omega) hp h1 h2.1 h2.2
  rw [hq] at h1 h3 h4 h5
  rw [hD, hE] at h3 h4
  refine ⟨by omega, ?_, h4, ?_⟩
  · rw [rnd_same n hp (by omega), h3]
  · unfold qE; omega
/-- The code's coefficient has not more figures than asked for, but where it is rounded up to a power of ten. -/
theorem quo_figs {A B p : Nat} (n : Bool) (m : Nat) (hA : A ≠ 0) (hB : B ≠ 0) (hp : 1 ≤ p) {D E : Nat} (hD : A * 10 ^ (quoU A B + (p - 1)) = D) (hE : B * 10 ^ (figs A - figs B) = E) :
    figs (rndF n D E m) ≤ p ∨ (rndF n D E m = 10 ^ p ∧ D % E ≠ 0) := by
  have h2 := (quoU_le (p := p) hA hB hp).2
  rw [hD, hE] at h2
  have h3 := rndF_le n D E m
  by_cases h : rndF n D E m < 10 ^ p
  · left; exact (figs_le_iff hp).2 h
  · right
    refine ⟨by omega, fun h0 => ?_⟩
    unfold rndF at h
    rw [if_pos h0] at h
    omega
/-- There the reference's coefficient is a power of ten as well. -/
theorem quo_ten {A B p k : Nat} (n : Bool) (m : Nat) (hA : A ≠ 0) (hB : B ≠ 0) (hp : 1 ≤ p) (hk : p + 2 + figs B ≤ figs A + k) {q D E : Nat} (hq : sticky (A * 10 ^ k) B = q) (hD : A * 10 ^ (quoU A B + (p - 1)) = D) (hE : B * 10 ^ (figs A - figs B) = E) (h : rndF n D E m = 10 ^ p) :
    rndN n q p m = 10 ^ (p - 1) ∧ rndX q p = true := by
  have h1 := sticky_figs hA hB hk
  have h2 := quoU_le (p := p) hA hB hp
  obtain ⟨h3, h4, _⟩ := quo_two (A := A) (B := B) (p := p) (k := k) (u := quoU A B + (p - 1)) (v := figs A - figs B) n m (by omega) hp h1 h2.1 h2.2
  rw [hq] at h1 h3 h4
  rw [hD, hE] at h3 h4 h2
  have hne : D % E ≠ 0 := by
    intro h0
    unfold rndF at h
    rw [if_pos h0] at h
    omega
  constructor
  · unfold rndN
    rw [if_neg (by omega), h3, h, figs_pow, if_pos (by omega)]
    obtain ⟨j, rfl⟩ : ∃ j, p = j + 1 := ⟨p - 1, by omega⟩
    rw [Nat.add_sub_cancel, ten_succ, Nat.mul_div_cancel_left _ (by omega)]
  · unfold rndX
    rw [if_neg (by omega), h4]
    simp [hne]
end Go.Proofs.YtcoljeafgiemkaaGreatDoor

namespace Go.Proofs.YtcoljeafgiemkaaGreatDoor

/-- The reference's quotient is not too long. -/
theorem sticky_ten {A B k j : Nat} (_hB : B ≠ 0) (h : A < 10 ^ j) : sticky (A * 10 ^ k) B < 10 ^ (j + k + 1) := by
  have h1 : A * 10 ^ k < 10 ^ (j + k) := by rw [Nat.pow_add]; exact Nat.mul_lt_mul_of_pos_right h (ten_pos k)
  have h2 := Nat.div_le_self (A * 10 ^ k) B
  have h3 := ten_succ (j + k)
  unfold sticky
  split <;> omega
end Go.Proofs.YtcoljeafgiemkaaGreatDoor
