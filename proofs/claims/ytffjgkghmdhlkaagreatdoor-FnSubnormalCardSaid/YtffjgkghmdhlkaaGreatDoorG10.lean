/- The quotient's laws: what the code computes beside what the reference rounds: plain facts, no program. -/
import Derived.Test.YtffjgkghmdhlkaaGreatDoorC04
namespace Go.Proofs.YtffjgkghmdhlkaaGreatDoor
theorem quo_law {A B p k : Nat} (n : Bool) (m : Nat) (hA : A ≠ 0) (hB : B ≠ 0) (hp : 1 ≤ p) (hk : p + 2 + figs B ≤ figs A + k) {q D E : Nat} (hq : sticky (A * 10 ^ k) B = q) (hD : A * 10 ^ (quoU A B + (p - 1)) = D) (hE : B * 10 ^ (figs A - figs B) = E) :
    p < figs q ∧ rndN n q p m * 10 ^ rndK n q p m = rndF n D E m * 10 ^ (figs q - p) ∧ inexN q (figs q - p) = (!decide (D % E = 0)) ∧ ((figs q - p : Nat) : Int) - k - 1 = qE A B p := by
  have h1 := sticky_figs hA hB hk
  have h2 := quoU_le (p := p) hA hB hp
  obtain ⟨h3, h4, h5⟩ := quo_two (A := A) (B := B) (p := p) (k := k) (u := quoU A B + (p - 1)) (v := figs A - figs B) n m (by omega) hp h1 h2.1 h2.2
  rw [hq] at h1 h3 h4 h5
  rw [hD, hE] at h3 h4
  refine ⟨by omega, ?_, h4, ?_⟩
  · rw [rnd_same n hp (by omega), h3]
  · unfold qE; omega
/-- The code's coefficient has not more figures than asked for, but where it is rounded up to a power of ten. -/
theorem quo_figs {A B p : Nat} (n : Bool) (m : Nat) (hA : A ≠ 0) (hB : B ≠ 0) (hp : 1 ≤ p) {D E : Nat} (hD : A * 10 ^ (quoU A B + (p - 1)) = D) (hE : B * 10 ^ (figs A - figs B) = E) :
    figs (rndF n D E m) ≤ p ∨ (rndF n D E m = 10 ^ p ∧ D % E ≠ 0) := by
  have h2 := (quoU_le (p := p) hA hB hp).2
  rw [hD, hE] at h2
  have h3 := rndF_le n D E m
  by_cases h : rndF n D E m < 10 ^ p
  · left; exact (figs_le_iff hp).2 h
  · right
    refine ⟨by omega, fun h0 => ?_⟩
    unfold rndF at h
    rw [if_pos h0] at h
    omega
/-- There the reference's coefficient is a power of ten as well. -/
theorem quo_ten {A B p k : Nat} (n : Bool) (m : Nat) (hA : A ≠ 0) (hB : B ≠ 0) (hp : 1 ≤ p) (hk : p + 2 + figs B ≤ figs A + k) {q D E : Nat} (hq : sticky (A * 10 ^ k) B = q) (hD : A * 10 ^ (quoU A B + (p - 1)) = D) (hE : B * 10 ^ (figs A - figs B) = E) (h : rndF n D E m = 10 ^ p) :
    rndN n q p m = 10 ^ (p - 1) ∧ rndX q p = true := by
  have h1 := sticky_figs hA hB hk
  have h2 := quoU_le (p := p) hA hB hp
  obtain ⟨h3, h4, _⟩ := quo_two (A := A) (B := B) (p := p) (k := k) (u := quoU A B + (p - 1)) (v := figs A - figs B) n m (by omega) hp h1 h2.1 h2.2
  rw [hq] at h1 h3 h4
  rw [hD, hE] at h3 h4 h2
  have hne : D % E ≠ 0 := by
    intro h0
    unfold rndF at h
    rw [if_pos h0] at h
    omega
  constructor
  · unfold rndN
    rw [if_neg (by omega), h3, h, figs_pow, if_pos (by omega)]
    obtain ⟨j, rfl⟩ : ∃ j, p = j + 1 := ⟨p - 1, by omega⟩
    rw [Nat.add_sub_cancel, ten_succ, Nat.mul_div_cancel_left _ (by omega)]
  · unfold rndX
    rw [if_neg (by omega), h4]
    simp [hne]
end Go.Proofs.YtffjgkghmdhlkaaGreatDoor
