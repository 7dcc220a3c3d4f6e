/- Division by a word through its reciprocal. -/
import Derived.Test.YtabggbajgpbmmaaGreatDoorB1
namespace Go.Proofs.YtabggbajgpbmmaaGreatDoor
open Go Go.RowKit

/-- The reciprocal of a word whose top bit is set. -/
noncomputable def rcp (u : Nat) : Nat := (WB * WB - 1) / u - WB
theorem rcp_spec {u : Nat} (hu : u < WB) (h2 : WB ≤ 2 * u) : rcp u < WB ∧ u * (rcp u + WB) + 1 ≤ WB * WB ∧ WB * WB ≤ u * (rcp u + WB) + u := by
  have h0 : 0 < u := by have := WB_pos; omega
  have hle : WB ≤ (WB * WB - 1) / u := by
    rw [Nat.le_div_iff_mul_le h0]
    have : WB * (u + 1) ≤ WB * WB := Nat.mul_le_mul_left WB hu
    rw [Nat.mul_add] at this; have := WB_pos; omega
  have e : rcp u + WB = (WB * WB - 1) / u := by unfold rcp; omega
  have hd := Nat.div_add_mod (WB * WB - 1) u
  have hm := Nat.mod_lt (WB * WB - 1) h0
  have hp : 0 < WB * WB := Nat.mul_pos WB_pos WB_pos
  refine ⟨?_, by rw [e]; omega, by rw [e]; omega⟩
  have : (WB * WB - 1) / u < 2 * WB := by
    rw [Nat.div_lt_iff_lt_mul h0]
    have : WB * WB ≤ WB * (2 * u) := Nat.mul_le_mul_left WB h2
    rw [Nat.mul_assoc, Nat.mul_left_comm]
    omega
  omega

theorem divWW_math {d m x1 x0 : Nat} (hd : d < WB) (h2 : WB ≤ 2 * d) (_hm : m < WB) (hm1 : d * (m + WB) + 1 ≤ WB * WB) (hm2 : WB * WB ≤ d * (m + WB) + d) (hx1 : x1 < d) (hx0 : x0 < WB)
    {q r0 r1 : Nat} (hq : q = adds (mulhi m x1) x1 (addc (mullo m x1) x0 0)) (hr0 : r0 = subs x0 (mullo d q) 0) (hr1 : r1 = subs x1 (mulhi d q) (subc x0 (mullo d q) 0)) :
    (r1 = 0 → r0 < d → q = (x1 * WB + x0) / d ∧ r0 = (x1 * WB + x0) % d) ∧
    (r1 = 0 → d ≤ r0 → wadd q 1 = (x1 * WB + x0) / d ∧ wsub r0 d = (x1 * WB + x0) % d) ∧
    (r1 ≠ 0 → wsub r0 d < d → wadd q 1 = (x1 * WB + x0) / d ∧ wsub r0 d = (x1 * WB + x0) % d) ∧
    (r1 ≠ 0 → d ≤ wsub r0 d → wadd (wadd q 1) 1 = (x1 * WB + x0) / d ∧ wsub (wsub r0 d) d = (x1 * WB + x0) % d) := by
  have hp := WB_pos
  have hg := recip_guess hd hm1 hm2 hx1 hx0
  have hx1w : x1 < WB := by omega
  -- the guess
  have hqe : q = (x1 * m + x1 * WB + x0) / WB := by
    have e1 := mullo_mulhi m x1
    have e2 := adds_addc (mullo m x1) x0 0
    have l2 := adds_lt (mullo m x1) x0 0
    have c2 := addc_le (mullo_lt m x1) hx0 (Nat.zero_le 1)
    have e3 := adds_addc (mulhi m x1) x1 (addc (mullo m x1) x0 0)
    have hsum : x1 * m + x1 * WB + x0 = WB * (mulhi m x1 + x1 + addc (mullo m x1) x0 0) + adds (mullo m x1) x0 0 := by
      rw [Nat.mul_add, Nat.mul_add, Nat.mul_comm x1 m, Nat.mul_comm x1 WB]; omega
    have hdiv : (x1 * m + x1 * WB + x0) / WB = mulhi m x1 + x1 + addc (mullo m x1) x0 0 := by
      rw [hsum, Nat.mul_add_div hp, Nat.div_eq_of_lt l2, Nat.add_zero]
    have hlt : (x1 * m + x1 * WB + x0) / WB < WB := by
      have h3 : (x1 * m + x1 * WB + x0) / WB * d < WB * d := by
        have : (x1 + 1) * WB ≤ d * WB := Nat.mul_le_mul_right WB hx1
        rw [Nat.add_mul, Nat.one_mul] at this
        rw [Nat.mul_comm WB d]; omega
      exact Nat.lt_of_mul_lt_mul_right h3
    rw [hq, hdiv]
    unfold adds
    rw [Nat.mod_eq_of_lt (by omega)]
  rw [← hqe] at hg
  have hqw : q < WB := by
    have h3 : q * d < WB * d := by
      have : (x1 + 1) * WB ≤ d * WB := Nat.mul_le_mul_right WB hx1
      rw [Nat.add_mul, Nat.one_mul] at this
      rw [Nat.mul_comm WB d]; omega
    exact Nat.lt_of_mul_lt_mul_right h3
  -- the rest in two words
  have hr0l : r0 < WB := by rw [hr0]; exact subs_lt _ _ _
  have hR : x1 * WB + x0 = q * d + (r1 * WB + r0) := by
    have f1 := subs_subc hx0 (mullo_lt d q) (Nat.zero_le 1)
    have f2 := subs_subc hx1w (mulhi_lt hd hqw) (subc_le x0 (mullo d q) 0)
    have f3 := mullo_mulhi d q
    have f4 := subc_le x1 (mulhi d q) (subc x0 (mullo d q) 0)
    have f5 := subs_lt x1 (mulhi d q) (subc x0 (mullo d q) 0)
    rw [← hr0] at f1
    rw [← hr1] at f2 f5
    generalize subc x0 (mullo d q) 0 = b at *
    generalize subc x1 (mulhi d q) b = b2 at *
    rw [Nat.mul_comm d q] at f3
    have f6 : WB * x1 + WB * (WB * b2) = WB * r1 + WB * mulhi d q + WB * b := by rw [← Nat.mul_add, f2, Nat.mul_add, Nat.mul_add]
    rw [Nat.mul_comm x1 WB, Nat.mul_comm r1 WB] at *
    have hb : b2 = 0 := by
      rcases Nat.eq_zero_or_pos b2 with h | h
      · exact h
      · have hb1 : b2 = 1 := by omega
        rw [hb1, Nat.mul_one] at f6
        have : WB * (r1 + 1) ≤ WB * WB := Nat.mul_le_mul_left WB f5
        rw [Nat.mul_add] at this
        omega
    rw [hb, Nat.mul_zero, Nat.mul_zero] at f6
    omega
  have hr1l : r1 = 0 ∨ r1 = 1 := by
    rcases Nat.lt_or_ge r1 2 with h | h
    · omega
    · have : 2 * WB ≤ r1 * WB := Nat.mul_le_mul_right WB h
      omega
  have hdiv : ∀ k r, x1 * WB + x0 = (q + k) * d + r → r < d → q + k = (x1 * WB + x0) / d ∧ r = (x1 * WB + x0) % d := by
    intro k r e hr
    rw [e, Nat.mul_comm (q + k) d]
    refine ⟨?_, ?_⟩
    · rw [Nat.mul_add_div (by omega), Nat.div_eq_of_lt hr, Nat.add_zero]
    · rw [Nat.mul_add_mod, Nat.mod_eq_of_lt hr]
  have hqk : ∀ k r, x1 * WB + x0 = (q + k) * d + r → q + k < WB := by
    intro k r e
    have h3 : (q + k) * d < WB * d := by
      have : (x1 + 1) * WB ≤ d * WB := Nat.mul_le_mul_right WB hx1
      rw [Nat.add_mul, Nat.one_mul] at this
      rw [Nat.mul_comm WB d]; omega
    exact Nat.lt_of_mul_lt_mul_right h3
  refine ⟨?_, ?_, ?_, ?_⟩
  · intro h hl
    rw [h, Nat.zero_mul, Nat.zero_add] at hR
    exact hdiv 0 r0 hR hl
  · intro h hl
    rw [h, Nat.zero_mul, Nat.zero_add] at hR
    have e : x1 * WB + x0 = (q + 1) * d + (r0 - d) := by rw [Nat.add_mul]; omega
    rw [wsub_of hl hr0l, wadd_of (hqk 1 _ e)]
    exact hdiv 1 _ e (by omega)
  · intro h hl
    have h1 : r1 = 1 := by omega
    rw [h1, Nat.one_mul] at hR
    have hlt : r0 < d := by omega
    rw [wsub_borrow hlt hd] at *
    have e : x1 * WB + x0 = (q + 1) * d + (r0 + WB - d) := by rw [Nat.add_mul]; omega
    rw [wadd_of (hqk 1 _ e)]
    exact hdiv 1 _ e hl
  · intro h hl
    have h1 : r1 = 1 := by omega
    rw [h1, Nat.one_mul] at hR
    have hlt : r0 < d := by omega
    rw [wsub_borrow hlt hd] at *
    have e : x1 * WB + x0 = (q + 2) * d + (r0 + WB - d - d) := by rw [Nat.add_mul]; omega
    have h3 := hqk 2 _ e
    rw [wsub_of hl (by omega), wadd_of (show q + 1 < WB by omega), wadd_of (by omega)]
    exact hdiv 2 _ e (by omega)

end Go.Proofs.YtabggbajgpbmmaaGreatDoor
