/- The digits of a long division: plain arithmetic. The digits of a long division, of lists of words. Long division: plain facts of the lists. Words that lie at a place and stay while others are written. The stack's places, uniformly: for divBasic and divLarge. The stack given back: restore and free, whatever its state. -/
import Derived.Test.YtlnillnngckegaaGreatDoorM12
namespace Go.Proofs.YtlnillnngckegaaGreatDoor

/-- The true digit is at most the guess. -/
theorem guess_ge {P vl V2 tl U2 qh : Nat} (_hP : 0 < P) (hv : 0 < vl + P * V2) (htl : tl < P) (h : U2 < (qh + 1) * V2) : (tl + P * U2) / (vl + P * V2) ≤ qh := by
  rw [Nat.div_le_iff_le_mul_add_pred hv]
  have h1 : P * (U2 + 1) ≤ P * ((qh + 1) * V2) := Nat.mul_le_mul_left _ h
  have e1 : P * (U2 + 1) = P * U2 + P := Nat.mul_succ _ _
  have e2 : P * ((qh + 1) * V2) = qh * (P * V2) + P * V2 := by
    rw [Nat.add_mul, Nat.one_mul, Nat.mul_add, Nat.mul_left_comm]
  have e3 : (vl + P * V2) * qh = qh * vl + qh * (P * V2) := by rw [Nat.mul_comm, Nat.mul_add]
  omega
/-- The guess is at most one more than the true digit. -/
theorem guess_le {P vl V2 tl U2 qh : Nat} (hv : 0 < vl + P * V2) (hvl : vl < P) (h : qh * V2 ≤ U2) (hq : qh ≤ V2) : qh ≤ (tl + P * U2) / (vl + P * V2) + 1 := by
  rcases Nat.eq_zero_or_pos qh with h0 | h0
  · rw [h0]; exact Nat.zero_le _
  obtain ⟨k, rfl⟩ : ∃ k, qh = k + 1 := ⟨qh - 1, by omega⟩
  have : k ≤ (tl + P * U2) / (vl + P * V2) := by
    rw [Nat.le_div_iff_mul_le hv]
    have e1 : k * (vl + P * V2) = k * vl + P * (k * V2) := by rw [Nat.mul_add, Nat.mul_left_comm]
    have e2 : (k + 1) * V2 = k * V2 + V2 := Nat.succ_mul _ _
    have h1 : k * vl ≤ P * V2 := by
      calc k * vl ≤ k * P := Nat.mul_le_mul_left _ (Nat.le_of_lt hvl)
        _ ≤ V2 * P := Nat.mul_le_mul_right _ (by omega)
        _ = P * V2 := Nat.mul_comm _ _
    have h2 : P * (k * V2 + V2) ≤ P * U2 := Nat.mul_le_mul_left _ (by omega)
    rw [Nat.mul_add] at h2
    omega
  exact Nat.succ_le_succ this
/-- Where the first digits agree the greatest digit serves. -/
theorem guess_max {B P vl v1 v2 tl t1 t2 : Nat} (hB : 2 ≤ B) (hvl : vl < P) (hv2 : v2 < B) (hv1 : B ≤ 2 * v1) (hlt : tl + P * (t2 + B * t1 + B * B * v1) < B * (vl + P * (v2 + B * v1))) :
    (tl + P * (t2 + B * t1 + B * B * v1)) / (vl + P * (v2 + B * v1)) ≤ B - 1 ∧ B - 1 ≤ (tl + P * (t2 + B * t1 + B * B * v1)) / (vl + P * (v2 + B * v1)) + 1 := by
  have hv : 0 < vl + P * (v2 + B * v1) := by
    have : 0 < P * (v2 + B * v1) := Nat.mul_pos (by omega) (by have := Nat.mul_pos (show 0 < B by omega) (show 0 < v1 by omega); omega)
    omega
  constructor
  · have := (Nat.div_lt_iff_lt_mul hv).2 hlt
    omega
  · have : B - 2 ≤ (tl + P * (t2 + B * t1 + B * B * v1)) / (vl + P * (v2 + B * v1)) := by
      rw [Nat.le_div_iff_mul_le hv]
      obtain ⟨c, rfl⟩ : ∃ c, B = c + 2 := ⟨B - 2, by omega⟩
      rw [Nat.add_sub_cancel]
      have h1 : vl + P * (v2 + (c + 2) * v1) ≤ P * ((c + 2) * (v1 + 1)) := by
        have h3 : v2 + 1 + (c + 2) * v1 ≤ (c + 2) * (v1 + 1) := by rw [Nat.mul_succ]; omega
        have h4 := Nat.mul_le_mul_left P h3
        have e4 : P * (v2 + 1 + (c + 2) * v1) = P * (v2 + (c + 2) * v1) + P := by rw [show v2 + 1 + (c + 2) * v1 = (v2 + (c + 2) * v1) + 1 by omega, Nat.mul_succ]
        omega
      have h2 : c * (P * ((c + 2) * (v1 + 1))) ≤ P * ((c + 2) * (c + 2) * v1) := by
        have h5 : c * (v1 + 1) ≤ (c + 2) * v1 := by rw [Nat.mul_succ, Nat.add_mul]; omega
        have h6 := Nat.mul_le_mul_left (P * (c + 2)) h5
        have e6 : c * (P * ((c + 2) * (v1 + 1))) = P * (c + 2) * (c * (v1 + 1)) := by
          rw [Nat.mul_left_comm c P, Nat.mul_left_comm c (c + 2), Nat.mul_assoc]
        have e7 : P * ((c + 2) * (c + 2) * v1) = P * (c + 2) * ((c + 2) * v1) := by
          rw [Nat.mul_assoc (c + 2), ← Nat.mul_assoc P]
        rw [e6, e7]; exact h6
      calc c * (vl + P * (v2 + (c + 2) * v1)) ≤ c * (P * ((c + 2) * (v1 + 1))) := Nat.mul_le_mul_left _ h1
        _ ≤ P * ((c + 2) * (c + 2) * v1) := h2
        _ ≤ tl + P * (t2 + (c + 2) * t1 + (c + 2) * (c + 2) * v1) := by
          rw [Nat.mul_add P (t2 + (c + 2) * t1)]; omega
    omega
/-- The first digit is at most the divisor's. -/
theorem first_le {B P vl v1 v2 tl t0 t1 t2 : Nat} (_hB : 0 < B) (hvl : vl < P) (hv2 : v2 < B) (hlt : tl + P * (t2 + B * t1 + B * B * t0) < B * (vl + P * (v2 + B * v1))) : t0 ≤ v1 := by
  have h1 : vl + P * (v2 + B * v1) < P * (B * (v1 + 1)) + 1 := by
    have h3 : v2 + 1 + B * v1 ≤ B * (v1 + 1) := by rw [Nat.mul_succ]; omega
    have h4 := Nat.mul_le_mul_left P h3
    have e4 : P * (v2 + 1 + B * v1) = P * (v2 + B * v1) + P := by rw [show v2 + 1 + B * v1 = (v2 + B * v1) + 1 by omega, Nat.mul_succ]
    omega
  have h2 : P * (B * B * t0) < B * (P * (B * (v1 + 1))) := by
    have h5 : B * (vl + P * (v2 + B * v1)) ≤ B * (P * (B * (v1 + 1))) := Nat.mul_le_mul_left _ (by omega)
    have h6 : P * (B * B * t0) ≤ P * (t2 + B * t1 + B * B * t0) := Nat.mul_le_mul_left _ (by omega)
    omega
  have e : B * (P * (B * (v1 + 1))) = P * (B * B * (v1 + 1)) := by rw [Nat.mul_left_comm, Nat.mul_assoc B B]
  rw [e] at h2
  have h7 := Nat.lt_of_mul_lt_mul_left h2
  have h8 := Nat.lt_of_mul_lt_mul_left h7
  omega

/-- A list of words, cut at its last two. -/
theorem val_top2 {L : List Nat} {k : Nat} (h : L.length = k + 2) : val L = val (L.take k) + WB ^ k * (nth L k + WB * nth L (k + 1)) := by
  have h1 : L.take (k + 1 + 1) = L := List.take_of_length_le (by omega)
  have h2 := val_take_succ (l := L) (k := k + 1) (by omega)
  rw [h1, val_take_succ (k := k) (by omega), Nat.pow_succ] at h2
  rw [h2, Nat.mul_add, Nat.mul_assoc, Nat.add_assoc]
theorem val_top3 {L : List Nat} {k : Nat} (h : L.length = k + 3) : val L = val (L.take k) + WB ^ k * (nth L k + WB * nth L (k + 1) + WB * WB * nth L (k + 2)) := by
  have h1 : L.take (k + 2 + 1) = L := List.take_of_length_le (by omega)
  have h2 := val_take_succ (l := L) (k := k + 2) (by omega)
  have h3 := val_take_succ (l := L) (k := k + 1) (by omega)
  rw [h1] at h2
  rw [show k + 1 + 1 = k + 2 from rfl, val_take_succ (k := k) (by omega)] at h3
  have e1 : WB ^ (k + 2) * nth L (k + 2) = WB ^ k * (WB * WB * nth L (k + 2)) := by
    rw [show k + 2 = k + 1 + 1 from rfl, Nat.pow_succ, Nat.pow_succ, Nat.mul_assoc (WB ^ k), Nat.mul_assoc (WB ^ k)]
  have e2 : WB ^ (k + 1) * nth L (k + 1) = WB ^ k * (WB * nth L (k + 1)) := by rw [Nat.pow_succ, Nat.mul_assoc]
  rw [h2, h3, e1, e2, Nat.mul_add, Nat.mul_add]
  omega
end Go.Proofs.YtlnillnngckegaaGreatDoor

namespace Go.Proofs.YtlnillnngckegaaGreatDoor
open Go Go.RowKit

theorem digit_bounds {V T : List Nat} {k : Nat} (hV : V.length = k + 2) (hT : T.length = k + 3) (WV : Wd V) (WT : Wd T) (hn : WB ≤ 2 * nth V (k + 1)) (hlt : val T < WB * val V) :
    nth T (k + 2) ≤ nth V (k + 1) ∧ (nth T (k + 2) = nth V (k + 1) → val T / val V ≤ WB - 1 ∧ WB - 1 ≤ val T / val V + 1) ∧
    ∀ qh, qh < WB → qh * (nth V k + WB * nth V (k + 1)) ≤ nth T k + WB * nth T (k + 1) + WB * WB * nth T (k + 2) →
      nth T k + WB * nth T (k + 1) + WB * WB * nth T (k + 2) < (qh + 1) * (nth V k + WB * nth V (k + 1)) → val T / val V ≤ qh ∧ qh ≤ val T / val V + 1 := by
  have hvl := val_lt (WV.take k)
  rw [List.length_take, Nat.min_eq_left (by omega)] at hvl
  have htl := val_lt (WT.take k)
  rw [List.length_take, Nat.min_eq_left (by omega)] at htl
  rw [val_top2 hV, val_top3 hT] at *
  have hv1 := WB_two
  have h2 := WV.nth k
  have hpos : 0 < val (V.take k) + WB ^ k * (nth V k + WB * nth V (k + 1)) := by
    have h3 : 0 < WB * nth V (k + 1) := Nat.mul_pos WB_pos (by omega)
    have := Nat.mul_pos (WB_pow_pos k) (show 0 < nth V k + WB * nth V (k + 1) by omega)
    omega
  refine ⟨first_le WB_pos hvl h2 hlt, fun e => ?_, fun qh hq h3 h4 => ⟨guess_ge (WB_pow_pos k) hpos htl h4, guess_le hpos hvl h3 ?_⟩⟩
  · rw [e] at hlt ⊢
    exact guess_max WB_two hvl h2 hn hlt
  · have : WB * 1 ≤ WB * nth V (k + 1) := Nat.mul_le_mul_left _ (by omega)
    omega

/-- The first guess is not too small. -/
theorem guess_start {t0 t1 t2 v1 v2 : Nat} (hv1 : 0 < v1) (ht2 : t2 < WB) : t2 + WB * t1 + WB * WB * t0 < ((t0 * WB + t1) / v1 + 1) * (v2 + WB * v1) := by
  generalize hq : (t0 * WB + t1) / v1 = q
  have h1 : t0 * WB + t1 < (q + 1) * v1 := by
    rw [← hq, Nat.mul_comm (_ + 1)]
    exact Nat.lt_mul_div_succ _ hv1
  have h2 : WB * (t0 * WB + t1 + 1) ≤ WB * ((q + 1) * v1) := Nat.mul_le_mul_left _ h1
  have e1 : WB * (t0 * WB + t1 + 1) = WB * WB * t0 + WB * t1 + WB := by
    rw [Nat.mul_add, Nat.mul_add, Nat.mul_one, Nat.mul_comm t0, Nat.mul_assoc]
  have e2 : (q + 1) * (v2 + WB * v1) = (q + 1) * v2 + WB * ((q + 1) * v1) := by rw [Nat.mul_add, Nat.mul_left_comm]
  rw [e2]; omega
/-- A guess that passes the test is small enough. -/
theorem guess_pass {t0 t1 t2 v1 v2 q r x : Nat} (hr : q * v1 + r = t0 * WB + t1) (hx : x = q * v2) (h : x ≤ r * WB + t2) : q * (v2 + WB * v1) ≤ t2 + WB * t1 + WB * WB * t0 := by
  have e1 : q * (v2 + WB * v1) = q * v2 + WB * (q * v1) := by rw [Nat.mul_add, Nat.mul_left_comm]
  have e2 : WB * (q * v1 + r) = WB * (t0 * WB + t1) := by rw [hr]
  rw [Nat.mul_add, Nat.mul_add] at e2
  have e3 : WB * (t0 * WB) = WB * WB * t0 := by rw [Nat.mul_comm t0, Nat.mul_assoc]
  have e4 : r * WB = WB * r := Nat.mul_comm _ _
  omega
/-- One that does not is not the greatest. -/
theorem guess_fail {t0 t1 t2 v1 v2 q r x : Nat} (hr : q * v1 + r = t0 * WB + t1) (hx : x = q * v2) (h : r * WB + t2 < x) : t2 + WB * t1 + WB * WB * t0 < q * (v2 + WB * v1) := by
  have e1 : q * (v2 + WB * v1) = q * v2 + WB * (q * v1) := by rw [Nat.mul_add, Nat.mul_left_comm]
  have e2 : WB * (q * v1 + r) = WB * (t0 * WB + t1) := by rw [hr]
  rw [Nat.mul_add, Nat.mul_add] at e2
  have e3 : WB * (t0 * WB) = WB * WB * t0 := by rw [Nat.mul_comm t0, Nat.mul_assoc]
  have e4 : r * WB = WB * r := Nat.mul_comm _ _
  omega
/-- Two words in order. -/
theorem two_words {x1 x2 y1 y2 : Nat} (hx2 : x2 < WB) (hy2 : y2 < WB) : (y1 < x1 ∨ x1 = y1 ∧ y2 < x2) ↔ y1 * WB + y2 < x1 * WB + x2 := by
  constructor
  · rintro (h | ⟨rfl, h⟩)
    · have := Nat.mul_le_mul_right WB (Nat.succ_le_of_lt h)
      rw [Nat.succ_mul] at this
      omega
    · omega
  · intro h
    rcases Nat.lt_trichotomy y1 x1 with h1 | h1 | h1
    · exact .inl h1
    · subst h1; exact .inr ⟨rfl, by omega⟩
    · have := Nat.mul_le_mul_right WB (Nat.succ_le_of_lt h1)
      rw [Nat.succ_mul] at this
      omega
/-- The product of the guess and the second digit, one guess less. -/
theorem less_guess {q v2 x1 x2 : Nat} (hx : x1 * WB + x2 = q * v2) (hq : 0 < q) (hv2 : v2 < WB) (hx1 : x1 < WB) (hx2 : x2 < WB) :
    (if x2 < v2 then wsub x1 1 else x1) * WB + wsub x2 v2 = (q - 1) * v2 ∧ (if x2 < v2 then wsub x1 1 else x1) < WB := by
  obtain ⟨k, rfl⟩ : ∃ k, q = k + 1 := ⟨q - 1, by omega⟩
  rw [Nat.add_sub_cancel]
  have e : (k + 1) * v2 = k * v2 + v2 := Nat.succ_mul _ _
  have hW := WB_two
  split
  · rename_i h
    have h1 : 1 ≤ x1 := by
      rcases Nat.eq_zero_or_pos x1 with h0 | h0
      · subst h0; omega
      · exact h0
    rw [wsub_borrow h hv2, wsub_of h1 hx1]
    obtain ⟨c, rfl⟩ : ∃ c, x1 = c + 1 := ⟨x1 - 1, by omega⟩
    rw [Nat.succ_mul] at hx
    rw [Nat.add_sub_cancel]
    exact ⟨by omega, by omega⟩
  · rename_i h
    rw [wsub_of (by omega) hx2]
    exact ⟨by omega, hx1⟩
/-- The remainder runs over: the guess is small enough. -/
theorem guess_over {t0 t1 t2 v1 v2 q r : Nat} (hr : q * v1 + r = t0 * WB + t1) (hq : q < WB) (hv2 : v2 < WB) (h : WB ≤ r) : q * (v2 + WB * v1) ≤ t2 + WB * t1 + WB * WB * t0 := by
  refine guess_pass hr rfl ?_
  have h1 : q * v2 ≤ WB * WB := Nat.mul_le_mul (Nat.le_of_lt hq) (Nat.le_of_lt hv2)
  have h2 : WB * WB ≤ r * WB := Nat.mul_le_mul_right _ h
  omega
end Go.Proofs.YtlnillnngckegaaGreatDoor

namespace Go.Proofs.YtlnillnngckegaaGreatDoor
open Go Go.RowKit

theorem spl_fix {U R2 R3 : List Nat} {j k x : Nat} (h : j + (k + 3) ≤ U.length) (hR2 : R2.length = k + 3) (hR3 : R3.length = k + 2) : (spl (spl U j R2) j R3).set (j + (k + 2)) x = spl U j (R3 ++ [x]) := by
  have l1 : (spl U j R2).length = U.length := spl_length (by omega)
  have l2 : (spl (spl U j R2) j R3).length = U.length := by rw [spl_length (by omega), l1]
  have l3 : (R3 ++ [x]).length = k + 3 := by rw [List.length_append, hR3]; rfl
  apply List.ext_getElem?
  intro i
  rw [List.getElem?_set]
  split
  · rename_i e; subst e
    rw [if_pos (by omega), spl_mid (C := U) (o := j) (R := R3 ++ [x]) (by omega) (by omega), List.getElem?_append_right (by omega)]
    simp [hR3]
  · rename_i e
    by_cases h1 : i < j
    · rw [spl_lt (C := spl U j R2) (o := j) (R := R3) (by omega) h1, spl_lt (C := U) (o := j) (R := R2) (by omega) h1, spl_lt (C := U) (o := j) (R := R3 ++ [x]) (by omega) h1]
    · by_cases h2 : i < j + (k + 2)
      · obtain ⟨d, rfl⟩ : ∃ d, i = j + d := ⟨i - j, by omega⟩
        rw [spl_mid (C := spl U j R2) (o := j) (R := R3) (by omega) (by omega), spl_mid (C := U) (o := j) (R := R3 ++ [x]) (by omega) (by omega), List.getElem?_append_left (by omega)]
      · rw [spl_ge (C := spl U j R2) (o := j) (R := R3) (by omega) (by omega), spl_ge (C := U) (o := j) (R := R2) (by omega) (by omega), spl_ge (C := U) (o := j) (R := R3 ++ [x]) (by omega) (by omega)]

/-- What is added back runs over the top. -/
theorem back_val {R2 R3 : List Nat} {v r c3 k : Nat} (hR2 : R2.length = k + 3) (hR3 : R3.length = k + 2) (WR3 : Wd R3) (h7 : val R3 + WB ^ (k + 2) * c3 = val (R2.take (k + 2)) + v)
    (h2 : val R2 + v = r + WB ^ (k + 3)) (hr : r < WB ^ (k + 2)) : val (R3 ++ [wadd (nth R2 (k + 2)) c3]) = r := by
  have h3 := val_take_succ (l := R2) (k := k + 2) (by omega)
  rw [List.take_of_length_le (by omega)] at h3
  have h4 := val_lt WR3
  rw [hR3] at h4
  have h5 : val R3 + WB ^ (k + 2) * (nth R2 (k + 2) + c3) = r + WB ^ (k + 2) * WB := by
    rw [Nat.mul_add, show WB ^ (k + 2) * WB = WB ^ (k + 3) from (Nat.pow_succ _ _).symm]
    omega
  have h6 : (val R3 + WB ^ (k + 2) * (nth R2 (k + 2) + c3)) / WB ^ (k + 2) = nth R2 (k + 2) + c3 := by
    rw [Nat.add_mul_div_left _ _ (WB_pow_pos _), Nat.div_eq_of_lt h4, Nat.zero_add]
  have h8 : (r + WB ^ (k + 2) * WB) / WB ^ (k + 2) = WB := by
    rw [Nat.add_mul_div_left _ _ (WB_pow_pos _), Nat.div_eq_of_lt hr, Nat.zero_add]
  rw [h5, h8] at h6
  have h9 : wadd (nth R2 (k + 2)) c3 = 0 := by unfold wadd; rw [← h6, Nat.mod_self]
  rw [← h6] at h5
  rw [h9, val_snoc, Nat.mul_zero, Nat.add_zero]
  omega

/-- A digit of the quotient is known: the state goes down by one place. -/
theorem div_step {U0v N M k j : Nat} {U' Q' R5 V T : List Nat} (hN : N = M + (k + 2)) (hj : j < M) (hUl : N ≤ U'.length) (hQl : M ≤ Q'.length) (hT : ((U'.take N).drop j).take (k + 3) = T)
    (hTv : val ((U'.take N).drop j) = val T) (hR5 : R5.length = k + 3) (hv : val R5 = val T % val V) (hV : 0 < val V)
    (heq : U0v = val (U'.take N) + val V * (WB ^ (j + 1) * val ((Q'.take M).drop (j + 1)))) :
    U0v = val ((spl U' j R5).take N) + val V * (WB ^ j * val (((Q'.set j (val T / val V)).take M).drop j)) ∧ val (((spl U' j R5).take N).drop j) < val V := by
  have hLl : (U'.take N).length = N := by rw [List.length_take]; omega
  have e1 : (spl U' j R5).take N = (U'.take N).take j ++ (R5 ++ ((U'.take N).drop j).drop (k + 3)) := by
    apply List.ext_getElem?
    intro i
    by_cases hi : i < N
    · rw [List.getElem?_take_of_lt hi]
      by_cases h1 : i < j
      · rw [spl_lt (C := U') (o := j) (R := R5) (by omega) h1, List.getElem?_append_left (by simp; omega), List.getElem?_take_of_lt h1, List.getElem?_take_of_lt hi]
      · by_cases h2 : i < j + (k + 3)
        · obtain ⟨d, rfl⟩ : ∃ d, i = j + d := ⟨i - j, by omega⟩
          rw [spl_mid (C := U') (o := j) (R := R5) (by omega) (by omega), List.getElem?_append_right (by simp; omega), List.getElem?_append_left (by simp; omega)]
          congr 1; simp; omega
        · rw [spl_ge (C := U') (o := j) (R := R5) (by omega) (by omega), List.getElem?_append_right (by simp; omega), List.getElem?_append_right (by simp; omega), List.getElem?_drop, List.getElem?_drop, List.getElem?_take_of_lt (by simp; omega)]
          congr 1; simp; omega
    · rw [List.getElem?_eq_none (by simp; omega), List.getElem?_eq_none (by simp; omega)]
  have hz : WB ^ (k + 3) * val (((U'.take N).drop j).drop (k + 3)) = 0 := by
    have h1 := val_take_drop ((U'.take N).drop j) (k + 3) (by rw [List.length_drop, hLl]; omega)
    rw [hT, hTv] at h1
    omega
  have hd : val (R5 ++ ((U'.take N).drop j).drop (k + 3)) = val R5 := by rw [val_append, hR5, hz, Nat.add_zero]
  have htl : ((U'.take N).take j).length = j := by rw [List.length_take, hLl]; omega
  have hL1 : val ((spl U' j R5).take N) = val ((U'.take N).take j) + WB ^ j * val R5 := by rw [e1, val_append, htl, hd]
  have hL0 : val (U'.take N) = val ((U'.take N).take j) + WB ^ j * val T := by
    have h1 := val_take_drop (U'.take N) j (by omega)
    rw [hTv] at h1
    exact h1
  have hQ : ((Q'.set j (val T / val V)).take M).drop j = (val T / val V) :: (Q'.take M).drop (j + 1) := by
    apply List.ext_getElem?
    intro i
    rw [List.getElem?_drop]
    cases i with
    | zero => rw [Nat.add_zero, List.getElem?_take_of_lt hj, List.getElem?_set_self (by omega)]; rfl
    | succ i =>
      rw [List.getElem?_cons_succ, List.getElem?_drop, show j + 1 + i = j + (i + 1) by omega]
      by_cases h1 : j + (i + 1) < M
      · rw [List.getElem?_take_of_lt h1, List.getElem?_take_of_lt h1, List.getElem?_set_ne (by omega)]
      · rw [List.getElem?_eq_none (by simp; omega), List.getElem?_eq_none (by simp; omega)]
  have hdm : val T / val V * val V + val T % val V = val T := by rw [Nat.mul_comm]; exact Nat.div_add_mod _ _
  refine ⟨?_, ?_⟩
  · rw [heq, hL0, hL1, hQ, val_cons, hv]
    have h1 : WB ^ j * val T = WB ^ j * (val T / val V * val V) + WB ^ j * (val T % val V) := by rw [← Nat.mul_add, hdm]
    have h2 : val V * (WB ^ j * (val T / val V + WB * val ((Q'.take M).drop (j + 1)))) = WB ^ j * (val T / val V * val V) + val V * (WB ^ (j + 1) * val ((Q'.take M).drop (j + 1))) := by
      rw [Nat.mul_add, Nat.mul_add, Nat.pow_succ, Nat.mul_assoc (WB ^ j)]
      congr 1
      rw [Nat.mul_left_comm, Nat.mul_comm (val V)]
    omega
  · have h3 : ((spl U' j R5).take N).drop j = R5 ++ ((U'.take N).drop j).drop (k + 3) := by
      rw [e1, List.drop_append_of_le_length (by omega), List.drop_of_length_le (by omega), List.nil_append]
    rw [h3, hd, hv]
    exact Nat.mod_lt _ hV
end Go.Proofs.YtlnillnngckegaaGreatDoor

namespace Go.Proofs.YtlnillnngckegaaGreatDoor
open Go Go.RowKit

/-- The words V lie at a place. -/
def At (w : World) (b o : Nat) (V : List Nat) : Prop := ∀ i, i < V.length → w.cell? ⟨b, o + i, none⟩ = some (.int .u64 (nth V i : Int))
theorem At.chg {w w' : World} {S : Nat → Prop} {b o : Nat} {V : List Nat} (h : At w b o V) (hc : Chg w w' S) (hn : ¬ S b) : At w' b o V := fun i hi => hc.cell (h i hi) hn
/-- They are read while others are written that lie elsewhere, or behind them. -/
theorem At.sub {w wr : World} {b o bz oz : Nat} {V C R : List Nat} (h : At w b o V) (ha : Arr w bz C) (hS : Sub w wr bz (spl C oz R)) (hfit : oz + R.length ≤ C.length) (hs : b ≠ bz ∨ o + V.length ≤ oz) : At wr b o V := by
  intro i hi
  by_cases e : b = bz
  · subst e
    have hle : o + V.length ≤ oz := by
      rcases hs with h | h
      · exact absurd rfl h
      · exact h
    have h1 := h i hi
    have hlt : o + i < C.length := by omega
    rw [ha.cellN hlt] at h1
    rw [hS.arr.cellN (by rw [spl_length hfit]; exact hlt), nth_spl_lt hfit (by omega)]
    exact h1
  · exact hS.chg.cell (h i hi) e
theorem At.rd {w : World} {b o bz oz n : Nat} {V C : List Nat} (h : At w b o V) (ha : Arr w bz C) (hn : V.length = n) (hfit : oz + n ≤ C.length) (hs : b ≠ bz ∨ o + V.length ≤ oz) : Rd w bz oz n C b o V := by
  intro wr R hS hR
  exact (h.sub ha hS (by omega) hs) R.length (by omega)

end Go.Proofs.YtlnillnngckegaaGreatDoor

namespace Go.Proofs.YtlnillnngckegaaGreatDoor
open Go Go.RowKit

/-- The blocks that belong to the stack. -/
def StkBlk (s : Nat) : Option (Nat × Nat × Nat) → Nat → Prop
  | none, k => k = s
  | some (t, b, _), k => k = t ∨ k = b

theorem StkS.ne {w : World} {s t b l : Nat} (h : StkS w s (some (t, b, l))) : s ≠ t ∧ b ≠ s ∧ b ≠ t := by
  obtain ⟨c, C, h1⟩ := h
  refine ⟨?_, h1.hb.ne h1.hs (by decide), h1.hb.ne h1.ht (by decide)⟩
  rintro rfl
  have := h1.ht
  rw [h1.hs] at this
  simp at this

theorem StkS.save {w : World} {s : Nat} {st : Option (Nat × Nat × Nat)} (h : StkS w s st) :
    Calls Tryz.prog 158 #[.pointer (some ⟨s, 0, none⟩)] w fun e w' => e = .returned (.int .i64 ((match st with | none => 0 | some (_, _, l) => l : Nat) : Int)) ∧ w = w' := by
  match st, h with
  | none, h => exact save0 w s h
  | some (t, b, l), ⟨c, C, h⟩ => exact save1 w s t b l c C h

/-- A place for n words, where V lies safe at the head of block bv. -/
theorem stkNat (w : World) (s n bv : Nat) (st : Option (Nat × Nat × Nat)) (V : List Nat) (h : StkS w s st) (hn0 : 0 < n) (hn : n ≤ 800) (hV : At w bv 0 V) (hVa : ∃ C, Arr w bv C ∧ V.length ≤ C.length)
    (hst : st = none ∨ ∃ t l, st = some (t, bv, l) ∧ V.length ≤ l ∧ l ≤ 800) :
    Calls Tryz.prog 159 #[.pointer (some ⟨s, 0, none⟩), .int .i64 n] w fun e w1 => ∃ bh oh G H st', e = .returned (.slice (some ⟨bh, oh, none⟩) n G) ∧ Arr w1 bh H ∧ oh + n ≤ H.length ∧ n ≤ G ∧
      (w.heap.size ≤ bh ∨ bh = bv) ∧ At w1 bv 0 V ∧ (bv ≠ bh ∨ 0 + V.length ≤ oh) ∧ StkS w1 s st' ∧ Chg w w1 (StkBlk s st) ∧
      (st = none → st' = none ∨ ∃ t b l, st' = some (t, b, l) ∧ w.heap.size ≤ t ∧ w.heap.size ≤ b) ∧ (∀ t b l, st = some (t, b, l) → ∃ l', st' = some (t, bh, l') ∧ l ≤ oh) := by
  obtain ⟨Cv, hCv, hlv⟩ := hVa
  rcases hst with rfl | ⟨t, l, rfl, hl, hl8⟩
  · refine (stkNat0 w s n h hn0 hn).mono ?_
    rintro e w1 ⟨b, G, C, st', rfl, hb, ha, hC, hG, hchg, hS, hst'⟩
    have hbvs : ¬ bv = s := hCv.ne (show w.heap[s]? = some (.cells #[.pointer none] 198 (0, 0)) from h) (by decide)
    have hlt := hCv.lt
    refine ⟨b, 0, G, C, st', rfl, ha, by omega, hG, .inl hb, hV.chg hchg hbvs, .inl (by omega), hS, hchg, fun _ => ?_, fun t b l e => by cases e⟩
    rcases hst' with rfl | ⟨t, l, rfl, ht, _, _⟩
    · exact .inl rfl
    · exact .inr ⟨t, b, l, rfl, ht, hb⟩
  · have hne := StkS.ne h
    refine (stkNat1 w s t bv l n h hl8 hn0 hn hne.1).mono ?_
    rintro e w1 ⟨b', C', rfl, hb', ha, hC, hchg, ⟨l', hS⟩, hsame⟩
    obtain ⟨Cb, hCb, hCl, hCs⟩ := hsame Cv hCv
    refine ⟨b', l, n, C', some (t, b', l'), rfl, ha, hC, Nat.le_refl _, hb'.symm, ?_, ?_, hS, hchg, (fun e => by cases e), ?_⟩
    · intro i hi
      have h1 := hV i hi
      rw [Nat.zero_add] at h1 ⊢
      rw [hCv.cellN (by omega)] at h1
      rw [hCb.cellN (by omega), hCs i (by omega)]
      exact h1
    · exact .inr (by omega)
    · rintro t' b l0 e
      simp only [Option.some.injEq, Prod.mk.injEq] at e
      obtain ⟨rfl, rfl, rfl⟩ := e
      exact ⟨l', rfl, Nat.le_refl _⟩
end Go.Proofs.YtlnillnngckegaaGreatDoor

namespace Go.Proofs.YtlnillnngckegaaGreatDoor
open Go Go.RowKit

/-- A stack whose row could be cut to n words; its inner block is not below B. -/
def StkW (w : World) (s B n : Nat) : Prop :=
  Stk0 w s ∨ ∃ t b l c, B ≤ t ∧ w.heap[s]? = some (.cells #[.pointer (some ⟨t, 0, none⟩)] 198 (0, 0)) ∧ w.heap[t]? = some (.cells #[.slice (some ⟨b, 0, none⟩) l c] 203 (0, 0)) ∧ n ≤ c ∧ c ≤ 9223372036854775807
/-- The inner blocks of stacks, from B on. -/
def Inner (w : World) (B : Nat) (k : Nat) : Prop := B ≤ k ∧ ∃ cs, w.heap[k]? = some (.cells cs 203 (0, 0))
theorem Inner.arr {w : World} {B b : Nat} {C : List Nat} (h : Arr w b C) : ¬ Inner w B b := by
  rintro ⟨_, cs, h2⟩
  exact h.ne h2 (by decide) rfl
theorem StkW.mono {w : World} {s B m n : Nat} (h : StkW w s B n) (hm : m ≤ n) : StkW w s B m := by
  rcases h with h | ⟨t, b, l, c, h1, h2, h3, h4, h5⟩
  · exact .inl h
  · exact .inr ⟨t, b, l, c, h1, h2, h3, by omega, h5⟩
theorem StkW.chg {w w' : World} {s B n : Nat} {S : Nat → Prop} (h : StkW w s B n) (hc : Chg w w' S) (hs : ¬ S s) (ht : ∀ t cs, w.heap[t]? = some (.cells cs 203 (0, 0)) → ¬ S t) : StkW w' s B n := by
  rcases h with h | ⟨t, b, l, c, h1, h2, h3, h4, h5⟩
  · exact .inl (hc.heap h hs)
  · exact .inr ⟨t, b, l, c, h1, hc.heap h2 hs, hc.heap h3 (ht _ _ h3), h4, h5⟩
theorem StkS.weak {w : World} {s B n : Nat} {st : Option (Nat × Nat × Nat)} (h : StkS w s st) (hB : ∀ t b l, st = some (t, b, l) → B ≤ t) (hn : ∀ t b l, st = some (t, b, l) → n ≤ l) : StkW w s B n := by
  match st, h with
  | none, h => exact .inl h
  | some (t, b, l), ⟨c, C, h1⟩ => exact .inr ⟨t, b, l, c, hB _ _ _ rfl, h1.hs, h1.ht, Nat.le_trans (hn _ _ _ rfl) h1.hl, h1.hc⟩

theorem restoreW (w : World) (s B n : Nat) (u : FrameMode) (h : StkW w s B n) :
    CallsD Tryz.prog 157 #[.pointer (some ⟨s, 0, none⟩), .int .i64 n] u w fun e u' w' => u' = u ∧ e = .returned (.tuple #[]) ∧ StkW w' s B 0 ∧ Chg w w' (Inner w B) := by
  rcases h with h | ⟨t, b, l, c, hB, hs, ht, hn, hcc⟩
  · refine (restore0 w s n u h).mono ?_
    rintro e u' w' ⟨rfl, rfl, rfl⟩
    exact ⟨rfl, rfl, .inl h, Chg.refl _ _⟩
  · have hc := cell1 hs
    have hc2 := cell1 ht
    have hf2 := frozen1 ht 0
    have hi : Calls Tryz.prog 184 #[.pointer (some ⟨t, 0, none⟩), .int .i64 n] w fun e w' => e = .returned (.tuple #[]) ∧ w' = w.setCell ⟨t, 0, none⟩ (.slice (some ⟨b, 0, none⟩) n c) := by
      clear hs ht
      go_enter Tryz.func184, Tryz.ntmps184
      go_wp2
      exact bodyPost_end (results_none rfl _ _ _) rfl ⟨rfl, rfl⟩
    have hst : s ≠ t := by
      rintro rfl
      rw [hs] at ht
      simp at ht
    have hfin : StkW (w.setCell ⟨t, 0, none⟩ (.slice (some ⟨b, 0, none⟩) n c)) s B 0 := .inr ⟨t, b, n, c, hB, (chg_set w t 0 _).heap hs hst, set1 ht, Nat.zero_le _, hcc⟩
    have hch : Chg w (w.setCell ⟨t, 0, none⟩ (.slice (some ⟨b, 0, none⟩) n c)) (Inner w B) := (chg_set w t 0 _).mono (by rintro k _ rfl; exact ⟨hB, _, ht⟩)
    clear hc2 hf2 hs ht
    go_enter_d Tryz.func157, Tryz.ntmps157
    go_wp2_with fail
    refine hi.mono ?_
    rintro e w' ⟨rfl, rfl⟩
    go_wp2
    exact bodyPost_end (results_none rfl _ _ _) rfl ⟨rfl, hfin, hch⟩
theorem freeW (w : World) (s B : Nat) (u : FrameMode) (h : StkW w s B 0) :
    CallsD Tryz.prog 152 #[.pointer (some ⟨s, 0, none⟩)] u w fun e u' w' => u' = u ∧ e = .returned (.tuple #[]) ∧ Chg w w' (Inner w B) := by
  rcases h with h | ⟨t, b, l, c, hB, hs, ht, hn, hcc⟩
  · refine (free0 w s u h).mono ?_
    rintro e u' w' ⟨rfl, rfl, rfl⟩
    exact ⟨rfl, rfl, Chg.refl _ _⟩
  · have hc := cell1 hs
    have hc2 := cell1 ht
    have hf2 := frozen1 ht 0
    have hi : Calls Tryz.prog 181 #[.pointer (some ⟨t, 0, none⟩)] w fun e w' => e = .returned (.tuple #[]) ∧ w' = w.setCell ⟨t, 0, none⟩ (.slice (some ⟨b, 0, none⟩) 0 c) := by
      clear hs ht
      go_enter Tryz.func181, Tryz.ntmps181
      go_wp2
      exact bodyPost_end (results_none rfl _ _ _) rfl ⟨rfl, rfl⟩
    have hch : Chg w (w.setCell ⟨t, 0, none⟩ (.slice (some ⟨b, 0, none⟩) 0 c)) (Inner w B) := (chg_set w t 0 _).mono (by rintro k _ rfl; exact ⟨hB, _, ht⟩)
    clear hc2 hf2 hs ht
    go_enter_d Tryz.func152, Tryz.ntmps152
    go_wp2_with fail
    refine hi.mono ?_
    rintro e w' ⟨rfl, rfl⟩
    go_wp2
    exact bodyPost_end (results_none rfl _ _ _) rfl ⟨rfl, hch⟩
end Go.Proofs.YtlnillnngckegaaGreatDoor
