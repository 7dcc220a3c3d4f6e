/- Scaled divisors and dividends: plain facts. Plain: words that are shifted up until the top bit is set. -/
import Derived.Test.YtlnillnngckegaaGreatDoorM13
namespace Go.Proofs.YtlnillnngckegaaGreatDoor
open Go Go.RowKit

theorem top_split {L : List Nat} {k : Nat} (hl : L.length = k + 1) (hw : Wd L) : val L = val (L.take k) + WB ^ k * nth L k ∧ val (L.take k) < WB ^ k := by
  have h1 := val_take_succ (l := L) (k := k) (by omega)
  rw [List.take_of_length_le (by omega)] at h1
  have h2 := val_lt (hw.take k)
  rw [List.length_take, Nat.min_eq_left (by omega)] at h2
  exact ⟨h1, h2⟩
/-- The scaled divisor's top word is at least the half of the base. -/
theorem norm_top {L : List Nat} {k v t p : Nat} (hl : L.length = k + 1) (hw : Wd L) (hv : val L = v * p) (ht : WB ^ k * t ≤ v) (hn : WB ≤ 2 * (t * p)) : WB ≤ 2 * nth L k := by
  obtain ⟨h1, h2⟩ := top_split hl hw
  have h3 : WB ^ k * (t * p) ≤ v * p := by rw [← Nat.mul_assoc]; exact Nat.mul_le_mul_right _ ht
  have h4 : WB ^ k * WB ≤ WB ^ k * (2 * (t * p)) := Nat.mul_le_mul_left _ hn
  have h5 : WB ^ k * (2 * (t * p)) = 2 * (WB ^ k * (t * p)) := by rw [Nat.mul_left_comm]
  have h6 : WB ^ k * WB < WB ^ k * (2 * nth L k + 2) := by
    have e : WB ^ k * (2 * nth L k + 2) = 2 * (WB ^ k * nth L k) + WB ^ k * 2 := by rw [Nat.mul_add, Nat.mul_left_comm]
    omega
  have h7 := Nat.lt_of_mul_lt_mul_left h6
  have h8 : WB % 2 = 0 := by rw [WB_eq]
  omega
/-- It fits into its words. -/
theorem scaled_lt {k v t p q : Nat} (hv : v < WB ^ k * (t + 1)) (hpq : p * q = WB) (ht : t * p < WB) (hp : 0 < p) : v * p < WB ^ (k + 1) := by
  have h1 : t < q := by
    refine Nat.lt_of_mul_lt_mul_left (a := p) ?_
    rw [hpq, Nat.mul_comm]; exact ht
  calc v * p < WB ^ k * (t + 1) * p := Nat.mul_lt_mul_of_pos_right hv hp
    _ ≤ WB ^ k * q * p := Nat.mul_le_mul_right _ (Nat.mul_le_mul_left _ h1)
    _ = WB ^ (k + 1) := by rw [Nat.mul_assoc, Nat.mul_comm q, hpq, Nat.pow_succ]
end Go.Proofs.YtlnillnngckegaaGreatDoor

namespace Go.Proofs.YtlnillnngckegaaGreatDoor

theorem val_top {L : List Nat} {k : Nat} (hl : L.length = k + 1) : val L = val (L.take k) + WB ^ k * nth L k := by
  have h := take_nth (l := L) (k := k) (by omega)
  rw [List.take_of_length_le (by omega)] at h
  have h2 := val_append (L.take k) [nth L k]
  rw [← h, List.length_take, Nat.min_eq_left (by omega)] at h2
  rw [h2]; simp [val]
theorem val_top_lt {L : List Nat} {k : Nat} (hw : Wd L) (hl : L.length = k + 1) : val (L.take k) < WB ^ k := by
  have h := val_lt (hw.take k)
  rw [List.length_take, Nat.min_eq_left (by omega)] at h
  exact h
theorem two_sh {sh : Nat} (h : sh < 64) : WB = 2 ^ sh * 2 ^ (64 - sh) := by
  rw [← Nat.pow_add, show sh + (64 - sh) = 64 by omega, WB_eq]
theorem top_shift {VL R : List Nat} {k sh c : Nat} (hs : sh < 64) (hw : Wd VL) (hl : VL.length = k + 1) (hR : R.length = k + 1) (hwR : Wd R) (hv : val R + WB ^ (k + 1) * c = val VL * 2 ^ sh)
    (hn : nth VL k * 2 ^ sh < WB ∧ WB ≤ 2 * (nth VL k * 2 ^ sh)) : val R = val VL * 2 ^ sh ∧ nth VL k * 2 ^ sh ≤ nth R k := by
  have h1 := val_top hl
  have h2 := val_top_lt hw hl
  have h3 := val_top hR
  have h4 := val_top_lt hwR hR
  have hp : 0 < 2 ^ sh := Nat.pow_pos (by omega)
  have hW := two_sh hs
  have h5 : (nth VL k + 1) * 2 ^ sh ≤ WB := by
    rw [hW, Nat.mul_comm]
    refine Nat.mul_le_mul_left _ ?_
    have := hn.1
    rw [hW, Nat.mul_comm] at this
    exact Nat.lt_of_mul_lt_mul_left this
  have h6 : val VL * 2 ^ sh < WB ^ (k + 1) := by
    have h7 : val VL < WB ^ k * (nth VL k + 1) := by rw [h1, Nat.mul_add, Nat.mul_one]; omega
    have h8 : val VL * 2 ^ sh < WB ^ k * (nth VL k + 1) * 2 ^ sh := Nat.mul_lt_mul_of_pos_right h7 hp
    have h9 : WB ^ k * (nth VL k + 1) * 2 ^ sh ≤ WB ^ k * WB := by rw [Nat.mul_assoc]; exact Nat.mul_le_mul_left _ h5
    rw [Nat.pow_succ]; omega
  have hc : c = 0 := by
    rcases Nat.eq_zero_or_pos c with h | h
    · exact h
    · exfalso
      have : WB ^ (k + 1) * 1 ≤ WB ^ (k + 1) * c := Nat.mul_le_mul_left _ h
      omega
  subst hc
  have hv' : val R = val VL * 2 ^ sh := by rw [← hv]; simp
  refine ⟨hv', ?_⟩
  have h10 : WB ^ k * (nth VL k * 2 ^ sh) ≤ val R := by
    rw [hv', h1, Nat.add_mul, Nat.mul_assoc]; omega
  have h11 : val R < WB ^ k * (nth R k + 1) := by rw [h3, Nat.mul_add, Nat.mul_one]; omega
  have h12 := Nat.lt_of_mul_lt_mul_left (Nat.lt_of_le_of_lt h10 h11)
  omega
/-- What is shifted out is below the shift. -/
theorem carry_lt {UL R : List Nat} {m sh c : Nat} (hw : Wd UL) (hl : UL.length = m) (hv : val R + WB ^ m * c = val UL * 2 ^ sh) : c < 2 ^ sh := by
  have h1 := val_lt hw
  rw [hl] at h1
  have hp : 0 < 2 ^ sh := Nat.pow_pos (by omega)
  have h2 : val UL * 2 ^ sh < WB ^ m * 2 ^ sh := Nat.mul_lt_mul_of_pos_right h1 hp
  exact Nat.lt_of_mul_lt_mul_left (a := WB ^ m) (by omega)

open Go Go.RowKit
/-- A stack stays where the words of its row alone are turned. -/
theorem StkS.upd {w w' : World} {s : Nat} {st : Option (Nat × Nat × Nat)} {S : Nat → Prop} (h : StkS w s st) (hc : Chg w w' S) (hs : ¬ S s) (ht : ∀ t b l, st = some (t, b, l) → ¬ S t) (hb : ∀ t b l C, st = some (t, b, l) → Arr w b C → ∃ C', Arr w' b C' ∧ C'.length = C.length) : StkS w' s st := by
  match st, h with
  | none, h => exact hc.heap h hs
  | some (t, b, l), ⟨c, C, h1⟩ =>
    obtain ⟨C', h2, h3⟩ := hb t b l C rfl h1.hb
    exact ⟨c, C', hc.heap h1.hs hs, hc.heap h1.ht (ht t b l rfl), h2, h1.hl, h3.trans h1.hC, h1.hc⟩
theorem Arr.uniq {w : World} {b : Nat} {C D : List Nat} (h : Arr w b C) (h' : Arr w b D) : C = D := by
  have h1 := h.heap
  rw [h'.heap] at h1
  have h2 : (D.map uw) = (C.map uw) := by simpa using h1
  have inj : ∀ {x y : Nat}, uw x = uw y → x = y := by intro x y e; unfold uw at e; simp at e; omega
  exact (List.map_inj_right (fun _ _ e => inj e)).1 h2.symm
end Go.Proofs.YtlnillnngckegaaGreatDoor
