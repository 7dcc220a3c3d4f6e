/- More: The stack of places for words: getStack, save, restore, free, nat. More: Scaled divisors and dividends: plain facts. -/
import Derived.Test.YtcoljeafgiemkaaGreatDoorC10
namespace Go.Proofs.YtcoljeafgiemkaaGreatDoor
open Go Go.RowKit

theorem restore1 (w : World) (s t b l c n : Nat) (C : List Nat) (u : FrameMode) (h : Stk1 w s t b l c C) (hn : n ≤ c) :
    CallsD Tryz.prog 221 #[.pointer (some ⟨s, 0, none⟩), .int .i64 n] u w fun e u' w' => u' = u ∧ e = .returned (.tuple #[]) ∧ w' = w.setCell ⟨t, 0, none⟩ (.slice (some ⟨b, 0, none⟩) n c) := by
  have hc := cell1 h.hs
  have hc2 := cell1 h.ht
  have hf2 := frozen1 h.ht 0
  have hcc := h.hc
  have hi : Calls Tryz.prog 247 #[.pointer (some ⟨t, 0, none⟩), .int .i64 n] w fun e w' => e = .returned (.tuple #[]) ∧ w' = w.setCell ⟨t, 0, none⟩ (.slice (some ⟨b, 0, none⟩) n c) := by
    go_enter Tryz.func247, Tryz.ntmps247
    go_wp2
    exact bodyPost_end (results_none rfl _ _ _) rfl ⟨rfl, rfl⟩
  clear hc2 hf2 hcc
  go_enter_d Tryz.func221, Tryz.ntmps221
  go_wp2_with fail
  refine hi.mono ?_
  rintro e w' ⟨rfl, rfl⟩
  go_wp2
  exact bodyPost_end (results_none rfl _ _ _) rfl ⟨rfl, rfl⟩
theorem free1 (w : World) (s t b l c : Nat) (C : List Nat) (u : FrameMode) (h : Stk1 w s t b l c C) :
    CallsD Tryz.prog 203 #[.pointer (some ⟨s, 0, none⟩)] u w fun e u' w' => u' = u ∧ e = .returned (.tuple #[]) ∧ w' = w.setCell ⟨t, 0, none⟩ (.slice (some ⟨b, 0, none⟩) 0 c) := by
  have hc := cell1 h.hs
  have hc2 := cell1 h.ht
  have hf2 := frozen1 h.ht 0
  have hcc := h.hc
  have hi : Calls Tryz.prog 230 #[.pointer (some ⟨t, 0, none⟩)] w fun e w' => e = .returned (.tuple #[]) ∧ w' = w.setCell ⟨t, 0, none⟩ (.slice (some ⟨b, 0, none⟩) 0 c) := by
    go_enter Tryz.func230, Tryz.ntmps230
    go_wp2
    exact bodyPost_end (results_none rfl _ _ _) rfl ⟨rfl, rfl⟩
  clear hc2 hf2 hcc
  go_enter_d Tryz.func203, Tryz.ntmps203
  go_wp2_with fail
  refine hi.mono ?_
  rintro e w' ⟨rfl, rfl⟩
  go_wp2
  exact bodyPost_end (results_none rfl _ _ _) rfl ⟨rfl, rfl⟩

end Go.Proofs.YtcoljeafgiemkaaGreatDoor

namespace Go.Proofs.YtcoljeafgiemkaaGreatDoor
open Go Go.RowKit

theorem top_split {L : List Nat} {k : Nat} (hl : L.length = k + 1) (hw : Wd L) : val L = val (L.take k) + WB ^ k * nth L k ∧ val (L.take k) < WB ^ k := by
  have h1 := val_take_succ (l := L) (k := k) (by omega)
  rw [List.take_of_length_le (by omega)] at h1
  have h2 := val_lt (hw.take k)
  rw [List.length_take, Nat.min_eq_left (by omega)] at h2
  exact ⟨h1, h2⟩
/-- The scaled divisor's top word is at least the half of the base. -/
theorem norm_top {L : List Nat} {k v t p : Nat} (hl : L.length = k + 1) (hw : Wd L) (hv : val L = v * p) (ht : WB ^ k * t ≤ v) (hn : WB ≤ 2 * (t * p)) : WB ≤ 2 * nth L k := by
  obtain ⟨h1, h2⟩ := top_split hl hw
  have h3 : WB ^ k * (t * p) ≤ v * p := by rw [← Nat.mul_assoc]; exact Nat.mul_le_mul_right _ ht
  have h4 : WB ^ k * WB ≤ WB ^ k * (2 * (t * p)) := Nat.mul_le_mul_left _ hn
  have h5 : WB ^ k * (2 * (t * p)) = 2 * (WB ^ k * (t * p)) := by rw [Nat.mul_left_comm]
  have h6 : WB ^ k * WB < WB ^ k * (2 * nth L k + 2) := by
    have e : WB ^ k * (2 * nth L k + 2) = 2 * (WB ^ k * nth L k) + WB ^ k * 2 := by rw [Nat.mul_add, Nat.mul_left_comm]
    omega
  have h7 := Nat.lt_of_mul_lt_mul_left h6
  have h8 : WB % 2 = 0 := by rw [WB_eq]
  omega
/-- It fits into its words. -/
theorem scaled_lt {k v t p q : Nat} (hv : v < WB ^ k * (t + 1)) (hpq : p * q = WB) (ht : t * p < WB) (hp : 0 < p) : v * p < WB ^ (k + 1) := by
  have h1 : t < q := by
    refine Nat.lt_of_mul_lt_mul_left (a := p) ?_
    rw [hpq, Nat.mul_comm]; exact ht
  calc v * p < WB ^ k * (t + 1) * p := Nat.mul_lt_mul_of_pos_right hv hp
    _ ≤ WB ^ k * q * p := Nat.mul_le_mul_right _ (Nat.mul_le_mul_left _ h1)
    _ = WB ^ (k + 1) := by rw [Nat.mul_assoc, Nat.mul_comm q, hpq, Nat.pow_succ]
end Go.Proofs.YtcoljeafgiemkaaGreatDoor
