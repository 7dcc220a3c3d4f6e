/- Shifts of words. Rows of words shifted by less than a word. -/
import Derived.Test.YtlnillnngckegaaGreatDoorM02
namespace Go.Proofs.YtlnillnngckegaaGreatDoor
open Go Go.RowKit

def shrw (x t : Nat) : Nat := x / 2 ^ t
noncomputable def shlw (x t : Nat) : Nat := x * 2 ^ t % WB
def orw (x y : Nat) : Nat := x ||| y
theorem WB_two_pow : WB = 2 ^ 64 := by rw [WB_eq]
theorem shrw_le (x t : Nat) : shrw x t ≤ x := Nat.div_le_self _ _
theorem shrw_lt {x : Nat} (t : Nat) (h : x < WB) : shrw x t < WB := Nat.lt_of_le_of_lt (shrw_le _ _) h
theorem shlw_lt (x t : Nat) : shlw x t < WB := Nat.mod_lt _ WB_pos
theorem orw_lt {x y : Nat} (hx : x < WB) (hy : y < WB) : orw x y < WB := by
  rw [WB_two_pow] at *; exact Nat.or_lt_two_pow hx hy
/-- The two parts of a word times a power of two. -/
theorem shl_shr {x s t : Nat} (hst : s + t = 64) : shlw x s + WB * shrw x t = x * 2 ^ s := by
  unfold shlw shrw
  have e : x / 2 ^ t = x * 2 ^ s / WB := by
    rw [WB_two_pow, ← hst, Nat.pow_add, Nat.mul_comm (2 ^ s) (2 ^ t), Nat.mul_div_mul_right _ _ (Nat.two_pow_pos s)]
  rw [e]; exact Nat.mod_add_div _ _
theorem orw_add {x y s t : Nat} (hst : s + t = 64) (hy : y < WB) : orw (shlw x s) (shrw y t) = shlw x s + shrw y t := by
  unfold orw
  have hb : shrw y t < 2 ^ s := by
    unfold shrw; rw [Nat.div_lt_iff_lt_mul (Nat.two_pow_pos t), ← Nat.pow_add, hst, ← WB_two_pow]; exact hy
  have ha : shlw x s = 2 ^ s * (x % 2 ^ t) := by
    unfold shlw; rw [WB_two_pow, ← hst, Nat.add_comm s t, Nat.pow_add, Nat.mul_comm (2 ^ t) (2 ^ s), Nat.mul_comm x (2 ^ s), Nat.mul_mod_mul_left]
  rw [ha, Nat.two_pow_add_eq_or_of_lt hb]
theorem orw_add' {x y s t : Nat} (hst : s + t = 64) (hy : y < WB) : orw (shrw y t) (shlw x s) = shrw y t + shlw x s := by
  have := orw_add (x := x) hst hy
  unfold orw at *
  rw [Nat.or_comm, this, Nat.add_comm]

@[go_sem ↓ high] theorem shift_shr_nat (x t : Nat) (ht : t < 64) : Op.shift .shr .u64 (x : Int) .u64 (t : Int) = pure (.int .u64 (shrw x t : Int)) := by
  unfold Op.shift shrw
  rw [if_neg (by omega)]
  simp only [Int.toNat_natCast, IntKind.bits, Nat.min_eq_left (Nat.le_of_lt ht)]
  congr 2
  rw [Int.fdiv_eq_ediv_of_nonneg _ (by exact_mod_cast Nat.zero_le (2 ^ t))]
  simp
@[go_sem ↓ high] theorem shift_shl_nat (x t : Nat) (ht : t < 64) : Op.shift .shl .u64 (x : Int) .u64 (t : Int) = pure (.int .u64 (shlw x t : Int)) := by
  unfold Op.shift shlw
  rw [if_neg (by omega)]
  simp only [Int.toNat_natCast, IntKind.bits, Nat.min_eq_left (Nat.le_of_lt ht)]
  congr 2
  rw [IntKind.wrap_u64, WB_eq]
  simp
@[go_sem ↓ high] theorem bits_and63 (s : Nat) (h : s < 64) : bits .and .u64 (s : Int) 63 = (s : Int) := by
  have h1 := bits_and_u64_nat s 63 (by omega) (by omega)
  have e : s &&& 63 = s := by
    rw [show (63 : Nat) = 2 ^ 6 - 1 from rfl, Nat.and_two_pow_sub_one_eq_mod]; exact Nat.mod_eq_of_lt h
  rw [e] at h1; exact h1
theorem bits_orw (x y : Nat) (hx : x < WB) (hy : y < WB) : bits .or .u64 (x : Int) (y : Int) = (orw x y : Int) := by
  rw [WB_eq] at *; exact bits_or_u64_nat x y hx hy
@[go_sem ↓ high] theorem bits_or_lr (x s y t : Nat) (hy : y < WB) : bits .or .u64 (shlw x s : Int) (shrw y t : Int) = (orw (shlw x s) (shrw y t) : Int) := bits_orw _ _ (shlw_lt _ _) (shrw_lt _ hy)
@[go_sem ↓ high] theorem bits_or_rl (x s y t : Nat) (hy : y < WB) : bits .or .u64 (shrw y t : Int) (shlw x s : Int) = (orw (shrw y t) (shlw x s) : Int) := bits_orw _ _ (shrw_lt _ hy) (shlw_lt _ _)

end Go.Proofs.YtlnillnngckegaaGreatDoor

namespace Go.Proofs.YtlnillnngckegaaGreatDoor
open Go Go.RowKit

theorem Sub.read {w wr : World} {bz o bx p : Nat} {Cz R Cx : List Nat} (h : Sub w wr bz (spl Cz o R)) (hz : Arr w bz Cz) (hx : Arr w bx Cx) (hl : o + R.length ≤ Cz.length) (hp : p < Cx.length)
    (hs : bx ≠ bz ∨ p < o ∨ o + R.length ≤ p) : wr.cell? ⟨bx, p, none⟩ = some (.int .u64 (nth Cx p : Int)) := by
  by_cases e : bx = bz
  · subst e
    obtain rfl := hz.inj hx
    rw [h.arr.cellN (by rw [spl_length hl]; exact hp)]
    rcases hs with h1 | h1 | h1
    · exact absurd rfl h1
    · rw [nth_spl_lt hl h1]
    · rw [nth_spl_ge hl h1]
  · exact (h.other e hx).cellN hp
theorem Sub.prev {w wr : World} {b o : Nat} {C R : List Nat} (h : Sub w wr b (spl C (o + 1) R)) (hl : o + 1 + R.length ≤ C.length) (x : Nat) (hx : x < WB) :
    Sub w (wr.setCell ⟨b, o, none⟩ (.int .u64 (x : Int))) b (spl C o (x :: R)) := by
  have := h.set (i := o) x hx
  rwa [spl_prev hl] at this
theorem drop_nth {l : List Nat} {i : Nat} (h : i < l.length) : l.drop i = nth l i :: l.drop (i + 1) := by
  rw [List.drop_eq_getElem_cons h]; congr 1; rw [nth, List.getElem?_eq_getElem h]; rfl
theorem nth_dt (C : List Nat) (o n j : Nat) (h : j < n) : nth ((C.drop o).take n) j = nth C (o + j) := by rw [nth_take h, nth_drop]
theorem lsh_step {r c v h x P p lo : Nat} (e : r + P * c = v * p + h) (ex : lo + WB * h = x * p) (g : Nat) : (lo + g) + WB * r + (P * WB) * c = (x + WB * v) * p + g := by
  have h1 : WB * r + WB * (P * c) = WB * (v * p) + WB * h := by rw [← Nat.mul_add, ← Nat.mul_add, e]
  rw [Nat.add_mul, Nat.mul_assoc WB v p, Nat.mul_comm P WB, Nat.mul_assoc WB P c]
  omega

set_option maxRecDepth 100000 in
set_option maxHeartbeats 800000 in
theorem lshVU_g_c (w : World) (bz oz m cz bx ox cx s : Nat) (Cz Cx : List Nat) (hn : m < 1000000) (hs0 : 0 < s) (hs : s < 64)
    (hz : Arr w bz Cz) (hzl : oz + (m + 1) ≤ Cz.length) (hx : Arr w bx Cx) (hxl : ox + (m + 1) ≤ Cx.length) (hsep : bx ≠ bz ∨ ox ≤ oz) :
    Calls Tryz.prog 208 #[.slice (some ⟨bz, oz, none⟩) (m + 1) cz, .slice (some ⟨bx, ox, none⟩) (m + 1) cx, .int .u64 s] w fun e w' =>
      ∃ R c, e = .returned (.int .u64 ((c : Nat) : Int)) ∧ Sub w w' bz (spl Cz oz R) ∧ R.length = m + 1 ∧ c < WB ∧ val R + WB ^ (m + 1) * c = val ((Cx.drop ox).take (m + 1)) * 2 ^ s := by
  have e0 : ((s : Int) == 0) = false := by simp; omega
  have e1 : ((m : Int) + 1 == 0) = false := by simp; omega
  obtain ⟨t, ht⟩ : ∃ t, s + t = 64 := ⟨64 - s, by omega⟩
  have htl : t < 64 := by omega
  have hw : IntKind.u64.wrap (64 - (s : Int)) = (t : Int) := by rw [IntKind.wrap_u64]; omega
  have hst := Lib.hid ht
  clear ht
  have hX : ((Cx.drop ox).take (m + 1)).length = m + 1 := by simp; omega
  replace hX := Lib.hid hX
  have hl := hx.cellN (i := ox + m) (by omega)
  go_enter Tryz.func208, Tryz.ntmps208
  go_wp2
  go_loopw [8] (fun i wr => ∃ k : Nat, k ≤ m ∧ i = .int .i64 k ∧ ∃ R : List Nat, R.length + k = m ∧ val R + WB ^ R.length * shrw (nth Cx (ox + m)) t = val (((Cx.drop ox).take (m + 1)).drop (k + 1)) * 2 ^ s + shrw (nth Cx (ox + k)) t ∧ Sub w wr bz (spl Cz (oz + k + 1) R)) (fun i _ => (intOf i).toNat)
  case atStart => exact ⟨m, Nat.le_refl _, by go_num, [], by simp, by rw [List.drop_eq_nil_of_le (by rw [hX.out]; omega)]; simp, by rw [spl_nil]; exact Sub.refl hz⟩
  case round =>
    obtain ⟨k, hk, rfl, R, hR1, hR3, hS⟩ := hrel
    have hx0 := hS.read (p := ox + k) hz hx (by omega) (by omega) (by omega)
    have hwx := hx.wd.nth (ox + k)
    by_cases hlt : 0 < k
    · obtain ⟨j, rfl⟩ : ∃ j, k = j + 1 := ⟨k - 1, by omega⟩
      have hx1 := hS.read (p := ox + j) hz hx (by omega) (by omega) (by omega)
      have hwj := hx.wd.nth (ox + j)
      have hz1 := hS.arr.cellN (i := oz + (j + 1)) (by rw [spl_length (by omega)]; omega)
      have hz2 := hS.arr.frozen (oz + (j + 1))
      replace hR3 := Lib.hid hR3
      replace hR1 := Lib.hid hR1
      go_wp2
      go_region
      go_wp2
      go_roundw
      case rel =>
        refine ⟨j, by omega, rfl, orw (shlw (nth Cx (ox + (j + 1))) s) (shrw (nth Cx (ox + j)) t) :: R, by simp; have := hR1.out; omega, ?_, ?_⟩
        · rw [orw_add hst.out hwj, drop_nth (i := j + 1) (by rw [hX.out]; omega), nth_dt _ _ _ _ (by omega), val_cons, val_cons, List.length_cons, Nat.pow_succ]
          exact lsh_step (h := shrw (nth Cx (ox + (j + 1))) t) hR3.out (shl_shr hst.out) _
        · have := hR1.out
          exact (Sub.prev hS (by omega) _ (orw_lt (shlw_lt _ _) (shrw_lt _ hwj))).drew
      case measure => simp [intOf]
    · obtain rfl : k = 0 := by omega
      rw [Nat.add_zero] at hx0 hwx
      have hz1 := hS.arr.cellN (i := oz) (by rw [spl_length (by omega)]; omega)
      have hz2 := hS.arr.frozen oz
      replace hR3 := Lib.hid hR3
      replace hR1 := Lib.hid hR1
      go_wp2
      go_ret
      have hR1 := hR1.out
      refine ⟨shlw (nth Cx ox) s :: R, shrw (nth Cx (ox + m)) t, rfl, Sub.prev hS (by omega) _ (shlw_lt _ _), by simp; omega, shrw_lt _ (hx.wd.nth _), ?_⟩
      have h0 := drop_nth (l := (Cx.drop ox).take (m + 1)) (i := 0) (by rw [hX.out]; omega)
      rw [List.drop_zero, nth_dt _ _ _ _ (by omega), Nat.add_zero] at h0
      rw [h0, val_cons, val_cons]
      have e := lsh_step (x := nth Cx ox) (lo := shlw (nth Cx ox) s) (h := shrw (nth Cx ox) t) hR3.out (shl_shr hst.out) 0
      rw [Nat.add_zero, Nat.add_zero, ← Nat.pow_succ] at e
      have e2 : WB ^ (m + 1) = WB ^ R.length.succ := by rw [show m + 1 = R.length.succ by omega]
      rw [e2]
      simpa using e

theorem rsh_step {v r P p q a x lo hi : Nat} (hp : 0 < p) (hW : WB = p * q) (e : v / p = r + P * a) (ex : lo + WB * hi = x * q) : (v + P * WB * x) / p = r + P * (a + lo) + P * WB * hi := by
  have h1 : v + P * WB * x = v + p * (P * (x * q)) := by rw [hW]; congr 1; rw [Nat.mul_comm p q, ← Nat.mul_assoc, Nat.mul_right_comm (P * q) p x, Nat.mul_comm (P * q * x) p, Nat.mul_assoc P q x, Nat.mul_comm q x]
  rw [h1, Nat.add_mul_div_left _ _ hp, e, ← ex, Nat.mul_add, Nat.mul_add, Nat.mul_assoc P WB hi]
  omega

set_option maxRecDepth 100000 in
set_option maxHeartbeats 800000 in
theorem rshVU_g_c (w : World) (bz oz m cz bx ox cx s : Nat) (Cz Cx : List Nat) (hn : m < 1000000) (hs0 : 0 < s) (hs : s < 64)
    (hz : Arr w bz Cz) (hzl : oz + (m + 1) ≤ Cz.length) (hx : Arr w bx Cx) (hxl : ox + (m + 1) ≤ Cx.length) (hsep : bx ≠ bz ∨ oz ≤ ox) :
    Calls Tryz.prog 226 #[.slice (some ⟨bz, oz, none⟩) (m + 1) cz, .slice (some ⟨bx, ox, none⟩) (m + 1) cx, .int .u64 s] w fun e w' =>
      ∃ R c, e = .returned (.int .u64 ((c : Nat) : Int)) ∧ Sub w w' bz (spl Cz oz R) ∧ R.length = m + 1 ∧ val R = val ((Cx.drop ox).take (m + 1)) / 2 ^ s := by
  have e0 : ((s : Int) == 0) = false := by simp; omega
  have e1 : ((m : Int) + 1 == 0) = false := by simp; omega
  obtain ⟨t, ht⟩ : ∃ t, t + s = 64 := ⟨64 - s, by omega⟩
  have htl : t < 64 := by omega
  have hw : IntKind.u64.wrap (64 - (s : Int)) = (t : Int) := by rw [IntKind.wrap_u64]; omega
  have hst := Lib.hid ht
  clear ht
  have hX : ((Cx.drop ox).take (m + 1)).length = m + 1 := by simp; omega
  replace hX := Lib.hid hX
  have hl := hx.cellN (i := ox) (by omega)
  go_enter Tryz.func226, Tryz.ntmps226
  go_wp2
  go_loopw [8] (fun i wr => ∃ k : Nat, k ≤ m ∧ i = .int .i64 (k + 1) ∧ ∃ R : List Nat, R.length = k ∧ val (((Cx.drop ox).take (m + 1)).take (k + 1)) / 2 ^ s = val R + WB ^ k * shrw (nth Cx (ox + k)) s ∧ Sub w wr bz (spl Cz oz R)) (fun i _ => m + 1 - (intOf i).toNat)
  case atStart =>
    refine ⟨0, Nat.zero_le _, by go_num, [], rfl, ?_, by rw [spl_nil]; exact Sub.refl hz⟩
    rw [val_take_succ (by rw [hX.out]; omega), nth_dt _ _ _ _ (by omega)]
    simp [shrw]
  case round =>
    obtain ⟨k, hk, rfl, R, hR1, hR3, hS⟩ := hrel
    have hx0 := hS.read (p := ox + k) hz hx (by omega) (by omega) (by omega)
    have hwx := hx.wd.nth (ox + k)
    have hz1 := hS.arr.cellN (i := oz + k) (by rw [spl_length (by omega)]; omega)
    have hz2 := hS.arr.frozen (oz + k)
    by_cases hlt : k < m
    · have hx1 := hS.read (p := ox + (k + 1)) hz hx (by omega) (by omega) (by omega)
      have hwj := hx.wd.nth (ox + (k + 1))
      replace hR3 := Lib.hid hR3
      replace hR1 := Lib.hid hR1
      go_wp2
      go_region
      go_wp2
      go_roundw
      case rel =>
        refine ⟨k + 1, by omega, by go_num, R ++ [orw (shrw (nth Cx (ox + k)) s) (shlw (nth Cx (ox + (k + 1))) t)], by simp; have := hR1.out; omega, ?_, ?_⟩
        · have hR1 := hR1.out
          rw [orw_add' hst.out hwx, val_snoc, hR1, val_take_succ (by rw [hX.out]; omega), nth_dt _ _ _ _ (by omega), Nat.pow_succ WB k]
          exact rsh_step (Nat.two_pow_pos s) (by rw [WB_two_pow, ← hst.out, Nat.add_comm, Nat.pow_add]) hR3.out (shl_shr hst.out)
        · have := hR1.out
          exact (hS.next this (by omega) _ (orw_lt (shrw_lt _ hwx) (shlw_lt _ _))).drew
      case measure => simp [intOf]; omega
    · obtain rfl : k = m := by omega
      replace hR3 := Lib.hid hR3
      replace hR1 := Lib.hid hR1
      go_wp2
      go_ret
      have hR1 := hR1.out
      refine ⟨R ++ [shrw (nth Cx (ox + k)) s], shlw (nth Cx ox) t, rfl, hS.next hR1 (by omega) _ (shrw_lt _ hwx), by simp; omega, ?_⟩
      rw [val_snoc, hR1, ← hR3.out, List.take_of_length_le (by rw [hX.out]; omega)]
end Go.Proofs.YtlnillnngckegaaGreatDoor
