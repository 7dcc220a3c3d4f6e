/- Sums, differences and products of rows of words. -/
import Derived.Test.YtabggbajgpbmmaaGreatDoorV1
namespace Go.Proofs.YtabggbajgpbmmaaGreatDoor
open Go Go.RowKit

set_option maxHeartbeats 400000 in
theorem addVV_g_c (w : World) (bz oz n cz bx ox cx by_ oy cy : Nat) (Cz X Y : List Nat) (hn : n < 1000000)
    (hz : Arr w bz Cz) (hzl : oz + n ≤ Cz.length) (hX : X.length = n) (hY : Y.length = n) (WX : Wd X) (WY : Wd Y)
    (hx : Rd w bz oz n Cz bx ox X) (hy : Rd w bz oz n Cz by_ oy Y) :
    Calls Tryz.prog 186 #[.slice (some ⟨bz, oz, none⟩) n cz, .slice (some ⟨bx, ox, none⟩) n cx, .slice (some ⟨by_, oy, none⟩) n cy] w fun e w' =>
      ∃ R c, e = .returned (.int .u64 ((c : Nat) : Int)) ∧ Sub w w' bz (spl Cz oz R) ∧ R.length = n ∧ c ≤ 1 ∧ val R + WB ^ n * c = val X + val Y := by
  have hx := Lib.hid hx
  have hy := Lib.hid hy
  go_enter Tryz.func186, Tryz.ntmps186
  go_wp2
  go_loopw [6, 25] (fun c i wr => ∃ k cc : Nat, k ≤ n ∧ i = .int .i64 k ∧ c = .int .u64 cc ∧ ∃ R : List Nat, R.length = k ∧ cc ≤ 1 ∧ val R + WB ^ k * cc = val (X.take k) + val (Y.take k) ∧ Sub w wr bz (spl Cz oz R)) (fun _ i _ => n - (intOf i).toNat)
  case atStart => exact ⟨0, 0, Nat.zero_le _, rfl, rfl, [], rfl, by omega, by simp, by rw [spl_nil]; exact Sub.refl hz⟩
  case round =>
    obtain ⟨k, cc, hk, rfl, rfl, R, hR1, hc, hR3, hS⟩ := hrel
    by_cases hlt : k < n
    · have hx1 := hx.out wr R hS (by omega)
      have hy1 := hy.out wr R hS (by omega)
      rw [hR1] at hx1 hy1
      have hwx := WX.nth k
      have hwy := WY.nth k
      have hz1 := hS.arr.cellN (i := oz + k) (by rw [spl_length (by omega)]; omega)
      have hz2 := hS.arr.frozen (oz + k)
      go_wp2
      go_quiet ((go_at_call 187; exact Calls.quiet_of_same (bits_Add _ _ _ hwx hwy hc _)))
      go_wp2
      go_roundw
      case rel =>
        refine ⟨k + 1, addc (nth X k) (nth Y k) cc, by omega, by go_num, rfl, R ++ [adds (nth X k) (nth Y k) cc], by simp [hR1], addc_le hwx hwy hc, ?_, ?_⟩
        · rw [val_snoc, hR1, val_take_succ (by omega), val_take_succ (by omega)]
          exact add_step hR3 (adds_addc _ _ _)
        · exact (hS.drewN nq).next hR1 (by omega) _ (adds_lt _ _ _)
      case measure => simp [intOf]; omega
    · go_wp2
      go_ret
      obtain rfl : k = n := by omega
      refine ⟨R, cc, rfl, hS, hR1, hc, ?_⟩
      rw [hR3, List.take_of_length_le (by omega), List.take_of_length_le (by omega)]

set_option maxHeartbeats 400000 in
theorem subVV_g_c (w : World) (bz oz n cz bx ox cx by_ oy cy : Nat) (Cz X Y : List Nat) (hn : n < 1000000)
    (hz : Arr w bz Cz) (hzl : oz + n ≤ Cz.length) (hX : X.length = n) (hY : Y.length = n) (WX : Wd X) (WY : Wd Y)
    (hx : Rd w bz oz n Cz bx ox X) (hy : Rd w bz oz n Cz by_ oy Y) :
    Calls Tryz.prog 188 #[.slice (some ⟨bz, oz, none⟩) n cz, .slice (some ⟨bx, ox, none⟩) n cx, .slice (some ⟨by_, oy, none⟩) n cy] w fun e w' =>
      ∃ R c, e = .returned (.int .u64 ((c : Nat) : Int)) ∧ Sub w w' bz (spl Cz oz R) ∧ R.length = n ∧ Wd R ∧ c ≤ 1 ∧ val X + WB ^ n * c = val R + val Y := by
  have hx := Lib.hid hx
  have hy := Lib.hid hy
  go_enter Tryz.func188, Tryz.ntmps188
  go_wp2
  go_loopw [6, 25] (fun c i wr => ∃ k cc : Nat, k ≤ n ∧ i = .int .i64 k ∧ c = .int .u64 cc ∧ ∃ R : List Nat, R.length = k ∧ Wd R ∧ cc ≤ 1 ∧ val (X.take k) + WB ^ k * cc = val R + val (Y.take k) ∧ Sub w wr bz (spl Cz oz R)) (fun _ i _ => n - (intOf i).toNat)
  case atStart => exact ⟨0, 0, Nat.zero_le _, rfl, rfl, [], rfl, Wd.nil, by omega, by simp, by rw [spl_nil]; exact Sub.refl hz⟩
  case round =>
    obtain ⟨k, cc, hk, rfl, rfl, R, hR1, hW, hc, hR3, hS⟩ := hrel
    by_cases hlt : k < n
    · have hx1 := hx.out wr R hS (by omega)
      have hy1 := hy.out wr R hS (by omega)
      rw [hR1] at hx1 hy1
      have hwx := WX.nth k
      have hwy := WY.nth k
      have hz1 := hS.arr.cellN (i := oz + k) (by rw [spl_length (by omega)]; omega)
      have hz2 := hS.arr.frozen (oz + k)
      go_wp2
      go_quiet ((go_at_call 189; exact Calls.quiet_of_same (bits_Sub _ _ _ hc _)))
      go_wp2
      go_roundw
      case rel =>
        refine ⟨k + 1, subc (nth X k) (nth Y k) cc, by omega, by go_num, rfl, R ++ [subs (nth X k) (nth Y k) cc], by simp [hR1], hW.append (Wd.cons (subs_lt _ _ _) Wd.nil), subc_le _ _ _, ?_, ?_⟩
        · rw [val_snoc, hR1, val_take_succ (by omega), val_take_succ (by omega)]
          exact sub_step hR3 (subs_subc hwx hwy hc)
        · exact (hS.drewN nq).next hR1 (by omega) _ (subs_lt _ _ _)
      case measure => simp [intOf]; omega
    · go_wp2
      go_ret
      obtain rfl : k = n := by omega
      refine ⟨R, cc, rfl, hS, hR1, hW, hc, ?_⟩
      rw [List.take_of_length_le (by omega), List.take_of_length_le (by omega)] at hR3
      exact hR3

theorem mul_step {r P c x X y s c' r0 : Nat} (h : r + P * c = X * y + r0) (e : s + WB * c' = x * y + c) : r + P * s + P * WB * c' = (X + P * x) * y + r0 := by
  have : P * s + P * WB * c' = P * (x * y + c) := by rw [Nat.mul_assoc, ← Nat.mul_add, e]
  rw [Nat.mul_add] at this
  rw [Nat.add_mul, Nat.mul_assoc P x y]
  omega

set_option maxHeartbeats 400000 in
/-- z = x * y + r, with a carry. -/
theorem mulAddVWW_g_c (w : World) (bz oz n cz bx ox cx y r : Nat) (Cz X : List Nat) (hn : n < 1000000)
    (hz : Arr w bz Cz) (hzl : oz + n ≤ Cz.length) (hX : X.length = n) (WX : Wd X) (hwy : y < WB) (hwr : r < WB)
    (hx : Rd w bz oz n Cz bx ox X) :
    Calls Tryz.prog 235 #[.slice (some ⟨bz, oz, none⟩) n cz, .slice (some ⟨bx, ox, none⟩) n cx, .int .u64 y, .int .u64 r] w fun e w' =>
      ∃ R c, e = .returned (.int .u64 ((c : Nat) : Int)) ∧ Sub w w' bz (spl Cz oz R) ∧ R.length = n ∧ c < WB ∧ val R + WB ^ n * c = val X * y + r := by
  have hx := Lib.hid hx
  go_enter Tryz.func235, Tryz.ntmps235
  go_wp2
  go_loopw [8, 19] (fun c i wr => ∃ k cc : Nat, k ≤ n ∧ i = .int .i64 k ∧ c = .int .u64 cc ∧ ∃ R : List Nat, R.length = k ∧ cc < WB ∧ val R + WB ^ k * cc = val (X.take k) * y + r ∧ Sub w wr bz (spl Cz oz R)) (fun _ i _ => n - (intOf i).toNat)
  case atStart => exact ⟨0, r, Nat.zero_le _, rfl, rfl, [], rfl, hwr, by simp, by rw [spl_nil]; exact Sub.refl hz⟩
  case round =>
    obtain ⟨k, cc, hk, rfl, rfl, R, hR1, hc, hR3, hS⟩ := hrel
    by_cases hlt : k < n
    · have hx1 := hx.out wr R hS (by omega)
      rw [hR1] at hx1
      have hwx := WX.nth k
      have hz1 := hS.arr.cellN (i := oz + k) (by rw [spl_length (by omega)]; omega)
      have hz2 := hS.arr.frozen (oz + k)
      go_wp2_with (go_at_call 251; refine (mulAddWWW_g_c _ _ _ hwx hwy hc _).mono ?_; rintro e w' ⟨rfl, rfl⟩)
      go_roundw
      case rel =>
        refine ⟨k + 1, mac1 (nth X k) y cc, by omega, by go_num, rfl, R ++ [mac0 (nth X k) y cc], by simp [hR1], mac1_lt hwx hwy hc, ?_, ?_⟩
        · rw [val_snoc, hR1, val_take_succ (by omega)]
          exact mul_step hR3 (mac_eq _ _ _)
        · exact hS.next hR1 (by omega) _ (mac0_lt _ _ _)
      case measure => simp [intOf]; omega
    · go_wp2
      go_ret
      obtain rfl : k = n := by omega
      refine ⟨R, cc, rfl, hS, hR1, hc, ?_⟩
      rw [hR3, List.take_of_length_le (by omega)]

theorem macc_step {r P c x X y Y m s z1 z0 cc a : Nat} (h : r + P * c = X + Y * m + a) (e1 : z0 + WB * z1 = y * m + x) (e2 : s + WB * cc = z0 + c) :
    r + P * s + P * WB * (cc + z1) = X + P * x + (Y + P * y) * m + a := by
  have h1 : P * s + P * WB * cc = P * (z0 + c) := by rw [Nat.mul_assoc, ← Nat.mul_add, e2]
  have h2 : P * z0 + P * WB * z1 = P * (y * m + x) := by rw [Nat.mul_assoc, ← Nat.mul_add, e1]
  rw [Nat.mul_add] at h1 h2
  rw [Nat.mul_add, Nat.add_mul, Nat.mul_assoc P y m]
  omega

/-- The carry of a product with two sums. -/
theorem macc_lt {x y m c : Nat} (hx : x < WB) (hy : y < WB) (hm : m < WB) (hc : c < WB) : addc (mac0 y m x) c 0 + mac1 y m x < WB := by
  have b := mac_bound hy hm hx hc
  have e1 := mac_eq y m x
  have e2 := adds_addc (mac0 y m x) c 0
  have : WB * (addc (mac0 y m x) c 0 + mac1 y m x) < WB * WB := by rw [Nat.mul_add]; omega
  exact Nat.lt_of_mul_lt_mul_left this

set_option maxHeartbeats 800000 in
/-- z = x + y * m + a, with a carry. -/
theorem addMulVVWW_g_c (w : World) (bz oz n cz bx ox cx by_ oy cy m a : Nat) (Cz X Y : List Nat) (hn : n < 1000000)
    (hz : Arr w bz Cz) (hzl : oz + n ≤ Cz.length) (hX : X.length = n) (hY : Y.length = n) (WX : Wd X) (WY : Wd Y) (hwm : m < WB) (hwa : a < WB)
    (hx : Rd w bz oz n Cz bx ox X) (hy : Rd w bz oz n Cz by_ oy Y) :
    Calls Tryz.prog 234 #[.slice (some ⟨bz, oz, none⟩) n cz, .slice (some ⟨bx, ox, none⟩) n cx, .slice (some ⟨by_, oy, none⟩) n cy, .int .u64 m, .int .u64 a] w fun e w' =>
      ∃ R c, e = .returned (.int .u64 ((c : Nat) : Int)) ∧ Sub w w' bz (spl Cz oz R) ∧ R.length = n ∧ c < WB ∧ val R + WB ^ n * c = val X + val Y * m + a := by
  have hx := Lib.hid hx
  have hy := Lib.hid hy
  go_enter Tryz.func234, Tryz.ntmps234
  go_wp2
  go_loopw [10, 32] (fun c i wr => ∃ k cc : Nat, k ≤ n ∧ i = .int .i64 k ∧ c = .int .u64 cc ∧ ∃ R : List Nat, R.length = k ∧ cc < WB ∧ val R + WB ^ k * cc = val (X.take k) + val (Y.take k) * m + a ∧ Sub w wr bz (spl Cz oz R)) (fun _ i _ => n - (intOf i).toNat)
  case atStart => exact ⟨0, a, Nat.zero_le _, rfl, rfl, [], rfl, hwa, by simp, by rw [spl_nil]; exact Sub.refl hz⟩
  case round =>
    obtain ⟨k, cc, hk, rfl, rfl, R, hR1, hc, hR3, hS⟩ := hrel
    by_cases hlt : k < n
    · have hx1 := hx.out wr R hS (by omega)
      have hy1 := hy.out wr R hS (by omega)
      rw [hR1] at hx1 hy1
      have hwx := WX.nth k
      have hwy := WY.nth k
      have hz1 := hS.arr.cellN (i := oz + k) (by rw [spl_length (by omega)]; omega)
      have hz2 := hS.arr.frozen (oz + k)
      have hl := mac0_lt (nth Y k) m (nth X k)
      have hmc := Lib.hid (macc_lt hwx hwy hwm hc)
      have hR3 := Lib.hid hR3
      have hR1 := Lib.hid hR1
      go_wp2
      go_quiet ((go_at_call 251; exact Calls.quiet_of_same (mulAddWWW_g_c _ _ _ hwy hwm hwx _)))
      go_wp2_with (go_at_call 187; refine (bits_Add _ _ 0 hl hc (by omega) _).mono ?_; rintro e w' ⟨rfl, rfl⟩)
      go_roundw
      case rel =>
        refine ⟨k + 1, addc (mac0 (nth Y k) m (nth X k)) cc 0 + mac1 (nth Y k) m (nth X k), by omega, by go_num, ?_, R ++ [adds (mac0 (nth Y k) m (nth X k)) cc 0], by simp [hR1.out], hmc.out, ?_, ?_⟩
        · show Value.int .u64 (IntKind.u64.wrap _) = _
          rw [← Int.natCast_add, wrap_u64_nat _ hmc.out]
        · rw [val_snoc, hR1.out, val_take_succ (by omega), val_take_succ (by omega)]
          exact macc_step hR3.out (mac_eq _ _ _) (adds_addc _ _ _)
        · exact (hS.drewN nq).next hR1.out (by omega) _ (adds_lt _ _ _)
      case measure => simp [intOf]; omega
    · go_wp2
      go_ret
      obtain rfl : k = n := by omega
      refine ⟨R, cc, rfl, hS, hR1, hc, ?_⟩
      rw [hR3, List.take_of_length_le (by omega), List.take_of_length_le (by omega)]

end Go.Proofs.YtabggbajgpbmmaaGreatDoor
