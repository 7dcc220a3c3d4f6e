/- A row of words divided by a word. -/
import Derived.Test.YtabggbajgpbmmaaGreatDoorD3
namespace Go.Proofs.YtabggbajgpbmmaaGreatDoor
open Go Go.RowKit

theorem divrow_step {y Q r x : Nat} (h0 : 0 < y) {V : Nat} (hQ : Q = V / y) (hr : r = V % y) :
    (r * WB + x) / y + WB * Q = (x + WB * V) / y ∧ (r * WB + x) % y = (x + WB * V) % y := by
  have e : x + WB * V = y * (WB * Q) + (r * WB + x) := by
    have := Nat.div_add_mod V y
    rw [← hQ, ← hr] at this
    rw [← this, Nat.mul_add, Nat.mul_left_comm, Nat.mul_comm r WB]; omega
  rw [e, Nat.mul_add_div h0, Nat.mul_add_mod]
  exact ⟨Nat.add_comm _ _, rfl⟩

set_option maxRecDepth 100000 in
set_option maxHeartbeats 800000 in
theorem divWVW_c (w : World) (bz oz m cz bx ox cx y : Nat) (Cz Cx : List Nat) (hn : m < 1000000) (hy : y < WB) (hy0 : 0 < y)
    (hz : Arr w bz Cz) (hzl : oz + (m + 1) ≤ Cz.length) (hx : Arr w bx Cx) (hxl : ox + (m + 1) ≤ Cx.length) (hsep : bx ≠ bz ∨ ox ≤ oz) :
    Calls Tryz.prog 177 #[.slice (some ⟨bz, oz, none⟩) (m + 1) cz, .int .u64 0, .slice (some ⟨bx, ox, none⟩) (m + 1) cx, .int .u64 y] w fun e w' =>
      ∃ R, e = .returned (.int .u64 (val ((Cx.drop ox).take (m + 1)) % y : Nat)) ∧ Sub w w' bz (spl Cz oz R) ∧ R.length = m + 1 ∧ val R = val ((Cx.drop ox).take (m + 1)) / y := by
  have hX : ((Cx.drop ox).take (m + 1)).length = m + 1 := by simp; omega
  replace hX := Lib.hid hX
  by_cases hm : m = 0
  · subst hm
    have e1 : (((0 : Nat) : Int) + 1 == 1) = true := by simp
    have hl := hx.cellN (i := ox) (by omega)
    have hwl := hx.wd.nth ox
    have hz1 := hz.cellN (i := oz) (by omega)
    have hz2 := hz.frozen oz
    have hX1 : val ((Cx.drop ox).take (0 + 1)) = nth Cx ox := by
      rw [val_take_succ (by simp; omega), nth_drop]; simp
    replace hX1 := Lib.hid hX1
    go_enter Tryz.func177, Tryz.ntmps177
    go_wp2_with fail
    have hb := bitsDiv_c 0 (nth Cx ox) y hwl hy hy0 (.inl rfl) w
    refine hb.mono ?_
    rintro e w' ⟨rfl, n, hw⟩
    subst hw
    have hq : wdiv (0 * WB + nth Cx ox) y < WB := Nat.lt_of_le_of_lt (Nat.div_le_self _ _) (by rw [Nat.zero_mul, Nat.zero_add]; exact hwl)
    have hqe : wdiv (0 * WB + nth Cx ox) y = nth Cx ox / y := by unfold wdiv; rw [Nat.zero_mul, Nat.zero_add]
    have hre : wmod (0 * WB + nth Cx ox) y = nth Cx ox % y := by unfold wmod; rw [Nat.zero_mul, Nat.zero_add]
    generalize wdiv (0 * WB + nth Cx ox) y = q at *
    generalize wmod (0 * WB + nth Cx ox) y = r at *
    replace hqe := Lib.hid hqe
    replace hre := Lib.hid hre
    go_wp2
    go_ret
    have hS := ((Sub.refl hz).drewN n)
    have hS1 := hS
    rw [← spl_nil Cz oz] at hS1
    have hS2 := hS1.next (k := 0) rfl (by omega) q hq
    exact ⟨[q], ret_i (by rw [hX1.out, hre.out]), hS2, rfl, by rw [hX1.out, ← hqe.out]; simp [val]⟩
  · have e1 : ((m : Int) + 1 == 1) = false := by simp; omega
    have hrec := reciprocalWord_c y hy hy0 w
    go_enter Tryz.func177, Tryz.ntmps177
    go_wp2_with fail
    refine hrec.mono ?_
    rintro e w' ⟨rfl, n, hw⟩
    subst hw
    go_wp2_with fail
    go_loopw [8, 12] (fun r i wr => ∃ k rr : Nat, k ≤ m + 1 ∧ i = .int .i64 ((k : Int) - 1) ∧ r = .int .u64 rr ∧ rr < y ∧ ∃ R : List Nat, R.length + k = m + 1 ∧ val R = val (((Cx.drop ox).take (m + 1)).drop k) / y ∧ rr = val (((Cx.drop ox).take (m + 1)).drop k) % y ∧ Sub w wr bz (spl Cz (oz + k) R)) (fun _ i _ => (intOf i + 1).toNat)
    case atStart =>
      refine ⟨m + 1, 0, Nat.le_refl _, by simp, rfl, hy0, [], by simp, ?_, ?_, by rw [spl_nil]; exact (Sub.refl hz).drewN n⟩
      · rw [List.drop_eq_nil_of_le (by rw [hX.out]; omega)]; simp
      · rw [List.drop_eq_nil_of_le (by rw [hX.out]; omega)]; simp
    case round =>
      obtain ⟨k, rr, hk, rfl, rfl, hrr, R, hR1, hR2, hR3, hS⟩ := hrel
      by_cases hk0 : k = 0
      · subst hk0
        go_wp2
        go_ret
        refine ⟨R, ret_i (by rw [hR3, List.drop_zero]), hS, by omega, by rw [hR2, List.drop_zero]⟩
      · obtain ⟨j, rfl⟩ : ∃ j, k = j + 1 := ⟨k - 1, by omega⟩
        have hj : ((j + 1 : Nat) : Int) - 1 = (j : Int) := by omega
        rw [hj]
        have hxj := hS.read (p := ox + j) hz hx (by omega) (by omega) (by omega)
        have hwj := hx.wd.nth (ox + j)
        have hz1 := hS.arr.cellN (i := oz + j) (by rw [spl_length (by omega)]; omega)
        have hz2 := hS.arr.frozen (oz + j)
        have hst := divrow_step (x := nth Cx (ox + j)) hy0 hR2 hR3
        have hql : wdiv (rr * WB + nth Cx (ox + j)) y < WB := by
          unfold wdiv
          rw [Nat.div_lt_iff_lt_mul hy0]
          have : (rr + 1) * WB ≤ y * WB := Nat.mul_le_mul_right WB hrr
          rw [Nat.add_mul, Nat.one_mul] at this
          rw [Nat.mul_comm WB y]; omega
        replace hR1 := Lib.hid hR1
        replace hR2 := Lib.hid hR2
        replace hR3 := Lib.hid hR3
        replace hst := Lib.hid hst
        clear hj
        go_wp2_with fail
        refine (divWW_c rr (nth Cx (ox + j)) y hy hy0 hrr hwj _).mono ?_
        rintro e w' ⟨rfl, hw⟩
        obtain rfl := hw
        go_wp2
        go_roundw
        case rel =>
          have hd0 := drop_nth (l := (Cx.drop ox).take (m + 1)) (i := j) (by rw [hX.out]; omega)
          rw [nth_dt _ _ _ _ (by omega)] at hd0
          refine ⟨j, wmod (rr * WB + nth Cx (ox + j)) y, by omega, rfl, rfl, Nat.mod_lt _ hy0, wdiv (rr * WB + nth Cx (ox + j)) y :: R, by simp; have := hR1.out; omega, ?_, ?_, ?_⟩
          · rw [hd0, val_cons, val_cons]; exact hst.out.1
          · rw [hd0, val_cons]; exact hst.out.2
          · have := hR1.out
            exact Sub.prev (o := oz + j) hS (by omega) _ hql
        case measure => simp [intOf]
end Go.Proofs.YtabggbajgpbmmaaGreatDoor
