/- nat: basicMul. -/
import Derived.Test.YtabggbajgpbmmaaGreatDoorN5
namespace Go.Proofs.YtabggbajgpbmmaaGreatDoor
open Go Go.RowKit

theorem spl_mid_zero {C L M Z : List Nat} {k m : Nat} (hL : L.length = k + m) (hM : M.length = m) (h : (L ++ Z).length ≤ C.length) : spl (spl C 0 (L ++ Z)) k M = spl C 0 (L.take k ++ M ++ Z) := by
  have hl : (L ++ Z).length = k + m + Z.length := by rw [List.length_append, hL]
  have hl2 : (L.take k ++ M ++ Z).length = k + m + Z.length := by simp; omega
  have hl3 : (spl C 0 (L ++ Z)).length = C.length := spl_length (by omega)
  apply List.ext_getElem?
  intro j
  by_cases h1 : j < k
  · rw [spl_lt (by omega) h1]
    have e1 := spl_mid (C := C) (o := 0) (R := L ++ Z) (j := j) (by omega) (by omega)
    have e2 := spl_mid (C := C) (o := 0) (R := L.take k ++ M ++ Z) (j := j) (by omega) (by omega)
    rw [Nat.zero_add] at e1 e2
    rw [e1, e2, List.append_assoc, List.getElem?_append_left (by omega), List.getElem?_append_left (by simp; omega), List.getElem?_take_of_lt h1]
  · by_cases h2 : j < k + m
    · obtain ⟨d, rfl⟩ : ∃ d, j = k + d := ⟨j - k, by omega⟩
      rw [spl_mid (by omega) (by omega)]
      have e2 := spl_mid (C := C) (o := 0) (R := L.take k ++ M ++ Z) (j := k + d) (by omega) (by omega)
      rw [Nat.zero_add] at e2
      rw [e2, List.append_assoc, List.getElem?_append_right (by simp; omega), List.getElem?_append_left (by simp; omega)]
      congr 1; simp; omega
    · rw [spl_ge (by omega) (by omega)]
      by_cases h3 : j < k + m + Z.length
      · have e1 := spl_mid (C := C) (o := 0) (R := L ++ Z) (j := j) (by omega) (by omega)
        have e2 := spl_mid (C := C) (o := 0) (R := L.take k ++ M ++ Z) (j := j) (by omega) (by omega)
        rw [Nat.zero_add] at e1 e2
        rw [e1, e2, List.getElem?_append_right (by omega), List.getElem?_append_right (by simp; omega)]
        congr 1; simp; omega
      · rw [spl_ge (by omega) (by omega), spl_ge (by omega) (by omega)]
theorem spl_set_zero {C A Z : List Nat} {k x y : Nat} (hA : A.length = k) (_h : (A ++ y :: Z).length ≤ C.length) : (spl C 0 (A ++ y :: Z)).set k x = spl C 0 (A ++ [x] ++ Z) := by
  unfold spl
  simp only [List.take_zero, List.nil_append]
  subst hA
  simp

theorem nth_spl0 {C R : List Nat} {j : Nat} (h : R.length ≤ C.length) (hj : j < R.length) : nth (spl C 0 R) j = nth R j := by
  have := nth_spl_mid (C := C) (o := 0) (R := R) (j := j) (by omega) hj
  rwa [Nat.zero_add] at this

/-- Nothing is asked of a world (a word that simp leaves standing). -/
def Anyw (_ : World) : Prop := True
theorem anyw (w : World) : Anyw w := trivial

set_option maxRecDepth 100000 in
set_option maxHeartbeats 2000000 in
theorem basicMul_c (w : World) (bz m n cz bx cx by_ cy : Nat) (Cz Cx Cy X Y : List Nat) (hm : 0 < m) (hm1 : m ≤ 1000) (hn1 : n ≤ 1000)
    (hz : Arr w bz Cz) (hzl : m + n ≤ Cz.length) (hzc : m + n ≤ cz) (hx : Arr w bx Cx) (hX : Cx.take m = X) (lX : X.length = m) (hy : Arr w by_ Cy) (hY : Cy.take n = Y) (lY : Y.length = n) (hbx : bx ≠ bz) (hby : by_ ≠ bz) :
    Calls Tryz.prog 168 #[.slice (some ⟨bz, 0, none⟩) (m + n) cz, .slice (some ⟨bx, 0, none⟩) m cx, .slice (some ⟨by_, 0, none⟩) n cy] w fun e w' =>
      e = .returned (.tuple #[]) ∧ ∃ R, Sub w w' bz (spl Cz 0 R) ∧ R.length = m + n ∧ val R = val X * val Y := by
  have hxl : m ≤ Cx.length := by have := congrArg List.length hX; rw [List.length_take] at this; omega
  have hyl : n ≤ Cy.length := by have := congrArg List.length hY; rw [List.length_take] at this; omega
  have WX : Wd X := hX ▸ hx.wd.take m
  have WY : Wd Y := hY ▸ hy.wd.take n
  have hYc : ∀ wr, Arr wr by_ Cy → ∀ j, j < n → wr.cell? ⟨by_, j, none⟩ = some (.int .u64 (nth Y j : Int)) := by
    intro wr h j hj
    rw [h.cellN (by omega), ← hY, nth_take hj]
  have hX0 : (Cx.drop 0).take m = X := hX
  replace hX0 := Lib.hid hX0
  replace hYc := Lib.hid hYc
  clear hX hY
  go_enter Tryz.func168, Tryz.ntmps168
  go_wp2_with (refine wpList_clearW rfl (.tmp 14) 52 rfl Tryz.underlying52 bz 0 (m + n) cz rfl Cz hz (by omega) ?_)
  intro w1 hS1
  have hr : List.replicate (m + n) 0 = List.replicate m 0 ++ List.replicate n 0 := by rw [List.replicate_append_replicate]
  rw [hr] at hS1
  clear hr
  go_wp2
  go_loopw [17] (fun i wr => ∃ k : Nat, k ≤ n ∧ i = .int .i64 k ∧ ∃ L : List Nat, L.length = k + m ∧ val L = val X * val (Y.take k) ∧ Sub w wr bz (spl Cz 0 (L ++ List.replicate (n - k) 0))) (fun i _ => n - (intOf i).toNat)
  case atStart => exact ⟨0, by omega, by go_num, List.replicate m 0, by simp, by simp [val_zeros], hS1⟩
  case round =>
    obtain ⟨k, hk, rfl, L, hL, hv, hS⟩ := hrel
    by_cases hlt : k < n
    · have hyk := hYc.out wr (hS.other hby hy) k hlt
      have hwd := WY.nth k
      obtain ⟨r, hr⟩ : ∃ r, n - k = r + 1 := ⟨n - k - 1, by omega⟩
      rw [hr, List.replicate_succ] at hS
      have hvt : val (Y.take (k + 1)) = val (Y.take k) + WB ^ k * nth Y k := val_take_succ (by omega)
      replace hvt := Lib.hid hvt
      replace hv := Lib.hid hv
      by_cases hd : nth Y k = 0
      · rw [hd] at hyk
        go_wp2
        go_roundw
        case rel =>
          refine ⟨k + 1, by omega, by go_num, L ++ [0], by rw [List.length_append, hL]; simp; omega, ?_, ?_⟩
          · rw [val_snoc, hvt.out, hd, hv.out]; simp
          · rw [show n - (k + 1) = r by omega, List.append_assoc]; exact hS
        case measure => simp [intOf]; omega
      · have hd0 : ((nth Y k : Int) != 0) = true := by simp; omega
        have hM : ((spl Cz 0 (L ++ 0 :: List.replicate r 0)).drop k).take m = L.drop k := by
          unfold spl
          rw [List.take_zero, List.nil_append, List.append_assoc, List.drop_append_of_le_length (by omega), List.take_append_of_le_length (by simp; omega), List.take_of_length_le (by simp; omega)]
        have hlz : (L ++ 0 :: List.replicate r 0).length = m + n := by simp; omega
        have hlz2 : (spl Cz 0 (L ++ 0 :: List.replicate r 0)).length = Cz.length := spl_length (by omega)
        have hc := fun wr' (hh : Sub w wr' bz (spl Cz 0 (L ++ 0 :: List.replicate r 0))) => addMulVVWW_c wr' bz k m (cz - k) bz k (cz - k) bx 0 cx (nth Y k) 0 (spl Cz 0 (L ++ 0 :: List.replicate r 0)) (L.drop k) X (by omega) hh.arr (by omega) (by simp; omega) lX
          (by rw [← hM]; exact (hh.arr.wd.drop _).take _) WX hwd WB_pos (by rw [← hM]; exact Rd.mk hh.arr (by omega) hh.arr (by omega) (.inr (Nat.le_refl _))) (by rw [← hX0.out]; exact Rd.mk hh.arr (by omega) (hh.other hbx hx) (by omega) (.inl hbx))
        replace hc := Lib.hid hc
        have t1 : k ≤ cz := by omega
        have t2 : ¬ cz = k := by omega
        have t3 : (k : Int) ≤ (k : Int) + (m : Int) := by omega
        have t4 : (k : Int) + (m : Int) ≤ (cz : Int) := by omega
        have t5 : ((k : Int) + (m : Int)).toNat = k + m := by omega
        have t6 : IntKind.i64.wrap ((k : Int) + (m : Int)) = (k : Int) + (m : Int) := IntWalk.i64_in _ (by omega)
        have t7 : IntKind.i64.wrap ((m : Int) + (k : Int)) = (m : Int) + (k : Int) := IntWalk.i64_in _ (by omega)
        have t8 : (0 : Int) ≤ (k : Int) + (m : Int) := by omega
        have t9 : (0 : Int) ≤ (m : Int) + (k : Int) := by omega
        have t10 : (m : Int) + (k : Int) < (m : Int) + (n : Int) := by omega
        have t11 : ((m : Int) + (k : Int)).toNat = m + k := by omega
        go_wp2
        go_region_held3 (fun w' => Anyw w') (exact anyw _) (first
          | (go_at_call 199
             refine (hc.out _ hS.drew).mono ?_
             rintro e w4 ⟨M, c, rfl, hS2, hM2, hcw, hv2⟩
             have hz1 := hS2.arr.cellN (i := m + k) (by rw [spl_length (by omega)]; omega)
             have hz2 := hS2.arr.frozen (m + k)))
        have hS3 := (hS.drew).trans hS2
        have hsp := spl_mid_zero (C := Cz) (L := L) (M := M) (Z := 0 :: List.replicate r 0) (k := k) (m := m) hL hM2 (by omega)
        rw [hsp] at hS3
        have hS4 := hS3.set (i := m + k) c hcw
        have hA : (L.take k ++ M).length = m + k := by simp; omega
        rw [spl_set_zero hA (by rw [List.length_append, hA]; simp; omega)] at hS4
        have hval : val (L.take k ++ M ++ [c]) = val X * val (Y.take (k + 1)) := by
          rw [val_snoc, hA, val_append, List.length_take, hL, Nat.min_eq_left (by omega), hvt.out, Nat.mul_add, ← hv.out, Nat.mul_left_comm]
          have e1 := val_take_drop L k (by omega)
          have e2 : WB ^ (m + k) * c = WB ^ k * (WB ^ m * c) := by rw [Nat.add_comm, Nat.pow_add, Nat.mul_assoc]
          have e3 : WB ^ k * (val M + WB ^ m * c) = WB ^ k * (val (List.drop k L) + val X * nth Y k) := by rw [hv2, Nat.add_zero]
          rw [Nat.mul_add, Nat.mul_add] at e3
          rw [e2]
          omega
        replace hval := Lib.hid hval
        have hlA : (L.take k ++ M ++ [c]).length = k + 1 + m := by rw [List.length_append, hA]; simp; omega
        generalize L.take k ++ M ++ [c] = L' at hS4 hval hlA
        clear hc hS3 hS2 hsp hM hlz hlz2
        go_wp2
        go_roundw
        case rel =>
          refine ⟨k + 1, by omega, by go_num, L', hlA, hval.out, ?_⟩
          rw [show n - (k + 1) = r by omega]
          exact hS4
        case measure => simp [intOf]; omega
    · obtain rfl : k = n := by omega
      replace hv := Lib.hid hv
      go_wp2
      refine ⟨rfl, _, results_none rfl _ _ _, rfl, L, ?_, by omega, ?_⟩
      · rw [Nat.sub_self, List.replicate_zero, List.append_nil] at hS; exact hS
      · have := hv.out
        rwa [List.take_of_length_le (by omega)] at this
end Go.Proofs.YtabggbajgpbmmaaGreatDoor
