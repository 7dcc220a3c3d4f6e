/- More: An exponent is set, where it is in the middle. -/
import Derived.Test.YtcoljeafgiemkaaGreatDoorC36
import Derived.Test.YtcoljeafgiemkaaGreatDoorC37
import Derived.Test.YtcoljeafgiemkaaGreatDoorC15
import Derived.Test.YtcoljeafgiemkaaGreatDoorC17
import Derived.Test.YtcoljeafgiemkaaGreatDoorC26
namespace Go.Proofs.YtcoljeafgiemkaaGreatDoor
open Go Go.RowKit

theorem ovR_is {r : Nat} (_h : calm r) : ovR r = 20 ∨ ovR r = 84 := by unfold ovR; split <;> simp
theorem ovR_bits {r : Nat} (h : calm r) : bits .or .u32 (r : Int) 20 = (ovR r : Int) ∧ IntKind.u32.wrap (ovR r : Int) = (ovR r : Int) := by
  rcases h with rfl | rfl | rfl | rfl <;> exact ⟨by kernel_rfl, by kernel_rfl⟩
theorem inexactO_c (w : World) {r : Nat} (h : r = 20 ∨ r = 84) : Calls Tryz.prog 146 #[.int .u32 (r : Int)] w fun e w' => e = .returned (.bool true) ∧ w = w' := by
  rcases h with rfl | rfl
  all_goals
    go_enter Tryz.func146, Tryz.ntmps146
    go_wp2
    go_ret
    exact ⟨by kernel_rfl, rfl⟩
theorem subnormalO_c (w : World) {r : Nat} (h : r = 20 ∨ r = 84) : Calls Tryz.prog 147 #[.int .u32 (r : Int)] w fun e w' => e = .returned (.bool false) ∧ w = w' := by
  rcases h with rfl | rfl
  all_goals
    go_enter Tryz.func147, Tryz.ntmps147
    go_wp2
    go_ret
    exact ⟨by kernel_rfl, rfl⟩
set_option maxRecDepth 20000 in
set_option maxHeartbeats 2000000 in
theorem setExpOv_c {w0 w : World} {σ : Sg} (h : Hold w0 w σ) {d c s l cap r : Nat} {e p a b nd : Int} {n : Bool} {N : Nat} {m : ByteArray} (x : Nat → Int) (hd : σ d = some (dec 0 n e false N)) (hc : σ c = some (ctxO p a b m)) (hN : nbits N < 1200)
    (hnd : nd = -1 ∨ nd = (figs N : Int)) (hr : calm r) (hl : l ≤ 3) (hx : ∀ k, k < l → -10000 ≤ x k ∧ x k ≤ 10000) (hs : ∀ k, k < l → w.cell? ⟨s, k, none⟩ = some (.int .i64 (x k))) (hlo : b ≤ a) (hhi : a < sumN x l + (figs N : Int) - 1) (h0 : N ≠ 0) (hcap : l ≤ cap ∧ cap ≤ 100) :
    Calls Tryz.prog 98 #[.pointer (some ⟨d, 0, none⟩), .pointer (some ⟨c, 0, none⟩), .int .i64 nd, .int .u32 (r : Int), .slice (some ⟨s, 0, none⟩) l cap] w fun E w' => E = .returned (.int .u32 (ovR r : Int)) ∧ Hold w0 w' (upd σ d (dec 1 n (sumN x l) false N)) := by
  have hsum := sumN_le hx
  have kn := decDigits_c h hd hN
  have hfN := figs_401 hN
  have hfp := figs_pos N
  obtain ⟨q, hq⟩ : ∃ q, figs N = q := ⟨_, rfl⟩
  rw [hq] at kn hnd hfN hfp hhi
  replace h := Lib.hid h
  replace hd := Lib.hid hd
  replace hc := Lib.hid hc
  replace hs := Lib.hid hs
  replace hx := Lib.hid hx
  replace hsum := Lib.hid hsum
  replace kn := Lib.hid kn
  replace hq := Lib.hid hq
  replace hr := Lib.hid hr
  replace hnd := Lib.hid hnd
  clear hN
  go_enter Tryz.func98, Tryz.ntmps98
  go_wp2
  go_loop [11, 23] (fun v i => ∃ k : Nat, k ≤ l ∧ v = .int .i64 (sumN x k) ∧ i = .int .i64 (k : Int)) (fun _ i => l - (intOf i).toNat)
  case atStart => exact ⟨0, by omega, rfl, rfl⟩
  case round =>
    obtain ⟨k, hk, rfl, rfl⟩ := hrel
    by_cases hkl : k < l
    · have cs := hs.out k hkl
      have hxk := hx.out k hkl
      have hsk := hsum.out k hk
      have hst : sumN x (k + 1) = sumN x k + x k := rfl
      have ew : IntKind.i64.wrap (sumN x k + x k) = sumN x k + x k := IntWalk.i64_in _ (by omega)
      have h1 : ¬ 100000 < x k := by omega
      have h2 : ¬ x k < -100000 := by omega
      replace hst := Lib.hid hst
      generalize sumN x k = S at *
      generalize x k = X at *
      go_wp2
      go_round
      case rel => exact ⟨k + 1, by omega, by rw [hst.out], by go_num⟩
      case measure => simp [intOf]; omega
    · obtain rfl : k = l := by omega
      have hS := hsum.out k (Nat.le_refl _)
      obtain ⟨S, hSe⟩ : ∃ S, sumN x k = S := ⟨_, rfl⟩
      rw [hSe] at hS hhi ⊢
      have hS1 : -30000 ≤ S ∧ S ≤ 30000 := by omega
      replace hSe := Lib.hid hSe
      have ki := fun w => inexactO_c w (ovR_is hr.out)
      have ku := fun w => subnormalO_c w (ovR_is hr.out)
      replace ki := Lib.hid ki
      replace ku := Lib.hid ku
      have s1 : IntKind.i32.wrap S = S := IntWalk.i32_in _ (by omega)
      have s2 : IntKind.i64.wrap (S + (q : Int)) = S + (q : Int) := IntWalk.i64_in _ (by omega)
      have s3 : IntKind.i64.wrap (S + (q : Int) - 1) = S + (q : Int) - 1 := IntWalk.i64_in _ (by omega)
      have s4 : IntKind.i32.wrap (S + (q : Int) - 1) = S + (q : Int) - 1 := IntWalk.i32_in _ (by omega)
      have s5 : ¬ 100000 < S + (q : Int) - 1 := by omega
      have s6 : ¬ S + (q : Int) - 1 < -100000 := by omega
      have s7 : ¬ S + (q : Int) - 1 < b := by omega
      have s8 : a < S + (q : Int) - 1 := by omega
      obtain ⟨r20, r21⟩ := ovR_bits hr.out
      have hr2 := ovR_is hr.out
      have qn : ((q : Int) == -1) = false := by simp
      clear hs hx hsum hS hkl hk hl hcap
      go_upto_if 38 with (fail)
      go_cut [2] (fun v wx => v = .int .i64 (q : Int) ∧ Hold w0 wx σ)
      case first =>
        rcases hnd.out with rfl | rfl
        · go_wp2_with fail
          with_reducible refine kn.out.mono ?_
          rintro E w1 ⟨rfl, h1⟩
          replace h1 := Lib.hid h1
          go_wp2_with fail
          go_meet
          exact ⟨rfl, h1.out⟩
        · go_wp2_with fail
          go_meet
          exact ⟨rfl, h.out⟩
      case rest =>
        obtain ⟨rfl, h1⟩ := hcut
        clear kn h hnd qn
        have hctx := h1.ctx hc.out
        have c1 := hctx.c1
        have c2 := hctx.c2
        have kz := isZeroH_c h1 hd.out
        rw [decide_eq_false h0] at kz
        have d2 := h1.c2 hd.out
        have d0 := h1.c0 hd.out
        have f2 := h1.fz hd.out 2
        have f0' := h1.fz hd.out 0
        have hf1 := h1.setForm hd.out 1
        have hend := hf1.setExp (upd_eq _ _ _) S
        rw [upd_upd] at hend
        replace hend := Lib.hid hend
        replace kz := Lib.hid kz
        replace h0 := Lib.hid h0
        clear hctx h1 hf1 hr2
        go_wp2_with fail
        with_reducible refine kz.out.mono ?_
        rintro E w' ⟨rfl, hw⟩
        obtain rfl := hw
        go_wp2_with fail
        with_reducible refine (ki.out _).mono ?_
        rintro E w' ⟨rfl, hw⟩
        obtain rfl := hw
        go_wp2_with fail
        with_reducible refine (ku.out _).mono ?_
        rintro E w' ⟨rfl, hw⟩
        obtain rfl := hw
        go_wp2
        go_ret
        rw [hSe.out]
        exact ⟨rfl, hend.out⟩
end Go.Proofs.YtcoljeafgiemkaaGreatDoor
