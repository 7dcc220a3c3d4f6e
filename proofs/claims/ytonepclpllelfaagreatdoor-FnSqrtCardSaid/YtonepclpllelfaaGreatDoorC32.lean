/- The other way round; Decimal.Cmp. An exponent is set, where it is in the middle. Rounder.Round where nothing is cut. -/
import Derived.Test.YtonepclpllelfaaGreatDoorC31
namespace Go.Proofs.YtonepclpllelfaaGreatDoor
open Go Go.RowKit

set_option maxRecDepth 20000 in
set_option maxHeartbeats 2000000 in
theorem cmp_down {w0 w : World} {σ : Sg} (h : Hold w0 w σ) {d x : Nat} {e f : Int} {N M : Nat} (hd : σ d = some (dec 0 false e false N)) (hx : σ x = some (dec 0 false f false M)) (hN : N ≠ 0) (hM : M ≠ 0)
    (hNb : nbits N < 1200) (hMb : nbits M < 1200) (he : -10000 ≤ e ∧ e ≤ 10000) (hf : -10000 ≤ f ∧ f ≤ 10000) (hef : f < e) (hfar : (figs N : Int) + e = (figs M : Int) + f) :
    Calls Tryz.prog 90 #[.pointer (some ⟨d, 0, none⟩), .pointer (some ⟨x, 0, none⟩)] w fun E w' => E = .returned (.int .i64 (cmpD N e M f)) ∧ Hold w0 w' σ := by
  have k1 := decSignH_c h hd
  have k2 := decSignH_c h hx
  rw [sgD_pos hN] at k1
  rw [sgD_pos hM] at k2
  have d0 := h.c0 hd
  have x0 := h.c0 hx
  have d2 := h.c2 hd
  have x2 := h.c2 hx
  have kn1 := fun w2 (h2 : Hold w0 w2 σ) => decDigits_c h2 hd hNb
  have kn2 := fun w2 (h2 : Hold w0 w2 σ) => decDigits_c h2 hx hMb
  have ee : (e == f) = false := by simp; omega
  have hfN := figs_401 hNb
  have hfM := figs_401 hMb
  have hNp := figs_pos N
  have hMp := figs_pos M
  obtain ⟨a, ha⟩ : ∃ a, figs N = a := ⟨_, rfl⟩
  obtain ⟨b, hb⟩ : ∃ b, figs M = b := ⟨_, rfl⟩
  rw [ha] at hfar hfN hNp
  rw [hb] at hfar hfM hMp
  simp only [ha] at kn1
  simp only [hb] at kn2
  have e1 : IntKind.i64.wrap e = e := IntWalk.i64_in _ (by omega)
  have f1 : IntKind.i64.wrap f = f := IntWalk.i64_in _ (by omega)
  have ae : IntKind.i64.wrap ((a : Int) + e) = (a : Int) + e := IntWalk.i64_in _ (by omega)
  have bf : IntKind.i64.wrap ((b : Int) + f) = (b : Int) + f := IntWalk.i64_in _ (by omega)
  obtain ⟨g, hg⟩ : ∃ g : Nat, e - f = (g : Int) := ⟨(e - f).toNat, by omega⟩
  have hg4 : g ≤ 400 := by omega
  have hgw : IntKind.i64.wrap (e - f) = (g : Int) := by rw [hg]; exact IntWalk.i64_in _ (by omega)
  have hcm : cmpD N e M f = ordN (N * 10 ^ g) M := by rw [cmpD_down (by omega), hg]; simp
  have hne : d ≠ x := by
    rintro rfl
    rw [hd] at hx; cases hx
    omega
  have l1 : decide ((a : Int) + e < (b : Int) + f) = false := by simp; omega
  have l2 : decide ((b : Int) + f < (a : Int) + e) = false := by simp; omega
  have l1' : ¬ (a : Int) + e < (b : Int) + f := by omega
  have l2' : ¬ (b : Int) + f < (a : Int) + e := by omega
  have hel : decide (e < f) = false := by simp; omega
  have hMw : (digs M).length ≤ 1000 := bits_words hMb
  have hNw : (digs N).length ≤ 1000 := bits_words hNb
  have hS40 : (digs N).length < 40 := Nat.lt_of_le_of_lt (bits_w (k := 19) (by omega)) (by omega)
  have h10 : (digs (10 ^ g)).length < 40 := ten_40 hg4
  replace hg := Lib.hid hg
  replace hcm := Lib.hid hcm
  replace ha := Lib.hid ha
  replace hb := Lib.hid hb
  replace hfar := Lib.hid hfar
  generalize cmpD N e M f = o at *
  replace kn1 := Lib.hid kn1
  replace kn2 := Lib.hid kn2
  replace k1 := Lib.hid k1
  replace k2 := Lib.hid k2
  replace h := Lib.hid h
  replace hd := Lib.hid hd
  replace hx := Lib.hid hx
  clear hN hM hNb hMb
  go_enter Tryz.func90, Tryz.ntmps90
  go_wp2_with fail
  with_reducible refine k1.out.mono ?_
  rintro E w' ⟨rfl, hw⟩
  obtain rfl := hw
  go_wp2_with fail
  with_reducible refine k2.out.mono ?_
  rintro E w' ⟨rfl, hw⟩
  obtain rfl := hw
  go_upto_region 20 with (fail)
  go_quiet (fail)
  go_upto_region 25 with (fail)
  go_cut [10] (fun v wx => v = .int .i64 ((a : Int) + e) ∧ Hold w0 wx σ)
  case first =>
    go_region_with ((go_at_call 31; refine (kn1.out _ (h.out.keep (by exact ⟨rfl, rfl, rfl, Nat.le_refl _, fun _ _ _ => rfl⟩))).mono ?_; rintro E w1 ⟨rfl, h1⟩; have d21 := h1.c2 hd.out; replace h1 := Lib.hid h1))
    all_goals
      go_wp2_with fail
      go_meet
      exact ⟨rfl, h1.out⟩
  case rest =>
    obtain ⟨rfl, h1⟩ := hcut
    clear d0 x0 d2 x2 h k1 k2 kn1
    have x2 := h1.c2 hx.out
    replace h1 := Lib.hid h1
    go_upto_region 26 with (fail)
    go_cut [11] (fun v wx => v = .int .i64 ((b : Int) + f) ∧ Hold w0 wx σ)
    case first =>
      go_region_with ((go_at_call 31; refine (kn2.out _ (h1.out.keep (by exact ⟨rfl, rfl, rfl, Nat.le_refl _, fun _ _ _ => rfl⟩))).mono ?_; rintro E w2 ⟨rfl, h2⟩; have d21 := h2.c2 hx.out; replace h2 := Lib.hid h2))
      all_goals
        go_wp2_with fail
        go_meet
        exact ⟨rfl, h2.out⟩
    case rest =>
      obtain ⟨rfl, h2⟩ := hcut
      clear x2 h1 kn2
      have d2 := h2.c2 hd.out
      have x2 := h2.c2 hx.out
      replace h2 := Lib.hid h2
      have hfr : ∀ k, wc.heap.size ≤ k → σ k = none := fun k hk => h2.out.fresh hk
      have hK := hfr _ (Nat.le_refl _)
      have hK1 := hfr (wc.heap.size + 1) (by omega)
      have h3 : ∀ n, Hold w0 (((wc.drewN n).alloc (.cells #[.bool false, .slice none 0 0, .bool false] 53 (0, 0))).alloc (.cells #[.bool false, .slice none 0 0, .bool false] 53 (0, 0))) (upd (upd σ wc.heap.size (big false 0)) (wc.heap.size + 1) (big false 0)) := fun n => by
        have h4 := (h2.out.drewN n).newBig.newBig
        rw [World.size_alloc] at h4
        exact h4
      clear h2 hfr
      have hle0 : Le σ (upd (upd σ wc.heap.size (big false 0)) (wc.heap.size + 1) (big false 0)) := Le.skip hK1 (Le.skip hK (Le.refl _))
      obtain ⟨K, hKe⟩ : ∃ K, wc.heap.size = K := ⟨_, rfl⟩
      simp only [hKe] at h3 hle0 hK hK1
      have a1 : upd (upd σ K (big false 0)) (K + 1) (big false 0) K = some (big false 0) := by rw [upd_ne _ _ (by omega), upd_eq]
      have a2 : upd (upd σ K (big false 0)) (K + 1) (big false 0) (K + 1) = some (big false 0) := upd_eq _ _ _
      generalize upd (upd σ K (big false 0)) (K + 1) (big false 0) = τ at *
      have ks := fun n => bigSetH_c (h3 n) (bnum_big a1) (bnum_dec (hle0 _ _ hd.out)) hNw
      rw [put_big a1] at ks
      have hle1 : Le σ (upd τ K (big false N)) := Le.skip hK hle0
      have b1 := upd_eq τ K (big false N)
      have b2 : upd τ K (big false N) (K + 1) = some (big false 0) := by rw [upd_ne _ _ (by omega)]; exact a2
      generalize upd τ K (big false N) = ρ at *
      replace ks := Lib.hid ks
      replace hle1 := Lib.hid hle1
      replace b1 := Lib.hid b1
      replace b2 := Lib.hid b2
      replace hK := Lib.hid hK
      replace hK1 := Lib.hid hK1
      replace hKe := Lib.hid hKe
      clear h3 hle0 a1 a2
      go_upto_region 32 with (fail)
      go_quiet (fail)
      go_wp2_with fail
      rw [hKe.out]
      with_reducible refine (ks.out _).mono ?_
      rintro E w5 ⟨rfl, h5⟩
      have d25 := h5.c2 (hle1.out _ _ hd.out)
      have x25 := h5.c2 (hle1.out _ _ hx.out)
      have kt := fun w2 (hc : Chg w5 w2 (fun _ => False)) => tableExp_c (h5.keep hc) (bnum_big b2.out) g hg4
      rw [put_big b2.out] at kt
      have c1 : upd ρ (K + 1) (big false (10 ^ g)) K = some (big false N) := by rw [upd_ne _ _ (by omega)]; exact b1.out
      have c2 := upd_eq ρ (K + 1) (big false (10 ^ g))
      have hle2 : Le σ (upd ρ (K + 1) (big false (10 ^ g))) := Le.skip hK1.out hle1.out
      generalize upd ρ (K + 1) (big false (10 ^ g)) = ρ2 at *
      have km := fun w2 (h2 : Hold w0 w2 ρ2) => bigMul_c h2 (bnum_big c1) (num_big c1) (num_big c2) (by intro e; injection e with e; omega) hS40 h10
      rw [put_big c1] at km
      have hle3 : Le σ (upd ρ2 K (big false (N * 10 ^ g))) := Le.skip hK.out hle2
      have kc := fun w2 (h2 : Hold w0 w2 (upd ρ2 K (big false (N * 10 ^ g)))) => bigCmpH_c h2 (bnum_big (upd_eq _ _ _)) (bnum_dec (hle3 _ _ hx.out)) (by intro e; injection e with e; exact absurd (hx.out) (by rw [← e, hK.out]; simp))
      have e3 := upd_eq ρ2 K (big false (N * 10 ^ g))
      generalize upd ρ2 K (big false (N * 10 ^ g)) = ρ3 at *
      clear h5 c1 c2 hle2 hle1 b1 b2 ks d2 x2
      replace kt := Lib.hid kt
      replace km := Lib.hid km
      replace kc := Lib.hid kc
      replace hle3 := Lib.hid hle3
      replace e3 := Lib.hid e3
      go_upto_region 39 with (fail)
      go_still_tail 11, (by kernel_rfl)
      change wpList _ _ _ _ _ (World.drew _)
      go_wp2_with fail
      with_reducible refine (kt.out _ (by exact ⟨rfl, rfl, rfl, Nat.le_refl _, fun _ _ _ => rfl⟩)).mono ?_
      rintro E w6 ⟨rfl, h6⟩
      have km := km.out _ h6
      replace km := Lib.hid km
      clear h6
      go_wp2_with fail
      with_reducible refine km.out.mono ?_
      rintro E w7 ⟨rfl, h7⟩
      have kc := kc.out _ h7
      have hend := fun n => (h7.drewN n).le hle3.out
      rw [← hcm.out] at kc
      replace kc := Lib.hid kc
      replace hend := Lib.hid hend
      clear h7
      go_wp2_with fail
      with_reducible refine kc.out.mono ?_
      rintro E w' ⟨rfl, n, rfl⟩
      go_wp2
      go_ret
      exact ⟨rfl, hend.out _⟩

/-- Comparing two decimals above 0. -/
theorem decCmp_c {w0 w : World} {σ : Sg} (h : Hold w0 w σ) {d x : Nat} {e f : Int} {N M : Nat} (hd : σ d = some (dec 0 false e false N)) (hx : σ x = some (dec 0 false f false M)) (hne : d ≠ x) (hN : N ≠ 0) (hM : M ≠ 0)
    (hNb : nbits N < 1200) (hMb : nbits M < 1200) (he : -10000 ≤ e ∧ e ≤ 10000) (hf : -10000 ≤ f ∧ f ≤ 10000) :
    Calls Tryz.prog 90 #[.pointer (some ⟨d, 0, none⟩), .pointer (some ⟨x, 0, none⟩)] w fun E w' => E = .returned (.int .i64 (cmpD N e M f)) ∧ Hold w0 w' σ := by
  by_cases h1 : e = f
  · subst h1; exact cmp_same h hd hx hne hN hM
  by_cases h2 : (figs N : Int) + e = (figs M : Int) + f
  · by_cases h3 : e < f
    · exact cmp_up h hd hx hN hM hNb hMb he hf h3 h2
    · exact cmp_down h hd hx hN hM hNb hMb he hf (by omega) h2
  · exact cmp_far h hd hx hN hM hNb hMb he hf h1 h2

end Go.Proofs.YtonepclpllelfaaGreatDoor

namespace Go.Proofs.YtonepclpllelfaaGreatDoor
open Go Go.RowKit

/-- A context as a block of plain data. -/
def ctxO (p a b : Int) (m : ByteArray) : It := raw (.cells #[.int .u32 p, .int .i32 a, .int .i32 b, .int .u32 0, .string m] 76 (0, 0))
theorem Hold.ctx {w0 w : World} {σ : Sg} (h : Hold w0 w σ) {c : Nat} {p a b : Int} {m : ByteArray} (hc : σ c = some (ctxO p a b m)) : Ctx w c p a b m := h.raw hc

def sumN (x : Nat → Int) : Nat → Int
  | 0 => 0
  | k + 1 => sumN x k + x k
theorem sumN_le {x : Nat → Int} {l : Nat} (hx : ∀ k, k < l → -10000 ≤ x k ∧ x k ≤ 10000) : ∀ k, k ≤ l → -10000 * (k : Int) ≤ sumN x k ∧ sumN x k ≤ 10000 * (k : Int)
  | 0, _ => by simp [sumN]
  | k + 1, h => by
    have h1 := sumN_le hx k (by omega)
    have h2 := hx k (by omega)
    simp only [sumN]
    omega

/-- Conditions that tell of no subnormal number. -/
def calm (r : Nat) : Prop := r = 0 ∨ r = 16 ∨ r = 64 ∨ r = 80
def inexR (r : Nat) : Bool := r == 16 || r == 80
theorem inexact_c (w : World) {r : Nat} (h : calm r) : Calls Tryz.prog 109 #[.int .u32 (r : Int)] w fun e w' => e = .returned (.bool (inexR r)) ∧ w = w' := by
  rcases h with rfl | rfl | rfl | rfl
  all_goals
    go_enter Tryz.func109, Tryz.ntmps109
    go_wp2
    go_ret
    exact ⟨by kernel_rfl, rfl⟩
theorem subnormal_c (w : World) {r : Nat} (h : calm r) : Calls Tryz.prog 110 #[.int .u32 (r : Int)] w fun e w' => e = .returned (.bool false) ∧ w = w' := by
  rcases h with rfl | rfl | rfl | rfl
  all_goals
    go_enter Tryz.func110, Tryz.ntmps110
    go_wp2
    go_ret
    exact ⟨by kernel_rfl, rfl⟩

set_option maxRecDepth 20000 in
set_option maxHeartbeats 2000000 in
theorem setExpG_c {w0 w : World} {σ : Sg} (h : Hold w0 w σ) {d c s l cap r : Nat} {f0 e p a b nd : Int} {n : Bool} {N : Nat} {m : ByteArray} (x : Nat → Int) (hd : σ d = some (dec f0 n e false N)) (hc : σ c = some (ctxO p a b m)) (hN : nbits N < 1200)
    (hnd : nd = -1 ∨ nd = (figs N : Int)) (hr : calm r) (hl : l ≤ 3) (hx : ∀ k, k < l → -10000 ≤ x k ∧ x k ≤ 10000) (hs : ∀ k, k < l → w.cell? ⟨s, k, none⟩ = some (.int .i64 (x k))) (hlo : b ≤ sumN x l + (figs N : Int) - 1) (hhi : sumN x l + (figs N : Int) - 1 ≤ a) (hcap : l ≤ cap ∧ cap ≤ 100) :
    Calls Tryz.prog 80 #[.pointer (some ⟨d, 0, none⟩), .pointer (some ⟨c, 0, none⟩), .int .i64 nd, .int .u32 (r : Int), .slice (some ⟨s, 0, none⟩) l cap] w fun E w' => E = .returned (.int .u32 (r : Int)) ∧ Hold w0 w' (upd σ d (dec f0 n (sumN x l) false N)) := by
  have hsum := sumN_le hx
  have kn := decDigits_c h hd hN
  have hfN := figs_401 hN
  have hfp := figs_pos N
  obtain ⟨q, hq⟩ : ∃ q, figs N = q := ⟨_, rfl⟩
  rw [hq] at kn hnd hfN hfp hlo hhi
  replace h := Lib.hid h
  replace hd := Lib.hid hd
  replace hc := Lib.hid hc
  replace hs := Lib.hid hs
  replace hx := Lib.hid hx
  replace hsum := Lib.hid hsum
  replace kn := Lib.hid kn
  replace hq := Lib.hid hq
  replace hr := Lib.hid hr
  replace hnd := Lib.hid hnd
  clear hN
  go_enter Tryz.func80, Tryz.ntmps80
  go_wp2
  go_loop [11, 23] (fun v i => ∃ k : Nat, k ≤ l ∧ v = .int .i64 (sumN x k) ∧ i = .int .i64 (k : Int)) (fun _ i => l - (intOf i).toNat)
  case atStart => exact ⟨0, by omega, rfl, rfl⟩
  case round =>
    obtain ⟨k, hk, rfl, rfl⟩ := hrel
    by_cases hkl : k < l
    · have cs := hs.out k hkl
      have hxk := hx.out k hkl
      have hsk := hsum.out k hk
      have hst : sumN x (k + 1) = sumN x k + x k := rfl
      have ew : IntKind.i64.wrap (sumN x k + x k) = sumN x k + x k := IntWalk.i64_in _ (by omega)
      have h1 : ¬ 100000 < x k := by omega
      have h2 : ¬ x k < -100000 := by omega
      replace hst := Lib.hid hst
      generalize sumN x k = S at *
      generalize x k = X at *
      go_wp2
      go_round
      case rel => exact ⟨k + 1, by omega, by rw [hst.out], by go_num⟩
      case measure => simp [intOf]; omega
    · obtain rfl : k = l := by omega
      have hS := hsum.out k (Nat.le_refl _)
      obtain ⟨S, hSe⟩ : ∃ S, sumN x k = S := ⟨_, rfl⟩
      rw [hSe] at hS hlo hhi ⊢
      have hS1 : -30000 ≤ S ∧ S ≤ 30000 := by omega
      replace hSe := Lib.hid hSe
      have ki := fun w => inexact_c w hr.out
      have ku := fun w => subnormal_c w hr.out
      obtain ⟨ib, hib⟩ : ∃ ib, inexR r = ib := ⟨_, rfl⟩
      rw [hib] at ki
      replace hib := Lib.hid hib
      replace ki := Lib.hid ki
      replace ku := Lib.hid ku
      have s1 : IntKind.i32.wrap S = S := IntWalk.i32_in _ (by omega)
      have s2 : IntKind.i64.wrap (S + (q : Int)) = S + (q : Int) := IntWalk.i64_in _ (by omega)
      have s3 : IntKind.i64.wrap (S + (q : Int) - 1) = S + (q : Int) - 1 := IntWalk.i64_in _ (by omega)
      have s4 : IntKind.i32.wrap (S + (q : Int) - 1) = S + (q : Int) - 1 := IntWalk.i32_in _ (by omega)
      have s5 : ¬ 100000 < S + (q : Int) - 1 := by omega
      have s6 : ¬ S + (q : Int) - 1 < -100000 := by omega
      have s7 : ¬ S + (q : Int) - 1 < b := by omega
      have s8 : ¬ a < S + (q : Int) - 1 := by omega
      have qn : ((q : Int) == -1) = false := by simp
      clear hs hx hsum hS hkl hk hl hcap
      go_upto_if 38 with (fail)
      go_cut [2] (fun v wx => v = .int .i64 (q : Int) ∧ Hold w0 wx σ)
      case first =>
        rcases hnd.out with rfl | rfl
        · go_wp2_with fail
          with_reducible refine kn.out.mono ?_
          rintro E w1 ⟨rfl, h1⟩
          replace h1 := Lib.hid h1
          go_wp2_with fail
          go_meet
          exact ⟨rfl, h1.out⟩
        · go_wp2_with fail
          go_meet
          exact ⟨rfl, h.out⟩
      case rest =>
        obtain ⟨rfl, h1⟩ := hcut
        clear kn h hnd qn
        have hctx := h1.ctx hc.out
        have c1 := hctx.c1
        have c2 := hctx.c2
        have d2 := h1.c2 hd.out
        have f2 := h1.fz hd.out 2
        have hend := h1.setExp hd.out S
        replace hend := Lib.hid hend
        clear hctx h1
        cases ib
        · go_wp2_with fail
          with_reducible refine (ki.out _).mono ?_
          rintro E w' ⟨rfl, hw⟩
          obtain rfl := hw
          go_wp2
          go_ret
          rw [hSe.out]
          exact ⟨rfl, hend.out⟩
        · go_wp2_with fail
          with_reducible refine (ki.out _).mono ?_
          rintro E w' ⟨rfl, hw⟩
          obtain rfl := hw
          go_wp2_with fail
          with_reducible refine (ku.out _).mono ?_
          rintro E w' ⟨rfl, hw⟩
          obtain rfl := hw
          go_wp2
          go_ret
          rw [hSe.out]
          exact ⟨rfl, hend.out⟩
theorem setExp_c {w0 w : World} {σ : Sg} (h : Hold w0 w σ) {d c s l cap r : Nat} {f0 e p a b nd : Int} {n : Bool} {N : Nat} {m : ByteArray} (x : Nat → Int) (hd : σ d = some (dec f0 n e false N)) (hc : σ c = some (ctxO p a b m)) (hN : nbits N < 1200)
    (hnd : nd = -1 ∨ nd = (figs N : Int)) (hr : calm r) (hl : l ≤ 3) (hx : ∀ k, k < l → -10000 ≤ x k ∧ x k ≤ 10000) (hs : ∀ k, k < l → w.cell? ⟨s, k, none⟩ = some (.int .i64 (x k))) (ha : 50000 ≤ a ∧ a ≤ 2000000) (hb : -2000000 ≤ b ∧ b ≤ -50000) (hcap : l ≤ cap ∧ cap ≤ 100) :
    Calls Tryz.prog 80 #[.pointer (some ⟨d, 0, none⟩), .pointer (some ⟨c, 0, none⟩), .int .i64 nd, .int .u32 (r : Int), .slice (some ⟨s, 0, none⟩) l cap] w fun E w' => E = .returned (.int .u32 (r : Int)) ∧ Hold w0 w' (upd σ d (dec f0 n (sumN x l) false N)) := by
  have h1 := sumN_le hx l (Nat.le_refl _)
  have h2 := figs_401 hN
  have h3 := figs_pos N
  exact setExpG_c h x hd hc hN hnd hr hl hx hs (by omega) (by omega) hcap
/-- A condition with overflow. -/
def ovR (r : Nat) : Nat := if r = 0 ∨ r = 16 then 20 else 84
end Go.Proofs.YtonepclpllelfaaGreatDoor

namespace Go.Proofs.YtonepclpllelfaaGreatDoor
open Go Go.RowKit

theorem calm_or {r : Nat} (h : calm r) : bits .or .u32 (r : Int) (r : Int) = (r : Int) ∧ IntKind.u32.wrap (r : Int) = (r : Int) := by
  rcases h with rfl | rfl | rfl | rfl <;> exact ⟨by kernel_rfl, by kernel_rfl⟩
theorem sgD_ne {n : Bool} {N : Nat} : (sgD 0 n N != 0) = !decide (N = 0) := by
  unfold sgD
  by_cases h : N = 0
  · simp [h]
  · cases n <;> simp [h]

/-- Two summands. -/
def two (u v : Int) : Nat → Int := fun k => if k = 0 then u else v
theorem sumN_two (u v : Int) : sumN (two u v) 2 = u + v := by simp [sumN, two]
theorem setExp2_c {w0 w : World} {σ : Sg} (h : Hold w0 w σ) {d c r : Nat} {f0 e p a b nd : Int} {n : Bool} {N : Nat} {m : ByteArray} (u v : Int) (hd : σ d = some (dec f0 n e false N)) (hc : σ c = some (ctxO p a b m)) (hN : nbits N < 1200)
    (hnd : nd = -1 ∨ nd = (figs N : Int)) (hr : calm r) (hu : -10000 ≤ u ∧ u ≤ 10000) (hv : -10000 ≤ v ∧ v ≤ 10000) (ha : 50000 ≤ a ∧ a ≤ 2000000) (hb : -2000000 ≤ b ∧ b ≤ -50000) :
    Calls Tryz.prog 80 #[.pointer (some ⟨d, 0, none⟩), .pointer (some ⟨c, 0, none⟩), .int .i64 nd, .int .u32 (r : Int), .slice (some ⟨w.heap.size, 0, none⟩) 2 2] ((w.alloc (.cells #[.int .i64 u, .int .i64 v] 2 (0, 0))).drew) fun E w' => E = .returned (.int .u32 (r : Int)) ∧ Hold w0 w' (upd σ d (dec f0 n (u + v) false N)) := by
  have k := setExp_c (s := w.heap.size) (l := 2) (cap := 2) (h.keep (((Chg.refl w _).alloc (.cells #[.int .i64 u, .int .i64 v] 2 (0, 0))).drew)) (two u v) hd hc hN hnd hr (by omega) (fun k hk => by
    rcases (by omega : k = 0 ∨ k = 1) with rfl | rfl
    · exact hu
    · exact hv) (fun k hk => by
    rcases (by omega : k = 0 ∨ k = 1) with rfl | rfl
    · exact cellB (w := (w.alloc (.cells #[.int .i64 u, .int .i64 v] 2 (0, 0))).drew) (allocB w _) rfl
    · exact cellB (w := (w.alloc (.cells #[.int .i64 u, .int .i64 v] 2 (0, 0))).drew) (allocB w _) rfl) ha hb (by omega)
  rw [sumN_two] at k
  exact k

set_option maxRecDepth 20000 in
set_option maxHeartbeats 2000000 in
theorem round_fewG {w0 w : World} {σ : Sg} (h : Hold w0 w σ) {d x c p m : Nat} {e f' e' a b : Int} {n n' g' : Bool} {N N' : Nat} (hd : σ d = some (dec f' n' e' g' N')) (hx : σ x = some (dec 0 n e false N)) (hc : σ c = some (ctxO p a b (modeS m)))
    (hp : 1 ≤ p ∧ p ≤ 1000) (hb : -2000000 ≤ b ∧ b ≤ 2000000) (hN : nbits N < 1100) (he : -3000 ≤ e ∧ e ≤ 3000) (hq : figs N ≤ p) (hlow : b ≤ e + (figs N : Int) - 1) {rz Nz : Nat} {fz ez : Int}
    (hor : bits .or .u32 0 (rz : Int) = (rz : Int) ∧ IntKind.u32.wrap (rz : Int) = (rz : Int))
    (hset : ∀ w1 (σ1 : Sg), Hold w0 w1 σ1 → σ1 d = some (dec 0 n e false N) → σ1 c = some (ctxO p a b (modeS m)) → Calls Tryz.prog 80 #[.pointer (some ⟨d, 0, none⟩), .pointer (some ⟨c, 0, none⟩), .int .i64 (figs N : Int), .int .u32 0, .slice (some ⟨w1.heap.size, 0, none⟩) 2 2] ((w1.alloc (.cells #[.int .i64 e, .int .i64 0] 2 (0, 0))).drew) fun E w' => E = .returned (.int .u32 (rz : Int)) ∧ Hold w0 w' (upd σ1 d (dec fz n ez false Nz))) :
    Calls Tryz.prog 63 #[.string (modeS m), .pointer (some ⟨c, 0, none⟩), .pointer (some ⟨d, 0, none⟩), .pointer (some ⟨x, 0, none⟩), .bool true] w fun E w' => E = .returned (.int .u32 (rz : Int)) ∧ Hold w0 w' (upd σ d (dec fz n ez false Nz)) := by
  have hcd : c ≠ d := by
    rintro rfl
    rw [hc] at hd; cases hd
  have ks := decSet_c h hd hx (bits_words (by omega))
  have hx1 : upd σ d (dec 0 n e false N) x = some (dec 0 n e false N) := by
    by_cases hxd : x = d
    · subst hxd; exact upd_eq _ _ _
    · rw [upd_ne _ _ hxd]; exact hx
  have hd1 := upd_eq σ d (dec 0 n e false N)
  have hc1 : upd σ d (dec 0 n e false N) c = some (ctxO p a b (modeS m)) := by rw [upd_ne _ _ hcd]; exact hc
  have hqp := figs_pos N
  have hup : ∀ it, upd (upd σ d (dec 0 n e false N)) d it = upd σ d it := fun it => upd_upd _ _ _ _
  simp only [← hup (dec fz n ez false Nz)]
  obtain ⟨ho1, ho2⟩ := hor
  replace hup := Lib.hid hup
  generalize upd σ d (dec 0 n e false N) = τ at *
  obtain ⟨q, hqe⟩ : ∃ q, figs N = q := ⟨_, rfl⟩
  rw [hqe] at hq hqp hlow hset
  have kn := fun w2 (h2 : Hold w0 w2 τ) => decDigits_c h2 hx1 (by omega)
  have kg := fun w2 (h2 : Hold w0 w2 τ) => decSignH_c h2 hx1
  have hsg := sgD_ne (n := n) (N := N)
  rw [hqe] at kn
  obtain ⟨sg, hse⟩ : ∃ sg, sgD 0 n N = sg := ⟨_, rfl⟩
  rw [hse] at hsg kg
  generalize (!decide (N = 0)) = zb at hsg
  obtain ⟨P, hP⟩ : ∃ P, modeS m = P := ⟨_, rfl⟩
  rw [hP] at hc1 hset ⊢
  replace hset := Lib.hid hset
  replace hP := Lib.hid hP
  replace hse := Lib.hid hse
  replace hqe := Lib.hid hqe
  replace ks := Lib.hid ks
  replace kn := Lib.hid kn
  replace kg := Lib.hid kg
  replace hx1 := Lib.hid hx1
  replace hd1 := Lib.hid hd1
  replace hc1 := Lib.hid hc1
  have e1 : IntKind.i64.wrap e = e := IntWalk.i64_in _ (by omega)
  have e2 : IntKind.i64.wrap (e + (q : Int)) = e + (q : Int) := IntWalk.i64_in _ (by omega)
  have e3 : IntKind.i64.wrap (e + (q : Int) - 1) = e + (q : Int) - 1 := IntWalk.i64_in _ (by omega)
  have e4 : IntKind.i64.wrap b = b := IntWalk.i64_in _ (by omega)
  have e5 : IntKind.i64.wrap (p : Int) = (p : Int) := IntWalk.i64_in _ (by omega)
  have e6 : IntKind.i64.wrap ((q : Int) - (p : Int)) = (q : Int) - (p : Int) := IntWalk.i64_in _ (by omega)
  have p0 : ((p : Int) == 0) = false := by simp; omega
  have l1 : decide (e + (q : Int) - 1 < b) = false := by simp; omega
  have l2 : ¬ 0 < (q : Int) - (p : Int) := by omega
  have l2' : decide (0 < (q : Int) - (p : Int)) = false := by simp; omega
  clear h hd hx hc
  go_enter Tryz.func63, Tryz.ntmps63
  go_wp2_with fail
  with_reducible refine ks.out.mono ?_
  rintro E w1 ⟨rfl, h1⟩
  have kn := kn.out _ h1
  replace kn := Lib.hid kn
  clear h1
  go_wp2_with fail
  with_reducible refine kn.out.mono ?_
  rintro E w2 ⟨rfl, h2⟩
  have kg := kg.out _ h2
  replace kg := Lib.hid kg
  have x2 := h2.c2 hx1.out
  have d2 := h2.c2 hd1.out
  have hctx := h2.ctx hc1.out
  have c0 := hctx.c0
  have c2 := hctx.c2
  replace h2 := Lib.hid h2
  clear hctx
  go_wp2_with fail
  with_reducible refine kg.out.mono ?_
  rintro E w' ⟨rfl, hw⟩
  obtain rfl := hw
  cases zb
  all_goals
    go_upto_region 32 with (fail)
    have h3 := h2.out.newRaw (.cells #[.int .i64 0] 2 (0, 0))
    have hfK := h2.out.fresh (k := w2.heap.size) (Nat.le_refl _)
    obtain ⟨K, hK⟩ : ∃ K, w2.heap.size = K := ⟨_, rfl⟩
    rw [hK] at h3 hfK ⊢
    generalize w2.alloc (.cells #[.int .i64 0] 2 (0, 0)) = W at h3 ⊢
    have hle : Le τ (upd τ K (raw (.cells #[.int .i64 0] 2 (0, 0)))) := Le.skip hfK (Le.refl _)
    have dW := h3.c2 (hle _ _ hd1.out)
    have tW := (h3.c64At (upd_eq _ _ (c64 0))).1
    replace hK := Lib.hid hK
    clear h2 x2 d2 c0 c2
    replace h3 := Lib.hid h3
    have km := hset.out W _ h3.out (hle _ _ hd1.out) (hle _ _ hc1.out)
    replace km := Lib.hid km
    replace hle := Lib.hid hle
    go_region_with ((go_at_call 80; refine km.out.mono ?_; rintro E w4 ⟨rfl, h4⟩; replace h4 := Lib.hid h4))
    all_goals
      have hend := h4.out.le (Le.both (k := d) (jt := dec fz n ez false Nz) hle.out)
      replace hend := Lib.hid hend
      go_wp2
      go_ret
      exact ⟨rfl, hend.out⟩
theorem round_few {w0 w : World} {σ : Sg} (h : Hold w0 w σ) {d x c p m : Nat} {e f' e' a b : Int} {n n' g' : Bool} {N N' : Nat} (hd : σ d = some (dec f' n' e' g' N')) (hx : σ x = some (dec 0 n e false N)) (hc : σ c = some (ctxO p a b (modeS m)))
    (hp : 1 ≤ p ∧ p ≤ 1000) (ha : 50000 ≤ a ∧ a ≤ 2000000) (hb : -2000000 ≤ b ∧ b ≤ -50000) (hN : nbits N < 1100) (he : -3000 ≤ e ∧ e ≤ 3000) (hq : figs N ≤ p) :
    Calls Tryz.prog 63 #[.string (modeS m), .pointer (some ⟨c, 0, none⟩), .pointer (some ⟨d, 0, none⟩), .pointer (some ⟨x, 0, none⟩), .bool true] w fun E w' => E = .returned (.int .u32 0) ∧ Hold w0 w' (upd σ d (dec 0 n e false N)) :=
  round_fewG (rz := 0) (ez := e) (fz := 0) (Nz := N) h hd hx hc hp (by omega) hN he hq (by have := figs_pos N; omega) ⟨by kernel_rfl, by kernel_rfl⟩ (fun w1 σ1 h1 hd1 hc1 => by
    have km := setExp2_c h1 e 0 hd1 hc1 (by omega) (nd := (figs N : Int)) (.inr rfl) (r := 0) (.inl rfl) (by omega) (by omega) ha hb
    rw [Int.add_zero] at km
    exact km)
end Go.Proofs.YtonepclpllelfaaGreatDoor
