/- Comparing decimals above 0. Comparing decimals above 0 whose first figures lie at one place. The other way round; Decimal.Cmp. -/
import Derived.Test.YtcoljeafgiemkaaGreatDoorC31
namespace Go.Proofs.YtcoljeafgiemkaaGreatDoor
open Go Go.RowKit

/-- How two magnitudes with exponents lie. -/
def cmpD (N : Nat) (e : Int) (M : Nat) (f : Int) : Int := ordN (N * 10 ^ (e - f).toNat) (M * 10 ^ (f - e).toNat)
theorem cmpD_same (N M : Nat) (e : Int) : cmpD N e M e = ordN N M := by unfold cmpD; rw [Int.sub_self]; simp
theorem cmpD_lt {N M : Nat} {e f : Int} (hM : M ≠ 0) (h : (figs N : Int) + e < (figs M : Int) + f) : cmpD N e M f = -1 := by
  have h1 := figs_lt N
  have h2 := figs_ge hM
  have hp := figs_pos N
  have hp2 := figs_pos M
  unfold cmpD
  rw [ordN_lt]
  calc N * 10 ^ (e - f).toNat < 10 ^ figs N * 10 ^ (e - f).toNat := Nat.mul_lt_mul_of_pos_right h1 (ten_pos _)
    _ = 10 ^ (figs N + (e - f).toNat) := (Nat.pow_add _ _ _).symm
    _ ≤ 10 ^ (figs M - 1 + (f - e).toNat) := ten_le (by omega)
    _ = 10 ^ (figs M - 1) * 10 ^ (f - e).toNat := Nat.pow_add _ _ _
    _ ≤ M * 10 ^ (f - e).toNat := Nat.mul_le_mul_right _ h2
theorem ordN_swap (a b : Nat) : ordN a b = - ordN b a := by
  unfold ordN
  by_cases h1 : a < b
  · rw [if_pos h1, if_neg (by omega), if_pos h1]
  · by_cases h2 : b < a
    · rw [if_neg h1, if_pos h2, if_pos h2]; rfl
    · rw [if_neg h1, if_neg h2, if_neg h2, if_neg h1]; rfl
theorem cmpD_gt {N M : Nat} {e f : Int} (hN : N ≠ 0) (h : (figs M : Int) + f < (figs N : Int) + e) : cmpD N e M f = 1 := by
  have := cmpD_lt hN h
  unfold cmpD at this ⊢
  rw [ordN_swap, this]; rfl
theorem cmpD_up {N M : Nat} {e f : Int} (h : e ≤ f) : cmpD N e M f = ordN N (M * 10 ^ (f - e).toNat) := by
  unfold cmpD; rw [show (e - f).toNat = 0 by omega]; simp
theorem cmpD_down {N M : Nat} {e f : Int} (h : f ≤ e) : cmpD N e M f = ordN (N * 10 ^ (e - f).toNat) M := by
  unfold cmpD; rw [show (f - e).toNat = 0 by omega]; simp
set_option exponentiation.threshold 500 in
theorem figs_401 {N : Nat} (h : nbits N < 1200) : figs N ≤ 401 := by
  obtain ⟨q, q1, q2, q3, q4, q5⟩ := fguess_spec h
  exact (figs_le_iff (by omega)).2 (Nat.lt_of_lt_of_le (nbits_lt N) (Nat.le_trans q4 (ten_le (by omega))))
theorem sgD_pos {N : Nat} (h : N ≠ 0) : sgD 0 false N = 1 := by unfold sgD; rw [if_neg (by simp [h])]; rfl

set_option maxRecDepth 20000 in
set_option maxHeartbeats 1000000 in
theorem cmp_same {w0 w : World} {σ : Sg} (h : Hold w0 w σ) {d x : Nat} {e : Int} {N M : Nat} (hd : σ d = some (dec 0 false e false N)) (hx : σ x = some (dec 0 false e false M)) (hne : d ≠ x) (hN : N ≠ 0) (hM : M ≠ 0) :
    Calls Tryz.prog 145 #[.pointer (some ⟨d, 0, none⟩), .pointer (some ⟨x, 0, none⟩)] w fun E w' => E = .returned (.int .i64 (cmpD N e M e)) ∧ Hold w0 w' σ := by
  have k1 := decSignH_c h hd
  have k2 := decSignH_c h hx
  rw [sgD_pos hN] at k1
  rw [sgD_pos hM] at k2
  rw [cmpD_same]
  have d0 := h.c0 hd
  have x0 := h.c0 hx
  have d2 := h.c2 hd
  have x2 := h.c2 hx
  have kc := fun w2 (hc : Chg w w2 (fun _ => False)) => bigCmpH_c (h.keep hc) (bnum_dec hd) (bnum_dec hx) (fun e => hne (congrArg Addr.block e))
  have he : (e == e) = true := by simp
  generalize ordN N M = o at *
  replace kc := Lib.hid kc
  replace k1 := Lib.hid k1
  replace k2 := Lib.hid k2
  replace h := Lib.hid h
  clear hd hx hne hN hM
  go_enter Tryz.func145, Tryz.ntmps145
  go_wp2_with fail
  with_reducible refine k1.out.mono ?_
  rintro E w' ⟨rfl, hw⟩
  obtain rfl := hw
  go_wp2_with fail
  with_reducible refine k2.out.mono ?_
  rintro E w' ⟨rfl, hw⟩
  obtain rfl := hw
  go_upto_region 20 with (fail)
  go_quiet (fail)
  go_upto_region 21 with (fail)
  go_still_tail 6, (by kernel_rfl)
  change wpList _ _ _ _ _ (World.drew _)
  go_wp2_with fail
  with_reducible refine (kc.out _ (by exact ⟨rfl, rfl, rfl, Nat.le_refl _, fun _ _ _ => rfl⟩)).mono ?_
  rintro E w' ⟨rfl, n, rfl⟩
  go_wp2
  go_ret
  exact ⟨rfl, (h.out.keep (by exact ⟨rfl, rfl, rfl, Nat.le_refl _, fun _ _ _ => rfl⟩))⟩

set_option maxRecDepth 20000 in
set_option maxHeartbeats 2000000 in
/-- The places of the first figures differ. -/
theorem cmp_far {w0 w : World} {σ : Sg} (h : Hold w0 w σ) {d x : Nat} {e f : Int} {N M : Nat} (hd : σ d = some (dec 0 false e false N)) (hx : σ x = some (dec 0 false f false M)) (hN : N ≠ 0) (hM : M ≠ 0)
    (hNb : nbits N < 1200) (hMb : nbits M < 1200) (he : -10000 ≤ e ∧ e ≤ 10000) (hf : -10000 ≤ f ∧ f ≤ 10000) (hef : e ≠ f) (hfar : (figs N : Int) + e ≠ (figs M : Int) + f) :
    Calls Tryz.prog 145 #[.pointer (some ⟨d, 0, none⟩), .pointer (some ⟨x, 0, none⟩)] w fun E w' => E = .returned (.int .i64 (cmpD N e M f)) ∧ Hold w0 w' σ := by
  have k1 := decSignH_c h hd
  have k2 := decSignH_c h hx
  rw [sgD_pos hN] at k1
  rw [sgD_pos hM] at k2
  have d0 := h.c0 hd
  have x0 := h.c0 hx
  have d2 := h.c2 hd
  have x2 := h.c2 hx
  have kn1 := fun w2 (h2 : Hold w0 w2 σ) => decDigits_c h2 hd hNb
  have kn2 := fun w2 (h2 : Hold w0 w2 σ) => decDigits_c h2 hx hMb
  have ee : (e == f) = false := by simp [hef]
  have hfN := figs_401 hNb
  have hfM := figs_401 hMb
  have hlt := fun h => cmpD_lt (N := N) (e := e) (f := f) hM h
  have hgt := fun h => cmpD_gt (M := M) (e := e) (f := f) hN h
  obtain ⟨a, ha⟩ : ∃ a, figs N = a := ⟨_, rfl⟩
  obtain ⟨b, hb⟩ : ∃ b, figs M = b := ⟨_, rfl⟩
  rw [ha] at hlt hgt hfar hfN
  rw [hb] at hlt hgt hfar hfM
  simp only [ha] at kn1
  simp only [hb] at kn2
  have e1 : IntKind.i64.wrap e = e := IntWalk.i64_in _ (by omega)
  have f1 : IntKind.i64.wrap f = f := IntWalk.i64_in _ (by omega)
  have ae : IntKind.i64.wrap ((a : Int) + e) = (a : Int) + e := IntWalk.i64_in _ (by omega)
  have bf : IntKind.i64.wrap ((b : Int) + f) = (b : Int) + f := IntWalk.i64_in _ (by omega)
  have hcm : cmpD N e M f = if (a : Int) + e < (b : Int) + f then -1 else 1 := by
    by_cases hl : (a : Int) + e < (b : Int) + f
    · rw [if_pos hl]; exact hlt hl
    · rw [if_neg hl]; exact hgt (by omega)
  generalize cmpD N e M f = o at *
  replace kn1 := Lib.hid kn1
  replace kn2 := Lib.hid kn2
  replace k1 := Lib.hid k1
  replace k2 := Lib.hid k2
  replace h := Lib.hid h
  replace hd := Lib.hid hd
  replace hx := Lib.hid hx
  replace hcm := Lib.hid hcm
  replace ha := Lib.hid ha
  replace hb := Lib.hid hb
  clear hN hM hlt hgt hNb hMb
  go_enter Tryz.func145, Tryz.ntmps145
  go_wp2_with fail
  with_reducible refine k1.out.mono ?_
  rintro E w' ⟨rfl, hw⟩
  obtain rfl := hw
  go_wp2_with fail
  with_reducible refine k2.out.mono ?_
  rintro E w' ⟨rfl, hw⟩
  obtain rfl := hw
  go_upto_region 20 with (fail)
  go_quiet (fail)
  go_upto_region 25 with (fail)
  go_cut [10] (fun v wx => v = .int .i64 ((a : Int) + e) ∧ Hold w0 wx σ)
  case first =>
    go_region_with ((go_at_call 80; refine (kn1.out _ (h.out.keep (by exact ⟨rfl, rfl, rfl, Nat.le_refl _, fun _ _ _ => rfl⟩))).mono ?_; rintro E w1 ⟨rfl, h1⟩; have d21 := h1.c2 hd.out; replace h1 := Lib.hid h1))
    all_goals
      go_wp2_with fail
      go_meet
      exact ⟨rfl, h1.out⟩
  case rest =>
    obtain ⟨rfl, h1⟩ := hcut
    clear d0 x0 d2 x2 h k1 k2 kn1
    have x2 := h1.c2 hx.out
    replace h1 := Lib.hid h1
    go_upto_region 26 with (fail)
    go_cut [11] (fun v wx => v = .int .i64 ((b : Int) + f) ∧ Hold w0 wx σ)
    case first =>
      go_region_with ((go_at_call 80; refine (kn2.out _ (h1.out.keep (by exact ⟨rfl, rfl, rfl, Nat.le_refl _, fun _ _ _ => rfl⟩))).mono ?_; rintro E w2 ⟨rfl, h2⟩; have d21 := h2.c2 hx.out; replace h2 := Lib.hid h2))
      all_goals
        go_wp2_with fail
        go_meet
        exact ⟨rfl, h2.out⟩
    case rest =>
      obtain ⟨rfl, h2⟩ := hcut
      replace h2 := Lib.hid h2
      by_cases hl : (a : Int) + e < (b : Int) + f
      · have hl1 : decide ((a : Int) + e < (b : Int) + f) = true := by simp; omega
        go_wp2
        go_ret
        exact ⟨by rw [hcm.out, if_pos (by omega)]; rfl, h2.out⟩
      · have hl1 : decide ((a : Int) + e < (b : Int) + f) = false := by simp; omega
        have hl2 : decide ((b : Int) + f < (a : Int) + e) = true := by simp; omega
        have hg : (b : Int) + f < (a : Int) + e := by omega
        go_wp2
        go_ret
        exact ⟨by rw [hcm.out, if_neg (by omega)]; rfl, h2.out⟩
end Go.Proofs.YtcoljeafgiemkaaGreatDoor

namespace Go.Proofs.YtcoljeafgiemkaaGreatDoor
open Go Go.RowKit

set_option exponentiation.threshold 2000 in
theorem ten_40 {g : Nat} (h : g ≤ 400) : (digs (10 ^ g)).length < 40 := by
  refine Nat.lt_of_le_of_lt (digs_len_le (k := 21).2 (Nat.lt_of_le_of_lt (ten_le h) ?_)) (by omega)
  rw [WB_eq]; decide +kernel

set_option maxRecDepth 20000 in
set_option maxHeartbeats 2000000 in
theorem cmp_up {w0 w : World} {σ : Sg} (h : Hold w0 w σ) {d x : Nat} {e f : Int} {N M : Nat} (hd : σ d = some (dec 0 false e false N)) (hx : σ x = some (dec 0 false f false M)) (hN : N ≠ 0) (hM : M ≠ 0)
    (hNb : nbits N < 1200) (hMb : nbits M < 1200) (he : -10000 ≤ e ∧ e ≤ 10000) (hf : -10000 ≤ f ∧ f ≤ 10000) (hef : e < f) (hfar : (figs N : Int) + e = (figs M : Int) + f) :
    Calls Tryz.prog 145 #[.pointer (some ⟨d, 0, none⟩), .pointer (some ⟨x, 0, none⟩)] w fun E w' => E = .returned (.int .i64 (cmpD N e M f)) ∧ Hold w0 w' σ := by
  have k1 := decSignH_c h hd
  have k2 := decSignH_c h hx
  rw [sgD_pos hN] at k1
  rw [sgD_pos hM] at k2
  have d0 := h.c0 hd
  have x0 := h.c0 hx
  have d2 := h.c2 hd
  have x2 := h.c2 hx
  have kn1 := fun w2 (h2 : Hold w0 w2 σ) => decDigits_c h2 hd hNb
  have kn2 := fun w2 (h2 : Hold w0 w2 σ) => decDigits_c h2 hx hMb
  have ee : (e == f) = false := by simp; omega
  have hfN := figs_401 hNb
  have hfM := figs_401 hMb
  have hNp := figs_pos N
  have hMp := figs_pos M
  obtain ⟨a, ha⟩ : ∃ a, figs N = a := ⟨_, rfl⟩
  obtain ⟨b, hb⟩ : ∃ b, figs M = b := ⟨_, rfl⟩
  rw [ha] at hfar hfN hNp
  rw [hb] at hfar hfM hMp
  simp only [ha] at kn1
  simp only [hb] at kn2
  have e1 : IntKind.i64.wrap e = e := IntWalk.i64_in _ (by omega)
  have f1 : IntKind.i64.wrap f = f := IntWalk.i64_in _ (by omega)
  have ae : IntKind.i64.wrap ((a : Int) + e) = (a : Int) + e := IntWalk.i64_in _ (by omega)
  have bf : IntKind.i64.wrap ((b : Int) + f) = (b : Int) + f := IntWalk.i64_in _ (by omega)
  obtain ⟨g, hg⟩ : ∃ g : Nat, f - e = (g : Int) := ⟨(f - e).toNat, by omega⟩
  have hg4 : g ≤ 400 := by omega
  have hgw : IntKind.i64.wrap (f - e) = (g : Int) := by rw [hg]; exact IntWalk.i64_in _ (by omega)
  have hcm : cmpD N e M f = ordN N (M * 10 ^ g) := by rw [cmpD_up (by omega), hg]; simp
  have hne : d ≠ x := by
    rintro rfl
    rw [hd] at hx; cases hx
    omega
  have l1 : decide ((a : Int) + e < (b : Int) + f) = false := by simp; omega
  have l2 : decide ((b : Int) + f < (a : Int) + e) = false := by simp; omega
  have l1' : ¬ (a : Int) + e < (b : Int) + f := by omega
  have l2' : ¬ (b : Int) + f < (a : Int) + e := by omega
  have hel : decide (e < f) = true := by simp; omega
  have hMw : (digs M).length ≤ 1000 := bits_words hMb
  have hNw : (digs N).length ≤ 1000 := bits_words hNb
  have hS40 : (digs M).length < 40 := Nat.lt_of_le_of_lt (bits_w (k := 19) (by omega)) (by omega)
  have h10 : (digs (10 ^ g)).length < 40 := ten_40 hg4
  replace hg := Lib.hid hg
  replace hcm := Lib.hid hcm
  replace ha := Lib.hid ha
  replace hb := Lib.hid hb
  replace hfar := Lib.hid hfar
  generalize cmpD N e M f = o at *
  replace kn1 := Lib.hid kn1
  replace kn2 := Lib.hid kn2
  replace k1 := Lib.hid k1
  replace k2 := Lib.hid k2
  replace h := Lib.hid h
  replace hd := Lib.hid hd
  replace hx := Lib.hid hx
  clear hN hM hNb hMb
  go_enter Tryz.func145, Tryz.ntmps145
  go_wp2_with fail
  with_reducible refine k1.out.mono ?_
  rintro E w' ⟨rfl, hw⟩
  obtain rfl := hw
  go_wp2_with fail
  with_reducible refine k2.out.mono ?_
  rintro E w' ⟨rfl, hw⟩
  obtain rfl := hw
  go_upto_region 20 with (fail)
  go_quiet (fail)
  go_upto_region 25 with (fail)
  go_cut [10] (fun v wx => v = .int .i64 ((a : Int) + e) ∧ Hold w0 wx σ)
  case first =>
    go_region_with ((go_at_call 80; refine (kn1.out _ (h.out.keep (by exact ⟨rfl, rfl, rfl, Nat.le_refl _, fun _ _ _ => rfl⟩))).mono ?_; rintro E w1 ⟨rfl, h1⟩; have d21 := h1.c2 hd.out; replace h1 := Lib.hid h1))
    all_goals
      go_wp2_with fail
      go_meet
      exact ⟨rfl, h1.out⟩
  case rest =>
    obtain ⟨rfl, h1⟩ := hcut
    clear d0 x0 d2 x2 h k1 k2 kn1
    have x2 := h1.c2 hx.out
    replace h1 := Lib.hid h1
    go_upto_region 26 with (fail)
    go_cut [11] (fun v wx => v = .int .i64 ((b : Int) + f) ∧ Hold w0 wx σ)
    case first =>
      go_region_with ((go_at_call 80; refine (kn2.out _ (h1.out.keep (by exact ⟨rfl, rfl, rfl, Nat.le_refl _, fun _ _ _ => rfl⟩))).mono ?_; rintro E w2 ⟨rfl, h2⟩; have d21 := h2.c2 hx.out; replace h2 := Lib.hid h2))
      all_goals
        go_wp2_with fail
        go_meet
        exact ⟨rfl, h2.out⟩
    case rest =>
      obtain ⟨rfl, h2⟩ := hcut
      clear x2 h1 kn2
      have d2 := h2.c2 hd.out
      have x2 := h2.c2 hx.out
      replace h2 := Lib.hid h2
      have hfr : ∀ k, wc.heap.size ≤ k → σ k = none := fun k hk => h2.out.fresh hk
      have hK := hfr _ (Nat.le_refl _)
      have hK1 := hfr (wc.heap.size + 1) (by omega)
      have h3 : ∀ n, Hold w0 (((wc.drewN n).alloc (.cells #[.bool false, .slice none 0 0, .bool false] 73 (0, 0))).alloc (.cells #[.bool false, .slice none 0 0, .bool false] 73 (0, 0))) (upd (upd σ wc.heap.size (big false 0)) (wc.heap.size + 1) (big false 0)) := fun n => by
        have h4 := (h2.out.drewN n).newBig.newBig
        rw [World.size_alloc] at h4
        exact h4
      clear h2 hfr
      have hle0 : Le σ (upd (upd σ wc.heap.size (big false 0)) (wc.heap.size + 1) (big false 0)) := Le.skip hK1 (Le.skip hK (Le.refl _))
      obtain ⟨K, hKe⟩ : ∃ K, wc.heap.size = K := ⟨_, rfl⟩
      simp only [hKe] at h3 hle0 hK hK1
      have a1 : upd (upd σ K (big false 0)) (K + 1) (big false 0) K = some (big false 0) := by rw [upd_ne _ _ (by omega), upd_eq]
      have a2 : upd (upd σ K (big false 0)) (K + 1) (big false 0) (K + 1) = some (big false 0) := upd_eq _ _ _
      generalize upd (upd σ K (big false 0)) (K + 1) (big false 0) = τ at *
      have ks := fun n => bigSetH_c (h3 n) (bnum_big a1) (bnum_dec (hle0 _ _ hx.out)) hMw
      rw [put_big a1] at ks
      have hle1 : Le σ (upd τ K (big false M)) := Le.skip hK hle0
      have b1 := upd_eq τ K (big false M)
      have b2 : upd τ K (big false M) (K + 1) = some (big false 0) := by rw [upd_ne _ _ (by omega)]; exact a2
      generalize upd τ K (big false M) = ρ at *
      replace ks := Lib.hid ks
      replace hle1 := Lib.hid hle1
      replace b1 := Lib.hid b1
      replace b2 := Lib.hid b2
      replace hK := Lib.hid hK
      replace hK1 := Lib.hid hK1
      replace hKe := Lib.hid hKe
      clear h3 hle0 a1 a2
      go_upto_region 32 with (fail)
      go_quiet (fail)
      go_wp2_with fail
      rw [hKe.out]
      with_reducible refine (ks.out _).mono ?_
      rintro E w5 ⟨rfl, h5⟩
      have d25 := h5.c2 (hle1.out _ _ hd.out)
      have x25 := h5.c2 (hle1.out _ _ hx.out)
      have kt := fun w2 (hc : Chg w5 w2 (fun _ => False)) => tableExp_c (h5.keep hc) (bnum_big b2.out) g hg4
      rw [put_big b2.out] at kt
      have c1 : upd ρ (K + 1) (big false (10 ^ g)) K = some (big false M) := by rw [upd_ne _ _ (by omega)]; exact b1.out
      have c2 := upd_eq ρ (K + 1) (big false (10 ^ g))
      have hle2 : Le σ (upd ρ (K + 1) (big false (10 ^ g))) := Le.skip hK1.out hle1.out
      generalize upd ρ (K + 1) (big false (10 ^ g)) = ρ2 at *
      have km := fun w2 (h2 : Hold w0 w2 ρ2) => bigMul_c h2 (bnum_big c1) (num_big c1) (num_big c2) (by intro e; injection e with e; omega) hS40 h10
      rw [put_big c1] at km
      have hle3 : Le σ (upd ρ2 K (big false (M * 10 ^ g))) := Le.skip hK.out hle2
      have kc := fun w2 (h2 : Hold w0 w2 (upd ρ2 K (big false (M * 10 ^ g)))) => bigCmpH_c h2 (bnum_dec (hle3 _ _ hd.out)) (bnum_big (upd_eq _ _ _)) (by intro e; injection e with e; exact absurd (hd.out) (by rw [e, hK.out]; simp))
      have e3 := upd_eq ρ2 K (big false (M * 10 ^ g))
      generalize upd ρ2 K (big false (M * 10 ^ g)) = ρ3 at *
      clear h5 c1 c2 hle2 hle1 b1 b2 ks d2 x2
      replace kt := Lib.hid kt
      replace km := Lib.hid km
      replace kc := Lib.hid kc
      replace hle3 := Lib.hid hle3
      replace e3 := Lib.hid e3
      go_upto_region 35 with (fail)
      go_still_tail 11, (by kernel_rfl)
      change wpList _ _ _ _ _ (World.drew _)
      go_wp2_with fail
      with_reducible refine (kt.out _ (by exact ⟨rfl, rfl, rfl, Nat.le_refl _, fun _ _ _ => rfl⟩)).mono ?_
      rintro E w6 ⟨rfl, h6⟩
      have km := km.out _ h6
      replace km := Lib.hid km
      clear h6
      go_wp2_with fail
      with_reducible refine km.out.mono ?_
      rintro E w7 ⟨rfl, h7⟩
      have kc := kc.out _ h7
      have hend := fun n => (h7.drewN n).le hle3.out
      rw [← hcm.out] at kc
      replace kc := Lib.hid kc
      replace hend := Lib.hid hend
      clear h7
      go_wp2_with fail
      with_reducible refine kc.out.mono ?_
      rintro E w' ⟨rfl, n, rfl⟩
      go_wp2
      go_ret
      exact ⟨rfl, hend.out _⟩

end Go.Proofs.YtcoljeafgiemkaaGreatDoor

namespace Go.Proofs.YtcoljeafgiemkaaGreatDoor
open Go Go.RowKit

set_option maxRecDepth 20000 in
set_option maxHeartbeats 2000000 in
theorem cmp_down {w0 w : World} {σ : Sg} (h : Hold w0 w σ) {d x : Nat} {e f : Int} {N M : Nat} (hd : σ d = some (dec 0 false e false N)) (hx : σ x = some (dec 0 false f false M)) (hN : N ≠ 0) (hM : M ≠ 0)
    (hNb : nbits N < 1200) (hMb : nbits M < 1200) (he : -10000 ≤ e ∧ e ≤ 10000) (hf : -10000 ≤ f ∧ f ≤ 10000) (hef : f < e) (hfar : (figs N : Int) + e = (figs M : Int) + f) :
    Calls Tryz.prog 145 #[.pointer (some ⟨d, 0, none⟩), .pointer (some ⟨x, 0, none⟩)] w fun E w' => E = .returned (.int .i64 (cmpD N e M f)) ∧ Hold w0 w' σ := by
  have k1 := decSignH_c h hd
  have k2 := decSignH_c h hx
  rw [sgD_pos hN] at k1
  rw [sgD_pos hM] at k2
  have d0 := h.c0 hd
  have x0 := h.c0 hx
  have d2 := h.c2 hd
  have x2 := h.c2 hx
  have kn1 := fun w2 (h2 : Hold w0 w2 σ) => decDigits_c h2 hd hNb
  have kn2 := fun w2 (h2 : Hold w0 w2 σ) => decDigits_c h2 hx hMb
  have ee : (e == f) = false := by simp; omega
  have hfN := figs_401 hNb
  have hfM := figs_401 hMb
  have hNp := figs_pos N
  have hMp := figs_pos M
  obtain ⟨a, ha⟩ : ∃ a, figs N = a := ⟨_, rfl⟩
  obtain ⟨b, hb⟩ : ∃ b, figs M = b := ⟨_, rfl⟩
  rw [ha] at hfar hfN hNp
  rw [hb] at hfar hfM hMp
  simp only [ha] at kn1
  simp only [hb] at kn2
  have e1 : IntKind.i64.wrap e = e := IntWalk.i64_in _ (by omega)
  have f1 : IntKind.i64.wrap f = f := IntWalk.i64_in _ (by omega)
  have ae : IntKind.i64.wrap ((a : Int) + e) = (a : Int) + e := IntWalk.i64_in _ (by omega)
  have bf : IntKind.i64.wrap ((b : Int) + f) = (b : Int) + f := IntWalk.i64_in _ (by omega)
  obtain ⟨g, hg⟩ : ∃ g : Nat, e - f = (g : Int) := ⟨(e - f).toNat, by omega⟩
  have hg4 : g ≤ 400 := by omega
  have hgw : IntKind.i64.wrap (e - f) = (g : Int) := by rw [hg]; exact IntWalk.i64_in _ (by omega)
  have hcm : cmpD N e M f = ordN (N * 10 ^ g) M := by rw [cmpD_down (by omega), hg]; simp
  have hne : d ≠ x := by
    rintro rfl
    rw [hd] at hx; cases hx
    omega
  have l1 : decide ((a : Int) + e < (b : Int) + f) = false := by simp; omega
  have l2 : decide ((b : Int) + f < (a : Int) + e) = false := by simp; omega
  have l1' : ¬ (a : Int) + e < (b : Int) + f := by omega
  have l2' : ¬ (b : Int) + f < (a : Int) + e := by omega
  have hel : decide (e < f) = false := by simp; omega
  have hMw : (digs M).length ≤ 1000 := bits_words hMb
  have hNw : (digs N).length ≤ 1000 := bits_words hNb
  have hS40 : (digs N).length < 40 := Nat.lt_of_le_of_lt (bits_w (k := 19) (by omega)) (by omega)
  have h10 : (digs (10 ^ g)).length < 40 := ten_40 hg4
  replace hg := Lib.hid hg
  replace hcm := Lib.hid hcm
  replace ha := Lib.hid ha
  replace hb := Lib.hid hb
  replace hfar := Lib.hid hfar
  generalize cmpD N e M f = o at *
  replace kn1 := Lib.hid kn1
  replace kn2 := Lib.hid kn2
  replace k1 := Lib.hid k1
  replace k2 := Lib.hid k2
  replace h := Lib.hid h
  replace hd := Lib.hid hd
  replace hx := Lib.hid hx
  clear hN hM hNb hMb
  go_enter Tryz.func145, Tryz.ntmps145
  go_wp2_with fail
  with_reducible refine k1.out.mono ?_
  rintro E w' ⟨rfl, hw⟩
  obtain rfl := hw
  go_wp2_with fail
  with_reducible refine k2.out.mono ?_
  rintro E w' ⟨rfl, hw⟩
  obtain rfl := hw
  go_upto_region 20 with (fail)
  go_quiet (fail)
  go_upto_region 25 with (fail)
  go_cut [10] (fun v wx => v = .int .i64 ((a : Int) + e) ∧ Hold w0 wx σ)
  case first =>
    go_region_with ((go_at_call 80; refine (kn1.out _ (h.out.keep (by exact ⟨rfl, rfl, rfl, Nat.le_refl _, fun _ _ _ => rfl⟩))).mono ?_; rintro E w1 ⟨rfl, h1⟩; have d21 := h1.c2 hd.out; replace h1 := Lib.hid h1))
    all_goals
      go_wp2_with fail
      go_meet
      exact ⟨rfl, h1.out⟩
  case rest =>
    obtain ⟨rfl, h1⟩ := hcut
    clear d0 x0 d2 x2 h k1 k2 kn1
    have x2 := h1.c2 hx.out
    replace h1 := Lib.hid h1
    go_upto_region 26 with (fail)
    go_cut [11] (fun v wx => v = .int .i64 ((b : Int) + f) ∧ Hold w0 wx σ)
    case first =>
      go_region_with ((go_at_call 80; refine (kn2.out _ (h1.out.keep (by exact ⟨rfl, rfl, rfl, Nat.le_refl _, fun _ _ _ => rfl⟩))).mono ?_; rintro E w2 ⟨rfl, h2⟩; have d21 := h2.c2 hx.out; replace h2 := Lib.hid h2))
      all_goals
        go_wp2_with fail
        go_meet
        exact ⟨rfl, h2.out⟩
    case rest =>
      obtain ⟨rfl, h2⟩ := hcut
      clear x2 h1 kn2
      have d2 := h2.c2 hd.out
      have x2 := h2.c2 hx.out
      replace h2 := Lib.hid h2
      have hfr : ∀ k, wc.heap.size ≤ k → σ k = none := fun k hk => h2.out.fresh hk
      have hK := hfr _ (Nat.le_refl _)
      have hK1 := hfr (wc.heap.size + 1) (by omega)
      have h3 : ∀ n, Hold w0 (((wc.drewN n).alloc (.cells #[.bool false, .slice none 0 0, .bool false] 73 (0, 0))).alloc (.cells #[.bool false, .slice none 0 0, .bool false] 73 (0, 0))) (upd (upd σ wc.heap.size (big false 0)) (wc.heap.size + 1) (big false 0)) := fun n => by
        have h4 := (h2.out.drewN n).newBig.newBig
        rw [World.size_alloc] at h4
        exact h4
      clear h2 hfr
      have hle0 : Le σ (upd (upd σ wc.heap.size (big false 0)) (wc.heap.size + 1) (big false 0)) := Le.skip hK1 (Le.skip hK (Le.refl _))
      obtain ⟨K, hKe⟩ : ∃ K, wc.heap.size = K := ⟨_, rfl⟩
      simp only [hKe] at h3 hle0 hK hK1
      have a1 : upd (upd σ K (big false 0)) (K + 1) (big false 0) K = some (big false 0) := by rw [upd_ne _ _ (by omega), upd_eq]
      have a2 : upd (upd σ K (big false 0)) (K + 1) (big false 0) (K + 1) = some (big false 0) := upd_eq _ _ _
      generalize upd (upd σ K (big false 0)) (K + 1) (big false 0) = τ at *
      have ks := fun n => bigSetH_c (h3 n) (bnum_big a1) (bnum_dec (hle0 _ _ hd.out)) hNw
      rw [put_big a1] at ks
      have hle1 : Le σ (upd τ K (big false N)) := Le.skip hK hle0
      have b1 := upd_eq τ K (big false N)
      have b2 : upd τ K (big false N) (K + 1) = some (big false 0) := by rw [upd_ne _ _ (by omega)]; exact a2
      generalize upd τ K (big false N) = ρ at *
      replace ks := Lib.hid ks
      replace hle1 := Lib.hid hle1
      replace b1 := Lib.hid b1
      replace b2 := Lib.hid b2
      replace hK := Lib.hid hK
      replace hK1 := Lib.hid hK1
      replace hKe := Lib.hid hKe
      clear h3 hle0 a1 a2
      go_upto_region 32 with (fail)
      go_quiet (fail)
      go_wp2_with fail
      rw [hKe.out]
      with_reducible refine (ks.out _).mono ?_
      rintro E w5 ⟨rfl, h5⟩
      have d25 := h5.c2 (hle1.out _ _ hd.out)
      have x25 := h5.c2 (hle1.out _ _ hx.out)
      have kt := fun w2 (hc : Chg w5 w2 (fun _ => False)) => tableExp_c (h5.keep hc) (bnum_big b2.out) g hg4
      rw [put_big b2.out] at kt
      have c1 : upd ρ (K + 1) (big false (10 ^ g)) K = some (big false N) := by rw [upd_ne _ _ (by omega)]; exact b1.out
      have c2 := upd_eq ρ (K + 1) (big false (10 ^ g))
      have hle2 : Le σ (upd ρ (K + 1) (big false (10 ^ g))) := Le.skip hK1.out hle1.out
      generalize upd ρ (K + 1) (big false (10 ^ g)) = ρ2 at *
      have km := fun w2 (h2 : Hold w0 w2 ρ2) => bigMul_c h2 (bnum_big c1) (num_big c1) (num_big c2) (by intro e; injection e with e; omega) hS40 h10
      rw [put_big c1] at km
      have hle3 : Le σ (upd ρ2 K (big false (N * 10 ^ g))) := Le.skip hK.out hle2
      have kc := fun w2 (h2 : Hold w0 w2 (upd ρ2 K (big false (N * 10 ^ g)))) => bigCmpH_c h2 (bnum_big (upd_eq _ _ _)) (bnum_dec (hle3 _ _ hx.out)) (by intro e; injection e with e; exact absurd (hx.out) (by rw [← e, hK.out]; simp))
      have e3 := upd_eq ρ2 K (big false (N * 10 ^ g))
      generalize upd ρ2 K (big false (N * 10 ^ g)) = ρ3 at *
      clear h5 c1 c2 hle2 hle1 b1 b2 ks d2 x2
      replace kt := Lib.hid kt
      replace km := Lib.hid km
      replace kc := Lib.hid kc
      replace hle3 := Lib.hid hle3
      replace e3 := Lib.hid e3
      go_upto_region 39 with (fail)
      go_still_tail 11, (by kernel_rfl)
      change wpList _ _ _ _ _ (World.drew _)
      go_wp2_with fail
      with_reducible refine (kt.out _ (by exact ⟨rfl, rfl, rfl, Nat.le_refl _, fun _ _ _ => rfl⟩)).mono ?_
      rintro E w6 ⟨rfl, h6⟩
      have km := km.out _ h6
      replace km := Lib.hid km
      clear h6
      go_wp2_with fail
      with_reducible refine km.out.mono ?_
      rintro E w7 ⟨rfl, h7⟩
      have kc := kc.out _ h7
      have hend := fun n => (h7.drewN n).le hle3.out
      rw [← hcm.out] at kc
      replace kc := Lib.hid kc
      replace hend := Lib.hid hend
      clear h7
      go_wp2_with fail
      with_reducible refine kc.out.mono ?_
      rintro E w' ⟨rfl, n, rfl⟩
      go_wp2
      go_ret
      exact ⟨rfl, hend.out _⟩

/-- Comparing two decimals above 0. -/
theorem decCmp_c {w0 w : World} {σ : Sg} (h : Hold w0 w σ) {d x : Nat} {e f : Int} {N M : Nat} (hd : σ d = some (dec 0 false e false N)) (hx : σ x = some (dec 0 false f false M)) (hne : d ≠ x) (hN : N ≠ 0) (hM : M ≠ 0)
    (hNb : nbits N < 1200) (hMb : nbits M < 1200) (he : -10000 ≤ e ∧ e ≤ 10000) (hf : -10000 ≤ f ∧ f ≤ 10000) :
    Calls Tryz.prog 145 #[.pointer (some ⟨d, 0, none⟩), .pointer (some ⟨x, 0, none⟩)] w fun E w' => E = .returned (.int .i64 (cmpD N e M f)) ∧ Hold w0 w' σ := by
  by_cases h1 : e = f
  · subst h1; exact cmp_same h hd hx hne hN hM
  by_cases h2 : (figs N : Int) + e = (figs M : Int) + f
  · by_cases h3 : e < f
    · exact cmp_up h hd hx hN hM hNb hMb he hf h3 h2
    · exact cmp_down h hd hx hN hM hNb hMb he hf (by omega) h2
  · exact cmp_far h hd hx hN hM hNb hMb he hf h1 h2

end Go.Proofs.YtcoljeafgiemkaaGreatDoor
