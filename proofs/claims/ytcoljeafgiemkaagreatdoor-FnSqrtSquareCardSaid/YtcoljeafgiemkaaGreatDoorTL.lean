/- The square root of a square: what impl.Mul and impl.Sqrt tell, and the reference. -/
import Derived.Test.YtcoljeafgiemkaaGreatDoorTI
import Derived.Test.YtcoljeafgiemkaaGreatDoorTC
import Derived.Test.YtcoljeafgiemkaaGreatDoorTM
namespace Go.Proofs.YtcoljeafgiemkaaGreatDoor
open Go Go.RowKit

theorem val1 {X : List Nat} (hw : Wd X) {l : Nat} (hX : X.length = l) (hl : l ≤ 1) : val X < 10 ^ 20 := by
  have h1 := val_lt hw
  have h2 : WB ^ X.length ≤ WB ^ 1 := Nat.pow_le_pow_right WB_pos (by omega)
  have h3 : WB ^ 1 = 18446744073709551616 := by rw [Nat.pow_one, WB_eq]
  have h4 : 18446744073709551616 < 10 ^ 20 := by decide
  omega
theorem cond64 : (bits .and .i64 (condN 0 : Int) 4 == 0) = true ∧ (bits .and .i64 (condN 64 : Int) 4 == 0) = true := ⟨by kernel_rfl, by kernel_rfl⟩
theorem impl0_c (w : World) (hG : Glob w) (p m : Nat) (hm : m < 8) (hp : 1 ≤ p ∧ p ≤ 60) (e : Int) (A : Option Addr) (l c : Nat) (X : List Nat) (hX : RdW w A l c X) (hl : l ≤ 900) (he : -300 ≤ e ∧ e ≤ 300) (hX0 : val X = 0) :
    Calls Tryz.prog 32 #[.agg #[.int .u64 (p : Int), .int .i64 100000, .int .i64 (-100000), .int .i64 (m : Int)], .agg #[.int .i64 0, .bool false, .slice A l c, .int .i64 e]] w fun E w' => TellN w w' E false (Int.tdiv e 2) 0 (condN 0 : Int) := by
  have hb0 := Int.natAbs_tdiv_le_natAbs e 2
  have hb : -300 ≤ Int.tdiv e 2 ∧ Int.tdiv e 2 ≤ 300 := by omega
  refine (implSqrtG_c w hG p m 0 100000 (-100000) e false A l c X (dec 0 false (Int.tdiv e 2) false 0) (QFin false (Int.tdiv e 2) 0) hm (by omega) (by omega) (by omega) (by omega) (QFin.st _ _ _)
    (fun w4 τ d h4 hd => QFin.told h4 hd (by rw [digs_zero]; simp) (by omega)) hX hl (by omega) (fun w1 σ c1 d1 x hh hc hd hx hdx => ?_)).mono (fun E w' h => tellN h)
  rw [hX0] at hx
  exact cSqrt0_c hh hd hx (by omega)
theorem squareFacts (w : World) (hG : Glob w) (p m : Nat) (hm : m < 8) (hp : 1 ≤ p ∧ p ≤ 60) (e : Int) (n : Bool) (A : Option Addr) (l c : Nat) (X : List Nat) (hX : RdW w A l c X) (hl : l ≤ 1) (he1 : -50 ≤ e) (he2 : e ≤ 50) (hfp : figs (val X) ≤ p) :
    ∃ (E1 : Int) (R : Nat) (cn : Int),
      (∀ W, Below w.heap.size w W → Calls Tryz.prog 39 #[.agg #[.int .u64 130, .int .i64 100000, .int .i64 (-100000), .int .i64 (m : Int)], .agg #[.int .i64 0, .bool n, .slice A l c, .int .i64 e], .agg #[.int .i64 0, .bool n, .slice A l c, .int .i64 e]] W fun E w' => TellN W w' E false (e + e) (val X * val X) (condN 0 : Int)) ∧
      (∀ W q cc, Below w.heap.size w W → RdW W q (digs (val X * val X)).length cc (digs (val X * val X)) → Calls Tryz.prog 32 #[.agg #[.int .u64 (p : Int), .int .i64 100000, .int .i64 (-100000), .int .i64 (m : Int)], .agg #[.int .i64 0, .bool false, .slice q (digs (val X * val X)).length cc, .int .i64 (e + e)]] W fun E w' => TellN W w' E false E1 R cn) ∧
      (∀ W g lg cg v lv cv, RdD W g lg cg (d16 R) → RdD W v lv cv (d16 (val X)) → Calls Tryz.prog 24 #[.agg #[.bool false, .slice g lg cg, .int .i64 E1], .agg #[.bool false, .slice v lv cv, .int .i64 e]] W fun E w' => E = .returned (.bool true) ∧ Below W.heap.size W w') ∧
      (bits .and .i64 cn 4 == 0) = true ∧ (digs R).length ≤ 900 ∧ (digs (val X * val X)).length ≤ 900 ∧ (-250 ≤ E1 ∧ E1 ≤ 300) := by
  have x1 := val1 hX.wd hX.len hl
  obtain ⟨N, hN⟩ : ∃ N, val X = N := ⟨_, rfl⟩
  rw [hN] at x1 hfp ⊢
  have hNN : N * N < 10 ^ 40 := by
    rw [show (40 : Nat) = 20 + 20 from rfl, Nat.pow_add]
    exact Nat.mul_lt_mul'' x1 x1
  have hb1 := nb_ten x1
  have hb2 := nb_ten hNN
  have hf40 := (figs_le_iff (n := N * N) (k := 40) (by omega)).2 hNN
  have hNl : (digs (N * N)).length ≤ 900 := Nat.le_trans (bits_w (k := 3) (by omega)) (by omega)
  have hN16 := d16_len_ten x1
  have kmul : ∀ W, Below w.heap.size w W → Calls Tryz.prog 39 #[.agg #[.int .u64 130, .int .i64 100000, .int .i64 (-100000), .int .i64 (m : Int)], .agg #[.int .i64 0, .bool n, .slice A l c, .int .i64 e], .agg #[.int .i64 0, .bool n, .slice A l c, .int .i64 e]] W fun E w' => TellN W w' E false (e + e) (N * N) (condN 0 : Int) := by
    intro W hb
    refine (implMulG_c W (hG.bel hb) 130 m 0 100000 (-100000) e e n n A A l c l c X X (dec 0 false (e + e) false (N * N)) (QFin false (e + e) (N * N)) hm (by omega) (by omega) (by omega) (by omega) (QFin.st _ _ _)
      (fun w4 τ d h4 hd => QFin.told h4 hd hNl (by omega)) (hX.below hb) (by omega) (by omega) (hX.below hb) (by omega) (by omega) (fun w1 σ c1 d1 x y hh hc hd hx hdx hy hxy hdy => ?_)).mono (fun E w' h => tellN h)
    rw [hN] at hx hy
    have k := cMul_c hh hd hx hy hxy hdx hdy hc (by omega) (by omega) (by omega) (by omega) (by omega) hm (by omega) (by omega)
    obtain ⟨g1, g2, g3⟩ := rnd_few (n := (n != n)) (N := N * N) (p := 130) (m := m) (by omega)
    unfold CRes at k
    rw [g1, g2, g3, show (n != n) = false by cases n <;> rfl, show e + e + ((0 : Nat) : Int) = e + e by omega] at k
    exact k
  by_cases hN0 : N = 0
  · have htd : Int.tdiv (e + e) 2 = e := by rw [show e + e = 2 * e by omega, Int.mul_tdiv_cancel_left _ (by decide)]
    refine ⟨e, 0, (condN 0 : Int), kmul, fun W q cc hb h => ?_, fun W g lg cg v lv cv h1 h2 => ?_, cond64.1, by rw [digs_zero]; simp, hNl, by omega⟩
    · have k := impl0_c W (hG.bel hb) p m hm hp (e + e) q _ cc _ h hNl (by omega) (by rw [val_digs, hN0])
      rw [htd] at k
      exact k
    · rw [hN0] at h2
      have h3 := d16_len_ten (show 0 < 10 ^ 1 by decide)
      have h4 := h1.len
      have h5 := h2.len
      exact same_c W false false g v lg cg lv cv e e 0 0 e 0 0 h1 h2 (by omega) (by omega) (by omega) (by omega) (by omega) (by omega) (by omega) ⟨.inl rfl, rfl⟩
  · have hX0 : N * N ≠ 0 := Nat.mul_ne_zero hN0 hN0
    have hf := figs_200 (show nbits (N * N) ≤ 200 by omega)
    obtain ⟨⟨CL, eL⟩, hR⟩ : ∃ q, sqR (N * N) (e + e) p = q := ⟨_, rfl⟩
    have hx := sqE2_ex (N * N) (e + e)
    have hfF := sq_start (ex := e + e) hX0 hf hp
    have hlo := hfF.1.lo
    have hhi := hfF.1.hi
    obtain ⟨S, hS⟩ : ∃ S, S = 1000 := ⟨_, rfl⟩
    have hV : dval (2 * 1000) (N * N) (sqEF (N * N) (e + e)) = dval 1000 N (e - sqE2 (N * N) (e + e) / 2) * dval 1000 N (e - sqE2 (N * N) (e + e) / 2) := by
      rw [← hS]
      rw [dval_def, dval_def]
      obtain ⟨t, ht⟩ : ∃ t, (e - sqE2 (N * N) (e + e) / 2 + (S : Int)).toNat = t := ⟨_, rfl⟩
      rw [ht, show (sqEF (N * N) (e + e) + ((2 * S : Nat) : Int)).toNat = t + t by omega, Nat.pow_add]
      generalize 10 ^ t = T
      grind
    obtain ⟨k1, k2⟩ := sqrt_exact hX0 hf hp hR (c0 := N) (f0 := e) hfp (by omega) hV
    obtain ⟨j1, j2, j3, j4, j5⟩ := sq_end hX0 hf hp hR
    have hK := rndK_le false CL p 2
    have hRs := rndN_small false (N := CL) (m := 2) hp.1
    obtain ⟨h, hh⟩ : ∃ h, sqE2 (N * N) (e + e) / 2 = h := ⟨_, rfl⟩
    rw [hh] at k1 hx
    have hcn : rndC CL p = 0 ∨ rndC CL p = 64 := by
      unfold rndC
      by_cases hq : figs CL ≤ p
      · rw [if_pos hq]; exact .inl rfl
      · rw [if_neg hq]
        have := k2.resolve_left hq
        rw [show inexN CL (figs CL - p) = false by unfold inexN; rw [decide_eq_true this]; rfl]
        exact .inr rfl
    have hE1 : -250 ≤ eL + h + (rndK false CL p 2 : Int) ∧ eL + h + (rndK false CL p 2 : Int) ≤ 300 := by omega
    refine ⟨eL + h + (rndK false CL p 2 : Int), rndN false CL p 2, (condN (rndC CL p) : Int), kmul, fun W q cc hb hq => ?_, fun W g lg cg v lv cv h1 h2 => ?_, by rcases hcn with hc | hc <;> rw [hc] <;> first | exact cond64.1 | exact cond64.2, Nat.le_trans (bits_w (k := 18) (Nat.le_trans (nb_ten hRs) (by omega))) (by omega), hNl, hE1⟩
    · have hvq : val (digs (N * N)) = N * N := val_digs _
      have hR2 : sqR (val (digs (N * N))) (e + e) p = (CL, eL) := by rw [hvq]; exact hR
      have k := (sqrtTold W (hG.bel hb) p m hm hp (e + e) q _ cc _ hq hNl (by rw [hvq]; omega) (by omega) (by omega) (by rw [hvq]; exact hX0) hR2).1 W (Below.refl _ _)
      rw [hvq, hh] at k
      exact k
    · rw [dval_def, dval_def] at k1
      rw [← hS] at k1
      obtain ⟨g0, hg0⟩ : ∃ g0, min (eL + h + (rndK false CL p 2 : Int)) e = g0 := ⟨_, rfl⟩
      obtain ⟨u, hu⟩ : ∃ u, (eL + (rndK false CL p 2 : Int) + (S : Int)).toNat = u := ⟨_, rfl⟩
      obtain ⟨v2, hv⟩ : ∃ v2, (e - h + (S : Int)).toNat = v2 := ⟨_, rfl⟩
      rw [hu, hv] at k1
      have hi : u = (eL + h + (rndK false CL p 2 : Int) - g0).toNat + (u - (eL + h + (rndK false CL p 2 : Int) - g0).toNat) := by omega
      have hj : v2 = (e - g0).toNat + (u - (eL + h + (rndK false CL p 2 : Int) - g0).toNat) := by omega
      have k3 := (cancel_tenE hi hj).1 k1
      exact same_c W false false g v lg cg lv cv _ e _ N g0 (eL + h + (rndK false CL p 2 : Int) - g0).toNat (e - g0).toNat h1 h2 (by rw [← h1.len]; have := d16_len_ten hRs; omega) (by rw [← h2.len]; omega) (by omega) (by omega) hg0 (by omega) (by omega) ⟨.inl rfl, k3⟩
end Go.Proofs.YtcoljeafgiemkaaGreatDoor
