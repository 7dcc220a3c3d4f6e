/- FnIntegral: the walk. -/
import Derived.Test.YtcoljeafgiemkaaGreatDoorY48
import Derived.Test.YtcoljeafgiemkaaGreatDoorO23
import Derived.Test.YtcoljeafgiemkaaGreatDoorC40
import Derived.Test.YtcoljeafgiemkaaGreatDoorC21
import Derived.Test.YtcoljeafgiemkaaGreatDoorC26
namespace Go.Proofs.YtcoljeafgiemkaaGreatDoor
open Go Go.RowKit

set_option maxRecDepth 100000 in
set_option maxHeartbeats 8000000 in
theorem FnIntegral_walk (prec mode : Int) (f : Int) (n : Bool) (A : Option Addr) (l c : Nat) (X : List Nat) (e : Int) (w : World) (hG : Glob w) (h2 : 0 ≤ prec ∧ prec ≤ 255) (h3 : 0 ≤ mode ∧ mode ≤ 255) (hx : DecIn w f A l c X e) :
    Calls Tryz.prog 4 #[.int .u8 prec, .int .u8 mode, .agg #[.int .i64 f, .bool n, .slice A l c, .int .i64 e]] w fun E w' => E = .returned (.bool true) ∧ Below w.heap.size w w' := by
  obtain ⟨m, hmm⟩ : ∃ m : Nat, mode % 8 = (m : Int) := ⟨(mode % 8).toNat, by omega⟩
  obtain ⟨p, hpp⟩ : ∃ p : Nat, 1 + prec % 60 = (p : Int) := ⟨(1 + prec % 60).toNat, by omega⟩
  have hm : m < 8 := by omega
  have hp1 : 1 ≤ p ∧ p ≤ 60 := by omega
  have kw := fun W => wideC_c W prec mode p m h2 h3 hmm hpp
  have hX := hx.rd
  have kfacts := integralFacts w hG p m hm hp1 e n A l c X hX
  have ewp : IntKind.i64.wrap (p : Int) = (p : Int) := IntWalk.i64_in _ (by omega)
  have hlc := hX.cap
  have hcm := hX.max
  replace kw := Lib.hid kw
  replace kfacts := Lib.hid kfacts
  replace hX := Lib.hid hX
  replace hG := Lib.hid hG
  clear h2 h3 hmm hpp hx
  go_enter Tryz.func4, Tryz.ntmps4
  go_upto_region 1 with (fail)
  generalize hW : w.alloc (.cells #[.int .i64 f, .bool n, .slice A l c, .int .i64 e] 24 (0, 0)) = W0
  have hB0 : Below w.heap.size w W0 := by rw [← hW]; exact (Below.refl _ _).alloc (Nat.le_refl _) _
  have hX0 : Bxs [(w.heap.size, #[.int .i64 f, .bool n, .slice A l c, .int .i64 e], 24)] W0 := by rw [← hW]; exact ⟨allocB _ _, trivial⟩
  clear hW
  have kf := fits_c W0 f n A l c e
  have c0 := cellB hX0.1 (i := 0) rfl
  have c1 := cellB hX0.1 (i := 1) rfl
  have c2 := cellB hX0.1 (i := 2) rfl
  have c3 := cellB hX0.1 (i := 3) rfl
  replace hX0 := Lib.hid hX0
  replace hB0 := Lib.hid hB0
  by_cases hfit : l ≤ 2147483647
  · rw [decide_eq_true hfit] at kf
    replace kf := Lib.hid kf
    go_wp2_with fail
    with_reducible refine kf.out.mono ?_
    rintro E w2 ⟨rfl, hb⟩
    have hX2 := hX0.out.new hb
    have hB2 := brise hB0.out hb
    clear c0 c1 c2 c3 kf hb
    have c0 := cellB hX2.1 (i := 0) rfl
    have c1 := cellB hX2.1 (i := 1) rfl
    have c2 := cellB hX2.1 (i := 2) rfl
    have c3 := cellB hX2.1 (i := 3) rfl
    have kq := finite_c w2 f n A l c X e (hX.out.bel hB2)
    replace kq := Lib.hid kq
    replace hX2 := Lib.hid hX2
    replace hB2 := Lib.hid hB2
    go_wp2_with fail
    with_reducible refine kq.out.mono ?_
    rintro E w3 ⟨a0, p0, m0, k0, a2, ok, rfl, hb, hfin⟩
    have hX3 := hX2.out.new hb
    have hB3 := brise hB2.out hb
    clear c0 c1 c2 c3 kq hb
    replace hX3 := Lib.hid hX3
    replace hB3 := Lib.hid hB3
    replace hfin := Lib.hid hfin
    cases ok with
    | false =>
      go_wp2_with fail
      with_reducible refine (kw.out _).mono ?_
      rintro E w4 ⟨rfl, hb4⟩
      have hB4 := brise (brise hB3.out (bA _ _)) hb4
      clear hb4
      replace hB4 := Lib.hid hB4
      go_upto_region 5 with (fail)
      go_quiet (fail)
      go_wp2
      go_ret
      exact ⟨rfl, by first | exact Below.drwN (brise hB4.out (bA _ _)) _ | exact brise hB4.out (bA _ _)⟩
    | true =>
      have fx := hfin.out (by simp)
      have hl3 := fx.len
      have hlo := fx.lo
      have hhi := fx.hi
      have rx := fx.coeff.rd
      have hm0 : m0 ≤ 58 := by
        rw [← rx.len]
        exact d16_len_ten (val3 hX.out.wd hX.out.len hl3).1
      have e1 := fx.form
      have e3 := fx.neg.symm
      have e5 := fx.ex.symm
      subst e1 e3 e5
      have kfacts := kfacts.out hl3 hlo hhi
      obtain ⟨N, hN⟩ : ∃ N, val X = N := ⟨_, rfl⟩
      rw [hN] at rx
      simp only [hN] at kfacts
      replace rx := Lib.hid rx
      replace hN := Lib.hid hN
      replace kfacts := Lib.hid kfacts
      clear hfin fx
      go_upto_region 4 with (fail)
      generalize hWa : w3.alloc (.cells #[.bool n, .slice p0 m0 k0, .int .i64 e] 30 (0, 0)) = W
      obtain ⟨hX4, hb4, -⟩ := hX3.out.add hWa
      obtain ⟨va, hva⟩ : ∃ va, w3.heap.size = va := ⟨_, rfl⟩
      rw [hva] at hX4 ⊢
      have hB4 := brise hB3.out hb4
      have rx4 := rx.out.below hb4
      clear hWa hb4 rx
      replace hX4 := Lib.hid hX4
      replace hB4 := Lib.hid hB4
      replace rx4 := Lib.hid rx4
      replace hva := Lib.hid hva
      go_wp2_with fail
      with_reducible refine (kw.out _).mono ?_
      rintro E w5 ⟨rfl, hb5⟩
      have hX6 := hX4.out.new hb5
      go_upto_region 5 with (fail)
      generalize hWc : w5.alloc (.cells #[.int .u64 (p : Int), .int .i64 100000, .int .i64 (-100000), .int .i64 (m : Int)] 35 (0, 0)) = V1
      obtain ⟨hX7, hbc, -⟩ := hX6.add hWc
      obtain ⟨cb, hcb⟩ : ∃ cb, w5.heap.size = cb := ⟨_, rfl⟩
      rw [hcb] at hX7 ⊢
      have hb6 := brise hb5 hbc
      have hB7 := brise hB4.out hb6
      have rx7 := rx4.out.below hb6
      have kfg0 := fun W (hb : Below V1.heap.size V1 W) => figuresD_c W p0 m0 k0 N (rx7.below hb) (by omega)
      have kfr := fun W (hb : Below V1.heap.size V1 W) => far_c W n p0 m0 k0 e 0 N m (rx7.below hb) (by omega) hm (by omega) (by omega)
      have hS0 : V1.drew.cell? ⟨va, 0, none⟩ = some (.bool n) ∧ V1.drew.cell? ⟨va, 1, none⟩ = some (.slice p0 m0 k0) ∧ V1.drew.cell? ⟨va, 2, none⟩ = some (.int .i64 e) ∧ V1.drew.cell? ⟨cb, 0, none⟩ = some (.int .u64 (p : Int)) ∧ V1.drew.cell? ⟨cb, 3, none⟩ = some (.int .i64 (m : Int)) := ⟨cellB hX7.drew.2.1 rfl, cellB hX7.drew.2.1 rfl, cellB hX7.drew.2.1 rfl, cellB hX7.drew.1 rfl, cellB hX7.drew.1 rfl⟩
      have v1 := cellB hX7.2.1 (i := 1) rfl
      have u0 := cellB hX7.1 (i := 0) rfl
      replace hX7 := Lib.hid hX7
      replace hB7 := Lib.hid hB7
      replace rx7 := Lib.hid rx7
      replace hcb := Lib.hid hcb
      replace kfg0 := Lib.hid kfg0
      replace kfr := Lib.hid kfr
      clear hX6 hbc hb6 hb5 hWc
      by_cases hf : figs N ≤ p
      · have hg1 : decide ((figs N : Int) > (p : Int)) = false := decide_eq_false (by omega)
        have hg2 : ¬ (p : Int) < (figs N : Int) := by omega
        have hg3 : decide (p < figs N) = false := decide_eq_false (by omega)
        clear v1 u0
        go_region_held3 (fun w' => w'.cell? ⟨va, 0, none⟩ = some (.bool n) ∧ w'.cell? ⟨va, 1, none⟩ = some (.slice p0 m0 k0) ∧ w'.cell? ⟨va, 2, none⟩ = some (.int .i64 e) ∧ w'.cell? ⟨cb, 0, none⟩ = some (.int .u64 (p : Int)) ∧ w'.cell? ⟨cb, 3, none⟩ = some (.int .i64 (m : Int))) (first | exact hS0 | exact hS1 | exact hS2) (first
          | (go_at_call 18
             with_reducible refine (kfg0.out _ (bD _)).mono ?_
             rintro E w5' ⟨rfl, hbF'⟩
             have hbF := bundrew hbF'
             have hX8' := hX7.out.new hbF
             have hS1 : w5'.cell? ⟨va, 0, none⟩ = some (.bool n) ∧ w5'.cell? ⟨va, 1, none⟩ = some (.slice p0 m0 k0) ∧ w5'.cell? ⟨va, 2, none⟩ = some (.int .i64 e) ∧ w5'.cell? ⟨cb, 0, none⟩ = some (.int .u64 (p : Int)) ∧ w5'.cell? ⟨cb, 3, none⟩ = some (.int .i64 (m : Int)) := ⟨cellB hX8'.2.1 rfl, cellB hX8'.2.1 rfl, cellB hX8'.2.1 rfl, cellB hX8'.1 rfl, cellB hX8'.1 rfl⟩
             have hB8' := brise hB7.out hbF
             have rx8' := rx7.out.below hbF
             have hbV := hbF
             replace hX8' := Lib.hid hX8'
             replace hB8' := Lib.hid hB8'
             replace rx8' := Lib.hid rx8'
             replace hbV := Lib.hid hbV
             clear hbF' hbF)
          | (go_at_call 13
             with_reducible refine (kfr.out _ hbV.out).mono ?_
             rintro E w6 ⟨fb, rfl, hbF, hnear⟩
             have hX8 := hX8'.out.new hbF
             have hS2 : w6.cell? ⟨va, 0, none⟩ = some (.bool n) ∧ w6.cell? ⟨va, 1, none⟩ = some (.slice p0 m0 k0) ∧ w6.cell? ⟨va, 2, none⟩ = some (.int .i64 e) ∧ w6.cell? ⟨cb, 0, none⟩ = some (.int .u64 (p : Int)) ∧ w6.cell? ⟨cb, 3, none⟩ = some (.int .i64 (m : Int)) := ⟨cellB hX8.2.1 rfl, cellB hX8.2.1 rfl, cellB hX8.2.1 rfl, cellB hX8.1 rfl, cellB hX8.1 rfl⟩
             have hB8 := brise hB8'.out hbF
             have rx8 := rx8'.out.below hbF
             replace hX8 := Lib.hid hX8
             replace hB8 := Lib.hid hB8
             replace rx8 := Lib.hid rx8
             replace hnear := Lib.hid hnear
             clear hbF))
        clear hS0 hS1 hS2
        cases fb with
        | true =>
          go_wp2
          go_ret
          exact ⟨rfl, hB8.out⟩
        | false =>
          obtain ⟨E1, R, RW, cn, ix, kop, kov, kwh, ksm, hbits, hRl⟩ := kfacts.out (hnear.out rfl)
          have kwh2 := kwh w6 p0 m0 k0 rx8.out
          unfold WholeB at kwh2
          replace kop := Lib.hid kop
          replace kov := Lib.hid kov
          replace ksm := Lib.hid ksm
          replace kwh2 := Lib.hid kwh2
          clear kwh kfacts
          have y0 := cellB hX8.out.2.1 (i := 0) rfl
          have y1 := cellB hX8.out.2.1 (i := 1) rfl
          have y2 := cellB hX8.out.2.1 (i := 2) rfl
          have g0 := cellB hX8.out.1 (i := 0) rfl
          have g1 := cellB hX8.out.1 (i := 1) rfl
          have g2 := cellB hX8.out.1 (i := 2) rfl
          have g3 := cellB hX8.out.1 (i := 3) rfl
          go_wp2_with fail
          with_reducible refine kwh2.out.mono ?_
          rintro E w8 ⟨v, lv, cv, rfl, hv, hb8⟩
          have hX9 := hX8.out.new hb8
          clear y0 y1 y2 g0 g1 g2 g3 kwh2
          go_upto_region 8 with (fail)
          generalize hWw : w8.alloc (.cells #[.bool n, .slice v lv cv, .int .i64 E1] 30 (0, 0)) = V2
          obtain ⟨hX10, hbw, -⟩ := hX9.add hWw
          have hB10 := brise hB8.out (brise hb8 hbw)
          have hv10 := hv.below hbw
          replace hX10 := Lib.hid hX10
          replace hB10 := Lib.hid hB10
          replace hv10 := Lib.hid hv10
          clear hX9 hbw hb8 hWw hv
          have kop2 := kop.out V2 hB10.out
          have u0 := cellB hX10.out.2.1 (i := 0) rfl
          have u1 := cellB hX10.out.2.1 (i := 1) rfl
          have u2 := cellB hX10.out.2.1 (i := 2) rfl
          have u3 := cellB hX10.out.2.1 (i := 3) rfl
          have x0 := cellB hX10.out.2.2.2.1 (i := 0) rfl
          have x1 := cellB hX10.out.2.2.2.1 (i := 1) rfl
          have x2 := cellB hX10.out.2.2.2.1 (i := 2) rfl
          have x3 := cellB hX10.out.2.2.2.1 (i := 3) rfl
          replace kop2 := Lib.hid kop2
          go_wp2_with fail
          with_reducible refine kop2.out.mono ?_
          rintro E wq ⟨qzZ, czZ, rfl, hq, hch⟩
          have hbq := cbelow hch
          clear u0 u1 u2 u3 x0 x1 x2 x3 hch kop2
          have hXq := hX10.out.new hbq
          go_upto_region 9 with (fail)
          generalize hWz : wq.alloc (.cells #[.int .i64 0, .bool n, .slice qzZ (digs R).length czZ, .int .i64 0] 24 (0, 0)) = VZ
          obtain ⟨hXZ, hbz, -⟩ := hXq.add hWz
          have hbz2 := brise hbq hbz
          have hBZ := brise hB10.out hbz2
          have hqZ := hq.below hbz
          have hv10 := hv10.out.below hbz2
          replace hv10 := Lib.hid hv10
          replace hXZ := Lib.hid hXZ
          replace hBZ := Lib.hid hBZ
          replace hqZ := Lib.hid hqZ
          clear hXq hbz hbz2 hbq hWz hq
          have kop2 := kov.out _ hBZ.out
          have u0 := cellB hXZ.out.2.2.1 (i := 0) rfl
          have u1 := cellB hXZ.out.2.2.1 (i := 1) rfl
          have u2 := cellB hXZ.out.2.2.1 (i := 2) rfl
          have u3 := cellB hXZ.out.2.2.1 (i := 3) rfl
          have x0 := cellB hXZ.out.2.2.2.2.1 (i := 0) rfl
          have x1 := cellB hXZ.out.2.2.2.2.1 (i := 1) rfl
          have x2 := cellB hXZ.out.2.2.2.2.1 (i := 2) rfl
          have x3 := cellB hXZ.out.2.2.2.2.1 (i := 3) rfl
          replace kop2 := Lib.hid kop2
          go_wp2_with fail
          with_reducible refine kop2.out.mono ?_
          rintro E wq ⟨qzY, czY, rfl, hq, hch⟩
          have hbq := cbelow hch
          clear u0 u1 u2 u3 x0 x1 x2 x3 hch kop2
          have hXq := hXZ.out.new hbq
          go_upto_region 10 with (fail)
          generalize hWz : wq.alloc (.cells #[.int .i64 0, .bool n, .slice qzY (digs R).length czY, .int .i64 0] 24 (0, 0)) = VY
          obtain ⟨hXY, hbz, -⟩ := hXq.add hWz
          have hbz2 := brise hbq hbz
          have hBY := brise hBZ.out hbz2
          have hqY := hq.below hbz
          have hv10 := hv10.out.below hbz2
          replace hv10 := Lib.hid hv10
          have hqZ := hqZ.out.below hbz2
          replace hqZ := Lib.hid hqZ
          replace hXY := Lib.hid hXY
          replace hBY := Lib.hid hBY
          replace hqY := Lib.hid hqY
          clear hXq hbz hbz2 hbq hWz hq
          have t0 := cellB hXY.out.2.1 (i := 0) rfl
          have t1 := cellB hXY.out.2.1 (i := 1) rfl
          have t2 := cellB hXY.out.2.1 (i := 2) rfl
          have t3 := cellB hXY.out.2.1 (i := 3) rfl
          have ko := ofDec_c _ 0 n qzZ _ czZ (digs R) 0 hqZ.out (by omega)
          rw [val_digs, show decide ((0 : Int) = 0 ∧ digs R = digs R) = true by simp] at ko
          replace ko := Lib.hid ko
          go_wp2_with fail
          with_reducible refine ko.out.mono ?_
          rintro E wo ⟨gG, lgG, cgG, rfl, hg⟩
          have hXo := hXY.out.new hg.bel
          have hbo := hg.bel
          have hgr := hg.rd
          clear t0 t1 t2 t3 ko hg
          go_upto_region 11 with (fail)
          generalize hWg : wo.alloc (.cells #[.bool n, .slice gG lgG cgG, .int .i64 0] 30 (0, 0)) = VG
          obtain ⟨hXG, hbg, -⟩ := hXo.add hWg
          have hbo2 := brise hbo hbg
          have hBG := brise hBY.out hbo2
          have hrG := hgr.below hbg
          have hv10 := hv10.out.below hbo2
          replace hv10 := Lib.hid hv10
          have hqY := hqY.out.below hbo2
          replace hqY := Lib.hid hqY
          replace hXG := Lib.hid hXG
          replace hBG := Lib.hid hBG
          replace hrG := Lib.hid hrG
          clear hXo hbo hbo2 hbg hWg hgr
          have t0 := cellB hXG.out.2.1 (i := 0) rfl
          have t1 := cellB hXG.out.2.1 (i := 1) rfl
          have t2 := cellB hXG.out.2.1 (i := 2) rfl
          have t3 := cellB hXG.out.2.1 (i := 3) rfl
          have ko := ofDec_c _ 0 n qzY _ czY (digs R) 0 hqY.out (by omega)
          rw [val_digs, show decide ((0 : Int) = 0 ∧ digs R = digs R) = true by simp] at ko
          replace ko := Lib.hid ko
          go_wp2_with fail
          with_reducible refine ko.out.mono ?_
          rintro E wo ⟨gO, lgO, cgO, rfl, hg⟩
          have hXo := hXG.out.new hg.bel
          have hbo := hg.bel
          have hgr := hg.rd
          clear t0 t1 t2 t3 ko hg
          go_upto_region 12 with (fail)
          generalize hWg : wo.alloc (.cells #[.bool n, .slice gO lgO cgO, .int .i64 0] 30 (0, 0)) = VO
          obtain ⟨hXO, hbg, -⟩ := hXo.add hWg
          have hbo2 := brise hbo hbg
          have hBO := brise hBG.out hbo2
          have hrO := hgr.below hbg
          have hv10 := hv10.out.below hbo2
          replace hv10 := Lib.hid hv10
          have hrG := hrG.out.below hbo2
          replace hrG := Lib.hid hrG
          replace hXO := Lib.hid hXO
          replace hBO := Lib.hid hBO
          replace hrO := Lib.hid hrO
          clear hXo hbo hbo2 hbg hWg hgr
          have ksm1 := ksm.out VO _ _ _ _ _ _ hrG.out hv10.out
          have ksm2 := fun W (hb : Below VO.heap.size VO W) => ksm.out W _ _ _ _ _ _ (hrO.out.below hb) (hv10.out.below hb)
          have hn0 : bits .and .i64 (condN 0 : Int) 20 = 0 := by kernel_rfl
          have g0 := cellB hXO.out.2.1 (i := 0) rfl
          have g1 := cellB hXO.out.2.1 (i := 1) rfl
          have g2 := cellB hXO.out.2.1 (i := 2) rfl
          have h0 := cellB hXO.out.1 (i := 0) rfl
          have h1 := cellB hXO.out.1 (i := 1) rfl
          have h2 := cellB hXO.out.1 (i := 2) rfl
          have t0 := cellB hXO.out.2.2.2.2.1 (i := 0) rfl
          have t1 := cellB hXO.out.2.2.2.2.1 (i := 1) rfl
          have t2 := cellB hXO.out.2.2.2.2.1 (i := 2) rfl
          replace ksm1 := Lib.hid ksm1
          replace ksm2 := Lib.hid ksm2
          go_wp2_with fail
          with_reducible refine ksm1.out.mono ?_
          rintro E w15 ⟨rfl, hb15⟩
          have ksm3 := ksm2.out _ hb15
          have hX15 := hXO.out.new hb15
          clear g0 g1 g2 h0 h1 h2 t0 t1 t2
          have g0 := cellB hX15.2.1 (i := 0) rfl
          have g1 := cellB hX15.2.1 (i := 1) rfl
          have g2 := cellB hX15.2.1 (i := 2) rfl
          have h0 := cellB hX15.1 (i := 0) rfl
          have h1 := cellB hX15.1 (i := 1) rfl
          have h2 := cellB hX15.1 (i := 2) rfl
          have t0 := cellB hX15.2.2.2.2.1 (i := 0) rfl
          have t1 := cellB hX15.2.2.2.2.1 (i := 1) rfl
          have t2 := cellB hX15.2.2.2.2.1 (i := 2) rfl
          replace ksm3 := Lib.hid ksm3
          replace hX15 := Lib.hid hX15
          go_wp2_with fail
          with_reducible refine ksm3.out.mono ?_
          rintro E w16 ⟨rfl, hb16⟩
          have hX16 := hX15.out.new hb16
          clear g0 g1 g2 h0 h1 h2 t0 t1 t2
          have g0 := cellB hX16.2.1 (i := 0) rfl
          have g1 := cellB hX16.2.1 (i := 1) rfl
          have g2 := cellB hX16.2.1 (i := 2) rfl
          have h0 := cellB hX16.1 (i := 0) rfl
          have h1 := cellB hX16.1 (i := 1) rfl
          have h2 := cellB hX16.1 (i := 2) rfl
          go_wp2
          go_ret
          exact ⟨by simp, brise (brise hBO.out hb15) hb16⟩
      · have hg1 : decide ((figs N : Int) > (p : Int)) = true := decide_eq_true (by omega)
        have hg2 : (p : Int) < (figs N : Int) := by omega
        have hg3 : decide (p < figs N) = true := decide_eq_true (by omega)
        have hun : undef = Value.tuple #[] := rfl
        clear hS0
        first
          | (go_region_with ((go_at_call 18; refine (kfg0.out _ (bD _)).mono ?_; rintro E w6 ⟨rfl, hbF⟩; have hX8' := hX7.out.new (bundrew hbF); have q0 := cellB hX8'.1 (i := 0) rfl; have q1 := cellB hX8'.2.1 (i := 1) rfl; clear hX8')))
          | fail
        all_goals
          go_wp2
          go_ret
          exact ⟨rfl, by first | exact brise hB7.out (bundrew hbF) | exact brise hB7.out hbF⟩
  · rw [decide_eq_false hfit] at kf
    replace kf := Lib.hid kf
    go_wp2_with fail
    with_reducible refine kf.out.mono ?_
    rintro E w1 ⟨rfl, hb⟩
    go_wp2
    go_ret
    exact ⟨rfl, brise hB0.out hb⟩
end Go.Proofs.YtcoljeafgiemkaaGreatDoor
