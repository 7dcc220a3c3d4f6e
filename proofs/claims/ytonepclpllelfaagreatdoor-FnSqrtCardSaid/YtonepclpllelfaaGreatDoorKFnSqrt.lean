/- FnSqrt: the walk. -/
import Derived.Test.YtonepclpllelfaaGreatDoorC40
import Derived.Test.YtonepclpllelfaaGreatDoorC23
import Derived.Test.YtonepclpllelfaaGreatDoorC39
namespace Go.Proofs.YtonepclpllelfaaGreatDoor
open Go Go.RowKit

set_option maxRecDepth 100000 in
set_option maxHeartbeats 8000000 in
theorem FnSqrt_walk (prec mode : Int) (f : Int) (n : Bool) (A : Option Addr) (l c : Nat) (X : List Nat) (e : Int) (w : World) (hG : Glob w) (h2 : 0 ≤ prec ∧ prec ≤ 255) (h3 : 0 ≤ mode ∧ mode ≤ 255) (hx : DecIn w f A l c X e) :
    Calls Tryz.prog 3 #[.int .u8 prec, .int .u8 mode, .agg #[.int .i64 f, .bool n, .slice A l c, .int .i64 e]] w fun E w' => E = .returned (.bool true) ∧ Below w.heap.size w w' := by
  obtain ⟨m, hmm⟩ : ∃ m : Nat, mode % 8 = (m : Int) := ⟨(mode % 8).toNat, by omega⟩
  obtain ⟨p, hpp⟩ : ∃ p : Nat, 1 + prec % 60 = (p : Int) := ⟨(1 + prec % 60).toNat, by omega⟩
  have hm : m < 8 := by omega
  have hp1 : 1 ≤ p ∧ p ≤ 60 := by omega
  have kw := fun W => wideC_c W prec mode p m h2 h3 hmm hpp
  have hX := hx.rd
  have kfacts := sqrtFacts w hG p m hm hp1 e A l c X hX
  have ewp : IntKind.i64.wrap (p : Int) = (p : Int) := IntWalk.i64_in _ (by omega)
  have hlc := hX.cap
  have hcm := hX.max
  replace kw := Lib.hid kw
  replace kfacts := Lib.hid kfacts
  replace hX := Lib.hid hX
  replace hG := Lib.hid hG
  clear h2 h3 hmm hpp hx
  go_enter Tryz.func3, Tryz.ntmps3
  go_upto_region 1 with (fail)
  generalize hW : w.alloc (.cells #[.int .i64 f, .bool n, .slice A l c, .int .i64 e] 24 (0, 0)) = W0
  have hB0 : Below w.heap.size w W0 := by rw [← hW]; exact (Below.refl _ _).alloc (Nat.le_refl _) _
  have hX0 : Bxs [(w.heap.size, #[.int .i64 f, .bool n, .slice A l c, .int .i64 e], 24)] W0 := by rw [← hW]; exact ⟨allocB _ _, trivial⟩
  clear hW
  have kf := fits_c W0 f n A l c e
  have c0 := cellB hX0.1 (i := 0) rfl
  have c1 := cellB hX0.1 (i := 1) rfl
  have c2 := cellB hX0.1 (i := 2) rfl
  have c3 := cellB hX0.1 (i := 3) rfl
  replace hX0 := Lib.hid hX0
  replace hB0 := Lib.hid hB0
  by_cases hfit : l ≤ 2147483647
  · rw [decide_eq_true hfit] at kf
    replace kf := Lib.hid kf
    go_wp2_with fail
    with_reducible refine kf.out.mono ?_
    rintro E w2 ⟨rfl, hb⟩
    have hX2 := hX0.out.new hb
    have hB2 := brise hB0.out hb
    clear c0 c1 c2 c3 kf hb
    have c0 := cellB hX2.1 (i := 0) rfl
    have c1 := cellB hX2.1 (i := 1) rfl
    have c2 := cellB hX2.1 (i := 2) rfl
    have c3 := cellB hX2.1 (i := 3) rfl
    have kq := finite_c w2 f n A l c X e (hX.out.bel hB2)
    replace kq := Lib.hid kq
    replace hX2 := Lib.hid hX2
    replace hB2 := Lib.hid hB2
    go_wp2_with fail
    with_reducible refine kq.out.mono ?_
    rintro E w3 ⟨a0, p0, m0, k0, a2, ok, rfl, hb, hfin⟩
    have hX3 := hX2.out.new hb
    have hB3 := brise hB2.out hb
    clear c0 c1 c2 c3 kq hb
    replace hX3 := Lib.hid hX3
    replace hB3 := Lib.hid hB3
    replace hfin := Lib.hid hfin
    cases ok with
    | false =>
      go_wp2
      go_ret
      exact ⟨rfl, brise hB3.out (bA _ _)⟩
    | true =>
      have fx := hfin.out (by simp)
      have hl3 := fx.len
      have hlo := fx.lo
      have hhi := fx.hi
      have rx := fx.coeff.rd
      have hm0 : m0 ≤ 58 := by
        rw [← rx.len]
        exact d16_len_ten (val3 hX.out.wd hX.out.len hl3).1
      have e1 := fx.form
      have e3 := fx.neg.symm
      have e5 := fx.ex.symm
      subst e1 e3 e5
      obtain ⟨N, hN⟩ : ∃ N, val X = N := ⟨_, rfl⟩
      rw [hN] at rx
      have kfacts := kfacts.out hl3 hlo hhi
      simp only [hN] at kfacts
      replace rx := Lib.hid rx
      replace hN := Lib.hid hN
      replace kfacts := Lib.hid kfacts
      clear hfin fx
      go_upto_region 4 with (fail)
      generalize hWa : w3.alloc (.cells #[.bool n, .slice p0 m0 k0, .int .i64 e] 29 (0, 0)) = W
      obtain ⟨hX4, hb4, -⟩ := hX3.out.add hWa
      obtain ⟨va, hva⟩ : ∃ va, w3.heap.size = va := ⟨_, rfl⟩
      rw [hva] at hX4 ⊢
      have hB4 := brise hB3.out hb4
      have rx4 := rx.out.below hb4
      clear hWa hb4 rx
      replace hX4 := Lib.hid hX4
      replace hB4 := Lib.hid hB4
      replace rx4 := Lib.hid rx4
      replace hva := Lib.hid hva
      have hn0 := d16_len0 rx4.out.len
      by_cases hz : m0 = 0
      · have ksW := fun W => sign_c W n p0 m0 k0 e
        simp only [if_pos hz] at ksW
        replace hz := Lib.hid hz
        replace ksW := Lib.hid ksW
        replace hn0 := Lib.hid hn0
        have v0 := cellB hX4.out.1 (i := 0) rfl
        have v1 := cellB hX4.out.1 (i := 1) rfl
        have v2 := cellB hX4.out.1 (i := 2) rfl
        go_wp2_with fail
        with_reducible refine (ksW.out _).mono ?_
        rintro E w6 ⟨rfl, hbF⟩
        go_wp2
        go_ret
        exact ⟨rfl, brise hB4.out hbF⟩
      · have hN0 : N ≠ 0 := fun h => hz (hn0.2 h)
        cases n with
        | true =>
          have ksW := fun W => sign_c W true p0 m0 k0 e
          simp only [if_neg hz, if_true] at ksW
          replace hz := Lib.hid hz
          replace ksW := Lib.hid ksW
          replace hn0 := Lib.hid hn0
          have v0 := cellB hX4.out.1 (i := 0) rfl
          have v1 := cellB hX4.out.1 (i := 1) rfl
          have v2 := cellB hX4.out.1 (i := 2) rfl
          go_wp2_with fail
          with_reducible refine (ksW.out _).mono ?_
          rintro E w6 ⟨rfl, hbF⟩
          go_wp2
          go_ret
          exact ⟨rfl, brise hB4.out hbF⟩
        | false =>
          obtain ⟨E1, R, cn, D, i, j, Eu, g, kop, hR0, hRp, hE1, hcn, hRl, hR16, hD, hEu1, hEu, hg, hi, hj, hlo2, hhi2⟩ := kfacts.out hN0
          obtain ⟨klo, khi, kpl, kph, kol, koh⟩ := sqrtRef hp1.2 hR0 hRp hE1 hD hEu1 hEu hg hi hj ⟨hlo, hhi⟩ hlo2 hhi2
          obtain ⟨G1, hG1⟩ : ∃ G1, R * 10 ^ D - 1 = G1 := ⟨_, rfl⟩
          obtain ⟨G2, hG2⟩ : ∃ G2, R * 10 ^ D + 1 = G2 := ⟨_, rfl⟩
          rw [hG1] at klo kpl kol
          rw [hG2] at khi kph koh
          have ksW := fun W => sign_c W false p0 m0 k0 e
          simp only [if_neg hz, Bool.false_eq_true, if_false] at ksW
          have v0 := cellB hX4.out.1 (i := 0) rfl
          have v1 := cellB hX4.out.1 (i := 1) rfl
          have v2 := cellB hX4.out.1 (i := 2) rfl
          replace ksW := Lib.hid ksW
          replace hn0 := Lib.hid hn0
          replace kop := Lib.hid kop
          replace klo := Lib.hid klo
          replace khi := Lib.hid khi
          replace kpl := Lib.hid kpl
          replace kph := Lib.hid kph
          replace kol := Lib.hid kol
          replace koh := Lib.hid koh
          replace hlo2 := Lib.hid hlo2
          replace hhi2 := Lib.hid hhi2
          replace hg := Lib.hid hg
          replace hi := Lib.hid hi
          replace hj := Lib.hid hj
          replace hG1 := Lib.hid hG1
          replace hG2 := Lib.hid hG2
          replace hz := Lib.hid hz
          clear kfacts
          go_wp2_with fail
          with_reducible refine (ksW.out _).mono ?_
          rintro E w4 ⟨rfl, hbF⟩
          have hX5 := hX4.out.new hbF
          have hB5 := brise hB4.out hbF
          have rx5 := rx4.out.below hbF
          replace hX5 := Lib.hid hX5
          replace hB5 := Lib.hid hB5
          replace rx5 := Lib.hid rx5
          clear hbF v0 v1 v2 ksW
          go_wp2_with fail
          with_reducible refine (kw.out _).mono ?_
          rintro E w5 ⟨rfl, hb5⟩
          have hX6 := hX5.out.new hb5
          go_upto_region 7 with (fail)
          generalize hWc : w5.alloc (.cells #[.int .u64 (p : Int), .int .i64 100000, .int .i64 (-100000), .int .i64 (m : Int)] 35 (0, 0)) = V1
          obtain ⟨hX7, hbc, -⟩ := hX6.add hWc
          obtain ⟨cb, hcb⟩ : ∃ cb, w5.heap.size = cb := ⟨_, rfl⟩
          rw [hcb] at hX7 ⊢
          have hb6 := brise hb5 hbc
          have hB7 := brise hB5.out hb6
          have rx7 := rx5.out.below hb6
          replace hX7 := Lib.hid hX7
          replace hB7 := Lib.hid hB7
          replace rx7 := Lib.hid rx7
          replace hcb := Lib.hid hcb
          clear hX6 hbc hb6 hb5 hWc
          have kop2 := kop.out V1 hB7.out
          have u0 := cellB hX7.out.1 (i := 0) rfl
          have u1 := cellB hX7.out.1 (i := 1) rfl
          have u2 := cellB hX7.out.1 (i := 2) rfl
          have u3 := cellB hX7.out.1 (i := 3) rfl
          have x0 := cellB hX7.out.2.2.1 (i := 0) rfl
          have x1 := cellB hX7.out.2.2.1 (i := 1) rfl
          have x2 := cellB hX7.out.2.2.1 (i := 2) rfl
          have x3 := cellB hX7.out.2.2.1 (i := 3) rfl
          replace kop2 := Lib.hid kop2
          go_wp2_with fail
          with_reducible refine kop2.out.mono ?_
          rintro E wq ⟨qz, cz, rfl, hq, hch⟩
          have hbq := cbelow hch
          clear u0 u1 u2 u3 x0 x1 x2 x3 hch kop2
          have hXq := hX7.out.new hbq
          go_upto_region 8 with (fail)
          generalize hWz : wq.alloc (.cells #[.int .i64 0, .bool false, .slice qz (digs R).length cz, .int .i64 E1] 24 (0, 0)) = VZ
          obtain ⟨hXZ, hbz, -⟩ := hXq.add hWz
          have hbz2 := brise hbq hbz
          have hBZ := brise hB7.out hbz2
          have hqZ := hq.below hbz
          have rx8 := rx7.out.below hbz2
          replace hXZ := Lib.hid hXZ
          replace hBZ := Lib.hid hBZ
          replace rx8 := Lib.hid rx8
          clear hXq hbz hbz2 hbq hWz hq
          have t0 := cellB hXZ.out.1 (i := 0) rfl
          have t1 := cellB hXZ.out.1 (i := 1) rfl
          have t2 := cellB hXZ.out.1 (i := 2) rfl
          have t3 := cellB hXZ.out.1 (i := 3) rfl
          have ko := ofDec_c _ 0 false qz _ cz (digs R) E1 hqZ (by omega)
          rw [val_digs, show decide ((0 : Int) = 0 ∧ digs R = digs R) = true by simp] at ko
          replace ko := Lib.hid ko
          go_wp2_with fail
          with_reducible refine ko.out.mono ?_
          rintro E wo ⟨gG, lgG, cgG, rfl, hg9⟩
          have hXo := hXZ.out.new hg9.bel
          have hbo := hg9.bel
          have hgr := hg9.rd
          clear t0 t1 t2 t3 ko hg9 hqZ
          go_upto_region 9 with (fail)
          generalize hWg : wo.alloc (.cells #[.bool false, .slice gG lgG cgG, .int .i64 E1] 29 (0, 0)) = VG
          obtain ⟨hXG, hbg, -⟩ := hXo.add hWg
          obtain ⟨gb, hgb⟩ : ∃ gb, wo.heap.size = gb := ⟨_, rfl⟩
          rw [hgb] at hXG ⊢
          have hbo2 := brise hbo hbg
          have hBG := brise hBZ.out hbo2
          have hrG := hgr.below hbg
          have rx9 := rx8.out.below hbo2
          have hlg0 := d16_len0 hrG.len
          have hlg60 : lgG ≤ 60 := by rw [← hrG.len]; exact hR16
          have hlg1 : ¬ lgG = 0 := fun h => hR0 (hlg0.1 h)
          have ksg := sign_c VG.drew false gG lgG cgG E1
          simp only [if_neg hlg1, Bool.false_eq_true, if_false] at ksg
          have kfg := fun W (hb : Below VG.drew.heap.size VG.drew W) => figuresD_c W gG lgG cgG R ((hrG.below (bD _)).below hb) (by omega)
          have hgR : decide ((figs R : Int) > (p : Int)) = false := decide_eq_false (by omega)
          have hgR2 : ¬ (p : Int) < (figs R : Int) := by omega
          have hS0 : VG.drew.cell? ⟨gb, 0, none⟩ = some (.bool false) ∧ VG.drew.cell? ⟨gb, 1, none⟩ = some (.slice gG lgG cgG) ∧ VG.drew.cell? ⟨gb, 2, none⟩ = some (.int .i64 E1) ∧ VG.drew.cell? ⟨cb, 0, none⟩ = some (.int .u64 (p : Int)) := ⟨cellB hXG.drew.1 rfl, cellB hXG.drew.1 rfl, cellB hXG.drew.1 rfl, cellB hXG.drew.2.2.1 rfl⟩
          replace hXG := Lib.hid hXG
          replace hBG := Lib.hid hBG
          replace hrG := Lib.hid hrG
          replace rx9 := Lib.hid rx9
          replace ksg := Lib.hid ksg
          replace kfg := Lib.hid kfg
          replace hgb := Lib.hid hgb
          replace hlg0 := Lib.hid hlg0
          replace hlg1 := Lib.hid hlg1
          clear hXo hbo hbo2 hbg hWg hgr
          go_region_held3 (fun w' => w'.cell? ⟨gb, 0, none⟩ = some (.bool false) ∧ w'.cell? ⟨gb, 1, none⟩ = some (.slice gG lgG cgG) ∧ w'.cell? ⟨gb, 2, none⟩ = some (.int .i64 E1) ∧ w'.cell? ⟨cb, 0, none⟩ = some (.int .u64 (p : Int))) (first | exact hS0 | exact hS1 | exact hS2) (first
            | (go_at_call 6
               with_reducible refine ksg.out.mono ?_
               rintro E w10 ⟨rfl, hbV⟩
               have hX10 := hXG.out.new (bundrew hbV)
               have hS1 : w10.cell? ⟨gb, 0, none⟩ = some (.bool false) ∧ w10.cell? ⟨gb, 1, none⟩ = some (.slice gG lgG cgG) ∧ w10.cell? ⟨gb, 2, none⟩ = some (.int .i64 E1) ∧ w10.cell? ⟨cb, 0, none⟩ = some (.int .u64 (p : Int)) := ⟨cellB hX10.1 rfl, cellB hX10.1 rfl, cellB hX10.1 rfl, cellB hX10.2.2.1 rfl⟩
               replace hbV := Lib.hid hbV
               clear hX10)
            | (go_at_call 10
               with_reducible refine (kfg.out _ hbV.out).mono ?_
               rintro E w11 ⟨rfl, hbF⟩
               have hb11 := brise (bundrew hbV.out) hbF
               have hX11 := hXG.out.new hb11
               have hS2 : w11.cell? ⟨gb, 0, none⟩ = some (.bool false) ∧ w11.cell? ⟨gb, 1, none⟩ = some (.slice gG lgG cgG) ∧ w11.cell? ⟨gb, 2, none⟩ = some (.int .i64 E1) ∧ w11.cell? ⟨cb, 0, none⟩ = some (.int .u64 (p : Int)) := ⟨cellB hX11.1 rfl, cellB hX11.1 rfl, cellB hX11.1 rfl, cellB hX11.2.2.1 rfl⟩
               have hB11 := brise hBG.out hb11
               have hr11 := hrG.out.below hb11
               have rx11 := rx9.out.below hb11
               replace hX11 := Lib.hid hX11
               replace hB11 := Lib.hid hB11
               replace hr11 := Lib.hid hr11
               replace rx11 := Lib.hid rx11
               clear hbF hb11))
          clear hS0 hS1 hS2 ksg kfg
          go_upto_region 11 with (fail)
          obtain ⟨zb0, hzb0⟩ : ∃ zb0, wq.heap.size = zb0 := ⟨_, rfl⟩
          rw [hzb0] at hX11
          replace hzb0 := Lib.hid hzb0
          have kfg := fun W (hb : Below w11.heap.size w11 W) => figuresD_c W gG lgG cgG R (hr11.out.below hb) (by omega)
          have ksm := small1_c
          have ew1 : IntKind.i64.wrap (E1 + (figs R : Int)) = E1 + (figs R : Int) := IntWalk.i64_in _ (by omega)
          have ew2 : IntKind.i64.wrap (E1 + (figs R : Int) - (p : Int)) = Eu := by rw [← hEu1]; exact IntWalk.i64_in _ (by omega)
          have ew3 : E1 + (figs R : Int) - (p : Int) = Eu := hEu1.symm
          have hSC : ∀ w', Bxs [(gb, #[.bool false, .slice gG lgG cgG, .int .i64 E1], 29), (zb0, #[.int .i64 0, .bool false, .slice qz (digs R).length cz, .int .i64 E1], 24), (cb, #[.int .u64 (p : Int), .int .i64 100000, .int .i64 (-100000), .int .i64 (m : Int)], 35), (va, #[.bool false, .slice p0 m0 k0, .int .i64 e], 29), (w.heap.size, #[.int .i64 0, .bool false, .slice A l c, .int .i64 e], 24)] w' → w'.cell? ⟨gb, 0, none⟩ = some (.bool false) ∧ w'.cell? ⟨gb, 1, none⟩ = some (.slice gG lgG cgG) ∧ w'.cell? ⟨gb, 2, none⟩ = some (.int .i64 E1) ∧ w'.cell? ⟨cb, 0, none⟩ = some (.int .u64 (p : Int)) := fun w' h => ⟨cellB h.1 rfl, cellB h.1 rfl, cellB h.1 rfl, cellB h.2.2.1 rfl⟩
          have hS0 := hSC _ hX11.out.drew
          have hSda := fun o => hSC _ (hX11.out.drew.al o)
          have hSad := fun o => hSC _ (hX11.out.al o).drew
          replace hSC := Lib.hid hSC
          replace kfg := Lib.hid kfg
          replace ksm := Lib.hid ksm
          replace ew3 := Lib.hid ew3
          go_cut [15] (fun v15 wx => ∃ ub us lus cus, v15 = .pointer (some ⟨ub, 0, none⟩) ∧ Bxs ((ub, #[.bool false, .slice us lus cus, .int .i64 Eu], 29) :: [(gb, #[.bool false, .slice gG lgG cgG, .int .i64 E1], 29), (zb0, #[.int .i64 0, .bool false, .slice qz (digs R).length cz, .int .i64 E1], 24), (cb, #[.int .u64 (p : Int), .int .i64 100000, .int .i64 (-100000), .int .i64 (m : Int)], 35), (va, #[.bool false, .slice p0 m0 k0, .int .i64 e], 29), (w.heap.size, #[.int .i64 0, .bool false, .slice A l c, .int .i64 e], 24)]) wx ∧ Below w11.heap.size w11 wx ∧ RdD wx us lus cus (d16 1) ∧ w11.heap.size ≤ ub)
          case first =>
            go_region_held3 (fun w' => w'.cell? ⟨gb, 0, none⟩ = some (.bool false) ∧ w'.cell? ⟨gb, 1, none⟩ = some (.slice gG lgG cgG) ∧ w'.cell? ⟨gb, 2, none⟩ = some (.int .i64 E1) ∧ w'.cell? ⟨cb, 0, none⟩ = some (.int .u64 (p : Int))) (with_reducible (first | exact hS0 | exact hSda _ | exact hSad _ | exact hSvs | exact hSvf | exact hSvsa _ | exact hSvfa _ | exact hSvsc _ (Nat.le_refl _) _ _ _ | exact hSvfc _ (Nat.le_refl _) _ _ _ | exact hSvsc _ hbP.out.size _ _ _ | exact hSvfc _ hbP.out.size _ _ _)) (first
            | (go_at_call 11
               with_reducible refine (ksm.out _).mono ?_
               rintro E vs ⟨us, lus, cus, rfl, hd⟩
               have hvs := hd.bel
               first
                 | have hbP := hbL.out
                 | skip
               have hbL : Below w11.heap.size w11 vs := brise (by first | exact hbL.out | exact brise hbL.out (bA _ _) | exact bD _ | exact bDA _ _ | exact bAD _ _) hvs
               have hXvs := hX11.out.new hbL
               have hSvs := hSC.out _ hXvs
               have hSvsa := fun o => hSC.out _ (hXvs.al o)
               have hSvsc := fun k (hk : w11.heap.size ≤ k) u0 u1 u2 => hSC.out _ (Bxs.box hX11.out hXvs (chg3 vs k u0 u1 u2) hk)
               first
                 | (have hZ := bkeep hvs hZ.out
                    have z0 := cellB hZ (i := 0) rfl
                    have z1 := cellB hZ (i := 1) rfl
                    have z2 := cellB hZ (i := 2) rfl
                    have y0 := frozenB hZ 0
                    have y1 := frozenB hZ 1
                    have y2 := frozenB hZ 2)
                 | (have hZ := bkeep hvs (allocB vf (.cells #[.bool false, .slice none 0 0, .int .i64 0] 29 (0, 0)))
                    have z0 := cellB hZ (i := 0) rfl
                    have z1 := cellB hZ (i := 1) rfl
                    have z2 := cellB hZ (i := 2) rfl
                    have y0 := frozenB hZ 0
                    have y1 := frozenB hZ 1
                    have y2 := frozenB hZ 2)
                 | (have hZ := bkeep hvs (show (((w11.alloc _).drew).heap)[w11.heap.size]? = some (.cells #[.bool false, .slice none 0 0, .int .i64 0] 29 (0, 0)) from allocB w11 _)
                    have z0 := cellB hZ (i := 0) rfl
                    have z1 := cellB hZ (i := 1) rfl
                    have z2 := cellB hZ (i := 2) rfl
                    have y0 := frozenB hZ 0
                    have y1 := frozenB hZ 1
                    have y2 := frozenB hZ 2)
                 | (have hZ := bkeep hvs (show (((w11.drew).alloc _).heap)[w11.heap.size]? = some (.cells #[.bool false, .slice none 0 0, .int .i64 0] 29 (0, 0)) from allocB w11.drew _)
                    have z0 := cellB hZ (i := 0) rfl
                    have z1 := cellB hZ (i := 1) rfl
                    have z2 := cellB hZ (i := 2) rfl
                    have y0 := frozenB hZ 0
                    have y1 := frozenB hZ 1
                    have y2 := frozenB hZ 2)
                 | skip
               try replace hZ := Lib.hid hZ
               have hszvs := hvs.size
               have hv := hd.rd
               have hvS := hv
               have hloc := hd.loc
               replace hv := Lib.hid hv
               replace hvS := Lib.hid hvS
               replace hloc := Lib.hid hloc
               clear hd
               replace hszvs := Lib.hid hszvs
               replace hXvs := Lib.hid hXvs
               replace hbL := Lib.hid hbL
               try replace hbP := Lib.hid hbP
               clear hvs)
            | (go_at_call 10
               with_reducible refine (kfg.out _ (by first | exact hbL.out | exact brise hbL.out (bA _ _) | exact bD _ | exact bDA _ _ | exact bAD _ _)).mono ?_
               rintro E vf ⟨rfl, hvf⟩
               first
                 | have hbP := hbL.out
                 | skip
               have hbL : Below w11.heap.size w11 vf := brise (by first | exact hbL.out | exact brise hbL.out (bA _ _) | exact bD _ | exact bDA _ _ | exact bAD _ _) hvf
               have hXvf := hX11.out.new hbL
               have hSvf := hSC.out _ hXvf
               have hSvfa := fun o => hSC.out _ (hXvf.al o)
               have hSvfc := fun k (hk : w11.heap.size ≤ k) u0 u1 u2 => hSC.out _ (Bxs.box hX11.out hXvf (chg3 vf k u0 u1 u2) hk)
               first
                 | (have hZ := bkeep hvf hZ.out
                    have z0 := cellB hZ (i := 0) rfl
                    have z1 := cellB hZ (i := 1) rfl
                    have z2 := cellB hZ (i := 2) rfl
                    have y0 := frozenB hZ 0
                    have y1 := frozenB hZ 1
                    have y2 := frozenB hZ 2)
                 | (have hZ := bkeep hvf (allocB vs (.cells #[.bool false, .slice none 0 0, .int .i64 0] 29 (0, 0)))
                    have z0 := cellB hZ (i := 0) rfl
                    have z1 := cellB hZ (i := 1) rfl
                    have z2 := cellB hZ (i := 2) rfl
                    have y0 := frozenB hZ 0
                    have y1 := frozenB hZ 1
                    have y2 := frozenB hZ 2)
                 | (have hZ := bkeep hvf (show (((w11.alloc _).drew).heap)[w11.heap.size]? = some (.cells #[.bool false, .slice none 0 0, .int .i64 0] 29 (0, 0)) from allocB w11 _)
                    have z0 := cellB hZ (i := 0) rfl
                    have z1 := cellB hZ (i := 1) rfl
                    have z2 := cellB hZ (i := 2) rfl
                    have y0 := frozenB hZ 0
                    have y1 := frozenB hZ 1
                    have y2 := frozenB hZ 2)
                 | (have hZ := bkeep hvf (show (((w11.drew).alloc _).heap)[w11.heap.size]? = some (.cells #[.bool false, .slice none 0 0, .int .i64 0] 29 (0, 0)) from allocB w11.drew _)
                    have z0 := cellB hZ (i := 0) rfl
                    have z1 := cellB hZ (i := 1) rfl
                    have z2 := cellB hZ (i := 2) rfl
                    have y0 := frozenB hZ 0
                    have y1 := frozenB hZ 1
                    have y2 := frozenB hZ 2)
                 | skip
               try replace hZ := Lib.hid hZ
               have hszvf := hvf.size
               first
                 | (have hv := hv.out.below (by first | exact hvf | exact brise (bA _ _) hvf)
                    replace hv := Lib.hid hv)
                 | skip
               replace hszvf := Lib.hid hszvf
               replace hXvf := Lib.hid hXvf
               replace hbL := Lib.hid hbL
               try replace hbP := Lib.hid hbP
               clear hvf))
            all_goals
              clear hS0 hSda hSad hSvs hSvf hSvsa hSvfa hSvsc hSvfc ksm kfg
              try rw [ew3.out]
              first
                | (obtain ⟨Vn, hVn, hE, hq9⟩ := pack3 hZ.out (.bool false) (.slice us lus cus) (.int .i64 Eu)
                   rw [hVn])
                | (obtain ⟨Vn, hVn, hE, hq9⟩ := pack1' vf (.cells #[.bool false, .slice us lus cus, .int .i64 Eu] 29 (0, 0))
                   rw [hVn])
                | (obtain ⟨Vn, hVn, hE, hq9⟩ := pack1' vs (.cells #[.bool false, .slice us lus cus, .int .i64 Eu] 29 (0, 0))
                   rw [hVn])
              have hrow9 := hv.out.chgB2 hq9 (fun ad h0 ha => by
                first
                  | exact Nat.ne_of_lt (rowLt hv.out h0 ha)
                  | exact Nat.ne_of_lt (rowLt hvS.out h0 ha)
                  | (have s1 := hszvs.out
                     have s2 := hszvf.out
                     have h9 := hloc.out ad ha
                     simp only [szD, World.size_alloc] at h9 s1 s2
                     omega))
              have hbx9 := Bxs.box hX11.out (hX11.out.new hbL.out) hq9 (by first | exact Nat.le_refl _ | exact hbP.out.size | exact hbL.out.size)
              have hbl9 := belBox hbL.out hq9 (by first | exact Nat.le_refl _ | exact hbP.out.size | exact hbL.out.size)
              clear hVn hq9
              try clear z0 z1 z2 y0 y1 y2
              replace hE := Lib.hid hE
              replace hrow9 := Lib.hid hrow9
              replace hbx9 := Lib.hid hbx9
              replace hbl9 := Lib.hid hbl9
              go_wp2_with fail
              go_meet
              exact ⟨_, us, lus, cus, rfl, ⟨hE.out, hbx9.out⟩, hbl9.out, hrow9.out, by first | exact Nat.le_refl _ | exact hbP.out.size | exact hbL.out.size⟩
          case rest =>
            obtain ⟨ub, us, lus, cus, rfl, hXU, hbU, hrU, hun⟩ := hcut
            clear hS0 hSda hSad ksm kfg
            have hBU := brise hB11.out hbU
            have rxU := rx11.out.below hbU
            have hrGU := hr11.out.below hbU
            replace hXU := Lib.hid hXU
            replace hBU := Lib.hid hBU
            replace rxU := Lib.hid rxU
            replace hrGU := Lib.hid hrGU
            replace hrU := Lib.hid hrU
            replace hEu1 := Lib.hid hEu1
            replace hEu := Lib.hid hEu
            clear ew1 ew2
            go_upto_region 12 with (fail)
            try clear kw
            try clear kfacts
            try clear hX
            try clear hG
            try clear hB0
            try clear hB2
            try clear hB3
            try clear hB4
            try clear hX0
            try clear hX2
            try clear hX3
            try clear hX4
            try clear rx4
            try clear kop
            try clear hn0
            try clear hva
            try clear hcb
            try clear hzb0
            try clear hgb
            try clear hB5
            try clear hX5
            try clear rx5
            try clear hX7
            try clear hB7
            try clear rx7
            try clear rx8
            try clear hBZ
            try clear hXZ
            try clear rx9
            try clear hBG
            try clear hXG
            try clear hrG
            try clear hX11
            try clear hB11
            try clear rx11
            try clear hr11
            try clear hSC
            try clear hlc
            try clear hcm
            try clear hfit
            try clear hl3
            try clear hN0
            try clear hRl
            try clear hR16
            try clear hRp
            try clear hR0
            try clear hE1
            try clear hm
            try clear ewp
            try clear hlg1
            try clear hgR
            try clear hgR2
            try clear hlo2
            try clear hhi2
            try clear hg
            try clear hi
            try clear hj
            try clear hG1
            try clear hG2
            try clear hz
            try clear ew3
            try clear hD
            try clear hlg0
            try clear hun
            try clear hN
            try clear hbU
            try clear hEu
            try clear hEu1
            try clear hXf
            have koU := fun W (h : RdD W us lus cus (d16 1)) => opp_c W false us lus cus Eu 1 h
            simp only [Bool.not_false] at koU
            have hSC : ∀ w', Bxs [(ub, #[.bool false, .slice us lus cus, .int .i64 Eu], 29), (gb, #[.bool false, .slice gG lgG cgG, .int .i64 E1], 29), (zb0, #[.int .i64 0, .bool false, .slice qz (digs R).length cz, .int .i64 E1], 24), (cb, #[.int .u64 (p : Int), .int .i64 100000, .int .i64 (-100000), .int .i64 (m : Int)], 35), (va, #[.bool false, .slice p0 m0 k0, .int .i64 e], 29), (w.heap.size, #[.int .i64 0, .bool false, .slice A l c, .int .i64 e], 24)] w' → w'.cell? ⟨gb, 0, none⟩ = some (.bool false) ∧ w'.cell? ⟨gb, 1, none⟩ = some (.slice gG lgG cgG) ∧ w'.cell? ⟨gb, 2, none⟩ = some (.int .i64 E1) ∧ w'.cell? ⟨ub, 0, none⟩ = some (.bool false) ∧ w'.cell? ⟨ub, 1, none⟩ = some (.slice us lus cus) ∧ w'.cell? ⟨ub, 2, none⟩ = some (.int .i64 Eu) := fun w' h => ⟨cellB h.2.1 rfl, cellB h.2.1 rfl, cellB h.2.1 rfl, cellB h.1 rfl, cellB h.1 rfl, cellB h.1 rfl⟩
            replace hSC := Lib.hid hSC
            have hZs := Lib.hid (bxsNil wc)
            go_cut [16, 17] (fun v16 v17 wx => ∃ lb hb ls ll cl hs lh ch, v16 = .pointer (some ⟨lb, 0, none⟩) ∧ v17 = .pointer (some ⟨hb, 0, none⟩) ∧ Bxs ((lb, #[.bool false, .slice ls ll cl, .int .i64 Eu], 29) :: (hb, #[.bool false, .slice hs lh ch, .int .i64 Eu], 29) :: [(ub, #[.bool false, .slice us lus cus, .int .i64 Eu], 29), (gb, #[.bool false, .slice gG lgG cgG, .int .i64 E1], 29), (zb0, #[.int .i64 0, .bool false, .slice qz (digs R).length cz, .int .i64 E1], 24), (cb, #[.int .u64 (p : Int), .int .i64 100000, .int .i64 (-100000), .int .i64 (m : Int)], 35), (va, #[.bool false, .slice p0 m0 k0, .int .i64 e], 29), (w.heap.size, #[.int .i64 0, .bool false, .slice A l c, .int .i64 e], 24)]) wx ∧ Below wc.heap.size wc wx ∧ RdD wx ls ll cl (d16 G1) ∧ RdD wx hs lh ch (d16 G2))
            case first =>
              go_region_held3 (fun w' => w'.cell? ⟨gb, 0, none⟩ = some (.bool false) ∧ w'.cell? ⟨gb, 1, none⟩ = some (.slice gG lgG cgG) ∧ w'.cell? ⟨gb, 2, none⟩ = some (.int .i64 E1) ∧ w'.cell? ⟨ub, 0, none⟩ = some (.bool false) ∧ w'.cell? ⟨ub, 1, none⟩ = some (.slice us lus cus) ∧ w'.cell? ⟨ub, 2, none⟩ = some (.int .i64 Eu)) (with_reducible exact hSC.out _ (hXU.out.new (by repeat (first | exact hbL.out | exact Below.refl _ _ | refine bal ?_ _ | refine bdr ?_ | refine belSet ?_ (by (have s1 := hszvo.out; have s2 := hszv1.out; have s3 := hszv2.out; omega)))))) (first
              | (go_at_call 13
                 with_reducible refine (koU _ (hrU.out.below (by repeat (first | exact hbL.out | exact Below.refl _ _ | refine bal ?_ _ | refine bdr ?_)))).mono ?_
                 rintro E vo ⟨rfl, hwvo⟩
                 first
                   | (have hrl := hrl.out.below (by first | exact hwvo | exact brise (bA _ _) hwvo | exact brise (brise (bA _ _) (bA _ _)) hwvo)
                      replace hrl := Lib.hid hrl)
                   | skip
                 first
                   | (have hrh := hrh.out.below (by first | exact hwvo | exact brise (bA _ _) hwvo | exact brise (brise (bA _ _) (bA _ _)) hwvo)
                      replace hrh := Lib.hid hrh)
                   | skip
                 have hbL : Below wc.heap.size wc vo := brise (by repeat (first | exact hbL.out | exact Below.refl _ _ | refine bal ?_ _ | refine bdr ?_)) hwvo
                 first
                   | have hZs := Bxs.new hwvo hZs.out
                   | have hZs := Bxs.new hwvo (bxsDr hZs.out)
                   | have hZs := Bxs.new hwvo (bxsAdd hZs.out)
                   | have hZs := Bxs.new hwvo (bxsAdd (bxsDr hZs.out))
                   | have hZs := Bxs.new hwvo (bxsAdd (bxsAdd hZs.out))
                   | have hZs := Bxs.new hwvo (bxsAdd (bxsAdd (bxsDr hZs.out)))
                   | have hZs := Bxs.new hwvo (bxsDr (bxsAdd hZs.out))
                   | have hZs := Bxs.new hwvo (bxsDr (bxsAdd (bxsAdd hZs.out)))
                   | have hZs := Bxs.new hwvo (bxsAdd (bxsDr (bxsAdd hZs.out)))
                 try simp only [szD, World.size_alloc] at hZs
                 replace hZs := Lib.hid hZs
                 have hszvo := hwvo.size
                 try simp only [szD, World.size_alloc] at hszvo
                 replace hszvo := Lib.hid hszvo
                 replace hbL := Lib.hid hbL
                 clear hwvo)
              | (go_at_call 12
                 with_reducible refine (klo.out _ _ _ _ _ _ _ (hrGU.out.below (by repeat (first | exact hbL.out | exact Below.refl _ _ | refine bal ?_ _ | refine bdr ?_))) (hrU.out.below (by repeat (first | exact hbL.out | exact Below.refl _ _ | refine bal ?_ _ | refine bdr ?_))) hlg60).mono ?_
                 rintro E v1 ⟨ls, ll, cl, rfl, hdl⟩
                 have hwv1 := hdl.bel
                 first
                   | (have hrl := hrl.out.below (by first | exact hwv1 | exact brise (bA _ _) hwv1 | exact brise (brise (bA _ _) (bA _ _)) hwv1)
                      replace hrl := Lib.hid hrl)
                   | skip
                 first
                   | (have hrh := hrh.out.below (by first | exact hwv1 | exact brise (bA _ _) hwv1 | exact brise (brise (bA _ _) (bA _ _)) hwv1)
                      replace hrh := Lib.hid hrh)
                   | skip
                 have hbL : Below wc.heap.size wc v1 := brise (by repeat (first | exact hbL.out | exact Below.refl _ _ | refine bal ?_ _ | refine bdr ?_)) hwv1
                 first
                   | have hZs := Bxs.new hwv1 hZs.out
                   | have hZs := Bxs.new hwv1 (bxsDr hZs.out)
                   | have hZs := Bxs.new hwv1 (bxsAdd hZs.out)
                   | have hZs := Bxs.new hwv1 (bxsAdd (bxsDr hZs.out))
                   | have hZs := Bxs.new hwv1 (bxsAdd (bxsAdd hZs.out))
                   | have hZs := Bxs.new hwv1 (bxsAdd (bxsAdd (bxsDr hZs.out)))
                   | have hZs := Bxs.new hwv1 (bxsDr (bxsAdd hZs.out))
                   | have hZs := Bxs.new hwv1 (bxsDr (bxsAdd (bxsAdd hZs.out)))
                   | have hZs := Bxs.new hwv1 (bxsAdd (bxsDr (bxsAdd hZs.out)))
                 try simp only [World.size_alloc] at hZs
                 replace hZs := Lib.hid hZs
                 have hszv1 := hwv1.size
                 try simp only [World.size_alloc] at hszv1
                 have hrl := hdl.rd
                 have hrl0 := hrl
                 have hrll := hdl.loc
                 try simp only [World.size_alloc] at hrll
                 replace hrl := Lib.hid hrl
                 replace hrl0 := Lib.hid hrl0
                 replace hrll := Lib.hid hrll
                 clear hdl
                 replace hszv1 := Lib.hid hszv1
                 replace hbL := Lib.hid hbL
                 clear hwv1)
              | (go_at_call 12
                 with_reducible refine (khi.out _ _ _ _ _ _ _ (hrGU.out.below (by repeat (first | exact hbL.out | exact Below.refl _ _ | refine bal ?_ _ | refine bdr ?_))) (hrU.out.below (by repeat (first | exact hbL.out | exact Below.refl _ _ | refine bal ?_ _ | refine bdr ?_))) hlg60).mono ?_
                 rintro E v2 ⟨hs, lh, ch, rfl, hdh⟩
                 have hwv2 := hdh.bel
                 first
                   | (have hrl := hrl.out.below (by first | exact hwv2 | exact brise (bA _ _) hwv2 | exact brise (brise (bA _ _) (bA _ _)) hwv2)
                      replace hrl := Lib.hid hrl)
                   | skip
                 first
                   | (have hrh := hrh.out.below (by first | exact hwv2 | exact brise (bA _ _) hwv2 | exact brise (brise (bA _ _) (bA _ _)) hwv2)
                      replace hrh := Lib.hid hrh)
                   | skip
                 have hbL : Below wc.heap.size wc v2 := brise (by repeat (first | exact hbL.out | exact Below.refl _ _ | refine bal ?_ _ | refine bdr ?_)) hwv2
                 first
                   | have hZs := Bxs.new hwv2 hZs.out
                   | have hZs := Bxs.new hwv2 (bxsDr hZs.out)
                   | have hZs := Bxs.new hwv2 (bxsAdd hZs.out)
                   | have hZs := Bxs.new hwv2 (bxsAdd (bxsDr hZs.out))
                   | have hZs := Bxs.new hwv2 (bxsAdd (bxsAdd hZs.out))
                   | have hZs := Bxs.new hwv2 (bxsAdd (bxsAdd (bxsDr hZs.out)))
                   | have hZs := Bxs.new hwv2 (bxsDr (bxsAdd hZs.out))
                   | have hZs := Bxs.new hwv2 (bxsDr (bxsAdd (bxsAdd hZs.out)))
                   | have hZs := Bxs.new hwv2 (bxsAdd (bxsDr (bxsAdd hZs.out)))
                 try simp only [World.size_alloc] at hZs
                 try
                   have hlt := ltB hZs.1
                   have zac0 := cellB (hZs.1) (i := 0) rfl
                   have zaf0 := frozenB (hZs.1) 0
                   have zac1 := cellB (hZs.1) (i := 1) rfl
                   have zaf1 := frozenB (hZs.1) 1
                   have zac2 := cellB (hZs.1) (i := 2) rfl
                   have zaf2 := frozenB (hZs.1) 2
                   have zbc0 := fun o => cellB (allocB_old (o' := o) hZs.1) (i := 0) rfl
                   have zbf0 := fun o => frozenB (allocB_old (o' := o) hZs.1) 0
                   have zbc1 := fun o => cellB (allocB_old (o' := o) hZs.1) (i := 1) rfl
                   have zbf1 := fun o => frozenB (allocB_old (o' := o) hZs.1) 1
                   have zbc2 := fun o => cellB (allocB_old (o' := o) hZs.1) (i := 2) rfl
                   have zbf2 := fun o => frozenB (allocB_old (o' := o) hZs.1) 2
                   have zcc0 := fun u0 u1 u2 => cellB (setNe3 (Nat.ne_of_gt hlt) (allocB v2 (.cells #[.bool false, .slice none 0 0, .int .i64 0] 29 (0, 0))) u0 u1 u2) (i := 0) rfl
                   have zcf0 := fun u0 u1 u2 => frozenB (setNe3 (Nat.ne_of_gt hlt) (allocB v2 (.cells #[.bool false, .slice none 0 0, .int .i64 0] 29 (0, 0))) u0 u1 u2) 0
                   have zcc1 := fun u0 u1 u2 => cellB (setNe3 (Nat.ne_of_gt hlt) (allocB v2 (.cells #[.bool false, .slice none 0 0, .int .i64 0] 29 (0, 0))) u0 u1 u2) (i := 1) rfl
                   have zcf1 := fun u0 u1 u2 => frozenB (setNe3 (Nat.ne_of_gt hlt) (allocB v2 (.cells #[.bool false, .slice none 0 0, .int .i64 0] 29 (0, 0))) u0 u1 u2) 1
                   have zcc2 := fun u0 u1 u2 => cellB (setNe3 (Nat.ne_of_gt hlt) (allocB v2 (.cells #[.bool false, .slice none 0 0, .int .i64 0] 29 (0, 0))) u0 u1 u2) (i := 2) rfl
                   have zcf2 := fun u0 u1 u2 => frozenB (setNe3 (Nat.ne_of_gt hlt) (allocB v2 (.cells #[.bool false, .slice none 0 0, .int .i64 0] 29 (0, 0))) u0 u1 u2) 2
                   clear hlt
                 try
                   have hne : _ ≠ _ := two_ne hZs.1 hZs.2.1 (by have s1 := hszvo.out; have s2 := hszv1.out; have s3 := hwv2.size; (try simp only [World.size_alloc] at s3); omega)
                   have zdc0 := cellB (hZs.2.1) (i := 0) rfl
                   have zdf0 := frozenB (hZs.2.1) 0
                   have zdc1 := cellB (hZs.2.1) (i := 1) rfl
                   have zdf1 := frozenB (hZs.2.1) 1
                   have zdc2 := cellB (hZs.2.1) (i := 2) rfl
                   have zdf2 := frozenB (hZs.2.1) 2
                   have zec0 := fun u0 u1 u2 => cellB (setNe3 hne hZs.1 u0 u1 u2) (i := 0) rfl
                   have zef0 := fun u0 u1 u2 => frozenB (setNe3 hne hZs.1 u0 u1 u2) 0
                   have zec1 := fun u0 u1 u2 => cellB (setNe3 hne hZs.1 u0 u1 u2) (i := 1) rfl
                   have zef1 := fun u0 u1 u2 => frozenB (setNe3 hne hZs.1 u0 u1 u2) 1
                   have zec2 := fun u0 u1 u2 => cellB (setNe3 hne hZs.1 u0 u1 u2) (i := 2) rfl
                   have zef2 := fun u0 u1 u2 => frozenB (setNe3 hne hZs.1 u0 u1 u2) 2
                   have zgc0 := fun u0 u1 u2 => cellB (setNe3 (Ne.symm hne) hZs.2.1 u0 u1 u2) (i := 0) rfl
                   have zgf0 := fun u0 u1 u2 => frozenB (setNe3 (Ne.symm hne) hZs.2.1 u0 u1 u2) 0
                   have zgc1 := fun u0 u1 u2 => cellB (setNe3 (Ne.symm hne) hZs.2.1 u0 u1 u2) (i := 1) rfl
                   have zgf1 := fun u0 u1 u2 => frozenB (setNe3 (Ne.symm hne) hZs.2.1 u0 u1 u2) 1
                   have zgc2 := fun u0 u1 u2 => cellB (setNe3 (Ne.symm hne) hZs.2.1 u0 u1 u2) (i := 2) rfl
                   have zgf2 := fun u0 u1 u2 => frozenB (setNe3 (Ne.symm hne) hZs.2.1 u0 u1 u2) 2
                   clear hne
                 replace hZs := Lib.hid hZs
                 have hszv2 := hwv2.size
                 try simp only [World.size_alloc] at hszv2
                 have hrh := hdh.rd
                 have hrh0 := hrh
                 have hrhl := hdh.loc
                 try simp only [World.size_alloc] at hrhl
                 replace hrh := Lib.hid hrh
                 replace hrh0 := Lib.hid hrh0
                 replace hrhl := Lib.hid hrhl
                 clear hdh
                 replace hszv2 := Lib.hid hszv2
                 replace hbL := Lib.hid hbL
                 clear hwv2))
              all_goals
                clear hSC koU
                first
                  | (obtain ⟨Vn, hV, z1, z2, hx, hbV, hr⟩ := pack11 (T := 29) hXU.out hbL.out #[.bool false, .slice ls ll cl, .int .i64 Eu] #[.bool false, .slice hs lh ch, .int .i64 Eu]
                     rw [hV]
                     have hxx : Bxs ((v2.heap.size, #[.bool false, .slice ls ll cl, .int .i64 Eu], 29) :: (v2.heap.size + 1, #[.bool false, .slice hs lh ch, .int .i64 Eu], 29) :: [(ub, #[.bool false, .slice us lus cus, .int .i64 Eu], 29), (gb, #[.bool false, .slice gG lgG cgG, .int .i64 E1], 29), (zb0, #[.int .i64 0, .bool false, .slice qz (digs R).length cz, .int .i64 E1], 24), (cb, #[.int .u64 (p : Int), .int .i64 100000, .int .i64 (-100000), .int .i64 (m : Int)], 35), (va, #[.bool false, .slice p0 m0 k0, .int .i64 e], 29), (w.heap.size, #[.int .i64 0, .bool false, .slice A l c, .int .i64 e], 24)]) Vn := ⟨z1, z2, hx⟩
                     have rl := hr _ _ _ _ hrl.out
                     have rh := hr _ _ _ _ hrh.out
                     clear z1 z2 hx hr)
                  | (obtain ⟨Vn, hV, z1, z2, hx, hbV, hr⟩ := pack11 (T := 29) hXU.out hbL.out #[.bool false, .slice hs lh ch, .int .i64 Eu] #[.bool false, .slice ls ll cl, .int .i64 Eu]
                     rw [hV]
                     have hxx : Bxs ((v2.heap.size + 1, #[.bool false, .slice ls ll cl, .int .i64 Eu], 29) :: (v2.heap.size, #[.bool false, .slice hs lh ch, .int .i64 Eu], 29) :: [(ub, #[.bool false, .slice us lus cus, .int .i64 Eu], 29), (gb, #[.bool false, .slice gG lgG cgG, .int .i64 E1], 29), (zb0, #[.int .i64 0, .bool false, .slice qz (digs R).length cz, .int .i64 E1], 24), (cb, #[.int .u64 (p : Int), .int .i64 100000, .int .i64 (-100000), .int .i64 (m : Int)], 35), (va, #[.bool false, .slice p0 m0 k0, .int .i64 e], 29), (w.heap.size, #[.int .i64 0, .bool false, .slice A l c, .int .i64 e], 24)]) Vn := ⟨z2, z1, hx⟩
                     have rl := hr _ _ _ _ hrl.out
                     have rh := hr _ _ _ _ hrh.out
                     clear z1 z2 hx hr)
                  | (obtain ⟨Vn, hV, hxx, hbV, hr⟩ := pack33 hXU.out hbL.out (by (have s1 := hszvo.out; have s2 := hszv1.out; have s3 := hszv2.out; omega)) (by (have s1 := hszvo.out; have s2 := hszv1.out; have s3 := hszv2.out; omega)) (by (have s1 := hszvo.out; have s2 := hszv1.out; have s3 := hszv2.out; omega)) (hZs.out.1) (hZs.out.2.1) (.bool false) (.slice ls ll cl) (.int .i64 Eu) (.bool false) (.slice hs lh ch) (.int .i64 Eu)
                     rw [hV]
                     have rl := hr _ _ _ _ hrl.out (fun ad h0 ha => by
                          have h9 := hrll.out ad ha
                          have h8 := rowLt hrl0.out h0 ha
                          have s1 := hszvo.out
                          have s2 := hszv1.out
                          have s3 := hszv2.out
                          constructor <;> omega)
                     have rh := hr _ _ _ _ hrh.out (fun ad h0 ha => by
                          have h9 := hrhl.out ad ha
                          have h8 := rowLt hrh0.out h0 ha
                          have s1 := hszvo.out
                          have s2 := hszv1.out
                          have s3 := hszv2.out
                          constructor <;> omega)
                     clear hr)
                  | (obtain ⟨Vn, hV, hxx, hbV, hr⟩ := pack33 hXU.out hbL.out (by (have s1 := hszvo.out; have s2 := hszv1.out; have s3 := hszv2.out; omega)) (by (have s1 := hszvo.out; have s2 := hszv1.out; have s3 := hszv2.out; omega)) (by (have s1 := hszvo.out; have s2 := hszv1.out; have s3 := hszv2.out; omega)) (hZs.out.2.1) (hZs.out.1) (.bool false) (.slice ls ll cl) (.int .i64 Eu) (.bool false) (.slice hs lh ch) (.int .i64 Eu)
                     rw [hV]
                     have rl := hr _ _ _ _ hrl.out (fun ad h0 ha => by
                          have h9 := hrll.out ad ha
                          have h8 := rowLt hrl0.out h0 ha
                          have s1 := hszvo.out
                          have s2 := hszv1.out
                          have s3 := hszv2.out
                          constructor <;> omega)
                     have rh := hr _ _ _ _ hrh.out (fun ad h0 ha => by
                          have h9 := hrhl.out ad ha
                          have h8 := rowLt hrh0.out h0 ha
                          have s1 := hszvo.out
                          have s2 := hszv1.out
                          have s3 := hszv2.out
                          constructor <;> omega)
                     clear hr)
                  | (obtain ⟨Vn, hV, hxx, hbV, hr⟩ := pack33 hXU.out (bal hbL.out (.cells #[.bool false, .slice none 0 0, .int .i64 0] 29 (0, 0))) (by (have s1 := hszvo.out; have s2 := hszv1.out; have s3 := hszv2.out; omega)) (by (have s1 := hszvo.out; have s2 := hszv1.out; have s3 := hszv2.out; omega)) (by (have s1 := hszvo.out; have s2 := hszv1.out; have s3 := hszv2.out; omega)) (allocB_old (o' := .cells #[.bool false, .slice none 0 0, .int .i64 0] 29 (0, 0)) hZs.out.1) (allocB v2 (.cells #[.bool false, .slice none 0 0, .int .i64 0] 29 (0, 0))) (.bool false) (.slice ls ll cl) (.int .i64 Eu) (.bool false) (.slice hs lh ch) (.int .i64 Eu)
                     rw [hV]
                     have rl := hr _ _ _ _ (rdAl hrl.out _) (fun ad h0 ha => by
                          have h9 := hrll.out ad ha
                          have h8 := rowLt hrl0.out h0 ha
                          have s1 := hszvo.out
                          have s2 := hszv1.out
                          have s3 := hszv2.out
                          constructor <;> omega)
                     have rh := hr _ _ _ _ (rdAl hrh.out _) (fun ad h0 ha => by
                          have h9 := hrhl.out ad ha
                          have h8 := rowLt hrh0.out h0 ha
                          have s1 := hszvo.out
                          have s2 := hszv1.out
                          have s3 := hszv2.out
                          constructor <;> omega)
                     clear hr)
                  | (obtain ⟨Vn, hV, hxx, hbV, hr⟩ := pack13 hXU.out hbL.out (by (have s1 := hszvo.out; have s2 := hszv1.out; have s3 := hszv2.out; omega)) (hZs.out.1) #[.bool false, .slice ls ll cl, .int .i64 Eu] (.bool false) (.slice hs lh ch) (.int .i64 Eu)
                     rw [hV]
                     have rl := hr _ _ _ _ hrl.out (fun ad h0 ha => by
                          have h9 := hrll.out ad ha
                          have h8 := rowLt hrl0.out h0 ha
                          have s1 := hszvo.out
                          have s2 := hszv1.out
                          have s3 := hszv2.out
                          omega)
                     have rh := hr _ _ _ _ hrh.out (fun ad h0 ha => by
                          have h9 := hrhl.out ad ha
                          have h8 := rowLt hrh0.out h0 ha
                          have s1 := hszvo.out
                          have s2 := hszv1.out
                          have s3 := hszv2.out
                          omega)
                     clear hr)
                clear hV
                replace hxx := Lib.hid hxx
                replace hbV := Lib.hid hbV
                replace rl := Lib.hid rl
                replace rh := Lib.hid rh
                go_wp2_with fail
                go_meet
                exact ⟨_, _, ls, ll, cl, hs, lh, ch, rfl, rfl, hxx.out, hbV.out, rl.out, rh.out⟩
            case rest =>
              obtain ⟨lb, hb, ls, ll, cl, hs, lh, ch, rfl, rfl, hXL, hbLH, hrl, hrh⟩ := hcut
              have hBL := brise hBU.out hbLH
              have rxL := rxU.out.below hbLH
              clear koU klo khi hSC hZs hXU hBU rxU hrGU hrU hbLH
              replace hXL := Lib.hid hXL
              replace hBL := Lib.hid hBL
              replace rxL := Lib.hid rxL
              replace hrl := Lib.hid hrl
              replace hrh := Lib.hid hrh
              go_upto_region 13 with (fail)
              have hSE : ∀ w', Bxs [(lb, #[.bool false, .slice ls ll cl, .int .i64 Eu], 29), (hb, #[.bool false, .slice hs lh ch, .int .i64 Eu], 29), (ub, #[.bool false, .slice us lus cus, .int .i64 Eu], 29), (gb, #[.bool false, .slice gG lgG cgG, .int .i64 E1], 29), (zb0, #[.int .i64 0, .bool false, .slice qz (digs R).length cz, .int .i64 E1], 24), (cb, #[.int .u64 (p : Int), .int .i64 100000, .int .i64 (-100000), .int .i64 (m : Int)], 35), (va, #[.bool false, .slice p0 m0 k0, .int .i64 e], 29), (w.heap.size, #[.int .i64 0, .bool false, .slice A l c, .int .i64 e], 24)] w' → w'.cell? ⟨lb, 0, none⟩ = some (.bool false) ∧ w'.cell? ⟨lb, 1, none⟩ = some (.slice ls ll cl) ∧ w'.cell? ⟨lb, 2, none⟩ = some (.int .i64 Eu) ∧ w'.cell? ⟨hb, 0, none⟩ = some (.bool false) ∧ w'.cell? ⟨hb, 1, none⟩ = some (.slice hs lh ch) ∧ w'.cell? ⟨hb, 2, none⟩ = some (.int .i64 Eu) ∧ w'.cell? ⟨va, 0, none⟩ = some (.bool false) ∧ w'.cell? ⟨va, 1, none⟩ = some (.slice p0 m0 k0) ∧ w'.cell? ⟨va, 2, none⟩ = some (.int .i64 e) := fun w' h => ⟨cellB h.1 rfl, cellB h.1 rfl, cellB h.1 rfl, cellB h.2.1 rfl, cellB h.2.1 rfl, cellB h.2.1 rfl, cellB h.2.2.2.2.2.2.1 rfl, cellB h.2.2.2.2.2.2.1 rfl, cellB h.2.2.2.2.2.2.1 rfl⟩
              replace hSE := Lib.hid hSE
              go_region_held3 (fun w' => w'.cell? ⟨lb, 0, none⟩ = some (.bool false) ∧ w'.cell? ⟨lb, 1, none⟩ = some (.slice ls ll cl) ∧ w'.cell? ⟨lb, 2, none⟩ = some (.int .i64 Eu) ∧ w'.cell? ⟨hb, 0, none⟩ = some (.bool false) ∧ w'.cell? ⟨hb, 1, none⟩ = some (.slice hs lh ch) ∧ w'.cell? ⟨hb, 2, none⟩ = some (.int .i64 Eu) ∧ w'.cell? ⟨va, 0, none⟩ = some (.bool false) ∧ w'.cell? ⟨va, 1, none⟩ = some (.slice p0 m0 k0) ∧ w'.cell? ⟨va, 2, none⟩ = some (.int .i64 e)) (with_reducible exact hSE.out _ (hXL.out.new (by repeat (first | exact hbL.out | exact Below.refl _ _ | refine bal ?_ _ | refine bdr ?_)))) (first
                | (go_at_call 15
                   with_reducible refine (kpl.out _ _ _ _ (hrl.out.below (by repeat (first | exact hbL.out | exact Below.refl _ _ | refine bal ?_ _ | refine bdr ?_)))).mono ?_
                   rintro E vp ⟨pq, pa, pc, rfl, hdp⟩
                   have hbL : Below wc.heap.size wc vp := brise (by repeat (first | exact hbL.out | exact Below.refl _ _ | refine bal ?_ _ | refine bdr ?_)) hdp.bel
                   have hrp := hdp.rd
                   replace hrp := Lib.hid hrp
                   replace hbL := Lib.hid hbL
                   clear hdp)
                | (go_at_call 14
                   with_reducible refine (kol.out _ _ _ _ _ _ _ (by first | exact hrp.out | exact hrp.out.below (bD _)) (rxL.out.below (by repeat (first | exact hbL.out | exact Below.refl _ _ | refine bal ?_ _ | refine bdr ?_))) (by omega)).mono ?_
                   rintro E vq ⟨rfl, hbq⟩
                   have hbL : Below wc.heap.size wc vq := brise (by repeat (first | exact hbL.out | exact Below.refl _ _ | refine bal ?_ _ | refine bdr ?_)) hbq
                   replace hbL := Lib.hid hbL
                   clear hbq)
                | (go_at_call 15
                   with_reducible refine (kph.out _ _ _ _ (hrh.out.below (by repeat (first | exact hbL.out | exact Below.refl _ _ | refine bal ?_ _ | refine bdr ?_)))).mono ?_
                   rintro E vr ⟨rq, ra, rc, rfl, hdr⟩
                   have hbL : Below wc.heap.size wc vr := brise (by repeat (first | exact hbL.out | exact Below.refl _ _ | refine bal ?_ _ | refine bdr ?_)) hdr.bel
                   have hrr := hdr.rd
                   replace hrr := Lib.hid hrr
                   replace hbL := Lib.hid hbL
                   clear hdr)
                | (go_at_call 14
                   with_reducible refine (koh.out _ _ _ _ _ _ _ (by first | exact hrr.out | exact hrr.out.below (bD _)) (rxL.out.below (by repeat (first | exact hbL.out | exact Below.refl _ _ | refine bal ?_ _ | refine bdr ?_))) (by omega)).mono ?_
                   rintro E vs ⟨rfl, hbq⟩
                   have hbL : Below wc.heap.size wc vs := brise (by repeat (first | exact hbL.out | exact Below.refl _ _ | refine bal ?_ _ | refine bdr ?_)) hbq
                   replace hbL := Lib.hid hbL
                   clear hbq))
              all_goals
                go_wp2
                go_ret
                exact ⟨rfl, brise hBL.out (by repeat (first | exact hbL.out | exact Below.refl _ _ | refine bal ?_ _ | refine bdr ?_))⟩
  · rw [decide_eq_false hfit] at kf
    replace kf := Lib.hid kf
    go_wp2_with fail
    with_reducible refine kf.out.mono ?_
    rintro E w1 ⟨rfl, hb⟩
    go_wp2
    go_ret
    exact ⟨rfl, brise hB0.out hb⟩
end Go.Proofs.YtonepclpllelfaaGreatDoor
