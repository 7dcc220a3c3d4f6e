/- FnRem: the walk. -/
import Derived.Test.YtffjgkghmdhlkaaGreatDoorZC
import Derived.Test.YtffjgkghmdhlkaaGreatDoorO13
import Derived.Test.YtffjgkghmdhlkaaGreatDoorZA
namespace Go.Proofs.YtffjgkghmdhlkaaGreatDoor
open Go Go.RowKit

set_option maxRecDepth 100000 in
set_option maxHeartbeats 8000000 in
theorem FnRem_walk (prec mode : Int) (f : Int) (n : Bool) (A : Option Addr) (l c : Nat) (X : List Nat) (e : Int) (g : Int) (o : Bool) (B : Option Addr) (r s : Nat) (Y : List Nat) (d : Int) (w : World) (hG : Glob w) (h2 : 0 ≤ prec ∧ prec ≤ 255) (h3 : 0 ≤ mode ∧ mode ≤ 255) (hx : DecIn w f A l c X e) (hy : DecIn w g B r s Y d) :
    Calls Tryz.prog 5 #[.int .u8 prec, .int .u8 mode, .agg #[.int .i64 f, .bool n, .slice A l c, .int .i64 e], .agg #[.int .i64 g, .bool o, .slice B r s, .int .i64 d]] w fun E w' => E = .returned (.bool true) ∧ Below w.heap.size w w' := by
  obtain ⟨m, hmm⟩ : ∃ m : Nat, mode % 8 = (m : Int) := ⟨(mode % 8).toNat, by omega⟩
  obtain ⟨p, hpp⟩ : ∃ p : Nat, 1 + prec % 60 = (p : Int) := ⟨(1 + prec % 60).toNat, by omega⟩
  have hm : m < 8 := by omega
  have hp1 : 1 ≤ p ∧ p ≤ 60 := by omega
  have kw := fun W => wideC_c W prec mode p m h2 h3 hmm hpp
  have hX := hx.rd
  have hY := hy.rd
  have kfacts := remFacts w hG p m hm hp1 e d n o A B l c r s X Y hX hY
  have ewp : IntKind.i64.wrap (p : Int) = (p : Int) := IntWalk.i64_in _ (by omega)
  have hlc := hX.cap
  have hcm := hX.max
  have hls := hY.cap
  have hsm := hY.max
  replace kw := Lib.hid kw
  replace kfacts := Lib.hid kfacts
  replace hX := Lib.hid hX
  replace hY := Lib.hid hY
  replace hG := Lib.hid hG
  clear h2 h3 hmm hpp hx hy
  go_enter Tryz.func5, Tryz.ntmps5
  go_upto_region 1 with (fail)
  generalize hW : (w.alloc (.cells #[.int .i64 f, .bool n, .slice A l c, .int .i64 e] 25 (0, 0))).alloc (.cells #[.int .i64 g, .bool o, .slice B r s, .int .i64 d] 25 (0, 0)) = W0
  have hB0 : Below w.heap.size w W0 := by rw [← hW]; exact ((Below.refl _ _).alloc (Nat.le_refl _) _).alloc (by simp) _
  have hX0 : Bxs [(w.heap.size + 1, #[.int .i64 g, .bool o, .slice B r s, .int .i64 d], 25), (w.heap.size, #[.int .i64 f, .bool n, .slice A l c, .int .i64 e], 25)] W0 := by rw [← hW]; exact ⟨allocB_at _ _ (by simp), allocB_old (allocB _ _), trivial⟩
  clear hW
  have kf := fits_c W0 f n A l c e
  have c0 := cellB hX0.2.1 (i := 0) rfl
  have c1 := cellB hX0.2.1 (i := 1) rfl
  have c2 := cellB hX0.2.1 (i := 2) rfl
  have c3 := cellB hX0.2.1 (i := 3) rfl
  replace hX0 := Lib.hid hX0
  replace hB0 := Lib.hid hB0
  by_cases hfit : l ≤ 2147483647
  · rw [decide_eq_true hfit] at kf
    replace kf := Lib.hid kf
    go_wp2_with fail
    with_reducible refine kf.out.mono ?_
    rintro E w1 ⟨rfl, hb⟩
    have hX1 := hX0.out.new hb
    have hB1 := brise hB0.out hb
    clear c0 c1 c2 c3 kf hb
    have d0 := cellB hX1.1 (i := 0) rfl
    have d1 := cellB hX1.1 (i := 1) rfl
    have d2 := cellB hX1.1 (i := 2) rfl
    have d3 := cellB hX1.1 (i := 3) rfl
    replace hX1 := Lib.hid hX1
    replace hB1 := Lib.hid hB1
    have kf := fits_c w1 g o B r s d
    by_cases hfit2 : r ≤ 2147483647
    · rw [decide_eq_true hfit2] at kf
      replace kf := Lib.hid kf
      go_wp2_with fail
      with_reducible refine kf.out.mono ?_
      rintro E w2 ⟨rfl, hb⟩
      have hX2 := hX1.out.new hb
      have hB2 := brise hB1.out hb
      clear d0 d1 d2 d3 kf hb
      have d0 := cellB hX2.1 (i := 0) rfl
      have d1 := cellB hX2.1 (i := 1) rfl
      have d2 := cellB hX2.1 (i := 2) rfl
      have d3 := cellB hX2.1 (i := 3) rfl
      have c0 := cellB hX2.2.1 (i := 0) rfl
      have c1 := cellB hX2.2.1 (i := 1) rfl
      have c2 := cellB hX2.2.1 (i := 2) rfl
      have c3 := cellB hX2.2.1 (i := 3) rfl
      have kq := both_c w2 f n A l c X e g o B r s Y d (hX.out.bel hB2) (hY.out.bel hB2)
      replace kq := Lib.hid kq
      replace hX2 := Lib.hid hX2
      replace hB2 := Lib.hid hB2
      go_wp2_with fail
      with_reducible refine kq.out.mono ?_
      rintro E w3 ⟨a0, p0, m0, k0, a2, b0, q0, n0, j0, b2, ok, rfl, hb, hfin⟩
      have hX3 := hX2.out.new hb
      have hB3 := brise hB2.out hb
      clear c0 c1 c2 c3 d0 d1 d2 d3 kq hb
      replace hX3 := Lib.hid hX3
      replace hB3 := Lib.hid hB3
      replace hfin := Lib.hid hfin
      cases ok with
      | false =>
        go_wp2
        go_ret
        exact ⟨rfl, (hB3.out.alloc hB3.out.size _).alloc (by have := hB3.out.size; simp; omega) _⟩
      | true =>
        obtain ⟨fx, fy⟩ := hfin.out (by simp)
        have kfacts := kfacts.out fx.len fy.len fx.lo fx.hi fy.lo fy.hi
        have rx := fx.coeff.rd
        have ry := fy.coeff.rd
        have hn0 := d16_len0 ry.len
        have e1 := fx.form
        have e2 := fy.form
        have e3 := fx.neg.symm
        have e4 := fy.neg.symm
        have e5 := fx.ex.symm
        have e6 := fy.ex.symm
        subst e1 e2 e3 e4 e5 e6
        replace rx := Lib.hid rx
        replace ry := Lib.hid ry
        replace hn0 := Lib.hid hn0
        replace kfacts := Lib.hid kfacts
        clear hfin fx fy
        go_upto_region 4 with (fail)
        generalize hWa : w3.alloc (.cells #[.bool n, .slice p0 m0 k0, .int .i64 e] 30 (0, 0)) = Wa
        obtain ⟨hX4a, hba, hsa⟩ := hX3.out.add hWa
        generalize hWb : Wa.alloc (.cells #[.bool o, .slice q0 n0 j0, .int .i64 d] 30 (0, 0)) = W
        obtain ⟨hX4, hbb, -⟩ := hX4a.add hWb
        obtain ⟨va, hva⟩ : ∃ va, w3.heap.size = va := ⟨_, rfl⟩
        rw [hsa] at hX4
        rw [hva] at hX4 ⊢
        have hb4 := brise hba hbb
        have hB4 := brise hB3.out hb4
        have rx4 := rx.out.below hb4
        have ry4 := ry.out.below hb4
        clear hX4a hba hbb hsa hWa hWb hb4 rx ry
        have b0 := cellB hX4.1 (i := 0) rfl
        have b1 := cellB hX4.1 (i := 1) rfl
        have b2 := cellB hX4.1 (i := 2) rfl
        have ks := sign_c W o q0 n0 j0 d
        replace hX4 := Lib.hid hX4
        replace hB4 := Lib.hid hB4
        replace rx4 := Lib.hid rx4
        replace ry4 := Lib.hid ry4
        replace hva := Lib.hid hva
        by_cases hz : n0 = 0
        · subst hz
          rw [if_pos rfl] at ks
          replace ks := Lib.hid ks
          go_wp2_with fail
          with_reducible refine ks.out.mono ?_
          rintro E w4 ⟨rfl, hb4⟩
          go_wp2
          go_ret
          exact ⟨rfl, brise hB4.out hb4⟩
        · have hY0 : val Y ≠ 0 := fun h => hz (hn0.out.2 h)
          rw [if_neg hz] at ks
          obtain ⟨sg, hsg⟩ : ∃ sg : Int, (if o then -1 else 1) = sg := ⟨_, rfl⟩
          rw [hsg] at ks
          have hsg0 := sgn_ne o hsg
          obtain ⟨G, Q, R, kdv, kre, kim, ksm, hRl, hR16, hQ16⟩ := kfacts.out hY0
          replace ks := Lib.hid ks
          replace hsg := Lib.hid hsg
          replace hY0 := Lib.hid hY0
          clear kfacts
          replace kdv := Lib.hid kdv
          replace kre := Lib.hid kre
          replace kim := Lib.hid kim
          replace ksm := Lib.hid ksm
          go_wp2_with fail
          with_reducible refine ks.out.mono ?_
          rintro E w4 ⟨rfl, hb4⟩
          have hX5 := hX4.out.new hb4
          have hB5 := brise hB4.out hb4
          have rx5 := rx4.out.below hb4
          have ry5 := ry4.out.below hb4
          replace hX5 := Lib.hid hX5
          replace hB5 := Lib.hid hB5
          replace rx5 := Lib.hid rx5
          replace ry5 := Lib.hid ry5
          clear ks b0 b1 b2 hb4
          go_wp2_with fail
          with_reducible refine (kw.out _).mono ?_
          rintro E w5 ⟨rfl, hb5⟩
          have hX6 := hX5.out.new hb5
          go_upto_region 7 with (fail)
          generalize hWc : w5.alloc (.cells #[.int .u64 (p : Int), .int .i64 100000, .int .i64 (-100000), .int .i64 (m : Int)] 36 (0, 0)) = V1
          obtain ⟨hX7, hbc, -⟩ := hX6.add hWc
          obtain ⟨cb, hcb⟩ : ∃ cb, w5.heap.size = cb := ⟨_, rfl⟩
          rw [hcb] at hX7 ⊢
          have hb6 := brise hb5 hbc
          have hB7 := brise hB5.out hb6
          have rx7 := rx5.out.below hb6
          have ry7 := ry5.out.below hb6
          replace hX7 := Lib.hid hX7
          replace hB7 := Lib.hid hB7
          replace rx7 := Lib.hid rx7
          replace ry7 := Lib.hid ry7
          replace hcb := Lib.hid hcb
          clear hX6 hbc hb6 hb5 hWc
          have kd2 := kdv.out V1 p0 m0 k0 q0 n0 j0 rx7.out ry7.out
          have y0 := cellB hX7.out.2.1 (i := 0) rfl
          have y1 := cellB hX7.out.2.1 (i := 1) rfl
          have y2 := cellB hX7.out.2.1 (i := 2) rfl
          have x0 := cellB hX7.out.2.2.1 (i := 0) rfl
          have x1 := cellB hX7.out.2.2.1 (i := 1) rfl
          have x2 := cellB hX7.out.2.2.1 (i := 2) rfl
          replace kd2 := Lib.hid kd2
          go_wp2_with fail
          with_reducible refine kd2.out.mono ?_
          rintro E w6 ⟨p3, l3, c3, p4, l4, c4, rfl, hr3, hr4, hbd⟩
          have hX8 := hX7.out.new hbd
          clear kd2 x0 x1 x2 y0 y1 y2
          go_upto_region 8 with (fail)
          generalize hWq : w6.alloc (.cells #[.bool (n != o), .slice p3 l3 c3, .int .i64 0] 30 (0, 0)) = Wq
          obtain ⟨hX9, hbq, hsq⟩ := hX8.add hWq
          generalize hWr : Wq.alloc (.cells #[.bool n, .slice p4 l4 c4, .int .i64 G] 30 (0, 0)) = V2
          obtain ⟨hX10, hbr, -⟩ := hX9.add hWr
          obtain ⟨qb, hqb⟩ : ∃ qb, w6.heap.size = qb := ⟨_, rfl⟩
          rw [hsq] at hX10
          rw [hqb] at hX10 ⊢
          have hb10 := brise hbq hbr
          have hB10 := brise hB7.out (brise hbd hb10)
          have hr3b := hr3.below hb10
          have hr4b := hr4.below hb10
          have kf1 := figuresD_c V2.drew p4 l4 c4 R (hr4b.below (bD _)) (by rw [← hr4.len]; omega)
          replace hX10 := Lib.hid hX10
          replace hB10 := Lib.hid hB10
          replace hr3b := Lib.hid hr3b
          replace hr4b := Lib.hid hr4b
          replace kf1 := Lib.hid kf1
          replace hqb := Lib.hid hqb
          clear hX8 hX9 hbq hbr hsq hb10 hWq hWr hr3 hr4 hbd
          have hS0 : V2.drew.cell? ⟨qb + 1, 1, none⟩ = some (.slice p4 l4 c4) ∧ V2.drew.cell? ⟨cb, 0, none⟩ = some (.int .u64 (p : Int)) := ⟨cellB hX10.out.drew.1 rfl, cellB hX10.out.drew.2.2.1 rfl⟩
          go_region_held3 (fun w' => w'.cell? ⟨qb + 1, 1, none⟩ = some (.slice p4 l4 c4) ∧ w'.cell? ⟨cb, 0, none⟩ = some (.int .u64 (p : Int))) (first | exact hS0 | exact hS1) (
            (go_at_call 15
             with_reducible refine kf1.out.mono ?_
             rintro E wF ⟨rfl, hbF'⟩
             have hbF := bundrew hbF'
             have hXF := hX10.out.new hbF
             have hS1 : wF.cell? ⟨qb + 1, 1, none⟩ = some (.slice p4 l4 c4) ∧ wF.cell? ⟨cb, 0, none⟩ = some (.int .u64 (p : Int)) := ⟨cellB hXF.1 rfl, cellB hXF.2.2.1 rfl⟩
             have hBF := brise hB10.out hbF
             replace hbF := Lib.hid hbF
             replace hXF := Lib.hid hXF
             replace hBF := Lib.hid hBF
             clear hbF'))
          clear hS0 hS1 kf1
          by_cases hfR : figs R ≤ p
          · have hg1 : decide ((figs R : Int) > (p : Int)) = false := decide_eq_false (by omega)
            have hbF8 := hbF.out
            have hX11 := hXF
            have hB11 := hBF
            replace hbF8 := Lib.hid hbF8
            clear hbF hXF hBF
            by_cases hfQ : figs Q ≤ p
            · have kop := Lib.hid (kre.out hfR hfQ)
              have u0 := cellB hX11.out.2.2.1 (i := 0) rfl
              have u1 := cellB hX11.out.2.2.1 (i := 1) rfl
              have u2 := cellB hX11.out.2.2.1 (i := 2) rfl
              have u3 := cellB hX11.out.2.2.1 (i := 3) rfl
              have y0 := cellB hX11.out.2.2.2.2.2.1 (i := 0) rfl
              have y1 := cellB hX11.out.2.2.2.2.2.1 (i := 1) rfl
              have y2 := cellB hX11.out.2.2.2.2.2.1 (i := 2) rfl
              have y3 := cellB hX11.out.2.2.2.2.2.1 (i := 3) rfl
              have x0 := cellB hX11.out.2.2.2.2.2.2.1 (i := 0) rfl
              have x1 := cellB hX11.out.2.2.2.2.2.2.1 (i := 1) rfl
              have x2 := cellB hX11.out.2.2.2.2.2.2.1 (i := 2) rfl
              have x3 := cellB hX11.out.2.2.2.2.2.2.1 (i := 3) rfl
              have kop2 := kop.out _ hB11.out
              replace kop2 := Lib.hid kop2
              go_wp2_with fail
              with_reducible refine kop2.out.mono ?_
              rintro E w6 ⟨qz, cz, rfl, hq, hch⟩
              have hbq := cbelow hch
              clear u0 u1 u2 u3 x0 x1 x2 x3 y0 y1 y2 y3 hch kop2
              have hXq := hX11.out.new hbq
              replace hq := Lib.hid hq
              go_upto_region 11 with (fail)
              generalize hWz : w6.alloc (.cells #[.int .i64 0, .bool n, .slice qz (digs R).length cz, .int .i64 G] 25 (0, 0)) = V3
              obtain ⟨hX12, hbz, -⟩ := hXq.add hWz
              obtain ⟨zb, hzb⟩ : ∃ zb, w6.heap.size = zb := ⟨_, rfl⟩
              rw [hzb] at hX12 ⊢
              have hbz2 := brise hbq hbz
              have hB12 := brise hB11.out hbz2
              have hq12 := hq.out.bel hbz
              have hr12 := (hr4b.out.below hbF8.out).below hbz2
              have kf2 := figuresD_c V3.drew p3 l3 c3 Q (((hr3b.out.below hbF8.out).below hbz2).below (bD _)) (by rw [← hr3b.out.len]; omega)
              have hg2 : decide ((figs Q : Int) > (p : Int)) = false := decide_eq_false (by omega)
              replace hX12 := Lib.hid hX12
              replace hB12 := Lib.hid hB12
              replace hq12 := Lib.hid hq12
              replace hr12 := Lib.hid hr12
              replace kf2 := Lib.hid kf2
              replace hzb := Lib.hid hzb
              clear hXq hbz hbz2 hbq hWz hq
              have hS0 : V3.drew.cell? ⟨qb, 1, none⟩ = some (.slice p3 l3 c3) ∧ V3.drew.cell? ⟨cb, 0, none⟩ = some (.int .u64 (p : Int)) := ⟨cellB hX12.out.drew.2.2.1 rfl, cellB hX12.out.drew.2.2.2.1 rfl⟩
              go_region_held3 (fun w' => w'.cell? ⟨qb, 1, none⟩ = some (.slice p3 l3 c3) ∧ w'.cell? ⟨cb, 0, none⟩ = some (.int .u64 (p : Int))) (first | exact hS0 | exact hS1) (
                (go_at_call 15
                 with_reducible refine kf2.out.mono ?_
                 rintro E wF ⟨rfl, hbF'⟩
                 have hbF := bundrew hbF'
                 have hXF := hX12.out.new hbF
                 have hS1 : wF.cell? ⟨qb, 1, none⟩ = some (.slice p3 l3 c3) ∧ wF.cell? ⟨cb, 0, none⟩ = some (.int .u64 (p : Int)) := ⟨cellB hXF.2.2.1 rfl, cellB hXF.2.2.2.1 rfl⟩
                 have hBF := brise hB12.out hbF
                 replace hbF := Lib.hid hbF
                 replace hXF := Lib.hid hXF
                 replace hBF := Lib.hid hBF
                 clear hbF'))
              clear hS0 hS1 kf2
              have t0 := cellB hXF.out.1 (i := 0) rfl
              have t1 := cellB hXF.out.1 (i := 1) rfl
              have t2 := cellB hXF.out.1 (i := 2) rfl
              have t3 := cellB hXF.out.1 (i := 3) rfl
              have ko := ofDec_c wF 0 n qz _ cz (digs R) G (hq12.out.bel hbF.out) (by omega)
              rw [val_digs, show decide ((0 : Int) = 0 ∧ digs R = digs R) = true by simp] at ko
              replace ko := Lib.hid ko
              go_wp2_with fail
              with_reducible refine ko.out.mono ?_
              rintro E w14 ⟨g, lg, cg, rfl, hg⟩
              have hX14 := hXF.out.new hg.bel
              have hB14 := brise hBF.out hg.bel
              have hgr := hg.rd
              have hr14 := (hr12.out.below hbF.out).below hg.bel
              clear t0 t1 t2 t3 ko hg
              go_upto_region 14 with (fail)
              generalize hWg : w14.alloc (.cells #[.bool n, .slice g lg cg, .int .i64 G] 30 (0, 0)) = V6
              obtain ⟨hX15, hbg, -⟩ := hX14.add hWg
              have ksm2 := ksm.out V6 g lg cg p4 l4 c4 (hgr.below hbg) (hr14.below hbg)
              have hB15 := brise hB14 hbg
              have g0 := cellB hX15.1 (i := 0) rfl
              have g1 := cellB hX15.1 (i := 1) rfl
              have g2 := cellB hX15.1 (i := 2) rfl
              have t0 := cellB hX15.2.2.1 (i := 0) rfl
              have t1 := cellB hX15.2.2.1 (i := 1) rfl
              have t2 := cellB hX15.2.2.1 (i := 2) rfl
              have hbz := bitsZ
              replace ksm2 := Lib.hid ksm2
              replace hB15 := Lib.hid hB15
              clear hX15 hX14 hB14 hr14 hgr hbg hWg
              go_wp2_with fail
              with_reducible refine ksm2.out.mono ?_
              rintro E w15 ⟨rfl, hb15⟩
              go_wp2
              go_ret
              exact ⟨by simp, brise hB15.out hb15⟩
            · have kop := Lib.hid (kim.out (by omega))
              have u0 := cellB hX11.out.2.2.1 (i := 0) rfl
              have u1 := cellB hX11.out.2.2.1 (i := 1) rfl
              have u2 := cellB hX11.out.2.2.1 (i := 2) rfl
              have u3 := cellB hX11.out.2.2.1 (i := 3) rfl
              have y0 := cellB hX11.out.2.2.2.2.2.1 (i := 0) rfl
              have y1 := cellB hX11.out.2.2.2.2.2.1 (i := 1) rfl
              have y2 := cellB hX11.out.2.2.2.2.2.1 (i := 2) rfl
              have y3 := cellB hX11.out.2.2.2.2.2.1 (i := 3) rfl
              have x0 := cellB hX11.out.2.2.2.2.2.2.1 (i := 0) rfl
              have x1 := cellB hX11.out.2.2.2.2.2.2.1 (i := 1) rfl
              have x2 := cellB hX11.out.2.2.2.2.2.2.1 (i := 2) rfl
              have x3 := cellB hX11.out.2.2.2.2.2.2.1 (i := 3) rfl
              have kop2 := kop.out _ hB11.out
              replace kop2 := Lib.hid kop2
              go_wp2_with fail
              with_reducible refine kop2.out.mono ?_
              rintro E w6 ⟨F1, s1, q1, lq1, cq1, eq1, rfl, hch⟩
              have hbq := cbelow hch
              clear u0 u1 u2 u3 x0 x1 x2 x3 y0 y1 y2 y3 hch kop2
              have hXq := hX11.out.new hbq
              go_upto_region 11 with (fail)
              generalize hWz : w6.alloc (.cells #[.int .i64 F1, .bool s1, .slice q1 lq1 cq1, .int .i64 eq1] 25 (0, 0)) = V3
              obtain ⟨hX12, hbz, -⟩ := hXq.add hWz
              have hbz2 := brise hbq hbz
              have hB12 := brise hB11.out hbz2
              have kf2 := figuresD_c V3.drew p3 l3 c3 Q (((hr3b.out.below hbF8.out).below hbz2).below (bD _)) (by rw [← hr3b.out.len]; omega)
              have hg2 : decide ((figs Q : Int) > (p : Int)) = true := decide_eq_true (by omega)
              replace hX12 := Lib.hid hX12
              replace hB12 := Lib.hid hB12
              replace kf2 := Lib.hid kf2
              clear hXq hbz hbz2 hbq hWz
              have hS0 : V3.drew.cell? ⟨qb, 1, none⟩ = some (.slice p3 l3 c3) ∧ V3.drew.cell? ⟨cb, 0, none⟩ = some (.int .u64 (p : Int)) := ⟨cellB hX12.out.drew.2.2.1 rfl, cellB hX12.out.drew.2.2.2.1 rfl⟩
              go_region_held3 (fun w' => w'.cell? ⟨qb, 1, none⟩ = some (.slice p3 l3 c3) ∧ w'.cell? ⟨cb, 0, none⟩ = some (.int .u64 (p : Int))) (first | exact hS0 | exact hS1) (
                (go_at_call 15
                 with_reducible refine kf2.out.mono ?_
                 rintro E wF ⟨rfl, hbF'⟩
                 have hbF := bundrew hbF'
                 have hXF := hX12.out.new hbF
                 have hS1 : wF.cell? ⟨qb, 1, none⟩ = some (.slice p3 l3 c3) ∧ wF.cell? ⟨cb, 0, none⟩ = some (.int .u64 (p : Int)) := ⟨cellB hXF.2.2.1 rfl, cellB hXF.2.2.2.1 rfl⟩
                 have hBF := brise hB12.out hbF
                 replace hbF := Lib.hid hbF
                 replace hXF := Lib.hid hXF
                 replace hBF := Lib.hid hBF
                 clear hbF'))
              clear hS0 hS1 kf2
              have hbz := bits512
              go_wp2
              go_ret
              exact ⟨by simp, hBF.out⟩
          · have hg1 : decide ((figs R : Int) > (p : Int)) = true := decide_eq_true (by omega)
            go_wp2
            go_ret
            exact ⟨rfl, hBF.out⟩
    · rw [decide_eq_false hfit2] at kf
      replace kf := Lib.hid kf
      go_wp2_with fail
      with_reducible refine kf.out.mono ?_
      rintro E w2 ⟨rfl, hb⟩
      go_wp2
      go_ret
      exact ⟨rfl, brise hB1.out hb⟩
  · rw [decide_eq_false hfit] at kf
    replace kf := Lib.hid kf
    go_wp2_with fail
    with_reducible refine kf.out.mono ?_
    rintro E w1 ⟨rfl, hb⟩
    go_wp2
    go_ret
    exact ⟨rfl, brise hB0.out hb⟩
end Go.Proofs.YtffjgkghmdhlkaaGreatDoor
