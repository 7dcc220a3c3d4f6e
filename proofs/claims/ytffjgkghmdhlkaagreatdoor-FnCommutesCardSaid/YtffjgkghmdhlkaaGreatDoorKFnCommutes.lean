/- FnCommutes: the walk. -/
import Derived.Test.YtffjgkghmdhlkaaGreatDoorZE
import Derived.Test.YtffjgkghmdhlkaaGreatDoorO13
import Derived.Test.YtffjgkghmdhlkaaGreatDoorZA
namespace Go.Proofs.YtffjgkghmdhlkaaGreatDoor
open Go Go.RowKit

set_option maxRecDepth 100000 in
set_option maxHeartbeats 8000000 in
theorem FnCommutes_walk (product : Bool) (prec mode : Int) (f : Int) (n : Bool) (A : Option Addr) (l c : Nat) (X : List Nat) (e : Int) (g : Int) (o : Bool) (B : Option Addr) (r s : Nat) (Y : List Nat) (d : Int) (w : World) (hG : Glob w) (h2 : 0 ≤ prec ∧ prec ≤ 255) (h3 : 0 ≤ mode ∧ mode ≤ 255) (hx : DecIn w f A l c X e) (hy : DecIn w g B r s Y d) :
    Calls Tryz.prog 8 #[.bool product, .int .u8 prec, .int .u8 mode, .agg #[.int .i64 f, .bool n, .slice A l c, .int .i64 e], .agg #[.int .i64 g, .bool o, .slice B r s, .int .i64 d]] w fun E w' => E = .returned (.bool true) ∧ Below w.heap.size w w' := by
  obtain ⟨m, hmm⟩ : ∃ m : Nat, mode % 8 = (m : Int) := ⟨(mode % 8).toNat, by omega⟩
  obtain ⟨p, hpp⟩ : ∃ p : Nat, 1 + prec % 60 = (p : Int) := ⟨(1 + prec % 60).toNat, by omega⟩
  have hm : m < 8 := by omega
  have hp1 : 1 ≤ p ∧ p ≤ 60 := by omega
  have kw := fun W => wideC_c W prec mode p m h2 h3 hmm hpp
  have hX := hx.rd
  have hY := hy.rd
  have kfacts := comFacts w hG p m hm hp1 e d n o A B l c r s X Y hX hY
  have ewp : IntKind.i64.wrap (p : Int) = (p : Int) := IntWalk.i64_in _ (by omega)
  have hlc := hX.cap
  have hcm := hX.max
  have hls := hY.cap
  have hsm := hY.max
  replace kw := Lib.hid kw
  replace kfacts := Lib.hid kfacts
  replace hX := Lib.hid hX
  replace hY := Lib.hid hY
  replace hG := Lib.hid hG
  clear h2 h3 hmm hpp hx hy
  go_enter Tryz.func8, Tryz.ntmps8
  go_upto_region 1 with (fail)
  generalize hW : (w.alloc (.cells #[.int .i64 f, .bool n, .slice A l c, .int .i64 e] 25 (0, 0))).alloc (.cells #[.int .i64 g, .bool o, .slice B r s, .int .i64 d] 25 (0, 0)) = W0
  have hB0 : Below w.heap.size w W0 := by rw [← hW]; exact ((Below.refl _ _).alloc (Nat.le_refl _) _).alloc (by simp) _
  have hX0 : Bxs [(w.heap.size + 1, #[.int .i64 g, .bool o, .slice B r s, .int .i64 d], 25), (w.heap.size, #[.int .i64 f, .bool n, .slice A l c, .int .i64 e], 25)] W0 := by rw [← hW]; exact ⟨allocB_at _ _ (by simp), allocB_old (allocB _ _), trivial⟩
  clear hW
  have kf := fits_c W0 f n A l c e
  have c0 := cellB hX0.2.1 (i := 0) rfl
  have c1 := cellB hX0.2.1 (i := 1) rfl
  have c2 := cellB hX0.2.1 (i := 2) rfl
  have c3 := cellB hX0.2.1 (i := 3) rfl
  replace hX0 := Lib.hid hX0
  replace hB0 := Lib.hid hB0
  by_cases hfit : l ≤ 2147483647
  · rw [decide_eq_true hfit] at kf
    replace kf := Lib.hid kf
    go_wp2_with fail
    with_reducible refine kf.out.mono ?_
    rintro E w1 ⟨rfl, hb⟩
    have hX1 := hX0.out.new hb
    have hB1 := brise hB0.out hb
    clear c0 c1 c2 c3 kf hb
    have d0 := cellB hX1.1 (i := 0) rfl
    have d1 := cellB hX1.1 (i := 1) rfl
    have d2 := cellB hX1.1 (i := 2) rfl
    have d3 := cellB hX1.1 (i := 3) rfl
    replace hX1 := Lib.hid hX1
    replace hB1 := Lib.hid hB1
    have kf := fits_c w1 g o B r s d
    by_cases hfit2 : r ≤ 2147483647
    · rw [decide_eq_true hfit2] at kf
      replace kf := Lib.hid kf
      go_wp2_with fail
      with_reducible refine kf.out.mono ?_
      rintro E w2 ⟨rfl, hb⟩
      have hX2 := hX1.out.new hb
      have hB2 := brise hB1.out hb
      clear d0 d1 d2 d3 kf hb
      have d0 := cellB hX2.1 (i := 0) rfl
      have d1 := cellB hX2.1 (i := 1) rfl
      have d2 := cellB hX2.1 (i := 2) rfl
      have d3 := cellB hX2.1 (i := 3) rfl
      have c0 := cellB hX2.2.1 (i := 0) rfl
      have c1 := cellB hX2.2.1 (i := 1) rfl
      have c2 := cellB hX2.2.1 (i := 2) rfl
      have c3 := cellB hX2.2.1 (i := 3) rfl
      have kq := both_c w2 f n A l c X e g o B r s Y d (hX.out.bel hB2) (hY.out.bel hB2)
      replace kq := Lib.hid kq
      replace hX2 := Lib.hid hX2
      replace hB2 := Lib.hid hB2
      go_wp2_with fail
      with_reducible refine kq.out.mono ?_
      rintro E w3 ⟨a0, p0, m0, k0, a2, b0, q0, n0, j0, b2, ok, rfl, hb, hfin⟩
      have hX3 := hX2.out.new hb
      have hB3 := brise hB2.out hb
      clear c0 c1 c2 c3 d0 d1 d2 d3 kq hb
      replace hX3 := Lib.hid hX3
      replace hB3 := Lib.hid hB3
      replace hfin := Lib.hid hfin
      cases ok with
      | false =>
        go_wp2
        go_ret
        exact ⟨rfl, (hB3.out.alloc hB3.out.size _).alloc (by have := hB3.out.size; simp; omega) _⟩
      | true =>
        obtain ⟨fx, fy⟩ := hfin.out (by simp)
        have kfacts := kfacts.out fx.len fy.len fx.lo fx.hi fy.lo fy.hi
        have e1 := fx.form
        have e2 := fy.form
        have e3 := fx.neg.symm
        have e4 := fy.neg.symm
        have e5 := fx.ex.symm
        have e6 := fy.ex.symm
        subst e1 e2 e3 e4 e5 e6
        replace kfacts := Lib.hid kfacts
        clear hfin fx fy
        go_upto_region 6 with (fail)
        generalize hWa : w3.alloc (.cells #[.bool n, .slice p0 m0 k0, .int .i64 e] 30 (0, 0)) = Wa
        obtain ⟨hX4a, hba, hsa⟩ := hX3.out.add hWa
        generalize hWb : Wa.alloc (.cells #[.bool o, .slice q0 n0 j0, .int .i64 d] 30 (0, 0)) = W
        obtain ⟨hX4, hbb, -⟩ := hX4a.add hWb
        have hb4 := brise hba hbb
        have hB4 := brise hB3.out hb4
        have hX4 := hX4.2.2
        clear hX4a hba hbb hsa hWa hWb hb4
        replace hX4 := Lib.hid hX4
        replace hB4 := Lib.hid hB4
        cases product with
        | false =>
          obtain ⟨nz, R, E0, cn, kop, kop2⟩ := kfacts.out false 0 rfl
          unfold ImplR at kop kop2
          obtain ⟨lr, hlr⟩ : ∃ lr, (digs R).length = lr := ⟨_, rfl⟩
          simp only [hlr] at kop kop2
          replace kop := Lib.hid kop
          replace kop2 := Lib.hid kop2
          replace hlr := Lib.hid hlr
          go_wp2_with fail
          with_reducible refine (kw.out _).mono ?_
          rintro E w5 ⟨rfl, hb5⟩
          have hX6 := hX4.out.new hb5
          go_upto_region 10 with (fail)
          generalize hWc : w5.alloc (.cells #[.int .u64 (p : Int), .int .i64 100000, .int .i64 (-100000), .int .i64 (m : Int)] 36 (0, 0)) = V1
          obtain ⟨hX7, hbc, -⟩ := hX6.add hWc
          obtain ⟨cb, hcb⟩ : ∃ cb, w5.heap.size = cb := ⟨_, rfl⟩
          rw [hcb] at hX7 ⊢
          have hB7 := brise hB4.out (brise hb5 hbc)
          replace hX7 := Lib.hid hX7
          replace hB7 := Lib.hid hB7
          replace hcb := Lib.hid hcb
          clear hX6 hbc hb5 hWc
          have u0 := cellB hX7.out.1 (i := 0) rfl
          have u1 := cellB hX7.out.1 (i := 1) rfl
          have u2 := cellB hX7.out.1 (i := 2) rfl
          have u3 := cellB hX7.out.1 (i := 3) rfl
          have y0 := cellB hX7.out.2.1 (i := 0) rfl
          have y1 := cellB hX7.out.2.1 (i := 1) rfl
          have y2 := cellB hX7.out.2.1 (i := 2) rfl
          have y3 := cellB hX7.out.2.1 (i := 3) rfl
          have x0 := cellB hX7.out.2.2.1 (i := 0) rfl
          have x1 := cellB hX7.out.2.2.1 (i := 1) rfl
          have x2 := cellB hX7.out.2.2.1 (i := 2) rfl
          have x3 := cellB hX7.out.2.2.1 (i := 3) rfl
          have kop3 := kop.out _ hB7.out
          replace kop3 := Lib.hid kop3
          go_wp2_with fail
          with_reducible refine kop3.out.mono ?_
          rintro E w6 ⟨qz, cz, rfl, hq, -, hch⟩
          have hbq := cbelow hch
          clear u0 u1 u2 u3 x0 x1 x2 x3 y0 y1 y2 y3 hch kop3
          have hXq := hX7.out.new hbq
          go_upto_region 11 with (fail)
          generalize hWz : w6.alloc (.cells #[.int .i64 0, .bool nz, .slice qz lr cz, .int .i64 E0] 25 (0, 0)) = V2
          obtain ⟨hX8, hbz, -⟩ := hXq.add hWz
          have hB8 := brise hB7.out (brise hbq hbz)
          have hq8 := hq.below hbz
          replace hX8 := Lib.hid hX8
          replace hB8 := Lib.hid hB8
          replace hq8 := Lib.hid hq8
          clear hXq hbz hbq hWz hq
          have u0 := cellB hX8.out.2.1 (i := 0) rfl
          have u1 := cellB hX8.out.2.1 (i := 1) rfl
          have u2 := cellB hX8.out.2.1 (i := 2) rfl
          have u3 := cellB hX8.out.2.1 (i := 3) rfl
          have y0 := cellB hX8.out.2.2.1 (i := 0) rfl
          have y1 := cellB hX8.out.2.2.1 (i := 1) rfl
          have y2 := cellB hX8.out.2.2.1 (i := 2) rfl
          have y3 := cellB hX8.out.2.2.1 (i := 3) rfl
          have x0 := cellB hX8.out.2.2.2.1 (i := 0) rfl
          have x1 := cellB hX8.out.2.2.2.1 (i := 1) rfl
          have x2 := cellB hX8.out.2.2.2.1 (i := 2) rfl
          have x3 := cellB hX8.out.2.2.2.1 (i := 3) rfl
          have kop3 := kop2.out _ hB8.out
          replace kop3 := Lib.hid kop3
          go_wp2_with fail
          with_reducible refine kop3.out.mono ?_
          rintro E w9 ⟨qv, cv, rfl, hq, -, hch⟩
          have hbq := cbelow hch
          clear u0 u1 u2 u3 x0 x1 x2 x3 y0 y1 y2 y3 hch kop3
          have hXq := hX8.out.new hbq
          have hq9 := hq8.out.below hbq
          go_upto_region 12 with (fail)
          generalize hWz : w9.alloc (.cells #[.int .i64 0, .bool nz, .slice qv lr cv, .int .i64 E0] 25 (0, 0)) = V3
          obtain ⟨hX9, hbz, -⟩ := hXq.add hWz
          have hB9 := brise hB8.out (brise hbq hbz)
          have kal := alike_c V3 nz qz qv lr cz cv E0 (digs R) (hq9.below hbz) (hq.below hbz)
          have y0 := cellB hX9.1 (i := 0) rfl
          have y1 := cellB hX9.1 (i := 1) rfl
          have y2 := cellB hX9.1 (i := 2) rfl
          have y3 := cellB hX9.1 (i := 3) rfl
          have x0 := cellB hX9.2.1 (i := 0) rfl
          have x1 := cellB hX9.2.1 (i := 1) rfl
          have x2 := cellB hX9.2.1 (i := 2) rfl
          have x3 := cellB hX9.2.1 (i := 3) rfl
          replace kal := Lib.hid kal
          replace hB9 := Lib.hid hB9
          clear hXq hX9 hbz hbq hWz hq hq9
          go_wp2_with fail
          with_reducible refine kal.out.mono ?_
          rintro E w10 ⟨rfl, hb10⟩
          go_wp2
          go_ret
          exact ⟨by simp, brise hB9.out hb10⟩
        | true =>
          obtain ⟨nz, R, E0, cn, kop, kop2⟩ := kfacts.out true 2 rfl
          unfold ImplR at kop kop2
          obtain ⟨lr, hlr⟩ : ∃ lr, (digs R).length = lr := ⟨_, rfl⟩
          simp only [hlr] at kop kop2
          replace kop := Lib.hid kop
          replace kop2 := Lib.hid kop2
          replace hlr := Lib.hid hlr
          go_wp2_with fail
          with_reducible refine (kw.out _).mono ?_
          rintro E w5 ⟨rfl, hb5⟩
          have hX6 := hX4.out.new hb5
          go_upto_region 10 with (fail)
          generalize hWc : w5.alloc (.cells #[.int .u64 (p : Int), .int .i64 100000, .int .i64 (-100000), .int .i64 (m : Int)] 36 (0, 0)) = V1
          obtain ⟨hX7, hbc, -⟩ := hX6.add hWc
          obtain ⟨cb, hcb⟩ : ∃ cb, w5.heap.size = cb := ⟨_, rfl⟩
          rw [hcb] at hX7 ⊢
          have hB7 := brise hB4.out (brise hb5 hbc)
          replace hX7 := Lib.hid hX7
          replace hB7 := Lib.hid hB7
          replace hcb := Lib.hid hcb
          clear hX6 hbc hb5 hWc
          have u0 := cellB hX7.out.1 (i := 0) rfl
          have u1 := cellB hX7.out.1 (i := 1) rfl
          have u2 := cellB hX7.out.1 (i := 2) rfl
          have u3 := cellB hX7.out.1 (i := 3) rfl
          have y0 := cellB hX7.out.2.1 (i := 0) rfl
          have y1 := cellB hX7.out.2.1 (i := 1) rfl
          have y2 := cellB hX7.out.2.1 (i := 2) rfl
          have y3 := cellB hX7.out.2.1 (i := 3) rfl
          have x0 := cellB hX7.out.2.2.1 (i := 0) rfl
          have x1 := cellB hX7.out.2.2.1 (i := 1) rfl
          have x2 := cellB hX7.out.2.2.1 (i := 2) rfl
          have x3 := cellB hX7.out.2.2.1 (i := 3) rfl
          have kop3 := kop.out _ hB7.out
          replace kop3 := Lib.hid kop3
          go_wp2_with fail
          with_reducible refine kop3.out.mono ?_
          rintro E w6 ⟨qz, cz, rfl, hq, -, hch⟩
          have hbq := cbelow hch
          clear u0 u1 u2 u3 x0 x1 x2 x3 y0 y1 y2 y3 hch kop3
          have hXq := hX7.out.new hbq
          go_upto_region 11 with (fail)
          generalize hWz : w6.alloc (.cells #[.int .i64 0, .bool nz, .slice qz lr cz, .int .i64 E0] 25 (0, 0)) = V2
          obtain ⟨hX8, hbz, -⟩ := hXq.add hWz
          have hB8 := brise hB7.out (brise hbq hbz)
          have hq8 := hq.below hbz
          replace hX8 := Lib.hid hX8
          replace hB8 := Lib.hid hB8
          replace hq8 := Lib.hid hq8
          clear hXq hbz hbq hWz hq
          have u0 := cellB hX8.out.2.1 (i := 0) rfl
          have u1 := cellB hX8.out.2.1 (i := 1) rfl
          have u2 := cellB hX8.out.2.1 (i := 2) rfl
          have u3 := cellB hX8.out.2.1 (i := 3) rfl
          have y0 := cellB hX8.out.2.2.1 (i := 0) rfl
          have y1 := cellB hX8.out.2.2.1 (i := 1) rfl
          have y2 := cellB hX8.out.2.2.1 (i := 2) rfl
          have y3 := cellB hX8.out.2.2.1 (i := 3) rfl
          have x0 := cellB hX8.out.2.2.2.1 (i := 0) rfl
          have x1 := cellB hX8.out.2.2.2.1 (i := 1) rfl
          have x2 := cellB hX8.out.2.2.2.1 (i := 2) rfl
          have x3 := cellB hX8.out.2.2.2.1 (i := 3) rfl
          have kop3 := kop2.out _ hB8.out
          replace kop3 := Lib.hid kop3
          go_wp2_with fail
          with_reducible refine kop3.out.mono ?_
          rintro E w9 ⟨qv, cv, rfl, hq, -, hch⟩
          have hbq := cbelow hch
          clear u0 u1 u2 u3 x0 x1 x2 x3 y0 y1 y2 y3 hch kop3
          have hXq := hX8.out.new hbq
          have hq9 := hq8.out.below hbq
          go_upto_region 12 with (fail)
          generalize hWz : w9.alloc (.cells #[.int .i64 0, .bool nz, .slice qv lr cv, .int .i64 E0] 25 (0, 0)) = V3
          obtain ⟨hX9, hbz, -⟩ := hXq.add hWz
          have hB9 := brise hB8.out (brise hbq hbz)
          have kal := alike_c V3 nz qz qv lr cz cv E0 (digs R) (hq9.below hbz) (hq.below hbz)
          have y0 := cellB hX9.1 (i := 0) rfl
          have y1 := cellB hX9.1 (i := 1) rfl
          have y2 := cellB hX9.1 (i := 2) rfl
          have y3 := cellB hX9.1 (i := 3) rfl
          have x0 := cellB hX9.2.1 (i := 0) rfl
          have x1 := cellB hX9.2.1 (i := 1) rfl
          have x2 := cellB hX9.2.1 (i := 2) rfl
          have x3 := cellB hX9.2.1 (i := 3) rfl
          replace kal := Lib.hid kal
          replace hB9 := Lib.hid hB9
          clear hXq hX9 hbz hbq hWz hq hq9
          go_wp2_with fail
          with_reducible refine kal.out.mono ?_
          rintro E w10 ⟨rfl, hb10⟩
          go_wp2
          go_ret
          exact ⟨by simp, brise hB9.out hb10⟩
    · rw [decide_eq_false hfit2] at kf
      replace kf := Lib.hid kf
      go_wp2_with fail
      with_reducible refine kf.out.mono ?_
      rintro E w2 ⟨rfl, hb⟩
      go_wp2
      go_ret
      exact ⟨rfl, brise hB1.out hb⟩
  · rw [decide_eq_false hfit] at kf
    replace kf := Lib.hid kf
    go_wp2_with fail
    with_reducible refine kf.out.mono ?_
    rintro E w1 ⟨rfl, hb⟩
    go_wp2
    go_ret
    exact ⟨rfl, brise hB0.out hb⟩
end Go.Proofs.YtffjgkghmdhlkaaGreatDoor
