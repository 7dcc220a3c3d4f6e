/- FnSqrtExact: the walk. -/
import Derived.Test.YtcoljeafgiemkaaGreatDoorSL
import Derived.Test.YtcoljeafgiemkaaGreatDoorC40
import Derived.Test.YtcoljeafgiemkaaGreatDoorC21
import Derived.Test.YtcoljeafgiemkaaGreatDoorSB
namespace Go.Proofs.YtcoljeafgiemkaaGreatDoor
open Go Go.RowKit

set_option maxRecDepth 100000 in
set_option maxHeartbeats 8000000 in
theorem FnSqrtExact_walk (prec mode : Int) (f : Int) (n : Bool) (A : Option Addr) (l c : Nat) (X : List Nat) (e : Int) (w : World) (hG : Glob w) (h2 : 0 ≤ prec ∧ prec ≤ 255) (h3 : 0 ≤ mode ∧ mode ≤ 255) (hx : DecIn w f A l c X e) :
    Calls Tryz.prog 8 #[.int .u8 prec, .int .u8 mode, .agg #[.int .i64 f, .bool n, .slice A l c, .int .i64 e]] w fun E w' => E = .returned (.bool true) ∧ Below w.heap.size w w' := by
  obtain ⟨m, hmm⟩ : ∃ m : Nat, mode % 8 = (m : Int) := ⟨(mode % 8).toNat, by omega⟩
  obtain ⟨p, hpp⟩ : ∃ p : Nat, 1 + prec % 60 = (p : Int) := ⟨(1 + prec % 60).toNat, by omega⟩
  have hm : m < 8 := by omega
  have hp1 : 1 ≤ p ∧ p ≤ 60 := by omega
  have kw := fun W => wideC_c W prec mode p m h2 h3 hmm hpp
  have hX := hx.rd
  have kfacts := exactFacts w hG p m hm hp1 e A l c X hX
  have ewp : IntKind.i64.wrap (p : Int) = (p : Int) := IntWalk.i64_in _ (by omega)
  have hlc := hX.cap
  have hcm := hX.max
  replace kw := Lib.hid kw
  replace kfacts := Lib.hid kfacts
  replace hX := Lib.hid hX
  replace hG := Lib.hid hG
  clear h2 h3 hmm hpp hx
  go_enter Tryz.func8, Tryz.ntmps8
  go_upto_region 1 with (fail)
  generalize hW : w.alloc (.cells #[.int .i64 f, .bool n, .slice A l c, .int .i64 e] 24 (0, 0)) = W0
  have hB0 : Below w.heap.size w W0 := by rw [← hW]; exact (Below.refl _ _).alloc (Nat.le_refl _) _
  have hX0 : Bxs [(w.heap.size, #[.int .i64 f, .bool n, .slice A l c, .int .i64 e], 24)] W0 := by rw [← hW]; exact ⟨allocB _ _, trivial⟩
  clear hW
  have kf := fits_c W0 f n A l c e
  have c0 := cellB hX0.1 (i := 0) rfl
  have c1 := cellB hX0.1 (i := 1) rfl
  have c2 := cellB hX0.1 (i := 2) rfl
  have c3 := cellB hX0.1 (i := 3) rfl
  replace hX0 := Lib.hid hX0
  replace hB0 := Lib.hid hB0
  by_cases hfit : l ≤ 2147483647
  · rw [decide_eq_true hfit] at kf
    replace kf := Lib.hid kf
    go_wp2_with fail
    with_reducible refine kf.out.mono ?_
    rintro E w2 ⟨rfl, hb⟩
    have hX2 := hX0.out.new hb
    have hB2 := brise hB0.out hb
    clear c0 c1 c2 c3 kf hb
    have c0 := cellB hX2.1 (i := 0) rfl
    have c1 := cellB hX2.1 (i := 1) rfl
    have c2 := cellB hX2.1 (i := 2) rfl
    have c3 := cellB hX2.1 (i := 3) rfl
    have kq := finite_c w2 f n A l c X e (hX.out.bel hB2)
    replace kq := Lib.hid kq
    replace hX2 := Lib.hid hX2
    replace hB2 := Lib.hid hB2
    go_wp2_with fail
    with_reducible refine kq.out.mono ?_
    rintro E w3 ⟨a0, p0, m0, k0, a2, ok, rfl, hb, hfin⟩
    have hX3 := hX2.out.new hb
    have hB3 := brise hB2.out hb
    clear c0 c1 c2 c3 kq hb
    replace hX3 := Lib.hid hX3
    replace hB3 := Lib.hid hB3
    replace hfin := Lib.hid hfin
    cases ok with
    | false =>
      go_wp2
      go_ret
      exact ⟨rfl, brise hB3.out (bA _ _)⟩
    | true =>
      have fx := hfin.out (by simp)
      have hl3 := fx.len
      have hlo := fx.lo
      have hhi := fx.hi
      have rx := fx.coeff.rd
      have hm0 : m0 ≤ 58 := by
        rw [← rx.len]
        exact d16_len_ten (val3 hX.out.wd hX.out.len hl3).1
      have e1 := fx.form
      have e3 := fx.neg.symm
      have e5 := fx.ex.symm
      subst e1 e3 e5
      obtain ⟨N, hN⟩ : ∃ N, val X = N := ⟨_, rfl⟩
      rw [hN] at rx
      have kfacts := kfacts.out hl3 hlo hhi
      simp only [hN] at kfacts
      replace rx := Lib.hid rx
      replace hN := Lib.hid hN
      replace kfacts := Lib.hid kfacts
      clear hfin fx
      go_upto_region 4 with (fail)
      generalize hWa : w3.alloc (.cells #[.bool n, .slice p0 m0 k0, .int .i64 e] 30 (0, 0)) = W
      obtain ⟨hX4, hb4, -⟩ := hX3.out.add hWa
      obtain ⟨va, hva⟩ : ∃ va, w3.heap.size = va := ⟨_, rfl⟩
      rw [hva] at hX4 ⊢
      have hB4 := brise hB3.out hb4
      have rx4 := rx.out.below hb4
      clear hWa hb4 rx
      replace hX4 := Lib.hid hX4
      replace hB4 := Lib.hid hB4
      replace rx4 := Lib.hid rx4
      replace hva := Lib.hid hva
      have hn0 := d16_len0 rx4.out.len
      by_cases hz : m0 = 0
      · have ksW := fun W => sign_c W n p0 m0 k0 e
        simp only [if_pos hz] at ksW
        replace hz := Lib.hid hz
        replace ksW := Lib.hid ksW
        replace hn0 := Lib.hid hn0
        have v0 := cellB hX4.out.1 (i := 0) rfl
        have v1 := cellB hX4.out.1 (i := 1) rfl
        have v2 := cellB hX4.out.1 (i := 2) rfl
        go_wp2_with fail
        with_reducible refine (ksW.out _).mono ?_
        rintro E w6 ⟨rfl, hbF⟩
        go_wp2
        go_ret
        exact ⟨rfl, brise hB4.out hbF⟩
      · have hN0 : N ≠ 0 := fun h => hz (hn0.2 h)
        cases n with
        | true =>
          have ksW := fun W => sign_c W true p0 m0 k0 e
          simp only [if_neg hz, if_true] at ksW
          replace hz := Lib.hid hz
          replace ksW := Lib.hid ksW
          replace hn0 := Lib.hid hn0
          have v0 := cellB hX4.out.1 (i := 0) rfl
          have v1 := cellB hX4.out.1 (i := 1) rfl
          have v2 := cellB hX4.out.1 (i := 2) rfl
          go_wp2_with fail
          with_reducible refine (ksW.out _).mono ?_
          rintro E w6 ⟨rfl, hbF⟩
          go_wp2
          go_ret
          exact ⟨rfl, brise hB4.out hbF⟩
        | false =>
          obtain ⟨E1, R, cn, bz, kop, hRl, hR16, hb4, kpr, ksm⟩ := kfacts.out hN0
          have kpl := fun W (hr : RdD W p0 m0 k0 (d16 N)) => plain_c W false p0 m0 k0 e N p hr (by omega) hN0 hp1 (by omega)
          have ksW := fun W => sign_c W false p0 m0 k0 e
          simp only [if_neg hz, Bool.false_eq_true, if_false] at ksW
          have v0 := cellB hX4.out.1 (i := 0) rfl
          have v1 := cellB hX4.out.1 (i := 1) rfl
          have v2 := cellB hX4.out.1 (i := 2) rfl
          replace ksW := Lib.hid ksW
          replace hn0 := Lib.hid hn0
          replace kop := Lib.hid kop
          replace kpr := Lib.hid kpr
          replace ksm := Lib.hid ksm
          replace kpl := Lib.hid kpl
          replace hb4 := Lib.hid hb4
          replace hz := Lib.hid hz
          clear kfacts
          go_wp2_with fail
          with_reducible refine (ksW.out _).mono ?_
          rintro E w4 ⟨rfl, hbF⟩
          have hX5 := hX4.out.new hbF
          have hB5 := brise hB4.out hbF
          have rx5 := rx4.out.below hbF
          replace hX5 := Lib.hid hX5
          replace hB5 := Lib.hid hB5
          replace rx5 := Lib.hid rx5
          clear hbF v0 v1 v2 ksW
          go_wp2_with fail
          with_reducible refine (kw.out _).mono ?_
          rintro E w5 ⟨rfl, hb5⟩
          have hX6 := hX5.out.new hb5
          go_upto_region 7 with (fail)
          generalize hWc : w5.alloc (.cells #[.int .u64 (p : Int), .int .i64 100000, .int .i64 (-100000), .int .i64 (m : Int)] 35 (0, 0)) = V1
          obtain ⟨hX7, hbc, -⟩ := hX6.add hWc
          obtain ⟨cb, hcb⟩ : ∃ cb, w5.heap.size = cb := ⟨_, rfl⟩
          rw [hcb] at hX7 ⊢
          have hb6 := brise hb5 hbc
          have hB7 := brise hB5.out hb6
          have rx7 := rx5.out.below hb6
          replace hX7 := Lib.hid hX7
          replace hB7 := Lib.hid hB7
          replace rx7 := Lib.hid rx7
          replace hcb := Lib.hid hcb
          clear hX6 hbc hb6 hb5 hWc
          have kpl2 := kpl.out V1 rx7.out
          have y0 := cellB hX7.out.2.1 (i := 0) rfl
          have y1 := cellB hX7.out.2.1 (i := 1) rfl
          have y2 := cellB hX7.out.2.1 (i := 2) rfl
          have u0 := cellB hX7.out.1 (i := 0) rfl
          have u1 := cellB hX7.out.1 (i := 1) rfl
          have u2 := cellB hX7.out.1 (i := 2) rfl
          have u3 := cellB hX7.out.1 (i := 3) rfl
          replace kpl2 := Lib.hid kpl2
          go_wp2_with fail
          with_reducible refine kpl2.out.mono ?_
          rintro E wp ⟨pb, rfl, hbp, hno⟩
          have hXp := hX7.out.new hbp
          have hBp := brise hB7.out hbp
          have rxp := rx7.out.below hbp
          replace hXp := Lib.hid hXp
          replace hBp := Lib.hid hBp
          replace rxp := Lib.hid rxp
          replace hno := Lib.hid hno
          clear kpl2 kpl hbp y0 y1 y2 u0 u1 u2 u3
          cases pb with
          | true =>
            go_wp2
            go_ret
            exact ⟨rfl, hBp.out⟩
          | false =>
            have ksm2 := ksm.out (hno.out rfl)
            replace ksm2 := Lib.hid ksm2
            clear ksm hno
            have kop2 := kop.out wp hBp.out
            have u0 := cellB hXp.out.1 (i := 0) rfl
            have u1 := cellB hXp.out.1 (i := 1) rfl
            have u2 := cellB hXp.out.1 (i := 2) rfl
            have u3 := cellB hXp.out.1 (i := 3) rfl
            have x0 := cellB hXp.out.2.2.1 (i := 0) rfl
            have x1 := cellB hXp.out.2.2.1 (i := 1) rfl
            have x2 := cellB hXp.out.2.2.1 (i := 2) rfl
            have x3 := cellB hXp.out.2.2.1 (i := 3) rfl
            replace kop2 := Lib.hid kop2
            go_wp2_with fail
            with_reducible refine kop2.out.mono ?_
            rintro E wq ⟨qz, cz, rfl, hq, hch⟩
            have hbq := cbelow hch
            clear u0 u1 u2 u3 x0 x1 x2 x3 hch kop2
            have hXq := hXp.out.new hbq
            go_upto_region 10 with (fail)
            generalize hWz : wq.alloc (.cells #[.int .i64 0, .bool false, .slice qz (digs R).length cz, .int .i64 E1] 24 (0, 0)) = VZ
            obtain ⟨hXZ, hbz, -⟩ := hXq.add hWz
            have hbz2 := brise hbq hbz
            have hBZ := brise hBp.out hbz2
            have hqZ := hq.below hbz
            have rx8 := rxp.out.below hbz2
            replace hXZ := Lib.hid hXZ
            replace hBZ := Lib.hid hBZ
            replace rx8 := Lib.hid rx8
            clear hXq hbz hbz2 hbq hWz hq
            have t0 := cellB hXZ.out.1 (i := 0) rfl
            have t1 := cellB hXZ.out.1 (i := 1) rfl
            have t2 := cellB hXZ.out.1 (i := 2) rfl
            have t3 := cellB hXZ.out.1 (i := 3) rfl
            have ko := ofDec_c _ 0 false qz _ cz (digs R) E1 hqZ (by omega)
            rw [val_digs, show decide ((0 : Int) = 0 ∧ digs R = digs R) = true by simp] at ko
            replace ko := Lib.hid ko
            go_wp2_with fail
            with_reducible refine ko.out.mono ?_
            rintro E wo ⟨gG, lgG, cgG, rfl, hg9⟩
            have hXo := hXZ.out.new hg9.bel
            have hbo := hg9.bel
            have hgr := hg9.rd
            clear t0 t1 t2 t3 ko hg9 hqZ
            go_upto_region 11 with (fail)
            generalize hWg : wo.alloc (.cells #[.bool false, .slice gG lgG cgG, .int .i64 E1] 30 (0, 0)) = VG
            obtain ⟨hXG, hbg, -⟩ := hXo.add hWg
            obtain ⟨gb, hgb⟩ : ∃ gb, wo.heap.size = gb := ⟨_, rfl⟩
            rw [hgb] at hXG ⊢
            have hbo2 := brise hbo hbg
            have hBG := brise hBZ.out hbo2
            have hrG := hgr.below hbg
            have rx9 := rx8.out.below hbo2
            have kpr2 := kpr.out VG.drew gG lgG cgG (hrG.below (bD _))
            unfold ValN at kpr2
            have hS0 : VG.drew.cell? ⟨gb, 0, none⟩ = some (.bool false) ∧ VG.drew.cell? ⟨gb, 1, none⟩ = some (.slice gG lgG cgG) ∧ VG.drew.cell? ⟨gb, 2, none⟩ = some (.int .i64 E1) ∧ VG.drew.cell? ⟨va, 0, none⟩ = some (.bool false) ∧ VG.drew.cell? ⟨va, 1, none⟩ = some (.slice p0 m0 k0) ∧ VG.drew.cell? ⟨va, 2, none⟩ = some (.int .i64 e) := ⟨cellB hXG.drew.1 rfl, cellB hXG.drew.1 rfl, cellB hXG.drew.1 rfl, cellB hXG.drew.2.2.2.1 rfl, cellB hXG.drew.2.2.2.1 rfl, cellB hXG.drew.2.2.2.1 rfl⟩
            have hb4 := hb4.out
            replace hXG := Lib.hid hXG
            replace hBG := Lib.hid hBG
            replace rx9 := Lib.hid rx9
            replace kpr2 := Lib.hid kpr2
            replace hgb := Lib.hid hgb
            clear hXo hbo hbo2 hbg hWg hgr hrG
            go_region_held3 (fun w' => w'.cell? ⟨gb, 0, none⟩ = some (.bool false) ∧ w'.cell? ⟨gb, 1, none⟩ = some (.slice gG lgG cgG) ∧ w'.cell? ⟨gb, 2, none⟩ = some (.int .i64 E1) ∧ w'.cell? ⟨va, 0, none⟩ = some (.bool false) ∧ w'.cell? ⟨va, 1, none⟩ = some (.slice p0 m0 k0) ∧ w'.cell? ⟨va, 2, none⟩ = some (.int .i64 e)) (first | exact hS0 | exact hS1 | exact hS2) (first
              | (go_at_call 37
                 with_reducible refine kpr2.out.mono ?_
                 rintro E w10 ⟨v, lv, cv, rfl, h10⟩
                 have hb10 := bundrew h10.bel
                 have hX10 := hXG.out.new hb10
                 have hS1 : w10.cell? ⟨gb, 0, none⟩ = some (.bool false) ∧ w10.cell? ⟨gb, 1, none⟩ = some (.slice gG lgG cgG) ∧ w10.cell? ⟨gb, 2, none⟩ = some (.int .i64 E1) ∧ w10.cell? ⟨va, 0, none⟩ = some (.bool false) ∧ w10.cell? ⟨va, 1, none⟩ = some (.slice p0 m0 k0) ∧ w10.cell? ⟨va, 2, none⟩ = some (.int .i64 e) := ⟨cellB hX10.1 rfl, cellB hX10.1 rfl, cellB hX10.1 rfl, cellB hX10.2.2.2.1 rfl, cellB hX10.2.2.2.1 rfl, cellB hX10.2.2.2.1 rfl⟩
                 have rx10 := rx9.out.below hb10
                 have hv10 := h10.rd
                 replace hb10 := Lib.hid hb10
                 replace hv10 := Lib.hid hv10
                 replace rx10 := Lib.hid rx10
                 clear hX10 h10)
              | (go_at_call 24
                 with_reducible refine (ksm2.out _ _ _ _ _ _ _ hv10.out rx10.out (by omega)).mono ?_
                 rintro E w11 ⟨rfl, hb11'⟩
                 have hb11 := brise hb10.out hb11'
                 have hX11 := hXG.out.new hb11
                 have hS2 : w11.cell? ⟨gb, 0, none⟩ = some (.bool false) ∧ w11.cell? ⟨gb, 1, none⟩ = some (.slice gG lgG cgG) ∧ w11.cell? ⟨gb, 2, none⟩ = some (.int .i64 E1) ∧ w11.cell? ⟨va, 0, none⟩ = some (.bool false) ∧ w11.cell? ⟨va, 1, none⟩ = some (.slice p0 m0 k0) ∧ w11.cell? ⟨va, 2, none⟩ = some (.int .i64 e) := ⟨cellB hX11.1 rfl, cellB hX11.1 rfl, cellB hX11.1 rfl, cellB hX11.2.2.2.1 rfl, cellB hX11.2.2.2.1 rfl, cellB hX11.2.2.2.1 rfl⟩
                 have hB11 := brise hBG.out hb11
                 replace hB11 := Lib.hid hB11
                 clear hb11' hb11 hX11))
            clear hS0 hS1 hS2
            go_wp2
            go_ret
            exact ⟨by simp, hB11.out⟩
  · rw [decide_eq_false hfit] at kf
    replace kf := Lib.hid kf
    go_wp2_with fail
    with_reducible refine kf.out.mono ?_
    rintro E w1 ⟨rfl, hb⟩
    go_wp2
    go_ret
    exact ⟨rfl, brise hB0.out hb⟩
end Go.Proofs.YtcoljeafgiemkaaGreatDoor
