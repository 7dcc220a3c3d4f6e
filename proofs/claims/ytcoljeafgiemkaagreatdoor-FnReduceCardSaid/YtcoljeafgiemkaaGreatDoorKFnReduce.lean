/- FnReduce: the walk. -/
import Derived.Test.YtcoljeafgiemkaaGreatDoorC46
import Derived.Test.YtcoljeafgiemkaaGreatDoorC21
import Derived.Test.YtcoljeafgiemkaaGreatDoorC40
import Derived.Test.YtcoljeafgiemkaaGreatDoorC26
namespace Go.Proofs.YtcoljeafgiemkaaGreatDoor
open Go Go.RowKit

set_option maxRecDepth 100000 in
set_option maxHeartbeats 8000000 in
theorem FnReduce_walk (prec mode : Int) (f : Int) (n : Bool) (A : Option Addr) (l c : Nat) (X : List Nat) (e : Int) (w : World) (hG : Glob w) (h2 : 0 ≤ prec ∧ prec ≤ 255) (h3 : 0 ≤ mode ∧ mode ≤ 255) (hx : DecIn w f A l c X e) :
    Calls Tryz.prog 5 #[.int .u8 prec, .int .u8 mode, .agg #[.int .i64 f, .bool n, .slice A l c, .int .i64 e]] w fun E w' => E = .returned (.bool true) ∧ Below w.heap.size w w' := by
  obtain ⟨m, hmm⟩ : ∃ m : Nat, mode % 8 = (m : Int) := ⟨(mode % 8).toNat, by omega⟩
  obtain ⟨p, hpp⟩ : ∃ p : Nat, 1 + prec % 60 = (p : Int) := ⟨(1 + prec % 60).toNat, by omega⟩
  have hm : m < 8 := by omega
  have hp1 : 1 ≤ p ∧ p ≤ 60 := by omega
  have kw := fun W => wideC_c W prec mode p m h2 h3 hmm hpp
  have hX := hx.rd
  have kfacts := reduceFacts w hG p m hm hp1 e n A l c X hX
  have ewp : IntKind.i64.wrap (p : Int) = (p : Int) := IntWalk.i64_in _ (by omega)
  have hlc := hX.cap
  have hcm := hX.max
  replace kw := Lib.hid kw
  replace kfacts := Lib.hid kfacts
  replace hX := Lib.hid hX
  replace hG := Lib.hid hG
  clear h2 h3 hmm hpp hx
  go_enter Tryz.func5, Tryz.ntmps5
  go_upto_region 1 with (fail)
  generalize hW : w.alloc (.cells #[.int .i64 f, .bool n, .slice A l c, .int .i64 e] 24 (0, 0)) = W0
  have hB0 : Below w.heap.size w W0 := by rw [← hW]; exact (Below.refl _ _).alloc (Nat.le_refl _) _
  have hX0 : Bxs [(w.heap.size, #[.int .i64 f, .bool n, .slice A l c, .int .i64 e], 24)] W0 := by rw [← hW]; exact ⟨allocB _ _, trivial⟩
  clear hW
  have kf := fits_c W0 f n A l c e
  have c0 := cellB hX0.1 (i := 0) rfl
  have c1 := cellB hX0.1 (i := 1) rfl
  have c2 := cellB hX0.1 (i := 2) rfl
  have c3 := cellB hX0.1 (i := 3) rfl
  replace hX0 := Lib.hid hX0
  replace hB0 := Lib.hid hB0
  by_cases hfit : l ≤ 2147483647
  · rw [decide_eq_true hfit] at kf
    replace kf := Lib.hid kf
    go_wp2_with fail
    with_reducible refine kf.out.mono ?_
    rintro E w2 ⟨rfl, hb⟩
    have hX2 := hX0.out.new hb
    have hB2 := brise hB0.out hb
    clear c0 c1 c2 c3 kf hb
    have c0 := cellB hX2.1 (i := 0) rfl
    have c1 := cellB hX2.1 (i := 1) rfl
    have c2 := cellB hX2.1 (i := 2) rfl
    have c3 := cellB hX2.1 (i := 3) rfl
    have kq := finite_c w2 f n A l c X e (hX.out.bel hB2)
    replace kq := Lib.hid kq
    replace hX2 := Lib.hid hX2
    replace hB2 := Lib.hid hB2
    go_wp2_with fail
    with_reducible refine kq.out.mono ?_
    rintro E w3 ⟨a0, p0, m0, k0, a2, ok, rfl, hb, hfin⟩
    have hX3 := hX2.out.new hb
    have hB3 := brise hB2.out hb
    clear c0 c1 c2 c3 kq hb
    replace hX3 := Lib.hid hX3
    replace hB3 := Lib.hid hB3
    replace hfin := Lib.hid hfin
    cases ok with
    | false =>
      go_wp2_with fail
      with_reducible refine (kw.out _).mono ?_
      rintro E w4 ⟨rfl, hb4⟩
      have hB4 := brise (brise hB3.out (bA _ _)) hb4
      clear hb4
      replace hB4 := Lib.hid hB4
      go_upto_region 5 with (fail)
      go_quiet (fail)
      go_wp2
      go_ret
      exact ⟨rfl, by first | exact Below.drwN (brise hB4.out (bA _ _)) _ | exact brise hB4.out (bA _ _)⟩
    | true =>
      have fx := hfin.out (by simp)
      have hl3 := fx.len
      have hlo := fx.lo
      have hhi := fx.hi
      have rx := fx.coeff.rd
      have hm0 : m0 ≤ 58 := by
        rw [← rx.len]
        exact d16_len_ten (val3 hX.out.wd hX.out.len hl3).1
      have e1 := fx.form
      have e3 := fx.neg.symm
      have e5 := fx.ex.symm
      subst e1 e3 e5
      have kfacts := kfacts.out hl3 hlo hhi
      obtain ⟨N, hN⟩ : ∃ N, val X = N := ⟨_, rfl⟩
      rw [hN] at rx
      simp only [hN] at kfacts
      replace rx := Lib.hid rx
      replace hN := Lib.hid hN
      replace kfacts := Lib.hid kfacts
      clear hfin fx
      go_upto_region 4 with (fail)
      generalize hWa : w3.alloc (.cells #[.bool n, .slice p0 m0 k0, .int .i64 e] 30 (0, 0)) = W
      obtain ⟨hX4, hb4, -⟩ := hX3.out.add hWa
      obtain ⟨va, hva⟩ : ∃ va, w3.heap.size = va := ⟨_, rfl⟩
      rw [hva] at hX4 ⊢
      have hB4 := brise hB3.out hb4
      have rx4 := rx.out.below hb4
      clear hWa hb4 rx
      replace hX4 := Lib.hid hX4
      replace hB4 := Lib.hid hB4
      replace rx4 := Lib.hid rx4
      replace hva := Lib.hid hva
      go_wp2_with fail
      with_reducible refine (kw.out _).mono ?_
      rintro E w5 ⟨rfl, hb5⟩
      have hX6 := hX4.out.new hb5
      go_upto_region 5 with (fail)
      generalize hWc : w5.alloc (.cells #[.int .u64 (p : Int), .int .i64 100000, .int .i64 (-100000), .int .i64 (m : Int)] 35 (0, 0)) = V1
      obtain ⟨hX7, hbc, -⟩ := hX6.add hWc
      obtain ⟨cb, hcb⟩ : ∃ cb, w5.heap.size = cb := ⟨_, rfl⟩
      rw [hcb] at hX7 ⊢
      have hb6 := brise hb5 hbc
      have hB7 := brise hB4.out hb6
      have rx7 := rx4.out.below hb6
      have hn0 := d16_len0 rx7.len
      have ks := sign_c V1.drew n p0 m0 k0 e
      have hS0 : V1.drew.cell? ⟨va, 0, none⟩ = some (.bool n) ∧ V1.drew.cell? ⟨va, 1, none⟩ = some (.slice p0 m0 k0) ∧ V1.drew.cell? ⟨va, 2, none⟩ = some (.int .i64 e) ∧ V1.drew.cell? ⟨cb, 0, none⟩ = some (.int .u64 (p : Int)) := ⟨cellB hX7.drew.2.1 rfl, cellB hX7.drew.2.1 rfl, cellB hX7.drew.2.1 rfl, cellB hX7.drew.1 rfl⟩
      replace hX7 := Lib.hid hX7
      replace hB7 := Lib.hid hB7
      replace rx7 := Lib.hid rx7
      replace hcb := Lib.hid hcb
      clear hX6 hbc hb6 hb5 hWc
      by_cases hz : m0 = 0
      · have ksW := fun W => sign_c W n p0 m0 k0 e
        simp only [if_pos hz] at ksW
        replace ksW := Lib.hid ksW
        replace hz := Lib.hid hz
        replace hn0 := Lib.hid hn0
        have v0 := cellB hX7.out.2.1 (i := 0) rfl
        have v1 := cellB hX7.out.2.1 (i := 1) rfl
        have v2 := cellB hX7.out.2.1 (i := 2) rfl
        clear hS0 ks
        first
          | (go_region_with ((go_at_call 25; refine (ksW.out _).mono ?_; rintro E w6 ⟨rfl, hbF⟩)))
          | fail
        all_goals
          go_wp2
          go_ret
          exact ⟨rfl, by first | exact brise hB7.out (bundrew hbF) | exact brise hB7.out hbF⟩
      · have hN0 : N ≠ 0 := fun h => hz (hn0.2 h)
        rw [if_neg hz] at ks
        obtain ⟨sg, hsg⟩ : ∃ sg : Int, (if n then -1 else 1) = sg := ⟨_, rfl⟩
        rw [hsg] at ks
        have hsg0 := sgn_ne n hsg
        have kfg := fun W (hb : Below V1.drew.heap.size V1.drew W) => figuresD_c W p0 m0 k0 N ((rx7.out.below (bD _)).below hb) (by omega)
        replace ks := Lib.hid ks
        replace hsg := Lib.hid hsg
        replace kfg := Lib.hid kfg
        go_region_held3 (fun w' => w'.cell? ⟨va, 0, none⟩ = some (.bool n) ∧ w'.cell? ⟨va, 1, none⟩ = some (.slice p0 m0 k0) ∧ w'.cell? ⟨va, 2, none⟩ = some (.int .i64 e) ∧ w'.cell? ⟨cb, 0, none⟩ = some (.int .u64 (p : Int))) (first | exact hS0 | exact hS1 | exact hS2) (first
          | (go_at_call 25
             with_reducible refine ks.out.mono ?_
             rintro E w5' ⟨rfl, hbF'⟩
             have hbF := bundrew hbF'
             have hX8' := hX7.out.new hbF
             have hS1 : w5'.cell? ⟨va, 0, none⟩ = some (.bool n) ∧ w5'.cell? ⟨va, 1, none⟩ = some (.slice p0 m0 k0) ∧ w5'.cell? ⟨va, 2, none⟩ = some (.int .i64 e) ∧ w5'.cell? ⟨cb, 0, none⟩ = some (.int .u64 (p : Int)) := ⟨cellB hX8'.2.1 rfl, cellB hX8'.2.1 rfl, cellB hX8'.2.1 rfl, cellB hX8'.1 rfl⟩
             have hB8' := brise hB7.out hbF
             have rx8' := rx7.out.below hbF
             replace hX8' := Lib.hid hX8'
             replace hB8' := Lib.hid hB8'
             replace rx8' := Lib.hid rx8'
             have hbV := Lib.hid hbF'
             clear hbF' hbF)
          | (go_at_call 18
             with_reducible refine (kfg.out _ hbV.out).mono ?_
             rintro E w6 ⟨rfl, hbF⟩
             have hX8 := hX8'.out.new hbF
             have hS2 : w6.cell? ⟨va, 0, none⟩ = some (.bool n) ∧ w6.cell? ⟨va, 1, none⟩ = some (.slice p0 m0 k0) ∧ w6.cell? ⟨va, 2, none⟩ = some (.int .i64 e) ∧ w6.cell? ⟨cb, 0, none⟩ = some (.int .u64 (p : Int)) := ⟨cellB hX8.2.1 rfl, cellB hX8.2.1 rfl, cellB hX8.2.1 rfl, cellB hX8.1 rfl⟩
             have hB8 := brise hB8'.out hbF
             have rx8 := rx8'.out.below hbF
             replace hX8 := Lib.hid hX8
             replace hB8 := Lib.hid hB8
             replace rx8 := Lib.hid rx8
             clear hbF))
        clear hS0 hS1 hS2 kfg
        by_cases hf : figs N ≤ p
        · have hg1 : decide ((figs N : Int) > (p : Int)) = false := decide_eq_false (by omega)
          obtain ⟨E1, K, R, kop, kba, kis, hRl⟩ := kfacts.out hN0 hf
          have kba2 := kba w6 p0 m0 k0 rx8.out
          unfold BareQ at kba2
          replace kop := Lib.hid kop
          replace kis := Lib.hid kis
          replace kba2 := Lib.hid kba2
          clear kba kfacts
          have y0 := cellB hX8.out.2.1 (i := 0) rfl
          have y1 := cellB hX8.out.2.1 (i := 1) rfl
          have y2 := cellB hX8.out.2.1 (i := 2) rfl
          go_wp2_with fail
          with_reducible refine kba2.out.mono ?_
          rintro E w8 ⟨v, lv, cv, rfl, hv, hb8⟩
          have hX9 := hX8.out.new hb8
          clear y0 y1 y2 kba2
          go_upto_region 8 with (fail)
          generalize hWw : w8.alloc (.cells #[.bool n, .slice v lv cv, .int .i64 E1] 30 (0, 0)) = V2
          obtain ⟨hX10, hbw, -⟩ := hX9.add hWw
          have hB10 := brise hB8.out (brise hb8 hbw)
          have hv10 := hv.below hbw
          have kop2 := kop.out V2 hB10
          have u0 := cellB hX10.2.1 (i := 0) rfl
          have u1 := cellB hX10.2.1 (i := 1) rfl
          have u2 := cellB hX10.2.1 (i := 2) rfl
          have u3 := cellB hX10.2.1 (i := 3) rfl
          have x0 := cellB hX10.2.2.2.1 (i := 0) rfl
          have x1 := cellB hX10.2.2.2.1 (i := 1) rfl
          have x2 := cellB hX10.2.2.2.1 (i := 2) rfl
          have x3 := cellB hX10.2.2.2.1 (i := 3) rfl
          replace hX10 := Lib.hid hX10
          replace hB10 := Lib.hid hB10
          replace hv10 := Lib.hid hv10
          unfold TellK at kop2
          replace kop2 := Lib.hid kop2
          clear hX9 hbw hb8 hWw hv
          go_wp2_with fail
          with_reducible refine kop2.out.mono ?_
          rintro E w9 ⟨qz, cz, rfl, hq, hch⟩
          have hbq := cbelow hch
          clear u0 u1 u2 u3 x0 x1 x2 x3 hch kop2
          have hXq := hX10.out.new hbq
          go_upto_region 9 with (fail)
          generalize hWz : w9.alloc (.cells #[.int .i64 0, .bool n, .slice qz (digs R).length cz, .int .i64 E1] 24 (0, 0)) = V3
          obtain ⟨hX11, hbz, -⟩ := hXq.add hWz
          have hbz2 := brise hbq hbz
          have hB11 := brise hB10.out hbz2
          have hv11 := hv10.out.below hbz2
          have hq11 := hq.below hbz
          have kis2 := kis.out V3 qz _ cz v lv cv hq11 hv11 (by omega)
          have hand : bits .and .i64 0 4 = 0 := by kernel_rfl
          have t0 := cellB hX11.1 (i := 0) rfl
          have t1 := cellB hX11.1 (i := 1) rfl
          have t2 := cellB hX11.1 (i := 2) rfl
          have t3 := cellB hX11.1 (i := 3) rfl
          have g0 := cellB hX11.2.1 (i := 0) rfl
          have g1 := cellB hX11.2.1 (i := 1) rfl
          have g2 := cellB hX11.2.1 (i := 2) rfl
          replace kis2 := Lib.hid kis2
          replace hX11 := Lib.hid hX11
          replace hB11 := Lib.hid hB11
          clear hXq hbz hbz2 hbq hWz hq hq11 hv11
          go_wp2_with fail
          with_reducible refine kis2.out.mono ?_
          rintro E w14 ⟨rfl, hb14⟩
          go_wp2
          go_ret
          exact ⟨by simp, brise hB11.out hb14⟩
        · have hg1 : decide ((figs N : Int) > (p : Int)) = true := decide_eq_true (by omega)
          go_wp2
          go_ret
          exact ⟨rfl, hB8.out⟩
  · rw [decide_eq_false hfit] at kf
    replace kf := Lib.hid kf
    go_wp2_with fail
    with_reducible refine kf.out.mono ?_
    rintro E w1 ⟨rfl, hb⟩
    go_wp2
    go_ret
    exact ⟨rfl, brise hB0.out hb⟩
end Go.Proofs.YtcoljeafgiemkaaGreatDoor
