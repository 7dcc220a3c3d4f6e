/- FnQuantize: the walk. -/
import Derived.Test.YtcoljeafgiemkaaGreatDoorY49
import Derived.Test.YtcoljeafgiemkaaGreatDoorO23
import Derived.Test.YtcoljeafgiemkaaGreatDoorC34
import Derived.Test.YtcoljeafgiemkaaGreatDoorC40
import Derived.Test.YtcoljeafgiemkaaGreatDoorC21
import Derived.Test.YtcoljeafgiemkaaGreatDoorC26
namespace Go.Proofs.YtcoljeafgiemkaaGreatDoor
open Go Go.RowKit

set_option maxRecDepth 100000 in
set_option maxHeartbeats 8000000 in
theorem FnQuantize_walk (prec mode : Int) (f : Int) (n : Bool) (A : Option Addr) (l c : Nat) (X : List Nat) (e x8 : Int) (w : World) (hG : Glob w) (h2 : 0 ≤ prec ∧ prec ≤ 255) (h3 : 0 ≤ mode ∧ mode ≤ 255) (hx : DecIn w f A l c X e) (h8 : -128 ≤ x8 ∧ x8 ≤ 127) :
    Calls Tryz.prog 3 #[.int .u8 prec, .int .u8 mode, .agg #[.int .i64 f, .bool n, .slice A l c, .int .i64 e], .int .i8 x8] w fun E w' => E = .returned (.bool true) ∧ Below w.heap.size w w' := by
  obtain ⟨m, hmm⟩ : ∃ m : Nat, mode % 8 = (m : Int) := ⟨(mode % 8).toNat, by omega⟩
  obtain ⟨p, hpp⟩ : ∃ p : Nat, 1 + prec % 60 = (p : Int) := ⟨(1 + prec % 60).toNat, by omega⟩
  have hm : m < 8 := by omega
  have hp1 : 1 ≤ p ∧ p ≤ 60 := by omega
  have kw := fun W => wideC_c W prec mode p m h2 h3 hmm hpp
  have hX := hx.rd
  have ew8 : IntKind.i64.wrap x8 = x8 := IntWalk.i64_in _ (by omega)
  obtain ⟨u, hu⟩ : ∃ u, Int.tmod x8 101 = u := ⟨_, rfl⟩
  have hu1 : -100 ≤ u ∧ u ≤ 100 := by
    rw [← hu]
    rcases Int.le_total 0 x8 with h | h
    · have h1 := Int.tmod_eq_emod_of_nonneg (b := 101) h
      omega
    · have h1 := Int.neg_tmod (a := -x8) (b := 101)
      rw [Int.neg_neg] at h1
      have h2 := Int.tmod_eq_emod_of_nonneg (a := -x8) (b := 101) (by omega)
      omega
  have ewu : IntKind.i64.wrap u = u := IntWalk.i64_in _ (by omega)
  have kfacts := quantFacts w hG p m hm hp1 e u n A l c X hX
  have ewp : IntKind.i64.wrap (p : Int) = (p : Int) := IntWalk.i64_in _ (by omega)
  have hlc := hX.cap
  have hcm := hX.max
  replace kw := Lib.hid kw
  replace kfacts := Lib.hid kfacts
  replace hX := Lib.hid hX
  replace hG := Lib.hid hG
  clear h2 h3 hmm hpp hx h8
  go_enter Tryz.func3, Tryz.ntmps3
  go_upto_region 1 with (fail)
  generalize hW : w.alloc (.cells #[.int .i64 f, .bool n, .slice A l c, .int .i64 e] 24 (0, 0)) = W0
  have hB0 : Below w.heap.size w W0 := by rw [← hW]; exact (Below.refl _ _).alloc (Nat.le_refl _) _
  have hX0 : Bxs [(w.heap.size, #[.int .i64 f, .bool n, .slice A l c, .int .i64 e], 24)] W0 := by rw [← hW]; exact ⟨allocB _ _, trivial⟩
  clear hW
  have kf := fits_c W0 f n A l c e
  have c0 := cellB hX0.1 (i := 0) rfl
  have c1 := cellB hX0.1 (i := 1) rfl
  have c2 := cellB hX0.1 (i := 2) rfl
  have c3 := cellB hX0.1 (i := 3) rfl
  replace hX0 := Lib.hid hX0
  replace hB0 := Lib.hid hB0
  by_cases hfit : l ≤ 2147483647
  · rw [decide_eq_true hfit] at kf
    replace kf := Lib.hid kf
    go_wp2_with fail
    with_reducible refine kf.out.mono ?_
    rintro E w2 ⟨rfl, hb⟩
    have hX2 := hX0.out.new hb
    have hB2 := brise hB0.out hb
    clear c0 c1 c2 c3 kf hb
    have c0 := cellB hX2.1 (i := 0) rfl
    have c1 := cellB hX2.1 (i := 1) rfl
    have c2 := cellB hX2.1 (i := 2) rfl
    have c3 := cellB hX2.1 (i := 3) rfl
    have kq := finite_c w2 f n A l c X e (hX.out.bel hB2)
    replace kq := Lib.hid kq
    replace hX2 := Lib.hid hX2
    replace hB2 := Lib.hid hB2
    go_wp2_with fail
    with_reducible refine kq.out.mono ?_
    rintro E w3 ⟨a0, p0, m0, k0, a2, ok, rfl, hb, hfin⟩
    have hX3 := hX2.out.new hb
    have hB3 := brise hB2.out hb
    clear c0 c1 c2 c3 kq hb
    replace hX3 := Lib.hid hX3
    replace hB3 := Lib.hid hB3
    replace hfin := Lib.hid hfin
    cases ok with
    | false =>
      go_wp2
      go_ret
      exact ⟨rfl, brise hB3.out (bA _ _)⟩
    | true =>
      have fx := hfin.out (by simp)
      have hl3 := fx.len
      have hlo := fx.lo
      have hhi := fx.hi
      have rx := fx.coeff.rd
      have hm0 : m0 ≤ 58 := by
        rw [← rx.len]
        exact d16_len_ten (val3 hX.out.wd hX.out.len hl3).1
      have e1 := fx.form
      have e3 := fx.neg.symm
      have e5 := fx.ex.symm
      subst e1 e3 e5
      have kfacts := kfacts.out hl3 hlo hhi hu1
      obtain ⟨N, hN⟩ : ∃ N, val X = N := ⟨_, rfl⟩
      rw [hN] at rx
      simp only [hN] at kfacts
      replace rx := Lib.hid rx
      replace hN := Lib.hid hN
      replace kfacts := Lib.hid kfacts
      clear hfin fx
      go_upto_region 4 with (fail)
      generalize hWa : w3.alloc (.cells #[.bool n, .slice p0 m0 k0, .int .i64 e] 30 (0, 0)) = W
      obtain ⟨hX4, hb4, -⟩ := hX3.out.add hWa
      obtain ⟨va, hva⟩ : ∃ va, w3.heap.size = va := ⟨_, rfl⟩
      rw [hva] at hX4 ⊢
      have hB4 := brise hB3.out hb4
      have rx4 := rx.out.below hb4
      clear hWa hb4 rx
      replace hX4 := Lib.hid hX4
      replace hB4 := Lib.hid hB4
      replace rx4 := Lib.hid rx4
      replace hva := Lib.hid hva
      go_wp2_with fail
      with_reducible refine (kw.out _).mono ?_
      rintro E w5 ⟨rfl, hb5⟩
      have hX6 := hX4.out.new hb5
      go_upto_region 8 with (fail)
      generalize hWc : w5.alloc (.cells #[.int .u64 (p : Int), .int .i64 100000, .int .i64 (-100000), .int .i64 (m : Int)] 35 (0, 0)) = V1
      obtain ⟨hX7, hbc, -⟩ := hX6.add hWc
      obtain ⟨cb, hcb⟩ : ∃ cb, w5.heap.size = cb := ⟨_, rfl⟩
      rw [hcb] at hX7 ⊢
      have hb6 := brise hb5 hbc
      have hB7 := brise hB4.out hb6
      have rx7 := rx4.out.below hb6
      have kfr := far_c V1 n p0 m0 k0 e u N m rx7 (by omega) hm (by omega) (by omega)
      have y0 := cellB hX7.2.1 (i := 0) rfl
      have y1 := cellB hX7.2.1 (i := 1) rfl
      have y2 := cellB hX7.2.1 (i := 2) rfl
      have g0 := cellB hX7.1 (i := 0) rfl
      have g1 := cellB hX7.1 (i := 1) rfl
      have g2 := cellB hX7.1 (i := 2) rfl
      have g3 := cellB hX7.1 (i := 3) rfl
      replace hX7 := Lib.hid hX7
      replace hB7 := Lib.hid hB7
      replace rx7 := Lib.hid rx7
      replace hcb := Lib.hid hcb
      replace kfr := Lib.hid kfr
      clear hX6 hbc hb6 hb5 hWc
      go_wp2_with fail
      with_reducible refine kfr.out.mono ?_
      rintro E w6 ⟨fb, rfl, hbF, hnear⟩
      have hX8 := hX7.out.new hbF
      have hB8 := brise hB7.out hbF
      have rx8 := rx7.out.below hbF
      replace hX8 := Lib.hid hX8
      replace hB8 := Lib.hid hB8
      replace rx8 := Lib.hid rx8
      replace hnear := Lib.hid hnear
      clear hbF y0 y1 y2 g0 g1 g2 g3 kfr
      cases fb with
      | true =>
        go_wp2
        go_ret
        exact ⟨rfl, hB8.out⟩
      | false =>
        obtain ⟨RW, cn, ix, kop, kno, hup, hdn, hb4, hb256, hRl, hR16⟩ := kfacts.out (hnear.out rfl)
        obtain ⟨kk, hkk⟩ : ∃ kk : Nat, (kk : Int) = max 0 (e - u) := ⟨(max 0 (e - u)).toNat, by omega⟩
        have hkk1 : kk ≤ 10000 := by omega
        have emx : max 0 (e - u) = (kk : Int) := hkk.symm
        have ewe : IntKind.i64.wrap (e - u) = e - u := IntWalk.i64_in _ (by omega)
        obtain ⟨P0, hP0⟩ : ∃ P0, N * 10 ^ kk = P0 := ⟨_, rfl⟩
        replace kop := Lib.hid kop
        replace kno := Lib.hid kno
        replace hup := Lib.hid hup
        replace hdn := Lib.hid hdn
        replace hb4 := Lib.hid hb4
        replace hb256 := Lib.hid hb256
        replace hkk := Lib.hid hkk
        replace hP0 := Lib.hid hP0
        clear kfacts
        by_cases hfR : figs RW ≤ p
        · have hgF : decide ((figs RW : Int) > (p : Int)) = false := decide_eq_false (by omega)
          have hgF2 : ¬ (p : Int) < (figs RW : Int) := by omega
          have kop2 := kop.out hfR w6 hB8.out
          have u0 := cellB hX8.out.1 (i := 0) rfl
          have u1 := cellB hX8.out.1 (i := 1) rfl
          have u2 := cellB hX8.out.1 (i := 2) rfl
          have u3 := cellB hX8.out.1 (i := 3) rfl
          have x0 := cellB hX8.out.2.2.1 (i := 0) rfl
          have x1 := cellB hX8.out.2.2.1 (i := 1) rfl
          have x2 := cellB hX8.out.2.2.1 (i := 2) rfl
          have x3 := cellB hX8.out.2.2.1 (i := 3) rfl
          replace kop2 := Lib.hid kop2
          go_wp2_with fail
          with_reducible refine kop2.out.mono ?_
          rintro E w9 ⟨qz, cz, rfl, hq, hch⟩
          have hbq := cbelow hch
          clear u0 u1 u2 u3 x0 x1 x2 x3 hch kop2
          have hXq := hX8.out.new hbq
          go_upto_region 11 with (fail)
          generalize hWz : w9.alloc (.cells #[.int .i64 0, .bool n, .slice qz (digs RW).length cz, .int .i64 u] 24 (0, 0)) = V2
          obtain ⟨hX10, hbz, -⟩ := hXq.add hWz
          obtain ⟨zb, hzb⟩ : ∃ zb, w9.heap.size = zb := ⟨_, rfl⟩
          rw [hzb] at hX10 ⊢
          have hbz2 := brise hbq hbz
          have hB10 := brise hB8.out hbz2
          have rx10 := rx8.out.below hbz2
          have hq10 := hq.below hbz
          replace hq10 := Lib.hid hq10
          clear hq
          replace hX10 := Lib.hid hX10
          replace hB10 := Lib.hid hB10
          replace rx10 := Lib.hid rx10
          replace hzb := Lib.hid hzb
          clear hXq hbz hbz2 hbq hWz
          have hSC : ∀ w', Bxs [(zb, #[.int .i64 0, .bool n, .slice qz (digs RW).length cz, .int .i64 u], 24), (cb, #[.int .u64 (p : Int), .int .i64 100000, .int .i64 (-100000), .int .i64 (m : Int)], 35), (va, #[.bool n, .slice p0 m0 k0, .int .i64 e], 30), (w.heap.size, #[.int .i64 0, .bool n, .slice A l c, .int .i64 e], 24)] w' → w'.cell? ⟨va, 0, none⟩ = some (.bool n) ∧ w'.cell? ⟨va, 1, none⟩ = some (.slice p0 m0 k0) ∧ w'.cell? ⟨va, 2, none⟩ = some (.int .i64 e) := fun w' h => ⟨cellB h.2.2.1 rfl, cellB h.2.2.1 rfl, cellB h.2.2.1 rfl⟩
          have hS0 := hSC _ hX10.out.drew
          have hSda := fun o => hSC _ (hX10.out.drew.al o)
          have hSad := fun o => hSC _ (hX10.out.al o).drew
          have kpw := fun W' => pow10_c W' kk hkk1
          have kml := fun W' b1 l1 c1 (hb : Below V2.heap.size V2 W') (hr : RdD W' b1 l1 c1 (d16 (10 ^ kk))) => mulD_c W' p0 b1 m0 k0 l1 c1 N (10 ^ kk) (rx10.out.below hb) hr (by omega) (by rw [← hr.len]; exact Nat.le_trans (d16_len_ten (j := kk + 1) (Nat.pow_lt_pow_right (by omega) (Nat.lt_succ_self _))) (by omega))
          rw [hP0.out] at kml
          replace hSC := Lib.hid hSC
          replace kpw := Lib.hid kpw
          replace kml := Lib.hid kml
          go_cut [16] (fun v16 wx => ∃ wb v lv cv, v16 = .pointer (some ⟨wb, 0, none⟩) ∧ Bxs ((wb, #[.bool n, .slice v lv cv, .int .i64 u], 30) :: [(zb, #[.int .i64 0, .bool n, .slice qz (digs RW).length cz, .int .i64 u], 24), (cb, #[.int .u64 (p : Int), .int .i64 100000, .int .i64 (-100000), .int .i64 (m : Int)], 35), (va, #[.bool n, .slice p0 m0 k0, .int .i64 e], 30), (w.heap.size, #[.int .i64 0, .bool n, .slice A l c, .int .i64 e], 24)]) wx ∧ Below V2.heap.size V2 wx ∧ RdD wx v lv cv (d16 P0) ∧ V2.heap.size ≤ wb)
          case first =>
            go_region_held3 (fun w' => w'.cell? ⟨va, 0, none⟩ = some (.bool n) ∧ w'.cell? ⟨va, 1, none⟩ = some (.slice p0 m0 k0) ∧ w'.cell? ⟨va, 2, none⟩ = some (.int .i64 e)) (with_reducible (first | exact hS0 | exact hS1 | exact hS2 | exact hSda _ | exact hSad _ | exact hS1a _ | exact hS2a _ | exact hS2c _ (Nat.le_refl _) _ _ _ | exact hS2c _ hb1.out.size _ _ _)) (first
              | (go_at_call 16
                 with_reducible refine (kpw.out _).mono ?_
                 rintro E v1 ⟨a1, l1, c1, rfl, h1⟩
                 have hb1 : Below V2.heap.size V2 v1 := brise (by first | exact bD _ | exact bDA _ _ | exact bAD _ _) h1.bel
                 have hX1 := hX10.out.new hb1
                 have hS1 := hSC.out _ hX1
                 have hS1a := fun o => hSC.out _ (hX1.al o)
                 first
                   | (have hZ := bkeep h1.bel (show (((V2.alloc _).drew).heap)[V2.heap.size]? = some (.cells #[.bool false, .slice none 0 0, .int .i64 0] 30 (0, 0)) from allocB V2 _)
                      replace hZ := Lib.hid hZ)
                   | (have hZ := bkeep h1.bel (show (((V2.drew).alloc _).heap)[V2.heap.size]? = some (.cells #[.bool false, .slice none 0 0, .int .i64 0] 30 (0, 0)) from allocB V2.drew _)
                      replace hZ := Lib.hid hZ)
                   | skip
                 have hsz1 := h1.bel.size
                 have hrow1 := h1.rd
                 replace h1 := Lib.hid h1
                 replace hb1 := Lib.hid hb1
                 replace hX1 := Lib.hid hX1
                 replace hsz1 := Lib.hid hsz1
                 replace hrow1 := Lib.hid hrow1)
              | (go_at_call 15
                 with_reducible refine (kml.out _ a1 l1 c1 (by first | exact hb1.out | exact brise hb1.out (bA _ _)) (by first | exact hrow1.out | exact hrow1.out.below (bA _ _))).mono ?_
                 rintro E v2 ⟨v, lv, cv, rfl, h2⟩
                 have hb := h2.bel
                 have hb2 : Below V2.heap.size V2 v2 := brise (by first | exact hb1.out | exact brise hb1.out (bA _ _)) hb
                 have hv := h2.rd
                 have hloc := h2.loc
                 first
                   | (have hZ2 := bkeep hb hZ.out
                      have z0 := cellB hZ2 (i := 0) rfl
                      have z1 := cellB hZ2 (i := 1) rfl
                      have z2 := cellB hZ2 (i := 2) rfl
                      have y0 := frozenB hZ2 0
                      have y1 := frozenB hZ2 1
                      have y2 := frozenB hZ2 2
                      replace hZ2 := Lib.hid hZ2)
                   | (have hZ2 := bkeep hb (allocB v1 (.cells #[.bool false, .slice none 0 0, .int .i64 0] 30 (0, 0)))
                      have z0 := cellB hZ2 (i := 0) rfl
                      have z1 := cellB hZ2 (i := 1) rfl
                      have z2 := cellB hZ2 (i := 2) rfl
                      have y0 := frozenB hZ2 0
                      have y1 := frozenB hZ2 1
                      have y2 := frozenB hZ2 2
                      replace hZ2 := Lib.hid hZ2)
                   | skip
                 have hS2 := hSC.out _ (hX10.out.new hb2)
                 have hS2a := fun o => hSC.out _ ((hX10.out.new hb2).al o)
                 have hS2c := fun k (hk : V2.heap.size ≤ k) u0 u1 u2 => hSC.out _ (Bxs.box hX10.out (hX10.out.new hb2) (chg3 v2 k u0 u1 u2) hk)
                 have hsz2 := hb.size
                 replace hb2 := Lib.hid hb2
                 replace hv := Lib.hid hv
                 replace hloc := Lib.hid hloc
                 replace hsz2 := Lib.hid hsz2
                 clear h2
                 replace hb := Lib.hid hb))
            all_goals
              clear hS0 hS1 hS2 hSda hSad hS1a hS2a hS2c
              first
                | (obtain ⟨Vn, hVn, hE, hq9⟩ := pack3 hZ2.out (.bool n) (.slice v lv cv) (.int .i64 u)
                   rw [hVn])
                | (obtain ⟨Vn, hVn, hE, hq9⟩ := pack1' v2 (.cells #[.bool n, .slice v lv cv, .int .i64 u] 30 (0, 0))
                   rw [hVn])
              have hrow9 := hv.out.chgB2 hq9 (fun ad h0 ha => by
                first
                  | exact Nat.ne_of_lt (rowLt hv.out h0 ha)
                  | (have s1 := hsz1.out
                     have s2 := hsz2.out
                     have h9 := hloc.out ad ha
                     simp only [szD, World.size_alloc] at h9 s1 s2
                     omega))
              have hbx9 := Bxs.box hX10.out (hX10.out.new hb2.out) hq9 (by first | exact Nat.le_refl _ | exact hb1.out.size | exact hb2.out.size)
              have hbl9 := belBox hb2.out hq9 (by first | exact Nat.le_refl _ | exact hb1.out.size | exact hb2.out.size)
              clear hVn hq9
              try clear z0 z1 z2 y0 y1 y2
              replace hE := Lib.hid hE
              replace hrow9 := Lib.hid hrow9
              replace hbx9 := Lib.hid hbx9
              replace hbl9 := Lib.hid hbl9
              go_wp2_with fail
              go_meet
              exact ⟨_, v, lv, cv, rfl, ⟨hE.out, hbx9.out⟩, hbl9.out, hrow9.out, by first | exact Nat.le_refl _ | exact hb1.out.size | exact hb2.out.size⟩
          case rest =>
            obtain ⟨wb, v, lv, cv, rfl, hX9, hb9, hv9, hwn⟩ := hcut
            clear hS0 hSda hSad
            have hB9 := brise hB10.out hb9
            have rx9 := rx10.out.below hb9
            replace hX9 := Lib.hid hX9
            replace hb9 := Lib.hid hb9
            replace hwn := Lib.hid hwn
            replace hv9 := Lib.hid hv9
            replace hB9 := Lib.hid hB9
            replace rx9 := Lib.hid rx9
            have jk0 := cellB hX9.out.2.2.2.1 (i := 0) rfl
            have jk1 := cellB hX9.out.2.2.2.1 (i := 1) rfl
            have jk2 := cellB hX9.out.2.2.2.1 (i := 2) rfl
            by_cases hue : u ≤ e
            · have hg1 : decide (u > e) = false := decide_eq_false (by omega)
              have hg2 : ¬ e < u := by omega
              obtain ⟨hRW, hix⟩ := hup.out hue
              have hPR : P0 = RW := by rw [hRW, ← hP0.out, show kk = (e - u).toNat by have := hkk.out; omega]
              have hrw := hv9.out
              rw [hPR] at hrw
              replace hrw := Lib.hid hrw
              replace hRW := Lib.hid hRW
              replace hPR := Lib.hid hPR
              subst hix
              have hqw := hq10.out.bel hb9.out
              replace hqw := Lib.hid hqw
              go_upto_region 15 with (fail)
              have kf2 := figuresD_c wc.drew v lv cv RW (hrw.out.below (bD _)) (by rw [← hrw.out.len]; omega)
              replace kf2 := Lib.hid kf2
              have hS0 : wc.drew.cell? ⟨wb, 1, none⟩ = some (.slice v lv cv) ∧ wc.drew.cell? ⟨cb, 0, none⟩ = some (.int .u64 (p : Int)) := ⟨cellB hX9.out.drew.1 rfl, cellB hX9.out.drew.2.2.1 rfl⟩
              go_region_held3 (fun w' => w'.cell? ⟨wb, 1, none⟩ = some (.slice v lv cv) ∧ w'.cell? ⟨cb, 0, none⟩ = some (.int .u64 (p : Int))) (first | exact hS0 | exact hS1) (
                (go_at_call 18
                 with_reducible refine kf2.out.mono ?_
                 rintro E wF ⟨rfl, hbF'⟩
                 have hbF := bundrew hbF'
                 have hXF := hX9.out.new hbF
                 have hS1 : wF.cell? ⟨wb, 1, none⟩ = some (.slice v lv cv) ∧ wF.cell? ⟨cb, 0, none⟩ = some (.int .u64 (p : Int)) := ⟨cellB hXF.1 rfl, cellB hXF.2.2.1 rfl⟩
                 have hBF := brise hB9.out hbF
                 replace hbF := Lib.hid hbF
                 replace hXF := Lib.hid hXF
                 replace hBF := Lib.hid hBF
                 clear hbF'))
              clear hS0 hS1 kf2
              have hb4 := hb4.out
              have hb256 := hb256.out
              have kis := isDec_c wF n n qz v _ cz lv cv u RW (hqw.out.bel hbF.out) (hrw.out.below hbF.out) (by omega) (.inl rfl)
              replace kis := Lib.hid kis
              have t0 := cellB hXF.out.2.1 (i := 0) rfl
              have t1 := cellB hXF.out.2.1 (i := 1) rfl
              have t2 := cellB hXF.out.2.1 (i := 2) rfl
              have t3 := cellB hXF.out.2.1 (i := 3) rfl
              have s0 := cellB hXF.out.1 (i := 0) rfl
              have s1 := cellB hXF.out.1 (i := 1) rfl
              have s2 := cellB hXF.out.1 (i := 2) rfl
              go_wp2_with fail
              with_reducible refine kis.out.mono ?_
              rintro E w17 ⟨rfl, hb17⟩
              go_wp2
              go_ret
              exact ⟨by simp, brise hBF.out hb17⟩
            · have hg1 : decide (u > e) = true := decide_eq_true (by omega)
              have hg2 : e < u := by omega
              obtain ⟨hRW, hix⟩ := hdn.out hg2
              obtain ⟨k2, hk2⟩ : ∃ k2, (u - e).toNat = k2 := ⟨_, rfl⟩
              have hk3 : u - e = (k2 : Int) := by omega
              rw [hk2] at hRW hix
              have ewk : IntKind.i64.wrap (u - e) = (k2 : Int) := by rw [hk3]; exact IntWalk.i64_in _ (by omega)
              have kc := cutV_c wc n p0 m0 k0 e N k2 m rx9.out (by omega) (by omega) hm (by omega)
              unfold ValB at kc
              rw [← hRW, ← hix, show e + (k2 : Int) = u by omega] at kc
              replace hk2 := Lib.hid hk2
              replace hk3 := Lib.hid hk3
              have g0 := cellB hX9.out.2.2.1 (i := 0) rfl
              have g1 := cellB hX9.out.2.2.1 (i := 1) rfl
              have g2 := cellB hX9.out.2.2.1 (i := 2) rfl
              have g3 := cellB hX9.out.2.2.1 (i := 3) rfl
              replace kc := Lib.hid kc
              replace hRW := Lib.hid hRW
              replace hix := Lib.hid hix
              go_wp2_with fail
              with_reducible refine kc.out.mono ?_
              rintro E w15 ⟨v2, lv2, cv2, rfl, h15⟩
              have hb15 := h15.bel
              have hr15 := h15.rd
              have hX15 := hX9.out.new hb15
              have hB15 := brise hB9.out hb15
              have hwb := hX9.out.lt _ (List.mem_cons_self ..)
              have z0 := cellB hX15.1 (i := 0) rfl
              have z1 := cellB hX15.1 (i := 1) rfl
              have z2 := cellB hX15.1 (i := 2) rfl
              have y0 := frozenB hX15.1 0
              have y1 := frozenB hX15.1 1
              have y2 := frozenB hX15.1 2
              obtain ⟨Vn, hVn, hE, hq9⟩ := pack3 hX15.1 (.bool n) (.slice v2 lv2 cv2) (.int .i64 u)
              have hbv := belBox (brise hb9.out hb15) hq9 hwn.out
              have hbx9 := hX10.out.new hbv
              have hbl9 := brise hB10.out hbv
              have hrw := hr15.chgB2 hq9 (fun ad h0 ha => by have h1 := h15.loc ad ha; simp only at hwb; omega)
              have hqw := hq10.out.bel hbv
              replace hqw := Lib.hid hqw
              replace hVn := Lib.hid hVn
              replace hE := Lib.hid hE
              replace hbx9 := Lib.hid hbx9
              replace hbl9 := Lib.hid hbl9
              replace hrw := Lib.hid hrw
              replace hX15 := Lib.hid hX15
              clear kc g0 g1 g2 g3 jk0 jk1 jk2 h15 hr15 hb15 hB15 hwb hbv hq9
              go_upto_region 15 with (fail)
              rw [hVn.out]
              have hXV : Bxs ((wb, #[.bool n, .slice v2 lv2 cv2, .int .i64 u], 30) :: _) Vn := ⟨hE.out, hbx9.out⟩
              replace hXV := Lib.hid hXV
              clear z0 z1 z2 y0 y1 y2 hX15
              have kf2 := figuresD_c Vn.drew v2 lv2 cv2 RW (hrw.out.below (bD _)) (by rw [← hrw.out.len]; omega)
              replace kf2 := Lib.hid kf2
              have hS0 : Vn.drew.cell? ⟨wb, 1, none⟩ = some (.slice v2 lv2 cv2) ∧ Vn.drew.cell? ⟨cb, 0, none⟩ = some (.int .u64 (p : Int)) := ⟨cellB hXV.out.drew.1 rfl, cellB hXV.out.drew.2.2.1 rfl⟩
              go_region_held3 (fun w' => w'.cell? ⟨wb, 1, none⟩ = some (.slice v2 lv2 cv2) ∧ w'.cell? ⟨cb, 0, none⟩ = some (.int .u64 (p : Int))) (first | exact hS0 | exact hS1) (
                (go_at_call 18
                 with_reducible refine kf2.out.mono ?_
                 rintro E wF ⟨rfl, hbF'⟩
                 have hbF := bundrew hbF'
                 have hXF := hXV.out.new hbF
                 have hS1 : wF.cell? ⟨wb, 1, none⟩ = some (.slice v2 lv2 cv2) ∧ wF.cell? ⟨cb, 0, none⟩ = some (.int .u64 (p : Int)) := ⟨cellB hXF.1 rfl, cellB hXF.2.2.1 rfl⟩
                 have hBF := brise hbl9.out hbF
                 replace hbF := Lib.hid hbF
                 replace hXF := Lib.hid hXF
                 replace hBF := Lib.hid hBF
                 clear hbF'))
              clear hS0 hS1 kf2
              have hb4 := hb4.out
              have hb256 := hb256.out
              have kis := isDec_c wF n n qz v2 _ cz lv2 cv2 u RW (hqw.out.bel hbF.out) (hrw.out.below hbF.out) (by omega) (.inl rfl)
              replace kis := Lib.hid kis
              have t0 := cellB hXF.out.2.1 (i := 0) rfl
              have t1 := cellB hXF.out.2.1 (i := 1) rfl
              have t2 := cellB hXF.out.2.1 (i := 2) rfl
              have t3 := cellB hXF.out.2.1 (i := 3) rfl
              have s0 := cellB hXF.out.1 (i := 0) rfl
              have s1 := cellB hXF.out.1 (i := 1) rfl
              have s2 := cellB hXF.out.1 (i := 2) rfl
              go_wp2_with fail
              with_reducible refine kis.out.mono ?_
              rintro E w17 ⟨rfl, hb17⟩
              go_wp2
              go_ret
              exact ⟨by simp, brise hBF.out hb17⟩
        · have hgF : decide ((figs RW : Int) > (p : Int)) = true := decide_eq_true (by omega)
          have hgF2 : (p : Int) < (figs RW : Int) := by omega
          have kop2 := kno.out (by omega) w6 hB8.out
          have u0 := cellB hX8.out.1 (i := 0) rfl
          have u1 := cellB hX8.out.1 (i := 1) rfl
          have u2 := cellB hX8.out.1 (i := 2) rfl
          have u3 := cellB hX8.out.1 (i := 3) rfl
          have x0 := cellB hX8.out.2.2.1 (i := 0) rfl
          have x1 := cellB hX8.out.2.2.1 (i := 1) rfl
          have x2 := cellB hX8.out.2.2.1 (i := 2) rfl
          have x3 := cellB hX8.out.2.2.1 (i := 3) rfl
          replace kop2 := Lib.hid kop2
          go_wp2_with fail
          with_reducible refine kop2.out.mono ?_
          rintro E w9 ⟨F1, s1, q1, lq1, cq1, eq1, rfl, hch⟩
          have hbq := cbelow hch
          clear u0 u1 u2 u3 x0 x1 x2 x3 hch kop2
          have hXq := hX8.out.new hbq
          go_upto_region 11 with (fail)
          generalize hWz : w9.alloc (.cells #[.int .i64 F1, .bool s1, .slice q1 lq1 cq1, .int .i64 eq1] 24 (0, 0)) = V2
          obtain ⟨hX10, hbz, -⟩ := hXq.add hWz
          obtain ⟨zb, hzb⟩ : ∃ zb, w9.heap.size = zb := ⟨_, rfl⟩
          rw [hzb] at hX10 ⊢
          have hbz2 := brise hbq hbz
          have hB10 := brise hB8.out hbz2
          have rx10 := rx8.out.below hbz2
          replace hX10 := Lib.hid hX10
          replace hB10 := Lib.hid hB10
          replace rx10 := Lib.hid rx10
          replace hzb := Lib.hid hzb
          clear hXq hbz hbz2 hbq hWz
          have hSC : ∀ w', Bxs [(zb, #[.int .i64 F1, .bool s1, .slice q1 lq1 cq1, .int .i64 eq1], 24), (cb, #[.int .u64 (p : Int), .int .i64 100000, .int .i64 (-100000), .int .i64 (m : Int)], 35), (va, #[.bool n, .slice p0 m0 k0, .int .i64 e], 30), (w.heap.size, #[.int .i64 0, .bool n, .slice A l c, .int .i64 e], 24)] w' → w'.cell? ⟨va, 0, none⟩ = some (.bool n) ∧ w'.cell? ⟨va, 1, none⟩ = some (.slice p0 m0 k0) ∧ w'.cell? ⟨va, 2, none⟩ = some (.int .i64 e) := fun w' h => ⟨cellB h.2.2.1 rfl, cellB h.2.2.1 rfl, cellB h.2.2.1 rfl⟩
          have hS0 := hSC _ hX10.out.drew
          have hSda := fun o => hSC _ (hX10.out.drew.al o)
          have hSad := fun o => hSC _ (hX10.out.al o).drew
          have kpw := fun W' => pow10_c W' kk hkk1
          have kml := fun W' b1 l1 c1 (hb : Below V2.heap.size V2 W') (hr : RdD W' b1 l1 c1 (d16 (10 ^ kk))) => mulD_c W' p0 b1 m0 k0 l1 c1 N (10 ^ kk) (rx10.out.below hb) hr (by omega) (by rw [← hr.len]; exact Nat.le_trans (d16_len_ten (j := kk + 1) (Nat.pow_lt_pow_right (by omega) (Nat.lt_succ_self _))) (by omega))
          rw [hP0.out] at kml
          replace hSC := Lib.hid hSC
          replace kpw := Lib.hid kpw
          replace kml := Lib.hid kml
          go_cut [16] (fun v16 wx => ∃ wb v lv cv, v16 = .pointer (some ⟨wb, 0, none⟩) ∧ Bxs ((wb, #[.bool n, .slice v lv cv, .int .i64 u], 30) :: [(zb, #[.int .i64 F1, .bool s1, .slice q1 lq1 cq1, .int .i64 eq1], 24), (cb, #[.int .u64 (p : Int), .int .i64 100000, .int .i64 (-100000), .int .i64 (m : Int)], 35), (va, #[.bool n, .slice p0 m0 k0, .int .i64 e], 30), (w.heap.size, #[.int .i64 0, .bool n, .slice A l c, .int .i64 e], 24)]) wx ∧ Below V2.heap.size V2 wx ∧ RdD wx v lv cv (d16 P0) ∧ V2.heap.size ≤ wb)
          case first =>
            go_region_held3 (fun w' => w'.cell? ⟨va, 0, none⟩ = some (.bool n) ∧ w'.cell? ⟨va, 1, none⟩ = some (.slice p0 m0 k0) ∧ w'.cell? ⟨va, 2, none⟩ = some (.int .i64 e)) (with_reducible (first | exact hS0 | exact hS1 | exact hS2 | exact hSda _ | exact hSad _ | exact hS1a _ | exact hS2a _ | exact hS2c _ (Nat.le_refl _) _ _ _ | exact hS2c _ hb1.out.size _ _ _)) (first
              | (go_at_call 16
                 with_reducible refine (kpw.out _).mono ?_
                 rintro E v1 ⟨a1, l1, c1, rfl, h1⟩
                 have hb1 : Below V2.heap.size V2 v1 := brise (by first | exact bD _ | exact bDA _ _ | exact bAD _ _) h1.bel
                 have hX1 := hX10.out.new hb1
                 have hS1 := hSC.out _ hX1
                 have hS1a := fun o => hSC.out _ (hX1.al o)
                 first
                   | (have hZ := bkeep h1.bel (show (((V2.alloc _).drew).heap)[V2.heap.size]? = some (.cells #[.bool false, .slice none 0 0, .int .i64 0] 30 (0, 0)) from allocB V2 _)
                      replace hZ := Lib.hid hZ)
                   | (have hZ := bkeep h1.bel (show (((V2.drew).alloc _).heap)[V2.heap.size]? = some (.cells #[.bool false, .slice none 0 0, .int .i64 0] 30 (0, 0)) from allocB V2.drew _)
                      replace hZ := Lib.hid hZ)
                   | skip
                 have hsz1 := h1.bel.size
                 have hrow1 := h1.rd
                 replace h1 := Lib.hid h1
                 replace hb1 := Lib.hid hb1
                 replace hX1 := Lib.hid hX1
                 replace hsz1 := Lib.hid hsz1
                 replace hrow1 := Lib.hid hrow1)
              | (go_at_call 15
                 with_reducible refine (kml.out _ a1 l1 c1 (by first | exact hb1.out | exact brise hb1.out (bA _ _)) (by first | exact hrow1.out | exact hrow1.out.below (bA _ _))).mono ?_
                 rintro E v2 ⟨v, lv, cv, rfl, h2⟩
                 have hb := h2.bel
                 have hb2 : Below V2.heap.size V2 v2 := brise (by first | exact hb1.out | exact brise hb1.out (bA _ _)) hb
                 have hv := h2.rd
                 have hloc := h2.loc
                 first
                   | (have hZ2 := bkeep hb hZ.out
                      have z0 := cellB hZ2 (i := 0) rfl
                      have z1 := cellB hZ2 (i := 1) rfl
                      have z2 := cellB hZ2 (i := 2) rfl
                      have y0 := frozenB hZ2 0
                      have y1 := frozenB hZ2 1
                      have y2 := frozenB hZ2 2
                      replace hZ2 := Lib.hid hZ2)
                   | (have hZ2 := bkeep hb (allocB v1 (.cells #[.bool false, .slice none 0 0, .int .i64 0] 30 (0, 0)))
                      have z0 := cellB hZ2 (i := 0) rfl
                      have z1 := cellB hZ2 (i := 1) rfl
                      have z2 := cellB hZ2 (i := 2) rfl
                      have y0 := frozenB hZ2 0
                      have y1 := frozenB hZ2 1
                      have y2 := frozenB hZ2 2
                      replace hZ2 := Lib.hid hZ2)
                   | skip
                 have hS2 := hSC.out _ (hX10.out.new hb2)
                 have hS2a := fun o => hSC.out _ ((hX10.out.new hb2).al o)
                 have hS2c := fun k (hk : V2.heap.size ≤ k) u0 u1 u2 => hSC.out _ (Bxs.box hX10.out (hX10.out.new hb2) (chg3 v2 k u0 u1 u2) hk)
                 have hsz2 := hb.size
                 replace hb2 := Lib.hid hb2
                 replace hv := Lib.hid hv
                 replace hloc := Lib.hid hloc
                 replace hsz2 := Lib.hid hsz2
                 clear h2
                 replace hb := Lib.hid hb))
            all_goals
              clear hS0 hS1 hS2 hSda hSad hS1a hS2a hS2c
              first
                | (obtain ⟨Vn, hVn, hE, hq9⟩ := pack3 hZ2.out (.bool n) (.slice v lv cv) (.int .i64 u)
                   rw [hVn])
                | (obtain ⟨Vn, hVn, hE, hq9⟩ := pack1' v2 (.cells #[.bool n, .slice v lv cv, .int .i64 u] 30 (0, 0))
                   rw [hVn])
              have hrow9 := hv.out.chgB2 hq9 (fun ad h0 ha => by
                first
                  | exact Nat.ne_of_lt (rowLt hv.out h0 ha)
                  | (have s1 := hsz1.out
                     have s2 := hsz2.out
                     have h9 := hloc.out ad ha
                     simp only [szD, World.size_alloc] at h9 s1 s2
                     omega))
              have hbx9 := Bxs.box hX10.out (hX10.out.new hb2.out) hq9 (by first | exact Nat.le_refl _ | exact hb1.out.size | exact hb2.out.size)
              have hbl9 := belBox hb2.out hq9 (by first | exact Nat.le_refl _ | exact hb1.out.size | exact hb2.out.size)
              clear hVn hq9
              try clear z0 z1 z2 y0 y1 y2
              replace hE := Lib.hid hE
              replace hrow9 := Lib.hid hrow9
              replace hbx9 := Lib.hid hbx9
              replace hbl9 := Lib.hid hbl9
              go_wp2_with fail
              go_meet
              exact ⟨_, v, lv, cv, rfl, ⟨hE.out, hbx9.out⟩, hbl9.out, hrow9.out, by first | exact Nat.le_refl _ | exact hb1.out.size | exact hb2.out.size⟩
          case rest =>
            obtain ⟨wb, v, lv, cv, rfl, hX9, hb9, hv9, hwn⟩ := hcut
            clear hS0 hSda hSad
            have hB9 := brise hB10.out hb9
            have rx9 := rx10.out.below hb9
            replace hX9 := Lib.hid hX9
            replace hb9 := Lib.hid hb9
            replace hwn := Lib.hid hwn
            replace hv9 := Lib.hid hv9
            replace hB9 := Lib.hid hB9
            replace rx9 := Lib.hid rx9
            have jk0 := cellB hX9.out.2.2.2.1 (i := 0) rfl
            have jk1 := cellB hX9.out.2.2.2.1 (i := 1) rfl
            have jk2 := cellB hX9.out.2.2.2.1 (i := 2) rfl
            by_cases hue : u ≤ e
            · have hg1 : decide (u > e) = false := decide_eq_false (by omega)
              have hg2 : ¬ e < u := by omega
              obtain ⟨hRW, hix⟩ := hup.out hue
              have hPR : P0 = RW := by rw [hRW, ← hP0.out, show kk = (e - u).toNat by have := hkk.out; omega]
              have hrw := hv9.out
              rw [hPR] at hrw
              replace hrw := Lib.hid hrw
              replace hRW := Lib.hid hRW
              replace hPR := Lib.hid hPR
              subst hix

              go_upto_region 15 with (fail)
              have kf2 := figuresD_c wc.drew v lv cv RW (hrw.out.below (bD _)) (by rw [← hrw.out.len]; omega)
              replace kf2 := Lib.hid kf2
              have hS0 : wc.drew.cell? ⟨wb, 1, none⟩ = some (.slice v lv cv) ∧ wc.drew.cell? ⟨cb, 0, none⟩ = some (.int .u64 (p : Int)) := ⟨cellB hX9.out.drew.1 rfl, cellB hX9.out.drew.2.2.1 rfl⟩
              go_region_held3 (fun w' => w'.cell? ⟨wb, 1, none⟩ = some (.slice v lv cv) ∧ w'.cell? ⟨cb, 0, none⟩ = some (.int .u64 (p : Int))) (first | exact hS0 | exact hS1) (
                (go_at_call 18
                 with_reducible refine kf2.out.mono ?_
                 rintro E wF ⟨rfl, hbF'⟩
                 have hbF := bundrew hbF'
                 have hXF := hX9.out.new hbF
                 have hS1 : wF.cell? ⟨wb, 1, none⟩ = some (.slice v lv cv) ∧ wF.cell? ⟨cb, 0, none⟩ = some (.int .u64 (p : Int)) := ⟨cellB hXF.1 rfl, cellB hXF.2.2.1 rfl⟩
                 have hBF := brise hB9.out hbF
                 replace hbF := Lib.hid hbF
                 replace hXF := Lib.hid hXF
                 replace hBF := Lib.hid hBF
                 clear hbF'))
              clear hS0 hS1 kf2
              have hbz := bits1024
              go_wp2
              go_ret
              exact ⟨by simp, hBF.out⟩
            · have hg1 : decide (u > e) = true := decide_eq_true (by omega)
              have hg2 : e < u := by omega
              obtain ⟨hRW, hix⟩ := hdn.out hg2
              obtain ⟨k2, hk2⟩ : ∃ k2, (u - e).toNat = k2 := ⟨_, rfl⟩
              have hk3 : u - e = (k2 : Int) := by omega
              rw [hk2] at hRW hix
              have ewk : IntKind.i64.wrap (u - e) = (k2 : Int) := by rw [hk3]; exact IntWalk.i64_in _ (by omega)
              have kc := cutV_c wc n p0 m0 k0 e N k2 m rx9.out (by omega) (by omega) hm (by omega)
              unfold ValB at kc
              rw [← hRW, ← hix, show e + (k2 : Int) = u by omega] at kc
              replace hk2 := Lib.hid hk2
              replace hk3 := Lib.hid hk3
              have g0 := cellB hX9.out.2.2.1 (i := 0) rfl
              have g1 := cellB hX9.out.2.2.1 (i := 1) rfl
              have g2 := cellB hX9.out.2.2.1 (i := 2) rfl
              have g3 := cellB hX9.out.2.2.1 (i := 3) rfl
              replace kc := Lib.hid kc
              replace hRW := Lib.hid hRW
              replace hix := Lib.hid hix
              go_wp2_with fail
              with_reducible refine kc.out.mono ?_
              rintro E w15 ⟨v2, lv2, cv2, rfl, h15⟩
              have hb15 := h15.bel
              have hr15 := h15.rd
              have hX15 := hX9.out.new hb15
              have hB15 := brise hB9.out hb15
              have hwb := hX9.out.lt _ (List.mem_cons_self ..)
              have z0 := cellB hX15.1 (i := 0) rfl
              have z1 := cellB hX15.1 (i := 1) rfl
              have z2 := cellB hX15.1 (i := 2) rfl
              have y0 := frozenB hX15.1 0
              have y1 := frozenB hX15.1 1
              have y2 := frozenB hX15.1 2
              obtain ⟨Vn, hVn, hE, hq9⟩ := pack3 hX15.1 (.bool n) (.slice v2 lv2 cv2) (.int .i64 u)
              have hbv := belBox (brise hb9.out hb15) hq9 hwn.out
              have hbx9 := hX10.out.new hbv
              have hbl9 := brise hB10.out hbv
              have hrw := hr15.chgB2 hq9 (fun ad h0 ha => by have h1 := h15.loc ad ha; simp only at hwb; omega)
              replace hVn := Lib.hid hVn
              replace hE := Lib.hid hE
              replace hbx9 := Lib.hid hbx9
              replace hbl9 := Lib.hid hbl9
              replace hrw := Lib.hid hrw
              replace hX15 := Lib.hid hX15
              clear kc g0 g1 g2 g3 jk0 jk1 jk2 h15 hr15 hb15 hB15 hwb hbv hq9
              go_upto_region 15 with (fail)
              rw [hVn.out]
              have hXV : Bxs ((wb, #[.bool n, .slice v2 lv2 cv2, .int .i64 u], 30) :: _) Vn := ⟨hE.out, hbx9.out⟩
              replace hXV := Lib.hid hXV
              clear z0 z1 z2 y0 y1 y2 hX15
              have kf2 := figuresD_c Vn.drew v2 lv2 cv2 RW (hrw.out.below (bD _)) (by rw [← hrw.out.len]; omega)
              replace kf2 := Lib.hid kf2
              have hS0 : Vn.drew.cell? ⟨wb, 1, none⟩ = some (.slice v2 lv2 cv2) ∧ Vn.drew.cell? ⟨cb, 0, none⟩ = some (.int .u64 (p : Int)) := ⟨cellB hXV.out.drew.1 rfl, cellB hXV.out.drew.2.2.1 rfl⟩
              go_region_held3 (fun w' => w'.cell? ⟨wb, 1, none⟩ = some (.slice v2 lv2 cv2) ∧ w'.cell? ⟨cb, 0, none⟩ = some (.int .u64 (p : Int))) (first | exact hS0 | exact hS1) (
                (go_at_call 18
                 with_reducible refine kf2.out.mono ?_
                 rintro E wF ⟨rfl, hbF'⟩
                 have hbF := bundrew hbF'
                 have hXF := hXV.out.new hbF
                 have hS1 : wF.cell? ⟨wb, 1, none⟩ = some (.slice v2 lv2 cv2) ∧ wF.cell? ⟨cb, 0, none⟩ = some (.int .u64 (p : Int)) := ⟨cellB hXF.1 rfl, cellB hXF.2.2.1 rfl⟩
                 have hBF := brise hbl9.out hbF
                 replace hbF := Lib.hid hbF
                 replace hXF := Lib.hid hXF
                 replace hBF := Lib.hid hBF
                 clear hbF'))
              clear hS0 hS1 kf2
              have hbz := bits1024
              go_wp2
              go_ret
              exact ⟨by simp, hBF.out⟩
  · rw [decide_eq_false hfit] at kf
    replace kf := Lib.hid kf
    go_wp2_with fail
    with_reducible refine kf.out.mono ?_
    rintro E w1 ⟨rfl, hb⟩
    go_wp2
    go_ret
    exact ⟨rfl, brise hB0.out hb⟩
end Go.Proofs.YtcoljeafgiemkaaGreatDoor
