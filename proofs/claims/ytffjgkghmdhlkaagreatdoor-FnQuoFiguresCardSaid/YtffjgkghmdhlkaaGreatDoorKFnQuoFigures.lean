/- FnQuoFigures: the walk. -/
import Derived.Test.YtffjgkghmdhlkaaGreatDoorZC
import Derived.Test.YtffjgkghmdhlkaaGreatDoorO13
import Derived.Test.YtffjgkghmdhlkaaGreatDoorZA
namespace Go.Proofs.YtffjgkghmdhlkaaGreatDoor
open Go Go.RowKit

set_option maxRecDepth 100000 in
set_option maxHeartbeats 8000000 in
theorem FnQuoFigures_walk (prec mode : Int) (f : Int) (n : Bool) (A : Option Addr) (l c : Nat) (X : List Nat) (e : Int) (g : Int) (o : Bool) (B : Option Addr) (r s : Nat) (Y : List Nat) (d : Int) (w : World) (hG : Glob w) (h2 : 0 ≤ prec ∧ prec ≤ 255) (h3 : 0 ≤ mode ∧ mode ≤ 255) (hx : DecIn w f A l c X e) (hy : DecIn w g B r s Y d) :
    Calls Tryz.prog 7 #[.int .u8 prec, .int .u8 mode, .agg #[.int .i64 f, .bool n, .slice A l c, .int .i64 e], .agg #[.int .i64 g, .bool o, .slice B r s, .int .i64 d]] w fun E w' => E = .returned (.bool true) ∧ Below w.heap.size w w' := by
  obtain ⟨m, hmm⟩ : ∃ m : Nat, mode % 8 = (m : Int) := ⟨(mode % 8).toNat, by omega⟩
  obtain ⟨p, hpp⟩ : ∃ p : Nat, 1 + prec % 60 = (p : Int) := ⟨(1 + prec % 60).toNat, by omega⟩
  have hm : m < 8 := by omega
  have hp1 : 1 ≤ p ∧ p ≤ 60 := by omega
  have kw := fun W => wideC_c W prec mode p m h2 h3 hmm hpp
  have hX := hx.rd
  have hY := hy.rd
  have kfacts := quoFacts w hG p m hm hp1 e d n o A B l c r s X Y hX hY
  have ewp : IntKind.i64.wrap (p : Int) = (p : Int) := IntWalk.i64_in _ (by omega)
  have hlc := hX.cap
  have hcm := hX.max
  have hls := hY.cap
  have hsm := hY.max
  replace kw := Lib.hid kw
  replace kfacts := Lib.hid kfacts
  replace hX := Lib.hid hX
  replace hY := Lib.hid hY
  replace hG := Lib.hid hG
  clear h2 h3 hmm hpp hx hy
  go_enter Tryz.func7, Tryz.ntmps7
  go_upto_region 1 with (fail)
  generalize hW : (w.alloc (.cells #[.int .i64 f, .bool n, .slice A l c, .int .i64 e] 25 (0, 0))).alloc (.cells #[.int .i64 g, .bool o, .slice B r s, .int .i64 d] 25 (0, 0)) = W0
  have hB0 : Below w.heap.size w W0 := by rw [← hW]; exact ((Below.refl _ _).alloc (Nat.le_refl _) _).alloc (by simp) _
  have hX0 : Bxs [(w.heap.size + 1, #[.int .i64 g, .bool o, .slice B r s, .int .i64 d], 25), (w.heap.size, #[.int .i64 f, .bool n, .slice A l c, .int .i64 e], 25)] W0 := by rw [← hW]; exact ⟨allocB_at _ _ (by simp), allocB_old (allocB _ _), trivial⟩
  clear hW
  have kf := fits_c W0 f n A l c e
  have c0 := cellB hX0.2.1 (i := 0) rfl
  have c1 := cellB hX0.2.1 (i := 1) rfl
  have c2 := cellB hX0.2.1 (i := 2) rfl
  have c3 := cellB hX0.2.1 (i := 3) rfl
  replace hX0 := Lib.hid hX0
  replace hB0 := Lib.hid hB0
  by_cases hfit : l ≤ 2147483647
  · rw [decide_eq_true hfit] at kf
    replace kf := Lib.hid kf
    go_wp2_with fail
    with_reducible refine kf.out.mono ?_
    rintro E w1 ⟨rfl, hb⟩
    have hX1 := hX0.out.new hb
    have hB1 := brise hB0.out hb
    clear c0 c1 c2 c3 kf hb
    have d0 := cellB hX1.1 (i := 0) rfl
    have d1 := cellB hX1.1 (i := 1) rfl
    have d2 := cellB hX1.1 (i := 2) rfl
    have d3 := cellB hX1.1 (i := 3) rfl
    replace hX1 := Lib.hid hX1
    replace hB1 := Lib.hid hB1
    have kf := fits_c w1 g o B r s d
    by_cases hfit2 : r ≤ 2147483647
    · rw [decide_eq_true hfit2] at kf
      replace kf := Lib.hid kf
      go_wp2_with fail
      with_reducible refine kf.out.mono ?_
      rintro E w2 ⟨rfl, hb⟩
      have hX2 := hX1.out.new hb
      have hB2 := brise hB1.out hb
      clear d0 d1 d2 d3 kf hb
      have d0 := cellB hX2.1 (i := 0) rfl
      have d1 := cellB hX2.1 (i := 1) rfl
      have d2 := cellB hX2.1 (i := 2) rfl
      have d3 := cellB hX2.1 (i := 3) rfl
      have c0 := cellB hX2.2.1 (i := 0) rfl
      have c1 := cellB hX2.2.1 (i := 1) rfl
      have c2 := cellB hX2.2.1 (i := 2) rfl
      have c3 := cellB hX2.2.1 (i := 3) rfl
      have kq := both_c w2 f n A l c X e g o B r s Y d (hX.out.bel hB2) (hY.out.bel hB2)
      replace kq := Lib.hid kq
      replace hX2 := Lib.hid hX2
      replace hB2 := Lib.hid hB2
      go_wp2_with fail
      with_reducible refine kq.out.mono ?_
      rintro E w3 ⟨a0, p0, m0, k0, a2, b0, q0, n0, j0, b2, ok, rfl, hb, hfin⟩
      have hX3 := hX2.out.new hb
      have hB3 := brise hB2.out hb
      clear c0 c1 c2 c3 d0 d1 d2 d3 kq hb
      replace hX3 := Lib.hid hX3
      replace hB3 := Lib.hid hB3
      replace hfin := Lib.hid hfin
      cases ok with
      | false =>
        go_wp2
        go_ret
        exact ⟨rfl, (hB3.out.alloc hB3.out.size _).alloc (by have := hB3.out.size; simp; omega) _⟩
      | true =>
        obtain ⟨fx, fy⟩ := hfin.out (by simp)
        have kfacts := kfacts.out fx.len fy.len fx.lo fx.hi fy.lo fy.hi
        have rx := fx.coeff.rd
        have ry := fy.coeff.rd
        have hn0 := d16_len0 ry.len
        have e1 := fx.form
        have e2 := fy.form
        have e3 := fx.neg.symm
        have e4 := fy.neg.symm
        have e5 := fx.ex.symm
        have e6 := fy.ex.symm
        subst e1 e2 e3 e4 e5 e6
        replace rx := Lib.hid rx
        replace ry := Lib.hid ry
        replace hn0 := Lib.hid hn0
        replace kfacts := Lib.hid kfacts
        clear hfin fx fy
        go_upto_region 4 with (fail)
        generalize hWa : w3.alloc (.cells #[.bool n, .slice p0 m0 k0, .int .i64 e] 30 (0, 0)) = Wa
        obtain ⟨hX4a, hba, hsa⟩ := hX3.out.add hWa
        generalize hWb : Wa.alloc (.cells #[.bool o, .slice q0 n0 j0, .int .i64 d] 30 (0, 0)) = W
        obtain ⟨hX4, hbb, -⟩ := hX4a.add hWb
        obtain ⟨va, hva⟩ : ∃ va, w3.heap.size = va := ⟨_, rfl⟩
        rw [hsa] at hX4
        rw [hva] at hX4 ⊢
        have hb4 := brise hba hbb
        have hB4 := brise hB3.out hb4
        have rx4 := rx.out.below hb4
        have ry4 := ry.out.below hb4
        clear hX4a hba hbb hsa hWa hWb hb4 rx ry
        have b0 := cellB hX4.1 (i := 0) rfl
        have b1 := cellB hX4.1 (i := 1) rfl
        have b2 := cellB hX4.1 (i := 2) rfl
        have ks := sign_c W o q0 n0 j0 d
        replace hX4 := Lib.hid hX4
        replace hB4 := Lib.hid hB4
        replace rx4 := Lib.hid rx4
        replace ry4 := Lib.hid ry4
        replace hva := Lib.hid hva
        by_cases hz : n0 = 0
        · subst hz
          rw [if_pos rfl] at ks
          replace ks := Lib.hid ks
          go_wp2_with fail
          with_reducible refine ks.out.mono ?_
          rintro E w4 ⟨rfl, hb4⟩
          go_wp2
          go_ret
          exact ⟨rfl, brise hB4.out hb4⟩
        · have hY0 : val Y ≠ 0 := fun h => hz (hn0.out.2 h)
          rw [if_neg hz] at ks
          obtain ⟨sg, hsg⟩ : ∃ sg : Int, (if o then -1 else 1) = sg := ⟨_, rfl⟩
          rw [hsg] at ks
          have hsg0 := sgn_ne o hsg
          obtain ⟨nz, R, q, E0, EA, cn, kop, kah, krd, ksm, hb4e, hb20, hRl, hR16, kfig, hEA⟩ := kfacts.out hY0
          replace ks := Lib.hid ks
          replace hsg := Lib.hid hsg
          replace hY0 := Lib.hid hY0
          clear kfacts
          replace kop := Lib.hid kop
          replace kah := Lib.hid kah
          replace krd := Lib.hid krd
          replace ksm := Lib.hid ksm
          replace kfig := Lib.hid kfig
          go_wp2_with fail
          with_reducible refine ks.out.mono ?_
          rintro E w4 ⟨rfl, hb4⟩
          have hX5 := hX4.out.new hb4
          have hB5 := brise hB4.out hb4
          have rx5 := rx4.out.below hb4
          have ry5 := ry4.out.below hb4
          replace hX5 := Lib.hid hX5
          replace hB5 := Lib.hid hB5
          replace rx5 := Lib.hid rx5
          replace ry5 := Lib.hid ry5
          clear ks b0 b1 b2 hb4
          go_wp2_with fail
          with_reducible refine (kw.out _).mono ?_
          rintro E w5 ⟨rfl, hb5⟩
          have hX6 := hX5.out.new hb5
          go_upto_region 7 with (fail)
          generalize hWc : w5.alloc (.cells #[.int .u64 (p : Int), .int .i64 100000, .int .i64 (-100000), .int .i64 (m : Int)] 36 (0, 0)) = V1
          obtain ⟨hX7, hbc, -⟩ := hX6.add hWc
          obtain ⟨cb, hcb⟩ : ∃ cb, w5.heap.size = cb := ⟨_, rfl⟩
          rw [hcb] at hX7 ⊢
          have hb6 := brise hb5 hbc
          have hB7 := brise hB5.out hb6
          have rx7 := rx5.out.below hb6
          have ry7 := ry5.out.below hb6
          replace hX7 := Lib.hid hX7
          replace hB7 := Lib.hid hB7
          replace rx7 := Lib.hid rx7
          replace ry7 := Lib.hid ry7
          replace hcb := Lib.hid hcb
          clear hX6 hbc hb6 hb5 hWc
          have hSC : ∀ w', Bxs [(cb, #[.int .u64 (p : Int), .int .i64 100000, .int .i64 (-100000), .int .i64 (m : Int)], 36), (va + 1, #[.bool o, .slice q0 n0 j0, .int .i64 d], 30), (va, #[.bool n, .slice p0 m0 k0, .int .i64 e], 30), (w.heap.size + 1, #[.int .i64 0, .bool o, .slice B r s, .int .i64 d], 25), (w.heap.size, #[.int .i64 0, .bool n, .slice A l c, .int .i64 e], 25)] w' → w'.cell? ⟨cb, 0, none⟩ = some (.int .u64 (p : Int)) ∧ w'.cell? ⟨cb, 3, none⟩ = some (.int .i64 (m : Int)) ∧ w'.cell? ⟨va + 1, 0, none⟩ = some (.bool o) ∧ w'.cell? ⟨va + 1, 1, none⟩ = some (.slice q0 n0 j0) ∧ w'.cell? ⟨va + 1, 2, none⟩ = some (.int .i64 d) ∧ w'.cell? ⟨va, 0, none⟩ = some (.bool n) ∧ w'.cell? ⟨va, 1, none⟩ = some (.slice p0 m0 k0) ∧ w'.cell? ⟨va, 2, none⟩ = some (.int .i64 e) := fun w' h => ⟨cellB h.1 rfl, cellB h.1 rfl, cellB h.2.1 rfl, cellB h.2.1 rfl, cellB h.2.1 rfl, cellB h.2.2.1 rfl, cellB h.2.2.1 rfl, cellB h.2.2.1 rfl⟩
          have hS0 := hSC _ hX7.out.drew
          have hSda := fun o => hSC _ (hX7.out.drew.al o)
          have hSad := fun o => hSC _ (hX7.out.al o).drew
          have kah2 := fun W' (hb : Below V1.heap.size V1 W') => kah.out W' p0 m0 k0 q0 n0 j0 (rx7.out.below hb) (ry7.out.below hb)
          replace hSC := Lib.hid hSC
          replace kah2 := Lib.hid kah2
          go_cut [13, 14, 15] (fun v16 _ v18 wx => v18 = .bool (rndX q p) ∧ ∃ wb v lv cv, v16 = .pointer (some ⟨wb, 0, none⟩) ∧ Bxs ((wb, #[.bool nz, .slice v lv cv, .int .i64 (EA + (rndK nz q p m : Int))], 30) :: [(cb, #[.int .u64 (p : Int), .int .i64 100000, .int .i64 (-100000), .int .i64 (m : Int)], 36), (va + 1, #[.bool o, .slice q0 n0 j0, .int .i64 d], 30), (va, #[.bool n, .slice p0 m0 k0, .int .i64 e], 30), (w.heap.size + 1, #[.int .i64 0, .bool o, .slice B r s, .int .i64 d], 25), (w.heap.size, #[.int .i64 0, .bool n, .slice A l c, .int .i64 e], 25)]) wx ∧ Below V1.heap.size V1 wx ∧ RdD wx v lv cv (d16 (rndN nz q p m)))
          case first =>
            go_region_held3 (fun w' => w'.cell? ⟨cb, 0, none⟩ = some (.int .u64 (p : Int)) ∧ w'.cell? ⟨cb, 3, none⟩ = some (.int .i64 (m : Int)) ∧ w'.cell? ⟨va + 1, 0, none⟩ = some (.bool o) ∧ w'.cell? ⟨va + 1, 1, none⟩ = some (.slice q0 n0 j0) ∧ w'.cell? ⟨va + 1, 2, none⟩ = some (.int .i64 d) ∧ w'.cell? ⟨va, 0, none⟩ = some (.bool n) ∧ w'.cell? ⟨va, 1, none⟩ = some (.slice p0 m0 k0) ∧ w'.cell? ⟨va, 2, none⟩ = some (.int .i64 e)) (with_reducible (first | exact hS0 | exact hS1 | exact hS2 | exact hSda _ | exact hSad _ | exact hS1a _ | exact hS2a _ | exact hS2c _ (Nat.le_refl _) _ _ _ | exact hS2c _ hb1.out.size _ _ _)) (first
              | (go_at_call 23
                 with_reducible refine (kah2.out _ (by first | exact bD _ | exact bDA _ _ | exact bAD _ _)).mono ?_
                 rintro E v1 ⟨a1, l1, c1, rfl, h1⟩
                 have hb1 : Below V1.heap.size V1 v1 := brise (by first | exact bD _ | exact bDA _ _ | exact bAD _ _) h1.bel
                 have hX1 := hX7.out.new hb1
                 have hS1 := hSC.out _ hX1
                 have hS1a := fun o => hSC.out _ (hX1.al o)
                 first
                   | (have hZ := bkeep h1.bel (show (((V1.alloc _).drew).heap)[V1.heap.size]? = some (.cells #[.bool false, .slice none 0 0, .int .i64 0] 30 (0, 0)) from allocB V1 _)
                      replace hZ := Lib.hid hZ)
                   | (have hZ := bkeep h1.bel (show (((V1.drew).alloc _).heap)[V1.heap.size]? = some (.cells #[.bool false, .slice none 0 0, .int .i64 0] 30 (0, 0)) from allocB V1.drew _)
                      replace hZ := Lib.hid hZ)
                   | skip
                 have hsz1 := h1.bel.size
                 have hrow1 := h1.rd
                 have hloc1 := h1.loc
                 replace h1 := Lib.hid h1
                 replace hb1 := Lib.hid hb1
                 replace hX1 := Lib.hid hX1
                 replace hsz1 := Lib.hid hsz1
                 replace hrow1 := Lib.hid hrow1
                 replace hloc1 := Lib.hid hloc1)
              | (go_at_call 13
                 with_reducible refine (krd.out _ a1 l1 c1 (by first | exact hrow1.out | exact hrow1.out.below (bA _ _))).mono ?_
                 rintro E v2 ⟨v, lv, cv, rfl, hor, hb⟩
                 have hb2 : Below V1.heap.size V1 v2 := brise (by first | exact hb1.out | exact brise hb1.out (bA _ _)) hb
                 have hv := hor.rd (by first | exact hrow1.out | exact hrow1.out.below (bA _ _)) hb
                 first
                   | (have hZ2 := bkeep hb hZ.out
                      have z0 := cellB hZ2 (i := 0) rfl
                      have z1 := cellB hZ2 (i := 1) rfl
                      have z2 := cellB hZ2 (i := 2) rfl
                      have y0 := frozenB hZ2 0
                      have y1 := frozenB hZ2 1
                      have y2 := frozenB hZ2 2
                      replace hZ2 := Lib.hid hZ2)
                   | (have hZ2 := bkeep hb (allocB v1 (.cells #[.bool false, .slice none 0 0, .int .i64 0] 30 (0, 0)))
                      have z0 := cellB hZ2 (i := 0) rfl
                      have z1 := cellB hZ2 (i := 1) rfl
                      have z2 := cellB hZ2 (i := 2) rfl
                      have y0 := frozenB hZ2 0
                      have y1 := frozenB hZ2 1
                      have y2 := frozenB hZ2 2
                      replace hZ2 := Lib.hid hZ2)
                   | skip
                 have hS2 := hSC.out _ (hX7.out.new hb2)
                 have hS2a := fun o => hSC.out _ ((hX7.out.new hb2).al o)
                 have hS2c := fun k (hk : V1.heap.size ≤ k) u0 u1 u2 => hSC.out _ (Bxs.box hX7.out (hX7.out.new hb2) (chg3 v2 k u0 u1 u2) hk)
                 have hsz2 := hb.size
                 replace hb2 := Lib.hid hb2
                 replace hv := Lib.hid hv
                 replace hor := Lib.hid hor
                 replace hsz2 := Lib.hid hsz2
                 replace hb := Lib.hid hb))
            all_goals
              clear hS0 hS1 hS2 hSda hSad hS1a hS2a hS2c
              first
                | (obtain ⟨Vn, hVn, hE, hq9⟩ := pack3 hZ2.out (.bool nz) (.slice v lv cv) (.int .i64 (EA + (rndK nz q p m : Int)))
                   rw [hVn])
                | (obtain ⟨Vn, hVn, hE, hq9⟩ := pack1' v2 (.cells #[.bool nz, .slice v lv cv, .int .i64 (EA + (rndK nz q p m : Int))] 30 (0, 0))
                   rw [hVn])
              have hrow9 := hv.out.chgB2 hq9 (fun ad h0 ha => by
                first
                  | exact Nat.ne_of_lt (rowLt hv.out h0 ha)
                  | (have s1 := hsz1.out
                     have s2 := hsz2.out
                     rcases hor.out with h | ⟨rfl, rfl, _⟩
                     · have h9 := h.loc ad ha
                       simp only [szD, World.size_alloc] at h9 s1 s2
                       omega
                     · first
                         | (have h9 := hloc1.out ad ha
                            simp only [szD, World.size_alloc] at h9 s1 s2
                            omega)
                         | (have h9 := rowLt hrow1.out h0 ha
                            omega)))
              have hbx9 := Bxs.box hX7.out (hX7.out.new hb2.out) hq9 (by first | exact Nat.le_refl _ | exact hb1.out.size | exact hb2.out.size)
              have hbl9 := belBox hb2.out hq9 (by first | exact Nat.le_refl _ | exact hb1.out.size | exact hb2.out.size)
              clear hVn hq9
              try clear z0 z1 z2 y0 y1 y2
              replace hE := Lib.hid hE
              replace hrow9 := Lib.hid hrow9
              replace hbx9 := Lib.hid hbx9
              replace hbl9 := Lib.hid hbl9
              go_wp2_with fail
              go_meet
              exact ⟨rfl, _, v, lv, cv, rfl, ⟨hE.out, hbx9.out⟩, hbl9.out, hrow9.out⟩
          case rest =>
            obtain ⟨rfl, wb, v, lv, cv, rfl, hX9, hb9, hv9⟩ := hcut
            clear hS0 hSda hSad
            replace hX9 := Lib.hid hX9
            replace hb9 := Lib.hid hb9
            replace hv9 := Lib.hid hv9
            obtain ⟨ix, hix⟩ : ∃ ix, rndX q p = ix := ⟨_, rfl⟩
            rw [hix]
            replace hix := Lib.hid hix
            have hlv : lv ≤ 60 := by
              have h1 := figs_lt (rndN nz q p m)
              have h2 := rndN_figs (neg := nz) (C := q) (p := p) (mode := m) hp1.1
              rw [← hv9.out.len]
              exact d16_len_ten (Nat.lt_of_lt_of_le h1 (ten_le (by omega)))
            have hfw := rndN_figs (neg := nz) (C := q) (p := p) (mode := m) hp1.1
            have t0 := cellB hX9.out.1 (i := 0) rfl
            have t1 := cellB hX9.out.1 (i := 1) rfl
            have t2 := cellB hX9.out.1 (i := 2) rfl
            have kb := bareV_c _ nz v lv cv (EA + (rndK nz q p m : Int)) (rndN nz q p m) hv9.out (by omega) (by omega) (by omega)
            replace kb := Lib.hid kb
            replace hfw := Lib.hid hfw
            go_wp2_with fail
            with_reducible refine kb.out.mono ?_
            rintro E w10 ⟨g1, lg1, cg1, C1, eg1, ng1, rfl, hr10, hb10', hC1⟩
            have hX10 := hX9.out.new hb10'
            have hb10 := brise hb9.out hb10'
            have hlg1 : C1 = 1 → True := fun _ => trivial
            clear t0 t1 t2 kb hb10' hlg1
            go_upto_region 9 with (fail)
            generalize hWg : w10.alloc (.cells #[.bool nz, .slice g1 lg1 cg1, .int .i64 eg1] 30 (0, 0)) = V3
            obtain ⟨hX11, hbg, -⟩ := hX10.add hWg
            obtain ⟨ob, hob⟩ : ∃ ob, w10.heap.size = ob := ⟨_, rfl⟩
            rw [hob] at hX11 ⊢
            have hb11 := brise hb10 hbg
            have hr11 := hr10.below hbg
            have hB11 := brise hB7.out hb11
            have hkf : (ix = true ∧ C1 = 1) ∨ figs R ≤ p := by
              rcases kfig.out with h | ⟨h, j, hj⟩
              · exact .inr h
              · exact .inl ⟨by rw [← hix.out]; exact h, hC1 j hj⟩
            replace hX11 := Lib.hid hX11
            replace hb11 := Lib.hid hb11
            replace hr11 := Lib.hid hr11
            replace hB11 := Lib.hid hB11
            replace hkf := Lib.hid hkf
            replace hob := Lib.hid hob
            clear hX10 hb10 hr10 hbg hWg hC1
            go_cut [76] (fun vv wx => ∃ bb : Bool, vv = .bool bb ∧ (bb = false → figs R ≤ p) ∧ Below V3.heap.size V3 wx)
            case first =>
              cases ix with
              | false =>
                have hfin : figs R ≤ p := by rcases hkf.out with ⟨h, _⟩ | h; exact absurd h (by simp); exact h
                replace hfin := Lib.hid hfin
                go_quiet (fail)
                go_wp2_with fail
                go_meet
                exact ⟨false, rfl, fun _ => hfin.out, Below.drwN (Below.refl _ _) _⟩
              | true =>
                have ks := small1_c V3.drew
                have hS0 := cellB (hX11.out.drew).1 (i := 1) rfl
                replace ks := Lib.hid ks
                go_region_held3 (fun w' => w'.cell? ⟨ob, 1, none⟩ = some (.slice g1 lg1 cg1)) (first | exact hS0 | exact hS1 | exact hS2) (first
                  | (go_at_call 26
                     with_reducible refine ks.out.mono ?_
                     rintro E v1 ⟨s1, ls1, cs1, rfl, h1⟩
                     have hb1 := bundrew h1.bel
                     have hS1 := cellB (hX11.out.new hb1).1 (i := 1) rfl
                     have kc := cmpD_c v1 g1 s1 lg1 cg1 ls1 cs1 C1 1 (hr11.out.below hb1) h1.rd
                     replace hb1 := Lib.hid hb1
                     replace kc := Lib.hid kc
                     clear h1)
                  | (go_at_call 25
                     with_reducible refine kc.out.mono ?_
                     rintro E v2 ⟨rfl, nn, hw⟩
                     have hb2 : Below V3.heap.size V3 v2 := by rw [hw]; exact Below.drwN hb1.out nn
                     have hS2 := cellB (hX11.out.new hb2).1 (i := 1) rfl
                     replace hb2 := Lib.hid hb2
                     clear hw))
                clear hS0 hS1 hS2
                have ho : (ord3 C1 1 == 0) = decide (C1 = 1) := by
                  by_cases h : C1 = 1
                  · rw [decide_eq_true h, ord3_zero.2 h]; rfl
                  · rw [decide_eq_false h]
                    have : ord3 C1 1 ≠ 0 := fun h2 => h (ord3_zero.1 h2)
                    simp [this]
                have hfin : decide (C1 = 1) = false → figs R ≤ p := fun h => by
                  rcases hkf.out with ⟨_, h1⟩ | h1
                  · rw [h1] at h; simp at h
                  · exact h1
                replace hfin := Lib.hid hfin
                obtain ⟨bb, hbb⟩ : ∃ bb, decide (C1 = 1) = bb := ⟨_, rfl⟩
                rw [hbb] at ho hfin
                replace hbb := Lib.hid hbb
                go_wp2_with fail
                go_meet
                exact ⟨bb, by rw [ho], hfin.out, hb2.out⟩
            case rest =>
              obtain ⟨bb, rfl, hfin, hbc⟩ := hcut
              have hX12 := hX11.out.new hbc
              have hB12 := brise hB11.out hbc
              replace hX12 := Lib.hid hX12
              replace hB12 := Lib.hid hB12
              clear hbc
              cases bb with
              | true =>
                go_wp2
                go_ret
                exact ⟨rfl, hB12.out⟩
              | false =>
                have hfin : decide ((figs R : Int) ≤ (p : Int)) = true := decide_eq_true (by have := hfin rfl; omega)
                have u0 := cellB hX12.out.2.2.1 (i := 0) rfl
                have u1 := cellB hX12.out.2.2.1 (i := 1) rfl
                have u2 := cellB hX12.out.2.2.1 (i := 2) rfl
                have u3 := cellB hX12.out.2.2.1 (i := 3) rfl
                have y0 := cellB hX12.out.2.2.2.2.2.1 (i := 0) rfl
                have y1 := cellB hX12.out.2.2.2.2.2.1 (i := 1) rfl
                have y2 := cellB hX12.out.2.2.2.2.2.1 (i := 2) rfl
                have y3 := cellB hX12.out.2.2.2.2.2.1 (i := 3) rfl
                have x0 := cellB hX12.out.2.2.2.2.2.2.1 (i := 0) rfl
                have x1 := cellB hX12.out.2.2.2.2.2.2.1 (i := 1) rfl
                have x2 := cellB hX12.out.2.2.2.2.2.2.1 (i := 2) rfl
                have x3 := cellB hX12.out.2.2.2.2.2.2.1 (i := 3) rfl
                have kop2 := kop.out _ hB12.out
                replace kop2 := Lib.hid kop2
                go_wp2_with fail
                with_reducible refine kop2.out.mono ?_
                rintro E w6 ⟨qz, cz, rfl, hq, hch⟩
                have hbq := cbelow hch
                clear u0 u1 u2 u3 x0 x1 x2 x3 y0 y1 y2 y3 hch kop2
                have hXq := hX12.out.new hbq
                replace hq := Lib.hid hq
                go_upto_region 12 with (fail)
                generalize hWz : w6.alloc (.cells #[.int .i64 0, .bool nz, .slice qz (digs R).length cz, .int .i64 E0] 25 (0, 0)) = V5
                obtain ⟨hX13, hbz, -⟩ := hXq.add hWz
                have hB13 := brise hB12.out (brise hbq hbz)
                have hq13 := hq.out.bel hbz
                have t0 := cellB hX13.1 (i := 0) rfl
                have t1 := cellB hX13.1 (i := 1) rfl
                have t2 := cellB hX13.1 (i := 2) rfl
                have t3 := cellB hX13.1 (i := 3) rfl
                have ko := ofDec_c _ 0 nz qz _ cz (digs R) E0 hq13 (by omega)
                rw [val_digs, show decide ((0 : Int) = 0 ∧ digs R = digs R) = true by simp] at ko
                replace ko := Lib.hid ko
                replace hX13 := Lib.hid hX13
                replace hB13 := Lib.hid hB13
                clear hXq hbz hbq hWz hq hq13
                go_wp2_with fail
                with_reducible refine ko.out.mono ?_
                rintro E w14 ⟨g, lg, cg, rfl, hg⟩
                have hX14 := hX13.out.new hg.bel
                have hB14 := brise hB13.out hg.bel
                have hgr := hg.rd
                clear t0 t1 t2 t3 ko hg
                go_upto_region 13 with (fail)
                generalize hWg : w14.alloc (.cells #[.bool nz, .slice g lg cg, .int .i64 E0] 30 (0, 0)) = V6
                obtain ⟨hX15, hbg, -⟩ := hX14.add hWg
                obtain ⟨gb, hgb⟩ : ∃ gb, w14.heap.size = gb := ⟨_, rfl⟩
                rw [hgb] at hX15 ⊢
                have kfg := figuresD_c V6.drew g lg cg R ((hgr.below hbg).below (bD _)) (by rw [← hgr.len]; omega)
                have hS0 : V6.drew.cell? ⟨gb, 1, none⟩ = some (.slice g lg cg) ∧ V6.drew.cell? ⟨cb, 0, none⟩ = some (.int .u64 (p : Int)) := ⟨cellB hX15.drew.1 rfl, cellB hX15.drew.2.2.2.2.1 rfl⟩
                have hB15 := brise hB14 hbg
                replace kfg := Lib.hid kfg
                replace hX15 := Lib.hid hX15
                replace hB15 := Lib.hid hB15
                replace hgb := Lib.hid hgb
                clear hX14 hB14 hgr hbg hWg
                go_region_held3 (fun w' => w'.cell? ⟨gb, 1, none⟩ = some (.slice g lg cg) ∧ w'.cell? ⟨cb, 0, none⟩ = some (.int .u64 (p : Int))) (first | exact hS0 | exact hS1) (
                  (go_at_call 15
                   with_reducible refine kfg.out.mono ?_
                   rintro E w15 ⟨rfl, hb15'⟩
                   have hb15 := bundrew hb15'
                   have hX16 := hX15.out.new hb15
                   have hS1 : w15.cell? ⟨gb, 1, none⟩ = some (.slice g lg cg) ∧ w15.cell? ⟨cb, 0, none⟩ = some (.int .u64 (p : Int)) := ⟨cellB hX16.1 rfl, cellB hX16.2.2.2.2.1 rfl⟩
                   replace hb15 := Lib.hid hb15
                   clear hb15' hX16))
                go_wp2
                go_ret
                exact ⟨by simp, brise hB15.out hb15.out⟩
    · rw [decide_eq_false hfit2] at kf
      replace kf := Lib.hid kf
      go_wp2_with fail
      with_reducible refine kf.out.mono ?_
      rintro E w2 ⟨rfl, hb⟩
      go_wp2
      go_ret
      exact ⟨rfl, brise hB1.out hb⟩
  · rw [decide_eq_false hfit] at kf
    replace kf := Lib.hid kf
    go_wp2_with fail
    with_reducible refine kf.out.mono ?_
    rintro E w1 ⟨rfl, hb⟩
    go_wp2
    go_ret
    exact ⟨rfl, brise hB0.out hb⟩
end Go.Proofs.YtffjgkghmdhlkaaGreatDoor
