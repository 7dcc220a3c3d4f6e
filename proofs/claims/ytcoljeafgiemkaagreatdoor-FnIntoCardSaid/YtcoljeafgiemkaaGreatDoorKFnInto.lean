/- FnInto: the walk. -/
import Derived.Test.YtcoljeafgiemkaaGreatDoorY46
import Derived.Test.YtcoljeafgiemkaaGreatDoorC40
import Derived.Test.YtcoljeafgiemkaaGreatDoorC21
import Derived.Test.YtcoljeafgiemkaaGreatDoorO19
namespace Go.Proofs.YtcoljeafgiemkaaGreatDoor
open Go Go.RowKit

set_option maxRecDepth 100000 in
set_option maxHeartbeats 8000000 in
theorem FnInto_walk (op which prec mode : Int) (f : Int) (n : Bool) (A : Option Addr) (l c : Nat) (X : List Nat) (e : Int) (g : Int) (o : Bool) (B : Option Addr) (r s : Nat) (Y : List Nat) (d : Int) (w : World) (hG : Glob w) (h0 : 0 ≤ op ∧ op ≤ 255) (h1 : 0 ≤ which ∧ which ≤ 255) (h2 : 0 ≤ prec ∧ prec ≤ 255) (h3 : 0 ≤ mode ∧ mode ≤ 255) (hx : DecIn w f A l c X e) (hy : DecIn w g B r s Y d) :
    Calls Tryz.prog 6 #[.int .u8 op, .int .u8 which, .int .u8 prec, .int .u8 mode, .agg #[.int .i64 f, .bool n, .slice A l c, .int .i64 e], .agg #[.int .i64 g, .bool o, .slice B r s, .int .i64 d]] w fun E w' => E = .returned (.bool true) ∧ Below w.heap.size w w' := by
  obtain ⟨m, hmm⟩ : ∃ m : Nat, mode % 8 = (m : Int) := ⟨(mode % 8).toNat, by omega⟩
  obtain ⟨p, hpp⟩ : ∃ p : Nat, 1 + prec % 60 = (p : Int) := ⟨(1 + prec % 60).toNat, by omega⟩
  have hm : m < 8 := by omega
  have hp1 : 1 ≤ p ∧ p ≤ 60 := by omega
  have kw := fun W => wideC_c W prec mode p m h2 h3 hmm hpp
  have hX := hx.rd
  have hY := hy.rd
  have kf0 := fun q1 q2 q3 q4 q5 q6 => intoFacts0 w hG hm hp1 (e := e) (d := d) (n := n) (o := o) hX hY q1 q2 ⟨q3, q4⟩ ⟨q5, q6⟩
  have kf1 := fun q1 q2 q3 q4 q5 q6 => intoFacts1 w hG hm hp1 (e := e) (d := d) (n := n) (o := o) hX hY q1 q2 ⟨q3, q4⟩ ⟨q5, q6⟩
  have kf2 := fun q1 q2 q3 q4 q5 q6 => intoFacts2 w hG hm hp1 (e := e) (d := d) (n := n) (o := o) hX hY q1 q2 ⟨q3, q4⟩ ⟨q5, q6⟩
  obtain ⟨k, hk⟩ : ∃ k, op % 6 = k := ⟨_, rfl⟩
  obtain ⟨v, hv⟩ : ∃ v, which % 3 = v := ⟨_, rfl⟩
  obtain ⟨h0a, h0b⟩ := h0
  obtain ⟨h1a, h1b⟩ := h1
  have hk6 : IntKind.i64.wrap (op.tmod 6) = k := by
    have h : op.tmod 6 = op % 6 := Int.tmod_eq_emod_of_nonneg h0a
    rw [h, hk]; exact IntWalk.i64_in _ (by omega)
  have hv3 : IntKind.i64.wrap (which.tmod 3) = v := by
    have h : which.tmod 3 = which % 3 := Int.tmod_eq_emod_of_nonneg h1a
    rw [h, hv]; exact IntWalk.i64_in _ (by omega)
  have hkb : 0 ≤ k ∧ k < 6 := by omega
  have hvb : v = 0 ∨ v = 1 ∨ v = 2 := by omega
  replace hkb := Lib.hid hkb
  replace hvb := Lib.hid hvb
  have ewp : IntKind.i64.wrap (p : Int) = (p : Int) := IntWalk.i64_in _ (by omega)
  have hlc := hX.cap
  have hcm := hX.max
  have hls := hY.cap
  have hsm := hY.max
  replace kw := Lib.hid kw
  replace kf0 := Lib.hid kf0
  replace kf1 := Lib.hid kf1
  replace kf2 := Lib.hid kf2
  replace hX := Lib.hid hX
  replace hY := Lib.hid hY
  replace hG := Lib.hid hG
  clear h2 h3 hmm hpp hx hy
  go_enter Tryz.func6, Tryz.ntmps6
  go_upto_region 1 with (fail)
  generalize hW : (w.alloc (.cells #[.int .i64 f, .bool n, .slice A l c, .int .i64 e] 24 (0, 0))).alloc (.cells #[.int .i64 g, .bool o, .slice B r s, .int .i64 d] 24 (0, 0)) = W0
  have hB0 : Below w.heap.size w W0 := by rw [← hW]; exact ((Below.refl _ _).alloc (Nat.le_refl _) _).alloc (by simp) _
  have hX0 : Bxs [(w.heap.size + 1, #[.int .i64 g, .bool o, .slice B r s, .int .i64 d], 24), (w.heap.size, #[.int .i64 f, .bool n, .slice A l c, .int .i64 e], 24)] W0 := by rw [← hW]; exact ⟨allocB_at _ _ (by simp), allocB_old (allocB _ _), trivial⟩
  clear hW
  have kf := fits_c W0 f n A l c e
  have c0 := cellB hX0.2.1 (i := 0) rfl
  have c1 := cellB hX0.2.1 (i := 1) rfl
  have c2 := cellB hX0.2.1 (i := 2) rfl
  have c3 := cellB hX0.2.1 (i := 3) rfl
  replace hX0 := Lib.hid hX0
  replace hB0 := Lib.hid hB0
  by_cases hfit : l ≤ 2147483647
  · rw [decide_eq_true hfit] at kf
    replace kf := Lib.hid kf
    go_wp2_with fail
    with_reducible refine kf.out.mono ?_
    rintro E w1 ⟨rfl, hb⟩
    have hX1 := hX0.out.new hb
    have hB1 := brise hB0.out hb
    clear c0 c1 c2 c3 kf hb
    have d0 := cellB hX1.1 (i := 0) rfl
    have d1 := cellB hX1.1 (i := 1) rfl
    have d2 := cellB hX1.1 (i := 2) rfl
    have d3 := cellB hX1.1 (i := 3) rfl
    replace hX1 := Lib.hid hX1
    replace hB1 := Lib.hid hB1
    have kf := fits_c w1 g o B r s d
    by_cases hfit2 : r ≤ 2147483647
    · rw [decide_eq_true hfit2] at kf
      replace kf := Lib.hid kf
      go_wp2_with fail
      with_reducible refine kf.out.mono ?_
      rintro E w2 ⟨rfl, hb⟩
      have hX2 := hX1.out.new hb
      have hB2 := brise hB1.out hb
      clear d0 d1 d2 d3 kf hb
      have d0 := cellB hX2.1 (i := 0) rfl
      have d1 := cellB hX2.1 (i := 1) rfl
      have d2 := cellB hX2.1 (i := 2) rfl
      have d3 := cellB hX2.1 (i := 3) rfl
      have c0 := cellB hX2.2.1 (i := 0) rfl
      have c1 := cellB hX2.2.1 (i := 1) rfl
      have c2 := cellB hX2.2.1 (i := 2) rfl
      have c3 := cellB hX2.2.1 (i := 3) rfl
      have kq := both_c w2 f n A l c X e g o B r s Y d (hX.out.bel hB2) (hY.out.bel hB2)
      replace kq := Lib.hid kq
      replace hX2 := Lib.hid hX2
      replace hB2 := Lib.hid hB2
      go_wp2_with fail
      with_reducible refine kq.out.mono ?_
      rintro E w3 ⟨a0, p0, m0, k0, a2, b0, q0, n0, j0, b2, ok, rfl, hb, hfin⟩
      have hX3 := hX2.out.new hb
      have hB3 := brise hB2.out hb
      clear c0 c1 c2 c3 d0 d1 d2 d3 kq hb
      replace hX3 := Lib.hid hX3
      replace hB3 := Lib.hid hB3
      replace hfin := Lib.hid hfin
      go_upto_region 4 with (fail)
      generalize hWa : w3.alloc (.cells #[.bool a0, .slice p0 m0 k0, .int .i64 a2] 30 (0, 0)) = Wa
      obtain ⟨hX4a, hba, hsa⟩ := hX3.out.add hWa
      generalize hWb : Wa.alloc (.cells #[.bool b0, .slice q0 n0 j0, .int .i64 b2] 30 (0, 0)) = W
      obtain ⟨hX4, hbb, hsb⟩ := hX4a.add hWb
      obtain ⟨va, hva⟩ : ∃ va, w3.heap.size = va := ⟨_, rfl⟩
      rw [hsa] at hX4
      rw [hsa, hva] at hsb
      rw [hva] at hX4 ⊢
      have hB4 := brise hB3.out (brise hba hbb)
      clear hX4a hba hbb hsa hWa hWb
      have y0 := cellB hX4.2.2.1 (i := 0) rfl
      have y1 := cellB hX4.2.2.1 (i := 1) rfl
      have y2 := cellB hX4.2.2.1 (i := 2) rfl
      have y3 := cellB hX4.2.2.1 (i := 3) rfl
      replace hX4 := Lib.hid hX4
      replace hB4 := Lib.hid hB4
      replace hva := Lib.hid hva
      replace hsb := Lib.hid hsb
      go_upto_region 6 with (fail)
      generalize hWo : W.alloc (.cells #[.int .i64 g, .bool o, .slice B r s, .int .i64 d] 24 (0, 0)) = W5
      obtain ⟨hX5, hbo, -⟩ := hX4.out.add hWo
      obtain ⟨ob, hob⟩ : ∃ ob, W.heap.size = ob := ⟨_, rfl⟩
      rw [hob] at hX5 ⊢
      have hB5 := brise hB4.out hbo
      have hne : va + 1 ≠ ob := by have := hsb.out; omega
      have hnf : ob ≠ w.heap.size ∧ ob ≠ w.heap.size + 1 ∧ ob ≠ va ∧ va + 1 ≠ w.heap.size ∧ va + 1 ≠ w.heap.size + 1 := by
        have h1 := ltB hX4.out.2.2.1
        have h2 := ltB hX3.out.1
        have h3 := hva.out
        have h4 := hsb.out
        omega
      clear hWo hbo y0 y1 y2 y3
      replace hX5 := Lib.hid hX5
      replace hB5 := Lib.hid hB5
      replace hob := Lib.hid hob
      replace hne := Lib.hid hne
      replace hnf := Lib.hid hnf
      rcases hvb.out with rfl | rfl | rfl
      · go_upto_region 8 with (fail)
        have hX6 := hX5
        have hB6 := hB5
        clear hX5 hB5 hX4 hB4
        cases ok with
        | false =>
          go_wp2
          go_ret
          exact ⟨rfl, hB6.out⟩
        | true =>
          obtain ⟨fx, fy⟩ := hfin.out (by simp)
          have kfv := kf0.out fx.len fy.len fx.lo fx.hi fy.lo fy.hi k hkb.out
          have hn0 := d16_len0 fy.coeff.rd.len
          have e1 := fx.form
          have e2 := fy.form
          have e3 := fx.neg.symm
          have e4 := fy.neg.symm
          have e5 := fx.ex.symm
          have e6 := fy.ex.symm
          subst e1 e2 e3 e4 e5 e6
          replace hn0 := Lib.hid hn0
          clear hfin fx fy kf0 kf1 kf2
          by_cases hk2 : k ≤ 2
          · have hg1 : decide (k > 2) = false := decide_eq_false (by omega)
            have hg2 : ¬ 2 < k := by omega
            have kfk := kfv (.inl hk2)
            clear kfv
            have hX9 := hX6
            have hB9 := hB6
            clear hX6 hB6
            obtain ⟨F0, E0, nz, R, cn, kop, kop2⟩ := kfk
            unfold TellF at kop kop2
            obtain ⟨lr, hlr⟩ : ∃ lr, (digs R).length = lr := ⟨_, rfl⟩
            simp only [hlr] at kop kop2
            replace kop := Lib.hid kop
            replace kop2 := Lib.hid kop2
            replace hlr := Lib.hid hlr
            go_wp2_with fail
            with_reducible refine (kw.out _).mono ?_
            rintro E w5 ⟨rfl, hb5⟩
            have hX6 := hX9.out.new hb5
            go_upto_region 11 with (fail)
            generalize hWc : w5.alloc (.cells #[.int .u64 (p : Int), .int .i64 100000, .int .i64 (-100000), .int .i64 (m : Int)] 35 (0, 0)) = V1
            obtain ⟨hX7, hbc, -⟩ := hX6.add hWc
            obtain ⟨cb, hcb⟩ : ∃ cb, w5.heap.size = cb := ⟨_, rfl⟩
            rw [hcb] at hX7 ⊢
            have hB7 := brise hB9.out (brise hb5 hbc)
            replace hX7 := Lib.hid hX7
            replace hB7 := Lib.hid hB7
            replace hcb := Lib.hid hcb
            clear hX6 hbc hb5 hWc
            have u0 := cellB hX7.out.1 (i := 0) rfl
            have u1 := cellB hX7.out.1 (i := 1) rfl
            have u2 := cellB hX7.out.1 (i := 2) rfl
            have u3 := cellB hX7.out.1 (i := 3) rfl
            have x0 := cellB hX7.out.2.2.2.2.2.1 (i := 0) rfl
            have x1 := cellB hX7.out.2.2.2.2.2.1 (i := 1) rfl
            have x2 := cellB hX7.out.2.2.2.2.2.1 (i := 2) rfl
            have x3 := cellB hX7.out.2.2.2.2.2.1 (i := 3) rfl
            have y0 := cellB hX7.out.2.2.2.2.1 (i := 0) rfl
            have y1 := cellB hX7.out.2.2.2.2.1 (i := 1) rfl
            have y2 := cellB hX7.out.2.2.2.2.1 (i := 2) rfl
            have y3 := cellB hX7.out.2.2.2.2.1 (i := 3) rfl
            have kop3 := kop.out _ hB7.out
            replace kop3 := Lib.hid kop3
            go_wp2_with fail
            with_reducible refine kop3.out.mono ?_
            rintro E w6 ⟨qz, cz, rfl, hq, -, hch⟩
            have hbq := cbelow hch
            clear u0 u1 u2 u3 x0 x1 x2 x3 y0 y1 y2 y3 hch kop3
            have hXq := hX7.out.new hbq
            go_upto_region 12 with (fail)
            generalize hWz : w6.alloc (.cells #[.int .i64 F0, .bool nz, .slice qz lr cz, .int .i64 E0] 24 (0, 0)) = V2
            obtain ⟨hX8, hbz, -⟩ := hXq.add hWz
            have hB8 := brise hB7.out (brise hbq hbz)
            have hq8 := hq.below hbz
            replace hX8 := Lib.hid hX8
            replace hB8 := Lib.hid hB8
            replace hq8 := Lib.hid hq8
            clear hXq hbz hbq hWz hq
            have u0 := cellB hX8.out.2.1 (i := 0) rfl
            have u1 := cellB hX8.out.2.1 (i := 1) rfl
            have u2 := cellB hX8.out.2.1 (i := 2) rfl
            have u3 := cellB hX8.out.2.1 (i := 3) rfl
            have x0 := cellB hX8.out.2.2.2.2.2.2.1 (i := 0) rfl
            have x1 := cellB hX8.out.2.2.2.2.2.2.1 (i := 1) rfl
            have x2 := cellB hX8.out.2.2.2.2.2.2.1 (i := 2) rfl
            have x3 := cellB hX8.out.2.2.2.2.2.2.1 (i := 3) rfl
            have y0 := cellB hX8.out.2.2.1 (i := 0) rfl
            have y1 := cellB hX8.out.2.2.1 (i := 1) rfl
            have y2 := cellB hX8.out.2.2.1 (i := 2) rfl
            have y3 := cellB hX8.out.2.2.1 (i := 3) rfl
            have kop3 := kop2.out _ hB8.out
            replace kop3 := Lib.hid kop3
            go_wp2_with fail
            with_reducible refine kop3.out.mono ?_
            rintro E w9 ⟨qv, cv, rfl, hq, -, hch⟩
            have hbq := cbelow hch
            clear u0 u1 u2 u3 x0 x1 x2 x3 y0 y1 y2 y3 hch kop3
            have hXq := hX8.out.new hbq
            have hq9 := hq8.out.below hbq
            go_upto_region 13 with (fail)
            generalize hWz : w9.alloc (.cells #[.int .i64 F0, .bool nz, .slice qv lr cv, .int .i64 E0] 24 (0, 0)) = V3
            obtain ⟨hX10, hbz, -⟩ := hXq.add hWz
            have hB10 := brise hB8.out (brise hbq hbz)
            have kal := alikeF_c V3 F0 nz qz qv lr cz cv E0 (digs R) (hq9.below hbz) (hq.below hbz)
            have y0 := cellB hX10.1 (i := 0) rfl
            have y1 := cellB hX10.1 (i := 1) rfl
            have y2 := cellB hX10.1 (i := 2) rfl
            have y3 := cellB hX10.1 (i := 3) rfl
            have x0 := cellB hX10.2.1 (i := 0) rfl
            have x1 := cellB hX10.2.1 (i := 1) rfl
            have x2 := cellB hX10.2.1 (i := 2) rfl
            have x3 := cellB hX10.2.1 (i := 3) rfl
            replace kal := Lib.hid kal
            replace hB10 := Lib.hid hB10
            clear hXq hX10 hbz hbq hWz hq hq9
            go_wp2_with fail
            with_reducible refine kal.out.mono ?_
            rintro E w10 ⟨rfl, hb10⟩
            go_wp2
            go_ret
            exact ⟨by simp, brise hB10.out hb10⟩
          · have hg1 : decide (k > 2) = true := decide_eq_true (by omega)
            have hg2 : 2 < k := by omega
            have b0' := cellB hX6.out.2.1 (i := 0) rfl
            have b1' := cellB hX6.out.2.1 (i := 1) rfl
            have b2' := cellB hX6.out.2.1 (i := 2) rfl
            have ks := fun W => sign_c W o q0 n0 j0 d
            by_cases hz : n0 = 0
            · simp only [if_pos hz] at ks
              replace ks := Lib.hid ks
              replace hz := Lib.hid hz
              go_wp2_with fail
              with_reducible refine (ks.out _).mono ?_
              rintro E w4 ⟨rfl, hb4⟩
              go_wp2
              go_ret
              exact ⟨rfl, brise hB6.out hb4⟩
            · have kfk := kfv (.inr (fun h => hz (hn0.out.2 h)))
              simp only [if_neg hz] at ks
              obtain ⟨sg, hsg⟩ : ∃ sg : Int, (if o then -1 else 1) = sg := ⟨_, rfl⟩
              rw [hsg] at ks
              have hsg0 := sgn_ne o hsg
              replace ks := Lib.hid ks
              replace hsg := Lib.hid hsg
              replace hz := Lib.hid hz
              clear kfv
              go_wp2_with fail
              with_reducible refine (ks.out _).mono ?_
              rintro E w4 ⟨rfl, hb4⟩
              have hX9 := hX6.out.new hb4
              have hB9 := brise hB6.out hb4
              replace hX9 := Lib.hid hX9
              replace hB9 := Lib.hid hB9
              clear hX6 hB6 b0' b1' b2' ks hb4
              obtain ⟨F0, E0, nz, R, cn, kop, kop2⟩ := kfk
              unfold TellF at kop kop2
              obtain ⟨lr, hlr⟩ : ∃ lr, (digs R).length = lr := ⟨_, rfl⟩
              simp only [hlr] at kop kop2
              replace kop := Lib.hid kop
              replace kop2 := Lib.hid kop2
              replace hlr := Lib.hid hlr
              go_wp2_with fail
              with_reducible refine (kw.out _).mono ?_
              rintro E w5 ⟨rfl, hb5⟩
              have hX6 := hX9.out.new hb5
              go_upto_region 11 with (fail)
              generalize hWc : w5.alloc (.cells #[.int .u64 (p : Int), .int .i64 100000, .int .i64 (-100000), .int .i64 (m : Int)] 35 (0, 0)) = V1
              obtain ⟨hX7, hbc, -⟩ := hX6.add hWc
              obtain ⟨cb, hcb⟩ : ∃ cb, w5.heap.size = cb := ⟨_, rfl⟩
              rw [hcb] at hX7 ⊢
              have hB7 := brise hB9.out (brise hb5 hbc)
              replace hX7 := Lib.hid hX7
              replace hB7 := Lib.hid hB7
              replace hcb := Lib.hid hcb
              clear hX6 hbc hb5 hWc
              have u0 := cellB hX7.out.1 (i := 0) rfl
              have u1 := cellB hX7.out.1 (i := 1) rfl
              have u2 := cellB hX7.out.1 (i := 2) rfl
              have u3 := cellB hX7.out.1 (i := 3) rfl
              have x0 := cellB hX7.out.2.2.2.2.2.1 (i := 0) rfl
              have x1 := cellB hX7.out.2.2.2.2.2.1 (i := 1) rfl
              have x2 := cellB hX7.out.2.2.2.2.2.1 (i := 2) rfl
              have x3 := cellB hX7.out.2.2.2.2.2.1 (i := 3) rfl
              have y0 := cellB hX7.out.2.2.2.2.1 (i := 0) rfl
              have y1 := cellB hX7.out.2.2.2.2.1 (i := 1) rfl
              have y2 := cellB hX7.out.2.2.2.2.1 (i := 2) rfl
              have y3 := cellB hX7.out.2.2.2.2.1 (i := 3) rfl
              have kop3 := kop.out _ hB7.out
              replace kop3 := Lib.hid kop3
              go_wp2_with fail
              with_reducible refine kop3.out.mono ?_
              rintro E w6 ⟨qz, cz, rfl, hq, -, hch⟩
              have hbq := cbelow hch
              clear u0 u1 u2 u3 x0 x1 x2 x3 y0 y1 y2 y3 hch kop3
              have hXq := hX7.out.new hbq
              go_upto_region 12 with (fail)
              generalize hWz : w6.alloc (.cells #[.int .i64 F0, .bool nz, .slice qz lr cz, .int .i64 E0] 24 (0, 0)) = V2
              obtain ⟨hX8, hbz, -⟩ := hXq.add hWz
              have hB8 := brise hB7.out (brise hbq hbz)
              have hq8 := hq.below hbz
              replace hX8 := Lib.hid hX8
              replace hB8 := Lib.hid hB8
              replace hq8 := Lib.hid hq8
              clear hXq hbz hbq hWz hq
              have u0 := cellB hX8.out.2.1 (i := 0) rfl
              have u1 := cellB hX8.out.2.1 (i := 1) rfl
              have u2 := cellB hX8.out.2.1 (i := 2) rfl
              have u3 := cellB hX8.out.2.1 (i := 3) rfl
              have x0 := cellB hX8.out.2.2.2.2.2.2.1 (i := 0) rfl
              have x1 := cellB hX8.out.2.2.2.2.2.2.1 (i := 1) rfl
              have x2 := cellB hX8.out.2.2.2.2.2.2.1 (i := 2) rfl
              have x3 := cellB hX8.out.2.2.2.2.2.2.1 (i := 3) rfl
              have y0 := cellB hX8.out.2.2.1 (i := 0) rfl
              have y1 := cellB hX8.out.2.2.1 (i := 1) rfl
              have y2 := cellB hX8.out.2.2.1 (i := 2) rfl
              have y3 := cellB hX8.out.2.2.1 (i := 3) rfl
              have kop3 := kop2.out _ hB8.out
              replace kop3 := Lib.hid kop3
              go_wp2_with fail
              with_reducible refine kop3.out.mono ?_
              rintro E w9 ⟨qv, cv, rfl, hq, -, hch⟩
              have hbq := cbelow hch
              clear u0 u1 u2 u3 x0 x1 x2 x3 y0 y1 y2 y3 hch kop3
              have hXq := hX8.out.new hbq
              have hq9 := hq8.out.below hbq
              go_upto_region 13 with (fail)
              generalize hWz : w9.alloc (.cells #[.int .i64 F0, .bool nz, .slice qv lr cv, .int .i64 E0] 24 (0, 0)) = V3
              obtain ⟨hX10, hbz, -⟩ := hXq.add hWz
              have hB10 := brise hB8.out (brise hbq hbz)
              have kal := alikeF_c V3 F0 nz qz qv lr cz cv E0 (digs R) (hq9.below hbz) (hq.below hbz)
              have y0 := cellB hX10.1 (i := 0) rfl
              have y1 := cellB hX10.1 (i := 1) rfl
              have y2 := cellB hX10.1 (i := 2) rfl
              have y3 := cellB hX10.1 (i := 3) rfl
              have x0 := cellB hX10.2.1 (i := 0) rfl
              have x1 := cellB hX10.2.1 (i := 1) rfl
              have x2 := cellB hX10.2.1 (i := 2) rfl
              have x3 := cellB hX10.2.1 (i := 3) rfl
              replace kal := Lib.hid kal
              replace hB10 := Lib.hid hB10
              clear hXq hX10 hbz hbq hWz hq hq9
              go_wp2_with fail
              with_reducible refine kal.out.mono ?_
              rintro E w10 ⟨rfl, hb10⟩
              go_wp2
              go_ret
              exact ⟨by simp, brise hB10.out hb10⟩
      · go_upto_region 8 with (fail)
        have hX6 := hX5
        have hB6 := hB5
        clear hX5 hB5 hX4 hB4
        cases ok with
        | false =>
          go_wp2
          go_ret
          exact ⟨rfl, hB6.out⟩
        | true =>
          obtain ⟨fx, fy⟩ := hfin.out (by simp)
          have kfv := kf1.out fx.len fy.len fx.lo fx.hi fy.lo fy.hi k hkb.out
          have hn0 := d16_len0 fy.coeff.rd.len
          have e1 := fx.form
          have e2 := fy.form
          have e3 := fx.neg.symm
          have e4 := fy.neg.symm
          have e5 := fx.ex.symm
          have e6 := fy.ex.symm
          subst e1 e2 e3 e4 e5 e6
          replace hn0 := Lib.hid hn0
          clear hfin fx fy kf0 kf1 kf2
          by_cases hk2 : k ≤ 2
          · have hg1 : decide (k > 2) = false := decide_eq_false (by omega)
            have hg2 : ¬ 2 < k := by omega
            have kfk := kfv (.inl hk2)
            clear kfv
            have hX9 := hX6
            have hB9 := hB6
            clear hX6 hB6
            obtain ⟨F0, E0, nz, R, cn, kop, kop2⟩ := kfk
            unfold TellF at kop kop2
            obtain ⟨lr, hlr⟩ : ∃ lr, (digs R).length = lr := ⟨_, rfl⟩
            simp only [hlr] at kop kop2
            replace kop := Lib.hid kop
            replace kop2 := Lib.hid kop2
            replace hlr := Lib.hid hlr
            go_wp2_with fail
            with_reducible refine (kw.out _).mono ?_
            rintro E w5 ⟨rfl, hb5⟩
            have hX6 := hX9.out.new hb5
            go_upto_region 11 with (fail)
            generalize hWc : w5.alloc (.cells #[.int .u64 (p : Int), .int .i64 100000, .int .i64 (-100000), .int .i64 (m : Int)] 35 (0, 0)) = V1
            obtain ⟨hX7, hbc, -⟩ := hX6.add hWc
            obtain ⟨cb, hcb⟩ : ∃ cb, w5.heap.size = cb := ⟨_, rfl⟩
            rw [hcb] at hX7 ⊢
            have hB7 := brise hB9.out (brise hb5 hbc)
            replace hX7 := Lib.hid hX7
            replace hB7 := Lib.hid hB7
            replace hcb := Lib.hid hcb
            clear hX6 hbc hb5 hWc
            have u0 := cellB hX7.out.1 (i := 0) rfl
            have u1 := cellB hX7.out.1 (i := 1) rfl
            have u2 := cellB hX7.out.1 (i := 2) rfl
            have u3 := cellB hX7.out.1 (i := 3) rfl
            have x0 := cellB hX7.out.2.2.2.2.2.1 (i := 0) rfl
            have x1 := cellB hX7.out.2.2.2.2.2.1 (i := 1) rfl
            have x2 := cellB hX7.out.2.2.2.2.2.1 (i := 2) rfl
            have x3 := cellB hX7.out.2.2.2.2.2.1 (i := 3) rfl
            have y0 := cellB hX7.out.2.2.2.2.1 (i := 0) rfl
            have y1 := cellB hX7.out.2.2.2.2.1 (i := 1) rfl
            have y2 := cellB hX7.out.2.2.2.2.1 (i := 2) rfl
            have y3 := cellB hX7.out.2.2.2.2.1 (i := 3) rfl
            have kop3 := kop.out _ hB7.out
            replace kop3 := Lib.hid kop3
            go_wp2_with fail
            with_reducible refine kop3.out.mono ?_
            rintro E w6 ⟨qz, cz, rfl, hq, -, hch⟩
            have hbq := cbelow hch
            clear u0 u1 u2 u3 x0 x1 x2 x3 y0 y1 y2 y3 hch kop3
            have hXq := hX7.out.new hbq
            go_upto_region 12 with (fail)
            generalize hWz : w6.alloc (.cells #[.int .i64 F0, .bool nz, .slice qz lr cz, .int .i64 E0] 24 (0, 0)) = V2
            obtain ⟨hX8, hbz, -⟩ := hXq.add hWz
            have hB8 := brise hB7.out (brise hbq hbz)
            have hq8 := hq.below hbz
            replace hX8 := Lib.hid hX8
            replace hB8 := Lib.hid hB8
            replace hq8 := Lib.hid hq8
            clear hXq hbz hbq hWz hq
            have u0 := cellB hX8.out.2.1 (i := 0) rfl
            have u1 := cellB hX8.out.2.1 (i := 1) rfl
            have u2 := cellB hX8.out.2.1 (i := 2) rfl
            have u3 := cellB hX8.out.2.1 (i := 3) rfl
            have x0 := cellB hX8.out.2.2.2.2.2.2.1 (i := 0) rfl
            have x1 := cellB hX8.out.2.2.2.2.2.2.1 (i := 1) rfl
            have x2 := cellB hX8.out.2.2.2.2.2.2.1 (i := 2) rfl
            have x3 := cellB hX8.out.2.2.2.2.2.2.1 (i := 3) rfl
            have y0 := cellB hX8.out.2.2.1 (i := 0) rfl
            have y1 := cellB hX8.out.2.2.1 (i := 1) rfl
            have y2 := cellB hX8.out.2.2.1 (i := 2) rfl
            have y3 := cellB hX8.out.2.2.1 (i := 3) rfl
            have kop3 := kop2.out _ hB8.out
            replace kop3 := Lib.hid kop3
            go_wp2_with fail
            with_reducible refine kop3.out.mono ?_
            rintro E w9 ⟨qv, cv, rfl, hq, -, hch⟩
            have hbq := cbelow hch
            clear u0 u1 u2 u3 x0 x1 x2 x3 y0 y1 y2 y3 hch kop3
            have hXq := hX8.out.new hbq
            have hq9 := hq8.out.below hbq
            go_upto_region 13 with (fail)
            generalize hWz : w9.alloc (.cells #[.int .i64 F0, .bool nz, .slice qv lr cv, .int .i64 E0] 24 (0, 0)) = V3
            obtain ⟨hX10, hbz, -⟩ := hXq.add hWz
            have hB10 := brise hB8.out (brise hbq hbz)
            have kal := alikeF_c V3 F0 nz qz qv lr cz cv E0 (digs R) (hq9.below hbz) (hq.below hbz)
            have y0 := cellB hX10.1 (i := 0) rfl
            have y1 := cellB hX10.1 (i := 1) rfl
            have y2 := cellB hX10.1 (i := 2) rfl
            have y3 := cellB hX10.1 (i := 3) rfl
            have x0 := cellB hX10.2.1 (i := 0) rfl
            have x1 := cellB hX10.2.1 (i := 1) rfl
            have x2 := cellB hX10.2.1 (i := 2) rfl
            have x3 := cellB hX10.2.1 (i := 3) rfl
            replace kal := Lib.hid kal
            replace hB10 := Lib.hid hB10
            clear hXq hX10 hbz hbq hWz hq hq9
            go_wp2_with fail
            with_reducible refine kal.out.mono ?_
            rintro E w10 ⟨rfl, hb10⟩
            go_wp2
            go_ret
            exact ⟨by simp, brise hB10.out hb10⟩
          · have hg1 : decide (k > 2) = true := decide_eq_true (by omega)
            have hg2 : 2 < k := by omega
            have b0' := cellB hX6.out.2.1 (i := 0) rfl
            have b1' := cellB hX6.out.2.1 (i := 1) rfl
            have b2' := cellB hX6.out.2.1 (i := 2) rfl
            have ks := fun W => sign_c W o q0 n0 j0 d
            by_cases hz : n0 = 0
            · simp only [if_pos hz] at ks
              replace ks := Lib.hid ks
              replace hz := Lib.hid hz
              go_wp2_with fail
              with_reducible refine (ks.out _).mono ?_
              rintro E w4 ⟨rfl, hb4⟩
              go_wp2
              go_ret
              exact ⟨rfl, brise hB6.out hb4⟩
            · have kfk := kfv (.inr (fun h => hz (hn0.out.2 h)))
              simp only [if_neg hz] at ks
              obtain ⟨sg, hsg⟩ : ∃ sg : Int, (if o then -1 else 1) = sg := ⟨_, rfl⟩
              rw [hsg] at ks
              have hsg0 := sgn_ne o hsg
              replace ks := Lib.hid ks
              replace hsg := Lib.hid hsg
              replace hz := Lib.hid hz
              clear kfv
              go_wp2_with fail
              with_reducible refine (ks.out _).mono ?_
              rintro E w4 ⟨rfl, hb4⟩
              have hX9 := hX6.out.new hb4
              have hB9 := brise hB6.out hb4
              replace hX9 := Lib.hid hX9
              replace hB9 := Lib.hid hB9
              clear hX6 hB6 b0' b1' b2' ks hb4
              obtain ⟨F0, E0, nz, R, cn, kop, kop2⟩ := kfk
              unfold TellF at kop kop2
              obtain ⟨lr, hlr⟩ : ∃ lr, (digs R).length = lr := ⟨_, rfl⟩
              simp only [hlr] at kop kop2
              replace kop := Lib.hid kop
              replace kop2 := Lib.hid kop2
              replace hlr := Lib.hid hlr
              go_wp2_with fail
              with_reducible refine (kw.out _).mono ?_
              rintro E w5 ⟨rfl, hb5⟩
              have hX6 := hX9.out.new hb5
              go_upto_region 11 with (fail)
              generalize hWc : w5.alloc (.cells #[.int .u64 (p : Int), .int .i64 100000, .int .i64 (-100000), .int .i64 (m : Int)] 35 (0, 0)) = V1
              obtain ⟨hX7, hbc, -⟩ := hX6.add hWc
              obtain ⟨cb, hcb⟩ : ∃ cb, w5.heap.size = cb := ⟨_, rfl⟩
              rw [hcb] at hX7 ⊢
              have hB7 := brise hB9.out (brise hb5 hbc)
              replace hX7 := Lib.hid hX7
              replace hB7 := Lib.hid hB7
              replace hcb := Lib.hid hcb
              clear hX6 hbc hb5 hWc
              have u0 := cellB hX7.out.1 (i := 0) rfl
              have u1 := cellB hX7.out.1 (i := 1) rfl
              have u2 := cellB hX7.out.1 (i := 2) rfl
              have u3 := cellB hX7.out.1 (i := 3) rfl
              have x0 := cellB hX7.out.2.2.2.2.2.1 (i := 0) rfl
              have x1 := cellB hX7.out.2.2.2.2.2.1 (i := 1) rfl
              have x2 := cellB hX7.out.2.2.2.2.2.1 (i := 2) rfl
              have x3 := cellB hX7.out.2.2.2.2.2.1 (i := 3) rfl
              have y0 := cellB hX7.out.2.2.2.2.1 (i := 0) rfl
              have y1 := cellB hX7.out.2.2.2.2.1 (i := 1) rfl
              have y2 := cellB hX7.out.2.2.2.2.1 (i := 2) rfl
              have y3 := cellB hX7.out.2.2.2.2.1 (i := 3) rfl
              have kop3 := kop.out _ hB7.out
              replace kop3 := Lib.hid kop3
              go_wp2_with fail
              with_reducible refine kop3.out.mono ?_
              rintro E w6 ⟨qz, cz, rfl, hq, -, hch⟩
              have hbq := cbelow hch
              clear u0 u1 u2 u3 x0 x1 x2 x3 y0 y1 y2 y3 hch kop3
              have hXq := hX7.out.new hbq
              go_upto_region 12 with (fail)
              generalize hWz : w6.alloc (.cells #[.int .i64 F0, .bool nz, .slice qz lr cz, .int .i64 E0] 24 (0, 0)) = V2
              obtain ⟨hX8, hbz, -⟩ := hXq.add hWz
              have hB8 := brise hB7.out (brise hbq hbz)
              have hq8 := hq.below hbz
              replace hX8 := Lib.hid hX8
              replace hB8 := Lib.hid hB8
              replace hq8 := Lib.hid hq8
              clear hXq hbz hbq hWz hq
              have u0 := cellB hX8.out.2.1 (i := 0) rfl
              have u1 := cellB hX8.out.2.1 (i := 1) rfl
              have u2 := cellB hX8.out.2.1 (i := 2) rfl
              have u3 := cellB hX8.out.2.1 (i := 3) rfl
              have x0 := cellB hX8.out.2.2.2.2.2.2.1 (i := 0) rfl
              have x1 := cellB hX8.out.2.2.2.2.2.2.1 (i := 1) rfl
              have x2 := cellB hX8.out.2.2.2.2.2.2.1 (i := 2) rfl
              have x3 := cellB hX8.out.2.2.2.2.2.2.1 (i := 3) rfl
              have y0 := cellB hX8.out.2.2.1 (i := 0) rfl
              have y1 := cellB hX8.out.2.2.1 (i := 1) rfl
              have y2 := cellB hX8.out.2.2.1 (i := 2) rfl
              have y3 := cellB hX8.out.2.2.1 (i := 3) rfl
              have kop3 := kop2.out _ hB8.out
              replace kop3 := Lib.hid kop3
              go_wp2_with fail
              with_reducible refine kop3.out.mono ?_
              rintro E w9 ⟨qv, cv, rfl, hq, -, hch⟩
              have hbq := cbelow hch
              clear u0 u1 u2 u3 x0 x1 x2 x3 y0 y1 y2 y3 hch kop3
              have hXq := hX8.out.new hbq
              have hq9 := hq8.out.below hbq
              go_upto_region 13 with (fail)
              generalize hWz : w9.alloc (.cells #[.int .i64 F0, .bool nz, .slice qv lr cv, .int .i64 E0] 24 (0, 0)) = V3
              obtain ⟨hX10, hbz, -⟩ := hXq.add hWz
              have hB10 := brise hB8.out (brise hbq hbz)
              have kal := alikeF_c V3 F0 nz qz qv lr cz cv E0 (digs R) (hq9.below hbz) (hq.below hbz)
              have y0 := cellB hX10.1 (i := 0) rfl
              have y1 := cellB hX10.1 (i := 1) rfl
              have y2 := cellB hX10.1 (i := 2) rfl
              have y3 := cellB hX10.1 (i := 3) rfl
              have x0 := cellB hX10.2.1 (i := 0) rfl
              have x1 := cellB hX10.2.1 (i := 1) rfl
              have x2 := cellB hX10.2.1 (i := 2) rfl
              have x3 := cellB hX10.2.1 (i := 3) rfl
              replace kal := Lib.hid kal
              replace hB10 := Lib.hid hB10
              clear hXq hX10 hbz hbq hWz hq hq9
              go_wp2_with fail
              with_reducible refine kal.out.mono ?_
              rintro E w10 ⟨rfl, hb10⟩
              go_wp2
              go_ret
              exact ⟨by simp, brise hB10.out hb10⟩
      · have a0' := cellB hX5.out.2.2.1 (i := 0) rfl
        have a1' := cellB hX5.out.2.2.1 (i := 1) rfl
        have a2' := cellB hX5.out.2.2.1 (i := 2) rfl
        have b0' := cellB hX5.out.2.1 (i := 0) rfl
        have b1' := cellB hX5.out.2.1 (i := 1) rfl
        have b2' := cellB hX5.out.2.1 (i := 2) rfl
        have x0 := cellB hX5.out.2.2.2.2.1 (i := 0) rfl
        have x1 := cellB hX5.out.2.2.2.2.1 (i := 1) rfl
        have x2 := cellB hX5.out.2.2.2.2.1 (i := 2) rfl
        have x3 := cellB hX5.out.2.2.2.2.1 (i := 3) rfl
        have z0 := cellB hX5.out.1 (i := 0) rfl
        have z1 := cellB hX5.out.1 (i := 1) rfl
        have z2 := cellB hX5.out.1 (i := 2) rfl
        have z3 := cellB hX5.out.1 (i := 3) rfl
        have bz0 := frozenB hX5.out.2.1 0
        have bz1 := frozenB hX5.out.2.1 1
        have bz2 := frozenB hX5.out.2.1 2
        have oz0 := frozenB hX5.out.1 0
        have oz1 := frozenB hX5.out.1 1
        have oz2 := frozenB hX5.out.1 2
        have oz3 := frozenB hX5.out.1 3
        obtain ⟨m1, m2, m3, m4, m5⟩ := hnf.out
        have m6 := hne.out
        have m7 := Ne.symm m6
        have m8 := Ne.symm m4
        have m9 := Ne.symm m1
        go_upto_region 7 with (fail)
        go_cut [] (fun wx => Bxs [(ob, #[.int .i64 f, .bool n, .slice A l c, .int .i64 e], 24), (va + 1, #[.bool a0, .slice p0 m0 k0, .int .i64 a2], 30), (va, #[.bool a0, .slice p0 m0 k0, .int .i64 a2], 30), (w.heap.size + 1, #[.int .i64 g, .bool o, .slice B r s, .int .i64 d], 24), (w.heap.size, #[.int .i64 f, .bool n, .slice A l c, .int .i64 e], 24)] wx ∧ Below w.heap.size w wx)
        case first =>
          go_region
          all_goals
            clear a0' a1' a2' b0' b1' b2' x0 x1 x2 x3 z0 z1 z2 z3 bz0 bz1 bz2 oz0 oz1 oz2 oz3
            obtain ⟨W6, hWe, hE1, hE2, hch6⟩ := pack34 (W := W5) hne.out hX5.out.2.1 hX5.out.1 (.bool a0) (.slice p0 m0 k0) (.int .i64 a2) (.int .i64 f) (.bool n) (.slice A l c) (.int .i64 e)
            have hX6 : Bxs [(ob, #[.int .i64 f, .bool n, .slice A l c, .int .i64 e], 24), (va + 1, #[.bool a0, .slice p0 m0 k0, .int .i64 a2], 30), (va, #[.bool a0, .slice p0 m0 k0, .int .i64 a2], 30), (w.heap.size + 1, #[.int .i64 g, .bool o, .slice B r s, .int .i64 d], 24), (w.heap.size, #[.int .i64 f, .bool n, .slice A l c, .int .i64 e], 24)] W6 := ⟨hE2, hE1, hch6.heapB hX5.out.2.2.1 (by have := hnf.out; omega), hch6.heapB hX5.out.2.2.2.1 (by have := hnf.out; omega), hch6.heapB hX5.out.2.2.2.2.1 (by have := hnf.out; omega), trivial⟩
            have hB6 : Below w.heap.size w W6 := by
              have hl1 := ltB hX3.out.2.1
              refine ⟨hch6.os.trans hB5.out.os, hch6.tape.trans hB5.out.tape, hch6.output.trans hB5.out.output, Nat.le_trans hB5.out.size hch6.size, fun j hj => ?_⟩
              exact (hch6.block j (Nat.lt_of_lt_of_le hj hB5.out.size) (by have := hnf.out; have := ltB hX5.out.1; have := hva.out; have := hsb.out; have := hob.out; have := ltB hX3.out.2.1; omega)).trans (hB5.out.block j hj)
            subst hWe
            clear m1 m2 m3 m4 m5 m6 m7 m8 m9
            replace hX6 := Lib.hid hX6
            replace hB6 := Lib.hid hB6
            go_wp2_with fail
            go_meet
            with_reducible (first | exact ⟨hX6.out, hB6.out⟩ | exact ⟨hX6.out.drew, Below.drw hB6.out⟩)
        case rest =>
        obtain ⟨hX6, hB6⟩ := hcut
        clear a0' a1' a2' b0' b1' b2' x0 x1 x2 x3 z0 z1 z2 z3 bz0 bz1 bz2 oz0 oz1 oz2 oz3 m1 m2 m3 m4 m5 m6 m7 m8 m9
        replace hX6 := Lib.hid hX6
        replace hB6 := Lib.hid hB6
        clear hX5 hB5 hX4 hB4
        cases ok with
        | false =>
          go_wp2
          go_ret
          exact ⟨rfl, hB6.out⟩
        | true =>
          obtain ⟨fx, fy⟩ := hfin.out (by simp)
          have kfv := kf2.out fx.len fy.len fx.lo fx.hi fy.lo fy.hi k hkb.out
          have hn0 := d16_len0 fx.coeff.rd.len
          have e1 := fx.form
          have e2 := fy.form
          have e3 := fx.neg.symm
          have e4 := fy.neg.symm
          have e5 := fx.ex.symm
          have e6 := fy.ex.symm
          subst e1 e2 e3 e4 e5 e6
          replace hn0 := Lib.hid hn0
          clear hfin fx fy kf0 kf1 kf2
          by_cases hk2 : k ≤ 2
          · have hg1 : decide (k > 2) = false := decide_eq_false (by omega)
            have hg2 : ¬ 2 < k := by omega
            have kfk := kfv (.inl hk2)
            clear kfv
            have hX9 := hX6
            have hB9 := hB6
            clear hX6 hB6
            obtain ⟨F0, E0, nz, R, cn, kop, kop2⟩ := kfk
            unfold TellF at kop kop2
            obtain ⟨lr, hlr⟩ : ∃ lr, (digs R).length = lr := ⟨_, rfl⟩
            simp only [hlr] at kop kop2
            replace kop := Lib.hid kop
            replace kop2 := Lib.hid kop2
            replace hlr := Lib.hid hlr
            go_wp2_with fail
            with_reducible refine (kw.out _).mono ?_
            rintro E w5 ⟨rfl, hb5⟩
            have hX6 := hX9.out.new hb5
            go_upto_region 11 with (fail)
            generalize hWc : w5.alloc (.cells #[.int .u64 (p : Int), .int .i64 100000, .int .i64 (-100000), .int .i64 (m : Int)] 35 (0, 0)) = V1
            obtain ⟨hX7, hbc, -⟩ := hX6.add hWc
            obtain ⟨cb, hcb⟩ : ∃ cb, w5.heap.size = cb := ⟨_, rfl⟩
            rw [hcb] at hX7 ⊢
            have hB7 := brise hB9.out (brise hb5 hbc)
            replace hX7 := Lib.hid hX7
            replace hB7 := Lib.hid hB7
            replace hcb := Lib.hid hcb
            clear hX6 hbc hb5 hWc
            have u0 := cellB hX7.out.1 (i := 0) rfl
            have u1 := cellB hX7.out.1 (i := 1) rfl
            have u2 := cellB hX7.out.1 (i := 2) rfl
            have u3 := cellB hX7.out.1 (i := 3) rfl
            have x0 := cellB hX7.out.2.2.2.2.2.1 (i := 0) rfl
            have x1 := cellB hX7.out.2.2.2.2.2.1 (i := 1) rfl
            have x2 := cellB hX7.out.2.2.2.2.2.1 (i := 2) rfl
            have x3 := cellB hX7.out.2.2.2.2.2.1 (i := 3) rfl
            have y0 := cellB hX7.out.2.2.2.2.1 (i := 0) rfl
            have y1 := cellB hX7.out.2.2.2.2.1 (i := 1) rfl
            have y2 := cellB hX7.out.2.2.2.2.1 (i := 2) rfl
            have y3 := cellB hX7.out.2.2.2.2.1 (i := 3) rfl
            have kop3 := kop.out _ hB7.out
            replace kop3 := Lib.hid kop3
            go_wp2_with fail
            with_reducible refine kop3.out.mono ?_
            rintro E w6 ⟨qz, cz, rfl, hq, -, hch⟩
            have hbq := cbelow hch
            clear u0 u1 u2 u3 x0 x1 x2 x3 y0 y1 y2 y3 hch kop3
            have hXq := hX7.out.new hbq
            go_upto_region 12 with (fail)
            generalize hWz : w6.alloc (.cells #[.int .i64 F0, .bool nz, .slice qz lr cz, .int .i64 E0] 24 (0, 0)) = V2
            obtain ⟨hX8, hbz, -⟩ := hXq.add hWz
            have hB8 := brise hB7.out (brise hbq hbz)
            have hq8 := hq.below hbz
            replace hX8 := Lib.hid hX8
            replace hB8 := Lib.hid hB8
            replace hq8 := Lib.hid hq8
            clear hXq hbz hbq hWz hq
            have u0 := cellB hX8.out.2.1 (i := 0) rfl
            have u1 := cellB hX8.out.2.1 (i := 1) rfl
            have u2 := cellB hX8.out.2.1 (i := 2) rfl
            have u3 := cellB hX8.out.2.1 (i := 3) rfl
            have x0 := cellB hX8.out.2.2.2.2.2.2.1 (i := 0) rfl
            have x1 := cellB hX8.out.2.2.2.2.2.2.1 (i := 1) rfl
            have x2 := cellB hX8.out.2.2.2.2.2.2.1 (i := 2) rfl
            have x3 := cellB hX8.out.2.2.2.2.2.2.1 (i := 3) rfl
            have y0 := cellB hX8.out.2.2.1 (i := 0) rfl
            have y1 := cellB hX8.out.2.2.1 (i := 1) rfl
            have y2 := cellB hX8.out.2.2.1 (i := 2) rfl
            have y3 := cellB hX8.out.2.2.1 (i := 3) rfl
            have kop3 := kop2.out _ hB8.out
            replace kop3 := Lib.hid kop3
            go_wp2_with fail
            with_reducible refine kop3.out.mono ?_
            rintro E w9 ⟨qv, cv, rfl, hq, -, hch⟩
            have hbq := cbelow hch
            clear u0 u1 u2 u3 x0 x1 x2 x3 y0 y1 y2 y3 hch kop3
            have hXq := hX8.out.new hbq
            have hq9 := hq8.out.below hbq
            go_upto_region 13 with (fail)
            generalize hWz : w9.alloc (.cells #[.int .i64 F0, .bool nz, .slice qv lr cv, .int .i64 E0] 24 (0, 0)) = V3
            obtain ⟨hX10, hbz, -⟩ := hXq.add hWz
            have hB10 := brise hB8.out (brise hbq hbz)
            have kal := alikeF_c V3 F0 nz qz qv lr cz cv E0 (digs R) (hq9.below hbz) (hq.below hbz)
            have y0 := cellB hX10.1 (i := 0) rfl
            have y1 := cellB hX10.1 (i := 1) rfl
            have y2 := cellB hX10.1 (i := 2) rfl
            have y3 := cellB hX10.1 (i := 3) rfl
            have x0 := cellB hX10.2.1 (i := 0) rfl
            have x1 := cellB hX10.2.1 (i := 1) rfl
            have x2 := cellB hX10.2.1 (i := 2) rfl
            have x3 := cellB hX10.2.1 (i := 3) rfl
            replace kal := Lib.hid kal
            replace hB10 := Lib.hid hB10
            clear hXq hX10 hbz hbq hWz hq hq9
            go_wp2_with fail
            with_reducible refine kal.out.mono ?_
            rintro E w10 ⟨rfl, hb10⟩
            go_wp2
            go_ret
            exact ⟨by simp, brise hB10.out hb10⟩
          · have hg1 : decide (k > 2) = true := decide_eq_true (by omega)
            have hg2 : 2 < k := by omega
            have b0' := cellB hX6.out.2.1 (i := 0) rfl
            have b1' := cellB hX6.out.2.1 (i := 1) rfl
            have b2' := cellB hX6.out.2.1 (i := 2) rfl
            have ks := fun W => sign_c W n p0 m0 k0 e
            by_cases hz : m0 = 0
            · simp only [if_pos hz] at ks
              replace ks := Lib.hid ks
              replace hz := Lib.hid hz
              go_wp2_with fail
              with_reducible refine (ks.out _).mono ?_
              rintro E w4 ⟨rfl, hb4⟩
              go_wp2
              go_ret
              exact ⟨rfl, brise hB6.out hb4⟩
            · have kfk := kfv (.inr (fun h => hz (hn0.out.2 h)))
              simp only [if_neg hz] at ks
              obtain ⟨sg, hsg⟩ : ∃ sg : Int, (if n then -1 else 1) = sg := ⟨_, rfl⟩
              rw [hsg] at ks
              have hsg0 := sgn_ne n hsg
              replace ks := Lib.hid ks
              replace hsg := Lib.hid hsg
              replace hz := Lib.hid hz
              clear kfv
              go_wp2_with fail
              with_reducible refine (ks.out _).mono ?_
              rintro E w4 ⟨rfl, hb4⟩
              have hX9 := hX6.out.new hb4
              have hB9 := brise hB6.out hb4
              replace hX9 := Lib.hid hX9
              replace hB9 := Lib.hid hB9
              clear hX6 hB6 b0' b1' b2' ks hb4
              obtain ⟨F0, E0, nz, R, cn, kop, kop2⟩ := kfk
              unfold TellF at kop kop2
              obtain ⟨lr, hlr⟩ : ∃ lr, (digs R).length = lr := ⟨_, rfl⟩
              simp only [hlr] at kop kop2
              replace kop := Lib.hid kop
              replace kop2 := Lib.hid kop2
              replace hlr := Lib.hid hlr
              go_wp2_with fail
              with_reducible refine (kw.out _).mono ?_
              rintro E w5 ⟨rfl, hb5⟩
              have hX6 := hX9.out.new hb5
              go_upto_region 11 with (fail)
              generalize hWc : w5.alloc (.cells #[.int .u64 (p : Int), .int .i64 100000, .int .i64 (-100000), .int .i64 (m : Int)] 35 (0, 0)) = V1
              obtain ⟨hX7, hbc, -⟩ := hX6.add hWc
              obtain ⟨cb, hcb⟩ : ∃ cb, w5.heap.size = cb := ⟨_, rfl⟩
              rw [hcb] at hX7 ⊢
              have hB7 := brise hB9.out (brise hb5 hbc)
              replace hX7 := Lib.hid hX7
              replace hB7 := Lib.hid hB7
              replace hcb := Lib.hid hcb
              clear hX6 hbc hb5 hWc
              have u0 := cellB hX7.out.1 (i := 0) rfl
              have u1 := cellB hX7.out.1 (i := 1) rfl
              have u2 := cellB hX7.out.1 (i := 2) rfl
              have u3 := cellB hX7.out.1 (i := 3) rfl
              have x0 := cellB hX7.out.2.2.2.2.2.1 (i := 0) rfl
              have x1 := cellB hX7.out.2.2.2.2.2.1 (i := 1) rfl
              have x2 := cellB hX7.out.2.2.2.2.2.1 (i := 2) rfl
              have x3 := cellB hX7.out.2.2.2.2.2.1 (i := 3) rfl
              have y0 := cellB hX7.out.2.2.2.2.1 (i := 0) rfl
              have y1 := cellB hX7.out.2.2.2.2.1 (i := 1) rfl
              have y2 := cellB hX7.out.2.2.2.2.1 (i := 2) rfl
              have y3 := cellB hX7.out.2.2.2.2.1 (i := 3) rfl
              have kop3 := kop.out _ hB7.out
              replace kop3 := Lib.hid kop3
              go_wp2_with fail
              with_reducible refine kop3.out.mono ?_
              rintro E w6 ⟨qz, cz, rfl, hq, -, hch⟩
              have hbq := cbelow hch
              clear u0 u1 u2 u3 x0 x1 x2 x3 y0 y1 y2 y3 hch kop3
              have hXq := hX7.out.new hbq
              go_upto_region 12 with (fail)
              generalize hWz : w6.alloc (.cells #[.int .i64 F0, .bool nz, .slice qz lr cz, .int .i64 E0] 24 (0, 0)) = V2
              obtain ⟨hX8, hbz, -⟩ := hXq.add hWz
              have hB8 := brise hB7.out (brise hbq hbz)
              have hq8 := hq.below hbz
              replace hX8 := Lib.hid hX8
              replace hB8 := Lib.hid hB8
              replace hq8 := Lib.hid hq8
              clear hXq hbz hbq hWz hq
              have u0 := cellB hX8.out.2.1 (i := 0) rfl
              have u1 := cellB hX8.out.2.1 (i := 1) rfl
              have u2 := cellB hX8.out.2.1 (i := 2) rfl
              have u3 := cellB hX8.out.2.1 (i := 3) rfl
              have x0 := cellB hX8.out.2.2.2.2.2.2.1 (i := 0) rfl
              have x1 := cellB hX8.out.2.2.2.2.2.2.1 (i := 1) rfl
              have x2 := cellB hX8.out.2.2.2.2.2.2.1 (i := 2) rfl
              have x3 := cellB hX8.out.2.2.2.2.2.2.1 (i := 3) rfl
              have y0 := cellB hX8.out.2.2.1 (i := 0) rfl
              have y1 := cellB hX8.out.2.2.1 (i := 1) rfl
              have y2 := cellB hX8.out.2.2.1 (i := 2) rfl
              have y3 := cellB hX8.out.2.2.1 (i := 3) rfl
              have kop3 := kop2.out _ hB8.out
              replace kop3 := Lib.hid kop3
              go_wp2_with fail
              with_reducible refine kop3.out.mono ?_
              rintro E w9 ⟨qv, cv, rfl, hq, -, hch⟩
              have hbq := cbelow hch
              clear u0 u1 u2 u3 x0 x1 x2 x3 y0 y1 y2 y3 hch kop3
              have hXq := hX8.out.new hbq
              have hq9 := hq8.out.below hbq
              go_upto_region 13 with (fail)
              generalize hWz : w9.alloc (.cells #[.int .i64 F0, .bool nz, .slice qv lr cv, .int .i64 E0] 24 (0, 0)) = V3
              obtain ⟨hX10, hbz, -⟩ := hXq.add hWz
              have hB10 := brise hB8.out (brise hbq hbz)
              have kal := alikeF_c V3 F0 nz qz qv lr cz cv E0 (digs R) (hq9.below hbz) (hq.below hbz)
              have y0 := cellB hX10.1 (i := 0) rfl
              have y1 := cellB hX10.1 (i := 1) rfl
              have y2 := cellB hX10.1 (i := 2) rfl
              have y3 := cellB hX10.1 (i := 3) rfl
              have x0 := cellB hX10.2.1 (i := 0) rfl
              have x1 := cellB hX10.2.1 (i := 1) rfl
              have x2 := cellB hX10.2.1 (i := 2) rfl
              have x3 := cellB hX10.2.1 (i := 3) rfl
              replace kal := Lib.hid kal
              replace hB10 := Lib.hid hB10
              clear hXq hX10 hbz hbq hWz hq hq9
              go_wp2_with fail
              with_reducible refine kal.out.mono ?_
              rintro E w10 ⟨rfl, hb10⟩
              go_wp2
              go_ret
              exact ⟨by simp, brise hB10.out hb10⟩
    · rw [decide_eq_false hfit2] at kf
      replace kf := Lib.hid kf
      go_wp2_with fail
      with_reducible refine kf.out.mono ?_
      rintro E w2 ⟨rfl, hb⟩
      go_wp2
      go_ret
      exact ⟨rfl, brise hB1.out hb⟩
  · rw [decide_eq_false hfit] at kf
    replace kf := Lib.hid kf
    go_wp2_with fail
    with_reducible refine kf.out.mono ?_
    rintro E w1 ⟨rfl, hb⟩
    go_wp2
    go_ret
    exact ⟨rfl, brise hB0.out hb⟩
end Go.Proofs.YtcoljeafgiemkaaGreatDoor
