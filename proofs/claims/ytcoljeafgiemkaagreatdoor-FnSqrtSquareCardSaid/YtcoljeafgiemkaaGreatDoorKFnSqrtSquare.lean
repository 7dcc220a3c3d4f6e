/- FnSqrtSquare: the walk. -/
import Derived.Test.YtcoljeafgiemkaaGreatDoorTL
import Derived.Test.YtcoljeafgiemkaaGreatDoorC40
import Derived.Test.YtcoljeafgiemkaaGreatDoorC21
import Derived.Test.YtcoljeafgiemkaaGreatDoorTB
namespace Go.Proofs.YtcoljeafgiemkaaGreatDoor
open Go Go.RowKit

set_option maxRecDepth 100000 in
set_option maxHeartbeats 8000000 in
theorem FnSqrtSquare_walk (prec mode : Int) (f : Int) (n : Bool) (A : Option Addr) (l c : Nat) (X : List Nat) (e : Int) (w : World) (hG : Glob w) (h2 : 0 ≤ prec ∧ prec ≤ 255) (h3 : 0 ≤ mode ∧ mode ≤ 255) (hx : DecIn w f A l c X e) :
    Calls Tryz.prog 9 #[.int .u8 prec, .int .u8 mode, .agg #[.int .i64 f, .bool n, .slice A l c, .int .i64 e]] w fun E w' => E = .returned (.bool true) ∧ Below w.heap.size w w' := by
  obtain ⟨m, hmm⟩ : ∃ m : Nat, mode % 8 = (m : Int) := ⟨(mode % 8).toNat, by omega⟩
  obtain ⟨p, hpp⟩ : ∃ p : Nat, 1 + prec % 60 = (p : Int) := ⟨(1 + prec % 60).toNat, by omega⟩
  have hm : m < 8 := by omega
  have hp1 : 1 ≤ p ∧ p ≤ 60 := by omega
  have kw := fun W => wideC_c W prec mode p m h2 h3 hmm hpp
  have hX := hx.rd
  have kfacts := squareFacts w hG p m hm hp1 e n A l c X hX
  have ewp : IntKind.i64.wrap (p : Int) = (p : Int) := IntWalk.i64_in _ (by omega)
  have hlc := hX.cap
  have hcm := hX.max
  replace kw := Lib.hid kw
  replace kfacts := Lib.hid kfacts
  replace hX := Lib.hid hX
  replace hG := Lib.hid hG
  clear h2 h3 hmm hpp hx
  go_enter Tryz.func9, Tryz.ntmps9
  go_upto_region 1 with (fail)
  generalize hW : w.alloc (.cells #[.int .i64 f, .bool n, .slice A l c, .int .i64 e] 24 (0, 0)) = W0
  have hB0 : Below w.heap.size w W0 := by rw [← hW]; exact (Below.refl _ _).alloc (Nat.le_refl _) _
  have hX0 : Bxs [(w.heap.size, #[.int .i64 f, .bool n, .slice A l c, .int .i64 e], 24)] W0 := by rw [← hW]; exact ⟨allocB _ _, trivial⟩
  clear hW
  have kf := fits_c W0 f n A l c e
  have c0 := cellB hX0.1 (i := 0) rfl
  have c1 := cellB hX0.1 (i := 1) rfl
  have c2 := cellB hX0.1 (i := 2) rfl
  have c3 := cellB hX0.1 (i := 3) rfl
  replace hX0 := Lib.hid hX0
  replace hB0 := Lib.hid hB0
  by_cases hfit : l ≤ 2147483647
  · rw [decide_eq_true hfit] at kf
    replace kf := Lib.hid kf
    go_wp2_with fail
    with_reducible refine kf.out.mono ?_
    rintro E w2 ⟨rfl, hb⟩
    have hX2 := hX0.out.new hb
    have hB2 := brise hB0.out hb
    clear c0 c1 c2 c3 kf hb
    have c0 := cellB hX2.1 (i := 0) rfl
    have c1 := cellB hX2.1 (i := 1) rfl
    have c2 := cellB hX2.1 (i := 2) rfl
    have c3 := cellB hX2.1 (i := 3) rfl
    have kq := finite_c w2 f n A l c X e (hX.out.bel hB2)
    replace kq := Lib.hid kq
    replace hX2 := Lib.hid hX2
    replace hB2 := Lib.hid hB2
    go_wp2_with fail
    with_reducible refine kq.out.mono ?_
    rintro E w3 ⟨a0, p0, m0, k0, a2, ok, rfl, hb, hfin⟩
    have hX3 := hX2.out.new hb
    have hB3 := brise hB2.out hb
    clear c0 c1 c2 c3 kq hb
    replace hX3 := Lib.hid hX3
    replace hB3 := Lib.hid hB3
    replace hfin := Lib.hid hfin
    cases ok with
    | false =>
      go_wp2_with fail
      with_reducible refine (kw.out _).mono ?_
      rintro E w4 ⟨rfl, hb4⟩
      have hB4 := brise (brise hB3.out (bA _ _)) hb4
      clear hb4
      replace hB4 := Lib.hid hB4
      go_upto_region 5 with (fail)
      go_quiet (fail)
      go_wp2
      go_ret
      exact ⟨rfl, by first | exact Below.drwN (brise hB4.out (bA _ _)) _ | exact brise hB4.out (bA _ _)⟩
    | true =>
      have fx := hfin.out (by simp)
      have hl3 := fx.len
      have hlo := fx.lo
      have hhi := fx.hi
      have rx := fx.coeff.rd
      have hm0 : m0 ≤ 58 := by
        rw [← rx.len]
        exact d16_len_ten (val3 hX.out.wd hX.out.len hl3).1
      have e1 := fx.form
      have e3 := fx.neg.symm
      have e5 := fx.ex.symm
      subst e1 e3 e5
      have kfacts := kfacts.out
      obtain ⟨N, hN⟩ : ∃ N, val X = N := ⟨_, rfl⟩
      rw [hN] at rx
      simp only [hN] at kfacts
      replace rx := Lib.hid rx
      replace hN := Lib.hid hN
      replace kfacts := Lib.hid kfacts
      clear hfin fx
      go_upto_region 4 with (fail)
      generalize hWa : w3.alloc (.cells #[.bool n, .slice p0 m0 k0, .int .i64 e] 30 (0, 0)) = W
      obtain ⟨hX4, hb4, -⟩ := hX3.out.add hWa
      obtain ⟨va, hva⟩ : ∃ va, w3.heap.size = va := ⟨_, rfl⟩
      have hpv := fun ad (h0 : 0 < m0) (ha : p0 = some ad) => rowLt rx.out h0 ha
      rw [hva] at hX4 hpv ⊢
      replace hpv := Lib.hid hpv
      have hB4 := brise hB3.out hb4
      have rx4 := rx.out.below hb4
      clear hWa hb4 rx
      replace hX4 := Lib.hid hX4
      replace hB4 := Lib.hid hB4
      replace rx4 := Lib.hid rx4
      replace hva := Lib.hid hva
      go_wp2_with fail
      with_reducible refine (kw.out _).mono ?_
      rintro E w5 ⟨rfl, hb5⟩
      have hX6 := hX4.out.new hb5
      go_upto_region 5 with (fail)
      generalize hWc : w5.alloc (.cells #[.int .u64 (p : Int), .int .i64 100000, .int .i64 (-100000), .int .i64 (m : Int)] 35 (0, 0)) = V1
      obtain ⟨hX7, hbc, -⟩ := hX6.add hWc
      obtain ⟨cb, hcb⟩ : ∃ cb, w5.heap.size = cb := ⟨_, rfl⟩
      rw [hcb] at hX7 ⊢
      have hb6 := brise hb5 hbc
      have hB7 := brise hB4.out hb6
      have rx7 := rx4.out.below hb6
      have kfg0 := fun W (hb : Below V1.heap.size V1 W) => figuresD_c W p0 m0 k0 N (rx7.below hb) (by omega)
      have hS0 : V1.drew.cell? ⟨va, 1, none⟩ = some (.slice p0 m0 k0) ∧ V1.drew.cell? ⟨va, 2, none⟩ = some (.int .i64 e) ∧ V1.drew.cell? ⟨cb, 0, none⟩ = some (.int .u64 (p : Int)) ∧ V1.drew.cell? ⟨w.heap.size, 2, none⟩ = some (.slice A l c) := ⟨cellB hX7.drew.2.1 rfl, cellB hX7.drew.2.1 rfl, cellB hX7.drew.1 rfl, cellB hX7.drew.2.2.1 rfl⟩
      replace hX7 := Lib.hid hX7
      replace hB7 := Lib.hid hB7
      replace rx7 := Lib.hid rx7
      replace hcb := Lib.hid hcb
      replace kfg0 := Lib.hid kfg0
      clear hX6 hbc hb6 hb5 hWc
      by_cases hf : figs N ≤ p
      · have hg1 : decide ((figs N : Int) > (p : Int)) = false := decide_eq_false (by omega)
        have hg2 : ¬ (p : Int) < (figs N : Int) := by omega
        have hg2f : decide (p < figs N) = false := decide_eq_false (by omega)
        by_cases hl1 : l ≤ 1
        · have hg3 : decide ((l : Int) > 1) = false := decide_eq_false (by omega)
          have hg4 : ¬ (1 : Int) < (l : Int) := by omega
          have hg4f : decide (1 < l) = false := decide_eq_false (by omega)
          by_cases he5 : e < -50
          · have hg5 : decide (e < -50) = true := decide_eq_true he5
            have v1 := cellB hX7.out.2.1 (i := 1) rfl
            have v2 := cellB hX7.out.2.1 (i := 2) rfl
            have u0 := cellB hX7.out.1 (i := 0) rfl
            have x2 := cellB hX7.out.2.2.1 (i := 2) rfl
            clear hS0
            first
              | (go_region_with ((go_at_call 18; refine (kfg0.out _ (bD _)).mono ?_; rintro E w6 ⟨rfl, hbF'⟩; have hX8 := hX7.out.new (bundrew hbF'); have q1 := cellB hX8.2.1 (i := 1) rfl; have q2 := cellB hX8.2.1 (i := 2) rfl; have q0 := cellB hX8.1 (i := 0) rfl; have q3 := cellB hX8.2.2.1 (i := 2) rfl; clear hX8)))
              | fail
            all_goals
              go_wp2
              go_ret
              exact ⟨rfl, brise hB7.out (bundrew hbF')⟩
          · have hg5 : decide (e < -50) = false := decide_eq_false he5
            by_cases he6 : e > 50
            · have hg6 : decide (e > 50) = true := decide_eq_true he6
              have hg7 : 50 < e := he6
              have hg7f : decide ((50 : Int) < e) = true := decide_eq_true hg7
              go_region_held3 (fun w' => w'.cell? ⟨va, 1, none⟩ = some (.slice p0 m0 k0) ∧ w'.cell? ⟨va, 2, none⟩ = some (.int .i64 e) ∧ w'.cell? ⟨cb, 0, none⟩ = some (.int .u64 (p : Int)) ∧ w'.cell? ⟨w.heap.size, 2, none⟩ = some (.slice A l c)) (first | exact hS0 | exact hS1) (
                (go_at_call 18
                 with_reducible refine (kfg0.out _ (bD _)).mono ?_
                 rintro E w6 ⟨rfl, hbF'⟩
                 have hbF := bundrew hbF'
                 have hX8 := hX7.out.new hbF
                 have hS1 : w6.cell? ⟨va, 1, none⟩ = some (.slice p0 m0 k0) ∧ w6.cell? ⟨va, 2, none⟩ = some (.int .i64 e) ∧ w6.cell? ⟨cb, 0, none⟩ = some (.int .u64 (p : Int)) ∧ w6.cell? ⟨w.heap.size, 2, none⟩ = some (.slice A l c) := ⟨cellB hX8.2.1 rfl, cellB hX8.2.1 rfl, cellB hX8.1 rfl, cellB hX8.2.2.1 rfl⟩
                 have hB8 := brise hB7.out hbF
                 have rx8 := rx7.out.below hbF
                 replace hX8 := Lib.hid hX8
                 replace hB8 := Lib.hid hB8
                 replace rx8 := Lib.hid rx8
                 clear hbF' hbF))
              clear hS0 hS1 kfg0
              go_wp2
              go_ret
              exact ⟨rfl, hB8.out⟩
            · have hg6 : decide (e > 50) = false := decide_eq_false he6
              have hg7 : ¬ 50 < e := he6
              have hg7f : decide ((50 : Int) < e) = false := decide_eq_false hg7
              obtain ⟨E1, R, cn, kmul, ksq, ksm, hbits, hRl, hNl, hE1⟩ := kfacts.out hl1 (by omega) (by omega) hf
              obtain ⟨NN, hNN⟩ : ∃ NN, N * N = NN := ⟨_, rfl⟩
              simp only [hNN] at kmul ksq hNl
              replace kmul := Lib.hid kmul
              replace ksq := Lib.hid ksq
              replace ksm := Lib.hid ksm
              replace hNN := Lib.hid hNN
              clear kfacts
              go_region_held3 (fun w' => w'.cell? ⟨va, 1, none⟩ = some (.slice p0 m0 k0) ∧ w'.cell? ⟨va, 2, none⟩ = some (.int .i64 e) ∧ w'.cell? ⟨cb, 0, none⟩ = some (.int .u64 (p : Int)) ∧ w'.cell? ⟨w.heap.size, 2, none⟩ = some (.slice A l c)) (first | exact hS0 | exact hS1) (
                (go_at_call 18
                 with_reducible refine (kfg0.out _ (bD _)).mono ?_
                 rintro E w6 ⟨rfl, hbF'⟩
                 have hbF := bundrew hbF'
                 have hX8 := hX7.out.new hbF
                 have hS1 : w6.cell? ⟨va, 1, none⟩ = some (.slice p0 m0 k0) ∧ w6.cell? ⟨va, 2, none⟩ = some (.int .i64 e) ∧ w6.cell? ⟨cb, 0, none⟩ = some (.int .u64 (p : Int)) ∧ w6.cell? ⟨w.heap.size, 2, none⟩ = some (.slice A l c) := ⟨cellB hX8.2.1 rfl, cellB hX8.2.1 rfl, cellB hX8.1 rfl, cellB hX8.2.2.1 rfl⟩
                 have hB8 := brise hB7.out hbF
                 have rx8 := rx7.out.below hbF
                 replace hX8 := Lib.hid hX8
                 replace hB8 := Lib.hid hB8
                 replace rx8 := Lib.hid rx8
                 clear hbF' hbF))
              clear hS0 hS1 kfg0
              have u0 := cellB hX8.out.1 (i := 0) rfl
              have u1 := cellB hX8.out.1 (i := 1) rfl
              have u2 := cellB hX8.out.1 (i := 2) rfl
              have u3 := cellB hX8.out.1 (i := 3) rfl
              go_upto_region 8 with (fail)
              generalize hWb : w6.alloc (.cells #[.int .u64 (p : Int), .int .i64 100000, .int .i64 (-100000), .int .i64 (m : Int)] 35 (0, 0)) = V2
              obtain ⟨hX9, hbb, -⟩ := hX8.out.add hWb
              obtain ⟨bb, hbbe⟩ : ∃ bb, w6.heap.size = bb := ⟨_, rfl⟩
              rw [hbbe] at hX9 ⊢
              have y0 := cellB hX9.1 (i := 0) rfl
              have z0 := frozenB hX9.1 0
              have hE := setB (i := 0) (v := .int .u64 130) hX9.1
              have hq9 := chg_setB V2 bb 0 (.int .u64 130)
              have hXs := Bxs.chg hq9 (fun t ht => by have h1 := hX8.out.lt t ht; intro h2; omega) hX9.2
              have hbl := belBox (w0 := w6) hbb hq9 (by omega)
              obtain ⟨V3, hV3⟩ : ∃ V3, V2.setCell ⟨bb, 0, none⟩ (.int .u64 130) = V3 := ⟨_, rfl⟩
              rw [hV3] at hE hXs hbl
              have hX10 : Bxs ((bb, #[.int .u64 130, .int .i64 100000, .int .i64 (-100000), .int .i64 (m : Int)], 35) :: _) V3 := ⟨hE, hXs⟩
              have hB10 := brise hB8.out hbl
              have rx10 := rx8.out.below hbl
              replace hX10 := Lib.hid hX10
              replace hB10 := Lib.hid hB10
              replace rx10 := Lib.hid rx10
              replace hV3 := Lib.hid hV3
              replace hbbe := Lib.hid hbbe
              clear u0 u1 u2 u3 hX9 hbb hWb hE hq9 hXs hbl
              go_upto_region 9 with (fail)
              rw [hV3.out]
              clear y0 z0
              have kop2 := kmul.out V3 hB10.out
              have u0 := cellB hX10.out.1 (i := 0) rfl
              have u1 := cellB hX10.out.1 (i := 1) rfl
              have u2 := cellB hX10.out.1 (i := 2) rfl
              have u3 := cellB hX10.out.1 (i := 3) rfl
              have x0 := cellB hX10.out.2.2.2.1 (i := 0) rfl
              have x1 := cellB hX10.out.2.2.2.1 (i := 1) rfl
              have x2 := cellB hX10.out.2.2.2.1 (i := 2) rfl
              have x3 := cellB hX10.out.2.2.2.1 (i := 3) rfl
              replace kop2 := Lib.hid kop2
              go_wp2_with fail
              with_reducible refine kop2.out.mono ?_
              rintro E wq ⟨qq, cq, rfl, hq, hch⟩
              have hbq := cbelow hch
              clear u0 u1 u2 u3 x0 x1 x2 x3 hch kop2
              have hXq := hX10.out.new hbq
              go_upto_region 10 with (fail)
              generalize hWz : wq.alloc (.cells #[.int .i64 0, .bool false, .slice qq (digs NN).length cq, .int .i64 (e + e)] 24 (0, 0)) = VQ
              obtain ⟨hXQ, hbz, -⟩ := hXq.add hWz
              have hbz2 := brise hbq hbz
              have hBQ := brise hB10.out hbz2
              have hqQ := hq.below hbz
              have rxQ := rx10.out.below hbz2
              have kop2 := ksq.out VQ qq cq hBQ hqQ
              replace hXQ := Lib.hid hXQ
              replace hBQ := Lib.hid hBQ
              replace rxQ := Lib.hid rxQ
              clear hXq hbz hbz2 hbq hWz hq hqQ
              have u0 := cellB hXQ.out.2.2.1 (i := 0) rfl
              have u1 := cellB hXQ.out.2.2.1 (i := 1) rfl
              have u2 := cellB hXQ.out.2.2.1 (i := 2) rfl
              have u3 := cellB hXQ.out.2.2.1 (i := 3) rfl
              have x0 := cellB hXQ.out.1 (i := 0) rfl
              have x1 := cellB hXQ.out.1 (i := 1) rfl
              have x2 := cellB hXQ.out.1 (i := 2) rfl
              have x3 := cellB hXQ.out.1 (i := 3) rfl
              replace kop2 := Lib.hid kop2
              go_wp2_with fail
              with_reducible refine kop2.out.mono ?_
              rintro E wz ⟨qz, cz, rfl, hq, hch⟩
              have hbq := cbelow hch
              clear u0 u1 u2 u3 x0 x1 x2 x3 hch kop2
              have hXq := hXQ.out.new hbq
              go_upto_region 11 with (fail)
              generalize hWz : wz.alloc (.cells #[.int .i64 0, .bool false, .slice qz (digs R).length cz, .int .i64 E1] 24 (0, 0)) = VZ
              obtain ⟨hXZ, hbz, -⟩ := hXq.add hWz
              have hbz2 := brise hbq hbz
              have hBZ := brise hBQ.out hbz2
              have hqZ := hq.below hbz
              have rxZ := rxQ.out.below hbz2
              replace hXZ := Lib.hid hXZ
              replace hBZ := Lib.hid hBZ
              replace rxZ := Lib.hid rxZ
              clear hXq hbz hbz2 hbq hWz hq
              have t0 := cellB hXZ.out.1 (i := 0) rfl
              have t1 := cellB hXZ.out.1 (i := 1) rfl
              have t2 := cellB hXZ.out.1 (i := 2) rfl
              have t3 := cellB hXZ.out.1 (i := 3) rfl
              have ko := ofDec_c _ 0 false qz _ cz (digs R) E1 hqZ (by omega)
              rw [val_digs, show decide ((0 : Int) = 0 ∧ digs R = digs R) = true by simp] at ko
              replace ko := Lib.hid ko
              go_wp2_with fail
              with_reducible refine ko.out.mono ?_
              rintro E wo ⟨gG, lgG, cgG, rfl, hg9⟩
              have hXo := hXZ.out.new hg9.bel
              have hbo := hg9.bel
              have hgr := hg9.rd
              have hgl := hg9.loc
              have hvz : va < VZ.heap.size := hXZ.out.lt _ (List.mem_cons_of_mem _ (List.mem_cons_of_mem _ (List.mem_cons_of_mem _ (List.mem_cons_of_mem _ (List.mem_cons_self ..)))))
              clear t0 t1 t2 t3 ko hg9 hqZ
              go_upto_region 12 with (fail)
              generalize hWg : wo.alloc (.cells #[.bool false, .slice gG lgG cgG, .int .i64 E1] 30 (0, 0)) = VG
              obtain ⟨hXG, hbg, -⟩ := hXo.add hWg
              have hbo2 := brise hbo hbg
              have hBG := brise hBZ.out hbo2
              have hrG := hgr.below hbg
              have rxG := rxZ.out.below hbo2
              have hva1 : w.heap.size ≤ va := by rw [← hva.out]; exact hB3.out.size
              have y0 := cellB hXG.2.2.2.2.2.1 (i := 0) rfl
              have z0 := frozenB hXG.2.2.2.2.2.1 0
              have hE := setB (i := 0) (v := .bool false) hXG.2.2.2.2.2.1
              have hq9 := chg_setB VG va 0 (.bool false)
              have hgv : va < wo.heap.size := Nat.lt_of_lt_of_le hvz hbo.size
              have hgE := hq9.heapB hXG.1 (fun h => by omega)
              obtain ⟨V4, hV4⟩ : ∃ V4, VG.setCell ⟨va, 0, none⟩ (.bool false) = V4 := ⟨_, rfl⟩
              rw [hV4] at hE hgE hq9
              have hBV := bbox (Below.refl w.heap.size w) hBG hq9 hva1
              have hgl2 : va < VZ.heap.size := Nat.lt_of_lt_of_le hvz (Nat.le_refl _)
              have hrG2 := hrG.chgB2 hq9 (fun ad h0 ha => by have h1 := hgl ad ha; omega)
              have rxG2 := rxG.chgB2 hq9 (fun ad h0 ha => by have := hpv.out ad h0 ha; omega)
              have ksm2 := ksm.out V4 _ _ _ _ _ _ hrG2 rxG2
              have g0 := cellB hgE (i := 0) rfl
              have g1 := cellB hgE (i := 1) rfl
              have g2 := cellB hgE (i := 2) rfl
              have t0 : V4.cell? ⟨va, 0, none⟩ = some (.bool false) := cellB hE rfl
              have t1 : V4.cell? ⟨va, 1, none⟩ = some (.slice p0 m0 k0) := cellB hE rfl
              have t2 : V4.cell? ⟨va, 2, none⟩ = some (.int .i64 e) := cellB hE rfl
              replace ksm2 := Lib.hid ksm2
              replace hBV := Lib.hid hBV
              replace hV4 := Lib.hid hV4
              clear hXG hXo hbo hbo2 hbg hWg hgr hBG hrG rxG hE hgE hq9 hgv hrG2 rxG2 hgl
              go_upto_region 13 with (fail)
              rw [hV4.out]
              clear y0 z0
              go_wp2_with fail
              with_reducible refine ksm2.out.mono ?_
              rintro E w15 ⟨rfl, hb15⟩
              go_wp2
              go_ret
              exact ⟨by simp, brise hBV.out hb15⟩
        · have hg3 : decide ((l : Int) > 1) = true := decide_eq_true (by omega)
          have hg4 : (1 : Int) < (l : Int) := by omega
          have hg4f : decide (1 < l) = true := decide_eq_true (by omega)
          have v1 := cellB hX7.out.2.1 (i := 1) rfl
          have v2 := cellB hX7.out.2.1 (i := 2) rfl
          have u0 := cellB hX7.out.1 (i := 0) rfl
          have x2 := cellB hX7.out.2.2.1 (i := 2) rfl
          clear hS0
          first
            | (go_region_with ((go_at_call 18; refine (kfg0.out _ (bD _)).mono ?_; rintro E w6 ⟨rfl, hbF'⟩; have hX8 := hX7.out.new (bundrew hbF'); have q1 := cellB hX8.2.1 (i := 1) rfl; have q2 := cellB hX8.2.1 (i := 2) rfl; have q0 := cellB hX8.1 (i := 0) rfl; have q3 := cellB hX8.2.2.1 (i := 2) rfl; clear hX8)))
            | fail
          all_goals
            go_wp2
            go_ret
            exact ⟨rfl, brise hB7.out (bundrew hbF')⟩
      · have hg1 : decide ((figs N : Int) > (p : Int)) = true := decide_eq_true (by omega)
        have hg2 : (p : Int) < (figs N : Int) := by omega
        have hg2f : decide (p < figs N) = true := decide_eq_true (by omega)
        have v1 := cellB hX7.out.2.1 (i := 1) rfl
        have v2 := cellB hX7.out.2.1 (i := 2) rfl
        have u0 := cellB hX7.out.1 (i := 0) rfl
        have x2 := cellB hX7.out.2.2.1 (i := 2) rfl
        clear hS0
        first
          | (go_region_with ((go_at_call 18; refine (kfg0.out _ (bD _)).mono ?_; rintro E w6 ⟨rfl, hbF'⟩; have hX8 := hX7.out.new (bundrew hbF'); have q1 := cellB hX8.2.1 (i := 1) rfl; have q2 := cellB hX8.2.1 (i := 2) rfl; have q0 := cellB hX8.1 (i := 0) rfl; have q3 := cellB hX8.2.2.1 (i := 2) rfl; clear hX8)))
          | fail
        all_goals
          go_wp2
          go_ret
          exact ⟨rfl, brise hB7.out (bundrew hbF')⟩
  · rw [decide_eq_false hfit] at kf
    replace kf := Lib.hid kf
    go_wp2_with fail
    with_reducible refine kf.out.mono ?_
    rintro E w1 ⟨rfl, hb⟩
    go_wp2
    go_ret
    exact ⟨rfl, brise hB0.out hb⟩
end Go.Proofs.YtcoljeafgiemkaaGreatDoor
