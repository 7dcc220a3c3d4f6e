/- FnSubnormal: the walk. -/
import Derived.Test.YtffjgkghmdhlkaaGreatDoorZG
import Derived.Test.YtffjgkghmdhlkaaGreatDoorO13
import Derived.Test.YtffjgkghmdhlkaaGreatDoorZA
namespace Go.Proofs.YtffjgkghmdhlkaaGreatDoor
open Go Go.RowKit

set_option maxRecDepth 100000 in
set_option maxHeartbeats 8000000 in
theorem FnSubnormal_walk (prec mode least : Int) (f : Int) (n : Bool) (A : Option Addr) (l c : Nat) (X : List Nat) (e : Int) (w : World) (hG : Glob w) (h2 : 0 ≤ prec ∧ prec ≤ 255) (h3 : 0 ≤ mode ∧ mode ≤ 255) (h4 : -128 ≤ least ∧ least ≤ 127) (hx : DecIn w f A l c X e) :
    Calls Tryz.prog 4 #[.int .u8 prec, .int .u8 mode, .int .i8 least, .agg #[.int .i64 f, .bool n, .slice A l c, .int .i64 e]] w fun E w' => E = .returned (.bool true) ∧ Below w.heap.size w w' := by
  obtain ⟨m, hmm⟩ : ∃ m : Nat, mode % 8 = (m : Int) := ⟨(mode % 8).toNat, by omega⟩
  obtain ⟨p, hpp⟩ : ∃ p : Nat, 1 + prec % 60 = (p : Int) := ⟨(1 + prec % 60).toNat, by omega⟩
  have hm : m < 8 := by omega
  have hp1 : 1 ≤ p ∧ p ≤ 60 := by omega
  have kw := fun W => wideC_c W prec mode p m h2 h3 hmm hpp
  have hX := hx.rd
  have ewp : IntKind.i64.wrap (p : Int) = (p : Int) := IntWalk.i64_in _ (by omega)
  have ewm : IntKind.i64.wrap least = least := IntWalk.i64_in _ (by omega)
  obtain ⟨u, hu⟩ : ∃ u, Int.tmod least 41 = u := ⟨_, rfl⟩
  have hu1 : -40 ≤ u ∧ u ≤ 40 := by
    rw [← hu]
    rcases Int.le_total 0 least with h | h
    · have h1 := Int.tmod_eq_emod_of_nonneg (b := 41) h
      omega
    · have h1 := Int.neg_tmod (a := -least) (b := 41)
      rw [Int.neg_neg] at h1
      have h2 := Int.tmod_eq_emod_of_nonneg (a := -least) (b := 41) (by omega)
      omega
  have hlc := hX.cap
  have hcm := hX.max
  replace kw := Lib.hid kw
  replace hX := Lib.hid hX
  replace hG := Lib.hid hG
  clear h2 h3 hmm hpp hx
  go_enter Tryz.func4, Tryz.ntmps4
  go_upto_region 1 with (fail)
  generalize hW : w.alloc (.cells #[.int .i64 f, .bool n, .slice A l c, .int .i64 e] 25 (0, 0)) = W0
  have hB0 : Below w.heap.size w W0 := by rw [← hW]; exact (Below.refl _ _).alloc (Nat.le_refl _) _
  have hX0 : Bxs [(w.heap.size, #[.int .i64 f, .bool n, .slice A l c, .int .i64 e], 25)] W0 := by rw [← hW]; exact ⟨allocB _ _, trivial⟩
  clear hW
  have kf := fits_c W0 f n A l c e
  have c0 := cellB hX0.1 (i := 0) rfl
  have c1 := cellB hX0.1 (i := 1) rfl
  have c2 := cellB hX0.1 (i := 2) rfl
  have c3 := cellB hX0.1 (i := 3) rfl
  replace hX0 := Lib.hid hX0
  replace hB0 := Lib.hid hB0
  by_cases hfit : l ≤ 2147483647
  · rw [decide_eq_true hfit] at kf
    replace kf := Lib.hid kf
    go_wp2_with fail
    with_reducible refine kf.out.mono ?_
    rintro E w2 ⟨rfl, hb⟩
    have hX2 := hX0.out.new hb
    have hB2 := brise hB0.out hb
    clear c0 c1 c2 c3 kf hb
    have c0 := cellB hX2.1 (i := 0) rfl
    have c1 := cellB hX2.1 (i := 1) rfl
    have c2 := cellB hX2.1 (i := 2) rfl
    have c3 := cellB hX2.1 (i := 3) rfl
    have kq := finite_c w2 f n A l c X e (hX.out.bel hB2)
    replace kq := Lib.hid kq
    replace hX2 := Lib.hid hX2
    replace hB2 := Lib.hid hB2
    go_wp2_with fail
    with_reducible refine kq.out.mono ?_
    rintro E w3 ⟨a0, p0, m0, k0, a2, ok, rfl, hb, hfin⟩
    have hX3 := hX2.out.new hb
    have hB3 := brise hB2.out hb
    clear c0 c1 c2 c3 kq hb
    replace hX3 := Lib.hid hX3
    replace hB3 := Lib.hid hB3
    replace hfin := Lib.hid hfin
    cases ok with
    | false =>
      go_wp2
      go_ret
      exact ⟨rfl, hB3.out.alloc hB3.out.size _⟩
    | true =>
      have fx := hfin.out (by simp)
      have hl3 := fx.len
      have hlo := fx.lo
      have hhi := fx.hi
      have rx := fx.coeff.rd
      have hn0 := d16_len0 rx.len
      have hrl : ∀ ad, p0 = some ad → 0 < m0 → ad.block < w3.heap.size := fun ad ha h0 => by
        obtain ⟨ad2, e2, hc2⟩ := rx.cells h0
        rw [e2] at ha; cases ha
        have := World.block_lt_of_cell? w3 _ (hc2 0 h0)
        rw [add_block] at this
        exact this
      have e1 := fx.form
      have e3 := fx.neg.symm
      have e5 := fx.ex.symm
      subst e1 e3 e5
      obtain ⟨N, hN⟩ : ∃ N, val X = N := ⟨_, rfl⟩
      rw [hN] at rx hn0
      replace rx := Lib.hid rx
      replace hn0 := Lib.hid hn0
      replace hN := Lib.hid hN
      replace hrl := Lib.hid hrl
      clear hfin fx
      go_upto_region 4 with (fail)
      generalize hWa : w3.alloc (.cells #[.bool n, .slice p0 m0 k0, .int .i64 e] 30 (0, 0)) = W
      obtain ⟨hX4, hb4, -⟩ := hX3.out.add hWa
      obtain ⟨va, hva⟩ : ∃ va, w3.heap.size = va := ⟨_, rfl⟩
      rw [hva] at hX4 ⊢
      have hB4 := brise hB3.out hb4
      have rx4 := rx.out.below hb4
      clear hWa hb4 rx
      have b0 := cellB hX4.1 (i := 0) rfl
      have b1 := cellB hX4.1 (i := 1) rfl
      have b2 := cellB hX4.1 (i := 2) rfl
      have ks := sign_c W n p0 m0 k0 e
      replace hX4 := Lib.hid hX4
      replace hB4 := Lib.hid hB4
      replace rx4 := Lib.hid rx4
      replace hva := Lib.hid hva
      by_cases hz : m0 = 0
      · subst hz
        rw [if_pos rfl] at ks
        replace ks := Lib.hid ks
        go_wp2_with fail
        with_reducible refine ks.out.mono ?_
        rintro E w4 ⟨rfl, hb4⟩
        go_wp2
        go_ret
        exact ⟨rfl, brise hB4.out hb4⟩
      · have hN0 : N ≠ 0 := fun h => hz (hn0.out.2 h)
        rw [if_neg hz] at ks
        obtain ⟨sg, hsg⟩ : ∃ sg : Int, (if n then -1 else 1) = sg := ⟨_, rfl⟩
        rw [hsg] at ks
        have hsg0 := sgn_ne n hsg
        replace ks := Lib.hid ks
        replace hsg := Lib.hid hsg
        replace hN0 := Lib.hid hN0
        go_wp2_with fail
        with_reducible refine ks.out.mono ?_
        rintro E w4 ⟨rfl, hb4⟩
        have hX5 := hX4.out.new hb4
        have hB5 := brise hB4.out hb4
        have rx5 := rx4.out.below hb4
        replace hX5 := Lib.hid hX5
        replace hB5 := Lib.hid hB5
        replace rx5 := Lib.hid rx5
        clear ks b0 b1 b2 hb4
        go_wp2_with fail
        with_reducible refine (kw.out _).mono ?_
        rintro E w5 ⟨rfl, hb5⟩
        have hX6 := hX5.out.new hb5
        go_upto_region 7 with (fail)
        generalize hWc : w5.alloc (.cells #[.int .u64 (p : Int), .int .i64 100000, .int .i64 (-100000), .int .i64 (m : Int)] 36 (0, 0)) = V0
        obtain ⟨hX7, hbc, -⟩ := hX6.add hWc
        obtain ⟨cb, hcb⟩ : ∃ cb, w5.heap.size = cb := ⟨_, rfl⟩
        have hvc : va < cb := by rw [← hcb]; exact ltB hX6.1
        have hwc : w.heap.size < cb := by rw [← hcb]; exact ltB hX6.2.1
        rw [hcb] at hX7 ⊢
        have hb6 := brise hb5 hbc
        have hB7 := brise hB5.out hb6
        have rx7 := rx5.out.below hb6
        have u0 := cellB hX7.1 (i := 2) rfl
        have y0 := frozenB hX7.1 2
        replace hX7 := Lib.hid hX7
        replace hB7 := Lib.hid hB7
        replace rx7 := Lib.hid rx7
        replace hcb := Lib.hid hcb
        clear hX6 hbc hb6 hb5 hWc
        go_upto_region 8 with (fail)
        clear u0 y0
        have hch := chg_setB V0 cb 2 (.int .i64 u)
        have hX8 : Bxs [(cb, #[.int .u64 (p : Int), .int .i64 100000, .int .i64 u, .int .i64 (m : Int)], 36), (va, #[.bool n, .slice p0 m0 k0, .int .i64 e], 30), (w.heap.size, #[.int .i64 0, .bool n, .slice A l c, .int .i64 e], 25)] (V0.setCell ⟨cb, 2, none⟩ (.int .i64 u)) := ⟨setB (i := 2) (v := .int .i64 u) hX7.out.1, hch.heapB hX7.out.2.1 (by omega), hch.heapB hX7.out.2.2.1 (by omega), trivial⟩
        have hB8 := belBox hB7.out hch (by omega)
        have rx8 := rx7.out.chgB1 hch (fun ad ha => by have := hrl.out ad ha (by omega); rw [hva.out] at this; omega)
        generalize V0.setCell ⟨cb, 2, none⟩ (.int .i64 u) = V1 at hX8 hB8 rx8 ⊢
        clear hch
        replace hX8 := Lib.hid hX8
        replace hB8 := Lib.hid hB8
        replace rx8 := Lib.hid rx8
        have hX3w := hX.out
        obtain ⟨x1, x2⟩ := val3 hX3w.wd hX3w.len hl3
        rw [hN.out] at x1 x2
        have fN := figs_ten x1
        have pN := figs_pos N
        have hm0 : m0 ≤ 58 := by rw [← rx8.out.len]; exact d16_len_ten x1
        have hrk := rndK_le n N p m
        have hpR := figs_pos (rndN n N p m)
        have hfR := rndN_figs (neg := n) (C := N) (p := p) (mode := m) hp1.1
        have x58 := x1
        clear hX3w x1 x2
        have hN58 := x58
        have g1 : IntKind.i64.wrap (e + (figs N : Int)) = e + (figs N : Int) := IntWalk.i64_in _ (by omega)
        have g2 : IntKind.i64.wrap (e + (figs N : Int) - 1) = e + (figs N : Int) - 1 := IntWalk.i64_in _ (by omega)
        have g3 : IntKind.i64.wrap (u - (p : Int)) = u - (p : Int) := IntWalk.i64_in _ (by omega)
        have g4 : IntKind.i64.wrap (u - (p : Int) + 1) = u - (p : Int) + 1 := IntWalk.i64_in _ (by omega)
        have kfg := figuresD_c V1.drew p0 m0 k0 N (rx8.out.below (bD _)) (by omega)
        have hS0 : V1.drew.cell? ⟨va, 1, none⟩ = some (.slice p0 m0 k0) ∧ V1.drew.cell? ⟨va, 2, none⟩ = some (.int .i64 e) := ⟨cellB hX8.out.drew.2.1 rfl, cellB hX8.out.drew.2.1 rfl⟩
        replace kfg := Lib.hid kfg
        go_region_held3 (fun w' => w'.cell? ⟨va, 1, none⟩ = some (.slice p0 m0 k0) ∧ w'.cell? ⟨va, 2, none⟩ = some (.int .i64 e)) (first | exact hS0 | exact hS1) (
          (go_at_call 15
           with_reducible refine kfg.out.mono ?_
           rintro E w6 ⟨rfl, hbF'⟩
           have hbF := bundrew hbF'
           have hX9 := hX8.out.new hbF
           have hS1 : w6.cell? ⟨va, 1, none⟩ = some (.slice p0 m0 k0) ∧ w6.cell? ⟨va, 2, none⟩ = some (.int .i64 e) := ⟨cellB hX9.2.1 rfl, cellB hX9.2.1 rfl⟩
           have hB9 := brise hB8.out hbF
           have rx9 := rx8.out.below hbF
           replace hX9 := Lib.hid hX9
           replace hB9 := Lib.hid hB9
           replace rx9 := Lib.hid rx9
           clear hbF' hbF))
        clear hS0 hS1 kfg
        by_cases hI : u ≤ e + (figs N : Int) - 1
        · have kop := fun W (hb : Below w.heap.size w W) => roundIn W (hG.out.bel hb) p m 100000 u hm hp1 (by omega) (by omega) e n A l c X N (hX.out.below hb) hN.out hl3 hlo hhi hI (by omega)
          obtain ⟨_, z8, z2⟩ := bitsCalm (rndC_calm N p)
          obtain ⟨cn, hcn⟩ : ∃ cn : Int, (condN (rndC N p) : Int) = cn := ⟨_, rfl⟩
          rw [hcn] at kop z8 z2
          have hb8 : (bits .and .i64 cn 8 == 0) = true := by rw [bne] at z8; simpa using z8
          have hb2 : (bits .and .i64 cn 2 == 0) = true := by rw [bne] at z2; simpa using z2
          clear z8 z2
          replace kop := Lib.hid kop
          replace hcn := Lib.hid hcn
          have hge : decide (e + (figs N : Int) - 1 ≥ u) = true := decide_eq_true hI
          have u0 := cellB hX9.out.1 (i := 0) rfl
          have u1 := cellB hX9.out.1 (i := 1) rfl
          have u2 := cellB hX9.out.1 (i := 2) rfl
          have u3 := cellB hX9.out.1 (i := 3) rfl
          have x0 := cellB hX9.out.2.2.1 (i := 0) rfl
          have x1 := cellB hX9.out.2.2.1 (i := 1) rfl
          have x2 := cellB hX9.out.2.2.1 (i := 2) rfl
          have x3 := cellB hX9.out.2.2.1 (i := 3) rfl
          have kop2 := kop.out _ hB9.out
          replace kop2 := Lib.hid kop2
          go_wp2_with fail
          with_reducible refine kop2.out.mono ?_
          rintro E w7 ⟨qz, cz, rfl, hq, hch⟩
          have hbq := cbelow hch
          clear u0 u1 u2 u3 x0 x1 x2 x3 hch kop2
          have hXq := hX9.out.new hbq
          go_upto_region 10 with (fail)
          generalize hWz : w7.alloc (.cells #[.int .i64 0, .bool n, .slice qz (digs (rndN n N p m)).length cz, .int .i64 (e + (rndK n N p m : Int))] 25 (0, 0)) = V3
          obtain ⟨hX10, hbz, -⟩ := hXq.add hWz
          obtain ⟨zb, hzb⟩ : ∃ zb, w7.heap.size = zb := ⟨_, rfl⟩
          rw [hzb] at hX10 ⊢
          have hbz2 := brise hbq hbz
          have hB10 := brise hB9.out hbz2
          have rx10 := rx9.out.below hbz2
          have hq10 := hq.below hbz
          replace hX10 := Lib.hid hX10
          replace hB10 := Lib.hid hB10
          replace rx10 := Lib.hid rx10
          replace hq10 := Lib.hid hq10
          replace hzb := Lib.hid hzb
          clear hXq hbz hbz2 hbq hWz hq
          have u0 := cellB hX10.out.2.1 (i := 0) rfl
          have u1 := cellB hX10.out.2.1 (i := 1) rfl
          have u2 := cellB hX10.out.2.1 (i := 2) rfl
          have u3 := cellB hX10.out.2.1 (i := 3) rfl
          go_wp2
          go_ret
          exact ⟨by simp, hB10.out⟩
        · have hge : decide (e + (figs N : Int) - 1 ≥ u) = false := decide_eq_false hI
          by_cases hnm : n = true ∧ (m = 3 ∨ m = 4)
          · replace hnm := Lib.hid hnm
            obtain ⟨cn, kop⟩ : ∃ cn : Int, ∀ W, Below w.heap.size w W → Calls Tryz.prog 14 #[.agg #[.int .u64 (p : Int), .int .i64 100000, .int .i64 u, .int .i64 (m : Int)], .agg #[.int .i64 0, .bool n, .slice A l c, .int .i64 e]] W fun E w' => TellC W w' E cn := by
              by_cases hT : u - ((p : Int) - 1) ≤ e
              · exact ⟨_, fun W hb => (roundS0 W (hG.out.bel hb) p m 100000 u hm hp1 (by omega) (by omega) e n A l c X N (hX.out.below hb) hN.out hN0.out hl3 hlo hhi (by omega) hT).mono (fun _ _ h => h.c)⟩
              · exact ⟨_, fun W hb => (roundS1 W (hG.out.bel hb) p m (u - ((p : Int) - 1) - e).toNat 100000 u hm hp1 (by omega) (by omega) e n A l c X N (hX.out.below hb) hN.out hN0.out hl3 hlo hhi (by omega) (by omega) (by omega)).mono (fun _ _ h => h.c)⟩
            replace kop := Lib.hid kop
            have u0 := cellB hX9.out.1 (i := 0) rfl
            have u1 := cellB hX9.out.1 (i := 1) rfl
            have u2 := cellB hX9.out.1 (i := 2) rfl
            have u3 := cellB hX9.out.1 (i := 3) rfl
            have x0 := cellB hX9.out.2.2.1 (i := 0) rfl
            have x1 := cellB hX9.out.2.2.1 (i := 1) rfl
            have x2 := cellB hX9.out.2.2.1 (i := 2) rfl
            have x3 := cellB hX9.out.2.2.1 (i := 3) rfl
            have kop2 := kop.out _ hB9.out
            replace kop2 := Lib.hid kop2
            go_wp2_with fail
            with_reducible refine kop2.out.mono ?_
            rintro E w7 ⟨F1, s1, q1, lq1, cq1, eq1, rfl, hch⟩
            have hbq := cbelow hch
            clear u0 u1 u2 u3 x0 x1 x2 x3 hch kop2
            have hXq := hX9.out.new hbq
            go_upto_region 10 with (fail)
            generalize hWz : w7.alloc (.cells #[.int .i64 F1, .bool s1, .slice q1 lq1 cq1, .int .i64 eq1] 25 (0, 0)) = V3
            obtain ⟨hX10, hbz, -⟩ := hXq.add hWz
            have hB10 := brise hB9.out (brise hbq hbz)
            obtain ⟨hn1, h34⟩ := hnm.out
            have u0 := cellB hX10.2.1 (i := 0) rfl
            have u1 := cellB hX10.2.1 (i := 1) rfl
            have u2 := cellB hX10.2.1 (i := 2) rfl
            have u3 := cellB hX10.2.1 (i := 3) rfl
            have y0 := cellB hX10.2.2.1 (i := 0) rfl
            have y1 := cellB hX10.2.2.1 (i := 1) rfl
            have y2 := cellB hX10.2.2.1 (i := 2) rfl
            replace hB10 := Lib.hid hB10
            clear hXq hX10 hbz hbq hWz
            rcases h34 with h3 | h4
            · have e3 : ((m : Int) == 3) = true := by simp; omega
              go_wp2
              go_ret
              exact ⟨by simp, hB10.out⟩
            · have e3 : ((m : Int) == 3) = false := by simp; omega
              have e4 : ((m : Int) == 4) = true := by simp; omega
              go_wp2
              go_ret
              exact ⟨by simp, hB10.out⟩
          · have e34 : n = true → ((m : Int) == 3) = false ∧ ((m : Int) == 4) = false := fun hn => by
              have h3 : m ≠ 3 := fun h => hnm ⟨hn, .inl h⟩
              have h4 : m ≠ 4 := fun h => hnm ⟨hn, .inr h⟩
              constructor <;> simp <;> omega
            have hcs : ∀ k, cutN n N k m = cutN false N k m := fun k => cutN_sg (fun hn => ⟨fun h => hnm ⟨hn, .inl h⟩, fun h => hnm ⟨hn, .inr h⟩⟩)
            replace e34 := Lib.hid e34
            replace hcs := Lib.hid hcs
            replace hnm := Lib.hid hnm
            by_cases hT : u - ((p : Int) - 1) ≤ e
            · have kop := fun W (hb : Below w.heap.size w W) => roundS0 W (hG.out.bel hb) p m 100000 u hm hp1 (by omega) (by omega) e n A l c X N (hX.out.below hb) hN.out hN0.out hl3 hlo hhi (by omega) hT
              obtain ⟨z8, z2, z4⟩ := bits32
              obtain ⟨cn, hcn⟩ : ∃ cn : Int, (condN 32 : Int) = cn := ⟨_, rfl⟩
              rw [hcn] at kop z8 z2 z4
              have hR9 : (digs N).length ≤ 1000000 := Nat.le_trans (digs_len_mono (Nat.le_of_lt hN58)) (by rw [show (10 : Nat) ^ 58 = 10 ^ 58 from rfl]; exact Nat.le_trans (Nat.le_of_lt (ten_40 (by omega))) (by omega))
              have hd16 : (d16 N).length ≤ 1000 := Nat.le_trans (d16_len_ten hN58) (by omega)
              have hd17 := hd16
              replace kop := Lib.hid kop
              replace hcn := Lib.hid hcn
              replace z8 := Lib.hid z8
              replace z2 := Lib.hid z2
              replace z4 := Lib.hid z4
              have u0 := cellB hX9.out.1 (i := 0) rfl
              have u1 := cellB hX9.out.1 (i := 1) rfl
              have u2 := cellB hX9.out.1 (i := 2) rfl
              have u3 := cellB hX9.out.1 (i := 3) rfl
              have x0 := cellB hX9.out.2.2.1 (i := 0) rfl
              have x1 := cellB hX9.out.2.2.1 (i := 1) rfl
              have x2 := cellB hX9.out.2.2.1 (i := 2) rfl
              have x3 := cellB hX9.out.2.2.1 (i := 3) rfl
              have kop2 := kop.out _ hB9.out
              replace kop2 := Lib.hid kop2
              go_wp2_with fail
              with_reducible refine kop2.out.mono ?_
              rintro E w7 ⟨qz, cz, rfl, hq, hch⟩
              have hbq := cbelow hch
              clear u0 u1 u2 u3 x0 x1 x2 x3 hch kop2
              have hXq := hX9.out.new hbq
              go_upto_region 10 with (fail)
              generalize hWz : w7.alloc (.cells #[.int .i64 0, .bool n, .slice qz (digs N).length cz, .int .i64 e] 25 (0, 0)) = V3
              obtain ⟨hX10, hbz, -⟩ := hXq.add hWz
              obtain ⟨zb, hzb⟩ : ∃ zb, w7.heap.size = zb := ⟨_, rfl⟩
              rw [hzb] at hX10 ⊢
              have hbz2 := brise hbq hbz
              have hB10 := brise hB9.out hbz2
              have rx10 := rx9.out.below hbz2
              have hq10 := hq.below hbz
              replace hX10 := Lib.hid hX10
              replace hB10 := Lib.hid hB10
              replace rx10 := Lib.hid rx10
              replace hq10 := Lib.hid hq10
              replace hzb := Lib.hid hzb
              clear hXq hbz hbz2 hbq hWz hq
              have u0 := cellB hX10.out.2.1 (i := 0) rfl
              have u1 := cellB hX10.out.2.1 (i := 1) rfl
              have u2 := cellB hX10.out.2.1 (i := 2) rfl
              have u3 := cellB hX10.out.2.1 (i := 3) rfl
              have y0 := cellB hX10.out.2.2.1 (i := 0) rfl
              have y1 := cellB hX10.out.2.2.1 (i := 1) rfl
              have y2 := cellB hX10.out.2.2.1 (i := 2) rfl
              have e34' := e34
              replace e34' := Lib.hid e34'
              go_upto_region 12 with (fail)
              go_cut [83] (fun v wx => v = .bool false ∧ V3 = wx)
              case first =>
                cases n with
                | false =>
                  go_wp2_with fail
                  go_meet
                  exact ⟨rfl, rfl⟩
                | true =>
                  obtain ⟨e3, e4⟩ := e34.out rfl
                  go_wp2_with fail
                  go_meet
                  exact ⟨rfl, rfl⟩
              case rest =>
                obtain ⟨rfl, rfl⟩ := hcut
                go_upto_region 16 with (fail)
                generalize hWw : V3.alloc (.cells #[.bool n, .slice p0 m0 k0, .int .i64 e] 30 (0, 0)) = V4
                obtain ⟨hX11, hbw, -⟩ := hX10.out.add hWw
                obtain ⟨wb, hwb⟩ : ∃ wb, V3.heap.size = wb := ⟨_, rfl⟩
                rw [hwb] at hX11 ⊢
                have hB11 := brise hB10.out hbw
                have rx11 := rx10.out.below hbw
                have hq11 := hq10.out.bel hbw
                replace hX11 := Lib.hid hX11
                replace hB11 := Lib.hid hB11
                replace rx11 := Lib.hid rx11
                replace hq11 := Lib.hid hq11
                replace hwb := Lib.hid hwb
                clear hbw hWw u0 u1 u2 u3 y0 y1 y2
                have y0 := cellB hX11.out.2.2.2.1 (i := 0) rfl
                have y1 := cellB hX11.out.2.2.2.1 (i := 1) rfl
                have y2 := cellB hX11.out.2.2.2.1 (i := 2) rfl
                have hlt : decide (e < u - (p : Int) + 1) = false := decide_eq_false (by omega)
                go_upto_region 18 with (fail)
                clear y0 y1 y2
                have t0 := cellB hX11.out.2.1 (i := 0) rfl
                have t1 := cellB hX11.out.2.1 (i := 1) rfl
                have t2 := cellB hX11.out.2.1 (i := 2) rfl
                have t3 := cellB hX11.out.2.1 (i := 3) rfl
                have ko := ofDec_c V4 0 n qz _ cz (digs N) e hq11.out hR9
                rw [val_digs, show decide ((0 : Int) = 0 ∧ digs N = digs N) = true by simp] at ko
                replace ko := Lib.hid ko
                have hXs := hX11.out
                have hBs := hB11.out
                have hrs := rx11.out
                replace hXs := Lib.hid hXs
                replace hBs := Lib.hid hBs
                replace hrs := Lib.hid hrs
                go_wp2_with fail
                with_reducible refine ko.out.mono ?_
                rintro E w14 ⟨g, lg, cg, rfl, hg⟩
                have hX14 := hXs.out.new hg.bel
                have hB14 := brise hBs.out hg.bel
                have hgr := hg.rd
                have hr14 := hrs.out.below hg.bel
                clear t0 t1 t2 t3 ko hg
                go_upto_region 19 with (fail)
                generalize hWg : w14.alloc (.cells #[.bool n, .slice g lg cg, .int .i64 e] 30 (0, 0)) = V6
                obtain ⟨hX15, hbg, -⟩ := hX14.add hWg
                have ksm := same_c V6 n n g p0 lg cg m0 k0 e e N N e 0 0 (hgr.below hbg) (hr14.below hbg) (by rw [← hgr.len]; exact hd16) (by rw [← hr14.len]; exact hd17) (by omega) (by omega) (by omega) (by omega) (by omega) ⟨.inl rfl, rfl⟩
                have hB15 := brise hB14 hbg
                have g0 := cellB hX15.1 (i := 0) rfl
                have g1 := cellB hX15.1 (i := 1) rfl
                have g2 := cellB hX15.1 (i := 2) rfl
                have t0 := cellB hX15.2.1 (i := 0) rfl
                have t1 := cellB hX15.2.1 (i := 1) rfl
                have t2 := cellB hX15.2.1 (i := 2) rfl
                have hb8 := z8.out
                have hb2 := z2.out
                have hb4 := z4.out
                have hge9 : u - (p : Int) + 1 ≤ e := by omega
                replace ksm := Lib.hid ksm
                replace hB15 := Lib.hid hB15
                replace hX15 := Lib.hid hX15
                clear hX14 hB14 hr14 hgr hbg hWg
                go_wp2_with fail
                with_reducible refine ksm.out.mono ?_
                rintro E w15 ⟨rfl, hb15⟩
                have hgE := cellB (hX15.out.new hb15).1 (i := 2) rfl
                go_wp2
                go_ret
                exact ⟨by simp, brise hB15.out hb15⟩
            · obtain ⟨k, hk⟩ : ∃ k : Nat, u - ((p : Int) - 1) - e = (k : Int) := ⟨(u - ((p : Int) - 1) - e).toNat, by omega⟩
              have kop := fun W (hb : Below w.heap.size w W) => roundS1 W (hG.out.bel hb) p m k 100000 u hm hp1 (by omega) (by omega) e n A l c X N (hX.out.below hb) hN.out hN0.out hl3 hlo hhi (by omega) hk (by omega)
              obtain ⟨z8, z2, z4⟩ := bitsSub (!decide (N % 10 ^ k = 0)) (decide (cutN false N k m = 0))
              obtain ⟨cn, hcn⟩ : ∃ cn : Int, (condN (subC (!decide (N % 10 ^ k = 0)) (decide (cutN false N k m = 0))) : Int) = cn := ⟨_, rfl⟩
              rw [hcn] at kop z8 z2 z4
              obtain ⟨ix, hix⟩ : ∃ ix, inexN N k = ix := ⟨_, rfl⟩
              rw [show (!decide (N % 10 ^ k = 0)) = ix from hix] at z2 z4
              have hcl := cutN_lt n N k m
              have hcl2 := cutN_lt false N k m
              have h59 : N + 1 < 10 ^ 59 := by have := ten_succ 58; omega
              have hd16 : (d16 (cutN false N k m)).length ≤ 1000 := Nat.le_trans (d16_len_ten (Nat.lt_of_le_of_lt hcl2 h59)) (by omega)
              have hd17 : (d16 (cutN n N k m)).length ≤ 1000 := Nat.le_trans (d16_len_ten (Nat.lt_of_le_of_lt hcl h59)) (by omega)
              have hR9 : (digs (cutN false N k m)).length ≤ 1000000 := Nat.le_trans (digs_len_mono (Nat.le_of_lt (Nat.lt_of_le_of_lt hcl2 h59))) (Nat.le_trans (Nat.le_of_lt (ten_40 (by omega))) (by omega))
              have hk9 : k ≤ 900 := by omega
              clear hcl hcl2 h59
              replace kop := Lib.hid kop
              replace hcn := Lib.hid hcn
              replace z8 := Lib.hid z8
              replace z2 := Lib.hid z2
              replace z4 := Lib.hid z4
              replace hix := Lib.hid hix
              replace hk := Lib.hid hk
              have u0 := cellB hX9.out.1 (i := 0) rfl
              have u1 := cellB hX9.out.1 (i := 1) rfl
              have u2 := cellB hX9.out.1 (i := 2) rfl
              have u3 := cellB hX9.out.1 (i := 3) rfl
              have x0 := cellB hX9.out.2.2.1 (i := 0) rfl
              have x1 := cellB hX9.out.2.2.1 (i := 1) rfl
              have x2 := cellB hX9.out.2.2.1 (i := 2) rfl
              have x3 := cellB hX9.out.2.2.1 (i := 3) rfl
              have kop2 := kop.out _ hB9.out
              replace kop2 := Lib.hid kop2
              go_wp2_with fail
              with_reducible refine kop2.out.mono ?_
              rintro E w7 ⟨qz, cz, rfl, hq, hch⟩
              have hbq := cbelow hch
              clear u0 u1 u2 u3 x0 x1 x2 x3 hch kop2
              have hXq := hX9.out.new hbq
              go_upto_region 10 with (fail)
              generalize hWz : w7.alloc (.cells #[.int .i64 0, .bool n, .slice qz (digs (cutN false N k m)).length cz, .int .i64 (u - ((p : Int) - 1))] 25 (0, 0)) = V3
              obtain ⟨hX10, hbz, -⟩ := hXq.add hWz
              obtain ⟨zb, hzb⟩ : ∃ zb, w7.heap.size = zb := ⟨_, rfl⟩
              rw [hzb] at hX10 ⊢
              have hbz2 := brise hbq hbz
              have hB10 := brise hB9.out hbz2
              have rx10 := rx9.out.below hbz2
              have hq10 := hq.below hbz
              replace hX10 := Lib.hid hX10
              replace hB10 := Lib.hid hB10
              replace rx10 := Lib.hid rx10
              replace hq10 := Lib.hid hq10
              replace hzb := Lib.hid hzb
              clear hXq hbz hbz2 hbq hWz hq
              have u0 := cellB hX10.out.2.1 (i := 0) rfl
              have u1 := cellB hX10.out.2.1 (i := 1) rfl
              have u2 := cellB hX10.out.2.1 (i := 2) rfl
              have u3 := cellB hX10.out.2.1 (i := 3) rfl
              have y0 := cellB hX10.out.2.2.1 (i := 0) rfl
              have y1 := cellB hX10.out.2.2.1 (i := 1) rfl
              have y2 := cellB hX10.out.2.2.1 (i := 2) rfl
              have e34' := e34
              replace e34' := Lib.hid e34'
              go_upto_region 12 with (fail)
              go_cut [83] (fun v wx => v = .bool false ∧ V3 = wx)
              case first =>
                cases n with
                | false =>
                  go_wp2_with fail
                  go_meet
                  exact ⟨rfl, rfl⟩
                | true =>
                  obtain ⟨e3, e4⟩ := e34.out rfl
                  go_wp2_with fail
                  go_meet
                  exact ⟨rfl, rfl⟩
              case rest =>
                obtain ⟨rfl, rfl⟩ := hcut
                go_upto_region 16 with (fail)
                generalize hWw : V3.alloc (.cells #[.bool n, .slice p0 m0 k0, .int .i64 e] 30 (0, 0)) = V4
                obtain ⟨hX11, hbw, -⟩ := hX10.out.add hWw
                obtain ⟨wb, hwb⟩ : ∃ wb, V3.heap.size = wb := ⟨_, rfl⟩
                rw [hwb] at hX11 ⊢
                have hB11 := brise hB10.out hbw
                have rx11 := rx10.out.below hbw
                have hq11 := hq10.out.bel hbw
                replace hX11 := Lib.hid hX11
                replace hB11 := Lib.hid hB11
                replace rx11 := Lib.hid rx11
                replace hq11 := Lib.hid hq11
                replace hwb := Lib.hid hwb
                clear hbw hWw u0 u1 u2 u3 y0 y1 y2
                have u0 := cellB hX11.out.2.2.1 (i := 0) rfl
                have u1 := cellB hX11.out.2.2.1 (i := 1) rfl
                have u2 := cellB hX11.out.2.2.1 (i := 2) rfl
                have u3 := cellB hX11.out.2.2.1 (i := 3) rfl
                have y0 := cellB hX11.out.2.2.2.1 (i := 0) rfl
                have y1 := cellB hX11.out.2.2.2.1 (i := 1) rfl
                have y2 := cellB hX11.out.2.2.2.1 (i := 2) rfl
                have hlt : decide (e < u - (p : Int) + 1) = true := decide_eq_true (by omega)
                have g5 : IntKind.i64.wrap (u - (p : Int) + 1 - e) = (k : Int) := by rw [show u - (p : Int) + 1 - e = (k : Int) by have := hk.out; omega]; exact IntWalk.i64_in _ (by omega)
                have kcut := cutV_c V4 n p0 m0 k0 e N k m rx11.out (by omega) hk9 hm (by omega)
                unfold ValB at kcut
                rw [hix.out] at kcut
                replace kcut := Lib.hid kcut
                go_wp2_with fail
                with_reducible refine kcut.out.mono ?_
                rintro E w8 ⟨v, lv, cv, rfl, hc⟩
                have hX12 := hX11.out.new hc.bel
                have hwl := ltB hX11.out.1
                clear u0 u1 u2 u3 y0 y1 y2 kcut
                have z0 := cellB hX12.1 (i := 0) rfl
                have z1 := cellB hX12.1 (i := 1) rfl
                have z5 := cellB hX12.1 (i := 2) rfl
                have y0 := frozenB hX12.1 0
                have y1 := frozenB hX12.1 1
                have y2 := frozenB hX12.1 2
                have hloc := hc.loc
                have hrow := hc.rd
                have hbel := hc.bel
                replace hX12 := Lib.hid hX12
                replace hloc := Lib.hid hloc
                replace hrow := Lib.hid hrow
                replace hbel := Lib.hid hbel
                replace hwl := Lib.hid hwl
                clear hc
                go_upto_region 18 with (fail)
                obtain ⟨Vn, hVn, hE, hq9⟩ := pack3 hX12.out.1 (.bool n) (.slice v lv cv) (.int .i64 (e + (k : Int)))
                rw [hVn]
                clear z0 z1 z5 y0 y1 y2 hVn
                have hX13 : Bxs [(wb, #[.bool n, .slice v lv cv, .int .i64 (e + (k : Int))], 30), (zb, #[.int .i64 0, .bool n, .slice qz (digs (cutN false N k m)).length cz, .int .i64 (u - ((p : Int) - 1))], 25), (cb, #[.int .u64 (p : Int), .int .i64 100000, .int .i64 u, .int .i64 (m : Int)], 36), (va, #[.bool n, .slice p0 m0 k0, .int .i64 e], 30), (w.heap.size, #[.int .i64 0, .bool n, .slice A l c, .int .i64 e], 25)] Vn := ⟨hE, Bxs.box hX10.out hX12.out.2 hq9 (Nat.le_of_eq hwb.out)⟩
                have hB13 := belBox (brise hB11.out hbel.out) hq9 (by rw [← hwb.out]; exact hB10.out.size)
                have hr13 := hrow.out.chgB2 hq9 (fun ad _ ha => by have h1 := hloc.out ad ha; have h2 := hwl.out; omega)
                have hq13 := (hq11.out.bel hbel.out).chgB2 hq9 (fun ad h0 ha => by have h1 := rowLtW hq10.out h0 ha; rw [hwb.out] at h1; omega)
                clear hE hq9
                have hk := hk.out
                have t0 := cellB hX13.2.1 (i := 0) rfl
                have t1 := cellB hX13.2.1 (i := 1) rfl
                have t2 := cellB hX13.2.1 (i := 2) rfl
                have t3 := cellB hX13.2.1 (i := 3) rfl
                have ko := ofDec_c Vn 0 n qz _ cz (digs (cutN false N k m)) (u - ((p : Int) - 1)) hq13 hR9
                rw [val_digs, show decide ((0 : Int) = 0 ∧ digs (cutN false N k m) = digs (cutN false N k m)) = true by simp] at ko
                replace ko := Lib.hid ko
                have hXs := hX13
                have hBs := hB13
                have hrs := hr13
                replace hXs := Lib.hid hXs
                replace hBs := Lib.hid hBs
                replace hrs := Lib.hid hrs
                go_wp2_with fail
                with_reducible refine ko.out.mono ?_
                rintro E w14 ⟨g, lg, cg, rfl, hg⟩
                have hX14 := hXs.out.new hg.bel
                have hB14 := brise hBs.out hg.bel
                have hgr := hg.rd
                have hr14 := hrs.out.below hg.bel
                clear t0 t1 t2 t3 ko hg
                go_upto_region 19 with (fail)
                generalize hWg : w14.alloc (.cells #[.bool n, .slice g lg cg, .int .i64 (u - ((p : Int) - 1))] 30 (0, 0)) = V6
                obtain ⟨hX15, hbg, -⟩ := hX14.add hWg
                have ksm := same_c V6 n n g v lg cg lv cv (u - ((p : Int) - 1)) (e + (k : Int)) (cutN false N k m) (cutN n N k m) (u - ((p : Int) - 1)) 0 0 (hgr.below hbg) (hr14.below hbg) (by rw [← hgr.len]; exact hd16) (by rw [← hr14.len]; exact hd17) (by omega) (by omega) (by omega) (by omega) (by omega) ⟨.inl rfl, (by rw [hcs.out])⟩
                have hB15 := brise hB14 hbg
                have g0 := cellB hX15.1 (i := 0) rfl
                have g1 := cellB hX15.1 (i := 1) rfl
                have g2 := cellB hX15.1 (i := 2) rfl
                have t0 := cellB hX15.2.1 (i := 0) rfl
                have t1 := cellB hX15.2.1 (i := 1) rfl
                have t2 := cellB hX15.2.1 (i := 2) rfl
                have hb8 := z8.out
                have hb2 := z2.out
                have hb4 := z4.out
                have hge9 : u - (p : Int) + 1 ≤ (u - ((p : Int) - 1)) := by omega
                replace ksm := Lib.hid ksm
                replace hB15 := Lib.hid hB15
                replace hX15 := Lib.hid hX15
                clear hX14 hB14 hr14 hgr hbg hWg
                go_wp2_with fail
                with_reducible refine ksm.out.mono ?_
                rintro E w15 ⟨rfl, hb15⟩
                have hgE := cellB (hX15.out.new hb15).1 (i := 2) rfl
                go_wp2
                go_ret
                exact ⟨by simp, brise hB15.out hb15⟩
  · rw [decide_eq_false hfit] at kf
    replace kf := Lib.hid kf
    go_wp2_with fail
    with_reducible refine kf.out.mono ?_
    rintro E w1 ⟨rfl, hb⟩
    go_wp2
    go_ret
    exact ⟨rfl, brise hB0.out hb⟩
end Go.Proofs.YtffjgkghmdhlkaaGreatDoor
