/- FnOverflow: the walk. -/
import Derived.Test.YtffjgkghmdhlkaaGreatDoorZD
import Derived.Test.YtffjgkghmdhlkaaGreatDoorO13
import Derived.Test.YtffjgkghmdhlkaaGreatDoorZA
namespace Go.Proofs.YtffjgkghmdhlkaaGreatDoor
open Go Go.RowKit

set_option maxRecDepth 100000 in
set_option maxHeartbeats 8000000 in
theorem FnOverflow_walk (prec mode most : Int) (f : Int) (n : Bool) (A : Option Addr) (l c : Nat) (X : List Nat) (e : Int) (w : World) (hG : Glob w) (h2 : 0 ≤ prec ∧ prec ≤ 255) (h3 : 0 ≤ mode ∧ mode ≤ 255) (h4 : -128 ≤ most ∧ most ≤ 127) (hx : DecIn w f A l c X e) :
    Calls Tryz.prog 3 #[.int .u8 prec, .int .u8 mode, .int .i8 most, .agg #[.int .i64 f, .bool n, .slice A l c, .int .i64 e]] w fun E w' => E = .returned (.bool true) ∧ Below w.heap.size w w' := by
  obtain ⟨m, hmm⟩ : ∃ m : Nat, mode % 8 = (m : Int) := ⟨(mode % 8).toNat, by omega⟩
  obtain ⟨p, hpp⟩ : ∃ p : Nat, 1 + prec % 60 = (p : Int) := ⟨(1 + prec % 60).toNat, by omega⟩
  have hm : m < 8 := by omega
  have hp1 : 1 ≤ p ∧ p ≤ 60 := by omega
  have kw := fun W => wideC_c W prec mode p m h2 h3 hmm hpp
  have hX := hx.rd
  have ewp : IntKind.i64.wrap (p : Int) = (p : Int) := IntWalk.i64_in _ (by omega)
  have ewm : IntKind.i64.wrap most = most := IntWalk.i64_in _ (by omega)
  obtain ⟨u, hu⟩ : ∃ u, Int.tmod most 41 = u := ⟨_, rfl⟩
  have hu1 : -40 ≤ u ∧ u ≤ 40 := by
    rw [← hu]
    rcases Int.le_total 0 most with h | h
    · have h1 := Int.tmod_eq_emod_of_nonneg (b := 41) h
      omega
    · have h1 := Int.neg_tmod (a := -most) (b := 41)
      rw [Int.neg_neg] at h1
      have h2 := Int.tmod_eq_emod_of_nonneg (a := -most) (b := 41) (by omega)
      omega
  have hlc := hX.cap
  have hcm := hX.max
  replace kw := Lib.hid kw
  replace hX := Lib.hid hX
  replace hG := Lib.hid hG
  clear h2 h3 hmm hpp hx
  go_enter Tryz.func3, Tryz.ntmps3
  go_upto_region 1 with (fail)
  generalize hW : w.alloc (.cells #[.int .i64 f, .bool n, .slice A l c, .int .i64 e] 25 (0, 0)) = W0
  have hB0 : Below w.heap.size w W0 := by rw [← hW]; exact (Below.refl _ _).alloc (Nat.le_refl _) _
  have hX0 : Bxs [(w.heap.size, #[.int .i64 f, .bool n, .slice A l c, .int .i64 e], 25)] W0 := by rw [← hW]; exact ⟨allocB _ _, trivial⟩
  clear hW
  have kf := fits_c W0 f n A l c e
  have c0 := cellB hX0.1 (i := 0) rfl
  have c1 := cellB hX0.1 (i := 1) rfl
  have c2 := cellB hX0.1 (i := 2) rfl
  have c3 := cellB hX0.1 (i := 3) rfl
  replace hX0 := Lib.hid hX0
  replace hB0 := Lib.hid hB0
  by_cases hfit : l ≤ 2147483647
  · rw [decide_eq_true hfit] at kf
    replace kf := Lib.hid kf
    go_wp2_with fail
    with_reducible refine kf.out.mono ?_
    rintro E w2 ⟨rfl, hb⟩
    have hX2 := hX0.out.new hb
    have hB2 := brise hB0.out hb
    clear c0 c1 c2 c3 kf hb
    have c0 := cellB hX2.1 (i := 0) rfl
    have c1 := cellB hX2.1 (i := 1) rfl
    have c2 := cellB hX2.1 (i := 2) rfl
    have c3 := cellB hX2.1 (i := 3) rfl
    have kq := finite_c w2 f n A l c X e (hX.out.bel hB2)
    replace kq := Lib.hid kq
    replace hX2 := Lib.hid hX2
    replace hB2 := Lib.hid hB2
    go_wp2_with fail
    with_reducible refine kq.out.mono ?_
    rintro E w3 ⟨a0, p0, m0, k0, a2, ok, rfl, hb, hfin⟩
    have hX3 := hX2.out.new hb
    have hB3 := brise hB2.out hb
    clear c0 c1 c2 c3 kq hb
    replace hX3 := Lib.hid hX3
    replace hB3 := Lib.hid hB3
    replace hfin := Lib.hid hfin
    cases ok with
    | false =>
      go_wp2
      go_ret
      exact ⟨rfl, hB3.out.alloc hB3.out.size _⟩
    | true =>
      have fx := hfin.out (by simp)
      have hl3 := fx.len
      have hlo := fx.lo
      have hhi := fx.hi
      have rx := fx.coeff.rd
      have hn0 := d16_len0 rx.len
      have hrl : ∀ ad, p0 = some ad → 0 < m0 → ad.block < w3.heap.size := fun ad ha h0 => by
        obtain ⟨ad2, e2, hc2⟩ := rx.cells h0
        rw [e2] at ha; cases ha
        have := World.block_lt_of_cell? w3 _ (hc2 0 h0)
        rw [add_block] at this
        exact this
      have e1 := fx.form
      have e3 := fx.neg.symm
      have e5 := fx.ex.symm
      subst e1 e3 e5
      obtain ⟨N, hN⟩ : ∃ N, val X = N := ⟨_, rfl⟩
      rw [hN] at rx hn0
      replace rx := Lib.hid rx
      replace hn0 := Lib.hid hn0
      replace hN := Lib.hid hN
      replace hrl := Lib.hid hrl
      clear hfin fx
      go_upto_region 4 with (fail)
      generalize hWa : w3.alloc (.cells #[.bool n, .slice p0 m0 k0, .int .i64 e] 30 (0, 0)) = W
      obtain ⟨hX4, hb4, -⟩ := hX3.out.add hWa
      obtain ⟨va, hva⟩ : ∃ va, w3.heap.size = va := ⟨_, rfl⟩
      rw [hva] at hX4 ⊢
      have hB4 := brise hB3.out hb4
      have rx4 := rx.out.below hb4
      clear hWa hb4 rx
      have b0 := cellB hX4.1 (i := 0) rfl
      have b1 := cellB hX4.1 (i := 1) rfl
      have b2 := cellB hX4.1 (i := 2) rfl
      have ks := sign_c W n p0 m0 k0 e
      replace hX4 := Lib.hid hX4
      replace hB4 := Lib.hid hB4
      replace rx4 := Lib.hid rx4
      replace hva := Lib.hid hva
      by_cases hz : m0 = 0
      · subst hz
        rw [if_pos rfl] at ks
        replace ks := Lib.hid ks
        go_wp2_with fail
        with_reducible refine ks.out.mono ?_
        rintro E w4 ⟨rfl, hb4⟩
        go_wp2
        go_ret
        exact ⟨rfl, brise hB4.out hb4⟩
      · have hN0 : N ≠ 0 := fun h => hz (hn0.out.2 h)
        rw [if_neg hz] at ks
        obtain ⟨sg, hsg⟩ : ∃ sg : Int, (if n then -1 else 1) = sg := ⟨_, rfl⟩
        rw [hsg] at ks
        have hsg0 := sgn_ne n hsg
        replace ks := Lib.hid ks
        replace hsg := Lib.hid hsg
        replace hN0 := Lib.hid hN0
        go_wp2_with fail
        with_reducible refine ks.out.mono ?_
        rintro E w4 ⟨rfl, hb4⟩
        have hX5 := hX4.out.new hb4
        have hB5 := brise hB4.out hb4
        have rx5 := rx4.out.below hb4
        replace hX5 := Lib.hid hX5
        replace hB5 := Lib.hid hB5
        replace rx5 := Lib.hid rx5
        clear ks b0 b1 b2 hb4
        go_wp2_with fail
        with_reducible refine (kw.out _).mono ?_
        rintro E w5 ⟨rfl, hb5⟩
        have hX6 := hX5.out.new hb5
        go_upto_region 7 with (fail)
        generalize hWc : w5.alloc (.cells #[.int .u64 (p : Int), .int .i64 100000, .int .i64 (-100000), .int .i64 (m : Int)] 36 (0, 0)) = V0
        obtain ⟨hX7, hbc, -⟩ := hX6.add hWc
        obtain ⟨cb, hcb⟩ : ∃ cb, w5.heap.size = cb := ⟨_, rfl⟩
        have hvc : va < cb := by rw [← hcb]; exact ltB hX6.1
        have hwc : w.heap.size < cb := by rw [← hcb]; exact ltB hX6.2.1
        rw [hcb] at hX7 ⊢
        have hb6 := brise hb5 hbc
        have hB7 := brise hB5.out hb6
        have rx7 := rx5.out.below hb6
        have u0 := cellB hX7.1 (i := 1) rfl
        have y0 := frozenB hX7.1 1
        replace hX7 := Lib.hid hX7
        replace hB7 := Lib.hid hB7
        replace rx7 := Lib.hid rx7
        replace hcb := Lib.hid hcb
        clear hX6 hbc hb6 hb5 hWc
        go_upto_region 8 with (fail)
        clear u0 y0
        have hch := chg_setB V0 cb 1 (.int .i64 u)
        have hX8 : Bxs [(cb, #[.int .u64 (p : Int), .int .i64 u, .int .i64 (-100000), .int .i64 (m : Int)], 36), (va, #[.bool n, .slice p0 m0 k0, .int .i64 e], 30), (w.heap.size, #[.int .i64 0, .bool n, .slice A l c, .int .i64 e], 25)] (V0.setCell ⟨cb, 1, none⟩ (.int .i64 u)) := ⟨setB (i := 1) (v := .int .i64 u) hX7.out.1, hch.heapB hX7.out.2.1 (by omega), hch.heapB hX7.out.2.2.1 (by omega), trivial⟩
        have hB8 := belBox hB7.out hch (by omega)
        have rx8 := rx7.out.chgB1 hch (fun ad ha => by have := hrl.out ad ha (by omega); rw [hva.out] at this; omega)
        generalize V0.setCell ⟨cb, 1, none⟩ (.int .i64 u) = V1 at hX8 hB8 rx8 ⊢
        clear hch
        replace hX8 := Lib.hid hX8
        replace hB8 := Lib.hid hB8
        replace rx8 := Lib.hid rx8
        have hX3w := hX.out
        obtain ⟨x1, x2⟩ := val3 hX3w.wd hX3w.len hl3
        rw [hN.out] at x1 x2
        have fN := figs_ten x1
        have pN := figs_pos N
        have hm0 : m0 ≤ 58 := by rw [← rx8.out.len]; exact d16_len_ten x1
        have hrk := rndK_le n N p m
        have hpR := figs_pos (rndN n N p m)
        have hfR := rndN_figs (neg := n) (C := N) (p := p) (mode := m) hp1.1
        clear hX3w x1 x2
        obtain ⟨E1, hE1⟩ : ∃ E1 : Int, e + (rndK n N p m : Int) = E1 := ⟨_, rfl⟩
        obtain ⟨ob, hob⟩ : ∃ ob, decide (u < E1 + (figs (rndN n N p m) : Int) - 1) = ob := ⟨_, rfl⟩
        have hob2 : decide (E1 + (figs (rndN n N p m) : Int) - 1 > u) = ob := hob
        obtain ⟨cn, kop, hbit⟩ : ∃ cn : Int, (∀ W, Below w.heap.size w W → Calls Tryz.prog 14 #[.agg #[.int .u64 (p : Int), .int .i64 u, .int .i64 (-100000), .int .i64 (m : Int)], .agg #[.int .i64 0, .bool n, .slice A l c, .int .i64 e]] W fun E w' => TellC W w' E cn) ∧ (bits .and .i64 cn 1 != 0) = ob := by
          by_cases hov : u < E1 + (figs (rndN n N p m) : Int) - 1
          · refine ⟨_, fun W hb => roundOv W (hG.out.bel hb) p m u (-100000) hm hp1 (by omega) (by omega) (by omega) e n A l c X N (hX.out.below hb) hN.out hN0.out hl3 hlo hhi (by omega) (by omega), ?_⟩
            rw [bitsOv (rndC_calm N p), ← hob, decide_eq_true hov]
          · refine ⟨_, fun W hb => (roundIn W (hG.out.bel hb) p m u (-100000) hm hp1 (by omega) (by omega) e n A l c X N (hX.out.below hb) hN.out hl3 hlo hhi (by omega) (by omega)).mono (fun _ _ h => h.c), ?_⟩
            rw [(bitsCalm (rndC_calm N p)).1, ← hob, decide_eq_false hov]
        have kr := rndV_c V1 n p0 m0 k0 e N p m rx8.out (by omega) (by omega) (by omega) hm (by omega)
        unfold RndV at kr
        rw [hE1] at kr
        have g1 : IntKind.i64.wrap (E1 + (figs (rndN n N p m) : Int)) = E1 + (figs (rndN n N p m) : Int) := IntWalk.i64_in _ (by omega)
        have g2 : IntKind.i64.wrap (E1 + (figs (rndN n N p m) : Int) - 1) = E1 + (figs (rndN n N p m) : Int) - 1 := IntWalk.i64_in _ (by omega)
        obtain ⟨R, hR⟩ : ∃ R, rndN n N p m = R := ⟨_, rfl⟩
        rw [hR] at kr g1 g2 hob hob2 hpR hfR
        have u0 := cellB hX8.out.1 (i := 0) rfl
        have u1 := cellB hX8.out.1 (i := 1) rfl
        have u2 := cellB hX8.out.1 (i := 2) rfl
        have u3 := cellB hX8.out.1 (i := 3) rfl
        have y0 := cellB hX8.out.2.1 (i := 0) rfl
        have y1 := cellB hX8.out.2.1 (i := 1) rfl
        have y2 := cellB hX8.out.2.1 (i := 2) rfl
        replace kr := Lib.hid kr
        replace kop := Lib.hid kop
        replace hE1 := Lib.hid hE1
        replace hob := Lib.hid hob
        replace hR := Lib.hid hR
        go_wp2_with fail
        with_reducible refine kr.out.mono ?_
        rintro E w6 ⟨v, lv, cv, rfl, hor, hb6⟩
        have hv := hor.rd rx8.out hb6
        have hX9 := hX8.out.new hb6
        clear u0 u1 u2 u3 y0 y1 y2 kr hor
        go_upto_region 9 with (fail)
        generalize hWw : w6.alloc (.cells #[.bool n, .slice v lv cv, .int .i64 E1] 30 (0, 0)) = V2
        obtain ⟨hX10, hbw, -⟩ := hX9.add hWw
        obtain ⟨wb, hwb⟩ : ∃ wb, w6.heap.size = wb := ⟨_, rfl⟩
        rw [hwb] at hX10 ⊢
        have hB10 := brise hB8.out (brise hb6 hbw)
        have hv10 := hv.below hbw
        have kop2 := kop.out V2 hB10
        have u0 := cellB hX10.2.1 (i := 0) rfl
        have u1 := cellB hX10.2.1 (i := 1) rfl
        have u2 := cellB hX10.2.1 (i := 2) rfl
        have u3 := cellB hX10.2.1 (i := 3) rfl
        have y0 := cellB hX10.2.2.2.1 (i := 0) rfl
        have y1 := cellB hX10.2.2.2.1 (i := 1) rfl
        have y2 := cellB hX10.2.2.2.1 (i := 2) rfl
        have y3 := cellB hX10.2.2.2.1 (i := 3) rfl
        replace hX10 := Lib.hid hX10
        replace hB10 := Lib.hid hB10
        replace hv10 := Lib.hid hv10
        replace kop2 := Lib.hid kop2
        replace hwb := Lib.hid hwb
        clear hX9 hbw hb6 hWw hv
        go_wp2_with fail
        with_reducible refine kop2.out.mono ?_
        rintro E w7 ⟨F1, s1, q1, lq1, cq1, eq1, rfl, hch⟩
        have hbq := cbelow hch
        have hXq := hX10.out.new hbq
        clear u0 u1 u2 u3 y0 y1 y2 y3 hch kop2
        go_upto_region 10 with (fail)
        generalize hWz : w7.alloc (.cells #[.int .i64 F1, .bool s1, .slice q1 lq1 cq1, .int .i64 eq1] 25 (0, 0)) = V3
        obtain ⟨hX11, hbz, -⟩ := hXq.add hWz
        have hbz2 := brise hbq hbz
        have hB11 := brise hB10.out hbz2
        have kfg := figuresD_c V3.drew v lv cv R ((hv10.out.below hbz2).below (bD _)) (by
          rw [← hv10.out.len]
          exact Nat.le_trans (d16_len_ten (Nat.lt_of_lt_of_le (figs_lt R) (ten_le hfR))) (by omega))
        have hS0 : V3.drew.cell? ⟨wb, 1, none⟩ = some (.slice v lv cv) ∧ V3.drew.cell? ⟨wb, 2, none⟩ = some (.int .i64 E1) ∧ V3.drew.cell? ⟨cb, 1, none⟩ = some (.int .i64 u) := ⟨cellB hX11.drew.2.1 rfl, cellB hX11.drew.2.1 rfl, cellB hX11.drew.2.2.1 rfl⟩
        replace kfg := Lib.hid kfg
        replace hX11 := Lib.hid hX11
        replace hB11 := Lib.hid hB11
        clear hXq hbz hbz2 hbq hWz
        go_region_held3 (fun w' => w'.cell? ⟨wb, 1, none⟩ = some (.slice v lv cv) ∧ w'.cell? ⟨wb, 2, none⟩ = some (.int .i64 E1) ∧ w'.cell? ⟨cb, 1, none⟩ = some (.int .i64 u)) (first | exact hS0 | exact hS1) (
          (go_at_call 15
           with_reducible refine kfg.out.mono ?_
           rintro E w15 ⟨rfl, hb15'⟩
           have hb15 := bundrew hb15'
           have hX16 := hX11.out.new hb15
           have hS1 : w15.cell? ⟨wb, 1, none⟩ = some (.slice v lv cv) ∧ w15.cell? ⟨wb, 2, none⟩ = some (.int .i64 E1) ∧ w15.cell? ⟨cb, 1, none⟩ = some (.int .i64 u) := ⟨cellB hX16.2.1 rfl, cellB hX16.2.1 rfl, cellB hX16.2.2.1 rfl⟩
           replace hb15 := Lib.hid hb15
           clear hb15' hX16))
        go_wp2
        go_ret
        exact ⟨by simp, brise hB11.out hb15.out⟩
  · rw [decide_eq_false hfit] at kf
    replace kf := Lib.hid kf
    go_wp2_with fail
    with_reducible refine kf.out.mono ?_
    rintro E w1 ⟨rfl, hb⟩
    go_wp2
    go_ret
    exact ⟨rfl, brise hB0.out hb⟩
end Go.Proofs.YtffjgkghmdhlkaaGreatDoor
