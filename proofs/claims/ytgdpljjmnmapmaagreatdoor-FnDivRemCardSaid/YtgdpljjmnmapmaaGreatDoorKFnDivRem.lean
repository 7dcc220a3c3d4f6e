/- FnDivRem: the walk. -/
import Derived.Test.YtgdpljjmnmapmaaGreatDoorY32
import Derived.Test.YtgdpljjmnmapmaaGreatDoorO13
import Derived.Test.YtgdpljjmnmapmaaGreatDoorO18
namespace Go.Proofs.YtgdpljjmnmapmaaGreatDoor
open Go Go.RowKit

set_option maxRecDepth 100000 in
set_option maxHeartbeats 8000000 in
theorem FnDivRem_walk (mode : Int) (f : Int) (n : Bool) (A : Option Addr) (l c : Nat) (X : List Nat) (e : Int) (g : Int) (o : Bool) (B : Option Addr) (r s : Nat) (Y : List Nat) (d : Int) (w : World) (hG : Glob w) (h3 : 0 ≤ mode ∧ mode ≤ 255) (hx : DecIn w f A l c X e) (hy : DecIn w g B r s Y d) :
    Calls Tryz.prog 6 #[.int .u8 mode, .agg #[.int .i64 f, .bool n, .slice A l c, .int .i64 e], .agg #[.int .i64 g, .bool o, .slice B r s, .int .i64 d]] w fun E w' => E = .returned (.bool true) ∧ Below w.heap.size w w' := by
  obtain ⟨m, hmm⟩ : ∃ m : Nat, mode % 8 = (m : Int) := ⟨(mode % 8).toNat, by omega⟩
  have hm : m < 8 := by omega
  have kw := fun W => wideC_c W 59 mode 60 m (by omega) h3 hmm (by omega)
  have hX := hx.rd
  have hY := hy.rd
  have kfacts := divRemFacts w hG m hm e d n o A B l c r s X Y hX hY
  have hlc := hX.cap
  have hcm := hX.max
  have hls := hY.cap
  have hsm := hY.max
  replace kw := Lib.hid kw
  replace kfacts := Lib.hid kfacts
  replace hX := Lib.hid hX
  replace hY := Lib.hid hY
  replace hG := Lib.hid hG
  clear h3 hmm hx hy
  go_enter Tryz.func6, Tryz.ntmps6
  go_upto_region 1 with (fail)
  generalize hW : (w.alloc (.cells #[.int .i64 f, .bool n, .slice A l c, .int .i64 e] 24 (0, 0))).alloc (.cells #[.int .i64 g, .bool o, .slice B r s, .int .i64 d] 24 (0, 0)) = W0
  have hB0 : Below w.heap.size w W0 := by rw [← hW]; exact ((Below.refl _ _).alloc (Nat.le_refl _) _).alloc (by simp) _
  have hX0 : Bxs [(w.heap.size + 1, #[.int .i64 g, .bool o, .slice B r s, .int .i64 d], 24), (w.heap.size, #[.int .i64 f, .bool n, .slice A l c, .int .i64 e], 24)] W0 := by rw [← hW]; exact ⟨allocB_at _ _ (by simp), allocB_old (allocB _ _), trivial⟩
  clear hW
  have kf := fits_c W0 f n A l c e
  have c0 := cellB hX0.2.1 (i := 0) rfl
  have c1 := cellB hX0.2.1 (i := 1) rfl
  have c2 := cellB hX0.2.1 (i := 2) rfl
  have c3 := cellB hX0.2.1 (i := 3) rfl
  replace hX0 := Lib.hid hX0
  replace hB0 := Lib.hid hB0
  by_cases hfit : l ≤ 2147483647
  · rw [decide_eq_true hfit] at kf
    replace kf := Lib.hid kf
    go_wp2_with fail
    with_reducible refine kf.out.mono ?_
    rintro E w1 ⟨rfl, hb⟩
    have hX1 := hX0.out.new hb
    have hB1 := brise hB0.out hb
    clear c0 c1 c2 c3 kf hb
    have d0 := cellB hX1.1 (i := 0) rfl
    have d1 := cellB hX1.1 (i := 1) rfl
    have d2 := cellB hX1.1 (i := 2) rfl
    have d3 := cellB hX1.1 (i := 3) rfl
    replace hX1 := Lib.hid hX1
    replace hB1 := Lib.hid hB1
    have kf := fits_c w1 g o B r s d
    by_cases hfit2 : r ≤ 2147483647
    · rw [decide_eq_true hfit2] at kf
      replace kf := Lib.hid kf
      go_wp2_with fail
      with_reducible refine kf.out.mono ?_
      rintro E w2 ⟨rfl, hb⟩
      have hX2 := hX1.out.new hb
      have hB2 := brise hB1.out hb
      clear d0 d1 d2 d3 kf hb
      have d0 := cellB hX2.1 (i := 0) rfl
      have d1 := cellB hX2.1 (i := 1) rfl
      have d2 := cellB hX2.1 (i := 2) rfl
      have d3 := cellB hX2.1 (i := 3) rfl
      have c0 := cellB hX2.2.1 (i := 0) rfl
      have c1 := cellB hX2.2.1 (i := 1) rfl
      have c2 := cellB hX2.2.1 (i := 2) rfl
      have c3 := cellB hX2.2.1 (i := 3) rfl
      have kq := both_c w2 f n A l c X e g o B r s Y d (hX.out.bel hB2) (hY.out.bel hB2)
      replace kq := Lib.hid kq
      replace hX2 := Lib.hid hX2
      replace hB2 := Lib.hid hB2
      go_wp2_with fail
      with_reducible refine kq.out.mono ?_
      rintro E w3 ⟨a0, p0, m0, k0, a2, b0, q0, n0, j0, b2, ok, rfl, hb, hfin⟩
      have hX3 := hX2.out.new hb
      have hB3 := brise hB2.out hb
      clear c0 c1 c2 c3 d0 d1 d2 d3 kq hb
      replace hX3 := Lib.hid hX3
      replace hB3 := Lib.hid hB3
      replace hfin := Lib.hid hfin
      cases ok with
      | false =>
        go_wp2
        go_ret
        exact ⟨rfl, (hB3.out.alloc hB3.out.size _).alloc (by have := hB3.out.size; simp; omega) _⟩
      | true =>
        obtain ⟨fx, fy⟩ := hfin.out (by simp)
        have rx := fx.coeff.rd
        have ry := fy.coeff.rd
        have hn0 := d16_len0 ry.len
        have e1 := fx.form
        have e2 := fy.form
        have e3 := fx.neg.symm
        have e4 := fy.neg.symm
        have e5 := fx.ex.symm
        have e6 := fy.ex.symm
        subst e1 e2 e3 e4 e5 e6
        replace rx := Lib.hid rx
        replace ry := Lib.hid ry
        replace hn0 := Lib.hid hn0
        replace kfacts := Lib.hid kfacts
        clear hfin fx fy
        go_upto_region 4 with (fail)
        generalize hWa : w3.alloc (.cells #[.bool n, .slice p0 m0 k0, .int .i64 e] 29 (0, 0)) = Wa
        obtain ⟨hX4a, hba, hsa⟩ := hX3.out.add hWa
        generalize hWb : Wa.alloc (.cells #[.bool o, .slice q0 n0 j0, .int .i64 d] 29 (0, 0)) = W
        obtain ⟨hX4, hbb, -⟩ := hX4a.add hWb
        obtain ⟨va, hva⟩ : ∃ va, w3.heap.size = va := ⟨_, rfl⟩
        rw [hsa] at hX4
        rw [hva] at hX4 ⊢
        have hb4 := brise hba hbb
        have hB4 := brise hB3.out hb4
        have rx4 := rx.out.below hb4
        have ry4 := ry.out.below hb4
        clear hX4a hba hbb hsa hWa hWb hb4 rx ry
        have b0 := cellB hX4.1 (i := 0) rfl
        have b1 := cellB hX4.1 (i := 1) rfl
        have b2 := cellB hX4.1 (i := 2) rfl
        have ks := sign_c W o q0 n0 j0 d
        replace hX4 := Lib.hid hX4
        replace hB4 := Lib.hid hB4
        replace rx4 := Lib.hid rx4
        replace ry4 := Lib.hid ry4
        replace hva := Lib.hid hva
        by_cases hz : n0 = 0
        · subst hz
          rw [if_pos rfl] at ks
          replace ks := Lib.hid ks
          go_wp2_with fail
          with_reducible refine ks.out.mono ?_
          rintro E w4 ⟨rfl, hb4⟩
          go_wp2
          go_ret
          exact ⟨rfl, brise hB4.out hb4⟩
        · have hY0 : val Y ≠ 0 := fun h => hz (hn0.out.2 h)
          rw [if_neg hz] at ks
          obtain ⟨sg, hsg⟩ : ∃ sg : Int, (if o then -1 else 1) = sg := ⟨_, rfl⟩
          rw [hsg] at ks
          have hsg0 := sgn_ne o hsg
          replace ks := Lib.hid ks
          replace hsg := Lib.hid hsg
          replace hY0 := Lib.hid hY0
          go_wp2_with fail
          with_reducible refine ks.out.mono ?_
          rintro E w4 ⟨rfl, hb4⟩
          have hX5 := hX4.out.new hb4
          have hB5 := brise hB4.out hb4
          have rx5 := rx4.out.below hb4
          have ry5 := ry4.out.below hb4
          replace hX5 := Lib.hid hX5
          replace hB5 := Lib.hid hB5
          replace rx5 := Lib.hid rx5
          replace ry5 := Lib.hid ry5
          clear ks b0 b1 b2 hb4
          have x0 := cellB hX5.out.2.2.2.1 (i := 0) rfl
          have x1 := cellB hX5.out.2.2.2.1 (i := 1) rfl
          have x2 := cellB hX5.out.2.2.2.1 (i := 2) rfl
          have x3 := cellB hX5.out.2.2.2.1 (i := 3) rfl
          have y0 := cellB hX5.out.2.2.1 (i := 0) rfl
          have y1 := cellB hX5.out.2.2.1 (i := 1) rfl
          have y2 := cellB hX5.out.2.2.1 (i := 2) rfl
          have y3 := cellB hX5.out.2.2.1 (i := 3) rfl
          have v0 := cellB hX5.out.2.1 (i := 0) rfl
          have v1 := cellB hX5.out.2.1 (i := 1) rfl
          have v2 := cellB hX5.out.2.1 (i := 2) rfl
          have z0 := cellB hX5.out.1 (i := 0) rfl
          have z1 := cellB hX5.out.1 (i := 1) rfl
          have z2 := cellB hX5.out.1 (i := 2) rfl
          by_cases q1 : l ≤ 1
          · have q1f : decide ((l : Int) > 1) = false := decide_eq_false (by omega)
            by_cases q2 : r ≤ 1
            · have q2f : decide ((r : Int) > 1) = false := decide_eq_false (by omega)
              by_cases q3 : -15 ≤ e
              · have q3f : decide (e < -15) = false := decide_eq_false (by omega)
                by_cases q4 : e ≤ 15
                · have q4f : decide (e > 15) = false := decide_eq_false (by omega)
                  by_cases q5 : -15 ≤ d
                  · have q5f : decide (d < -15) = false := decide_eq_false (by omega)
                    by_cases q6 : d ≤ 15
                    · have q6f : decide (d > 15) = false := decide_eq_false (by omega)
                      obtain ⟨nq, np, Q, R, P, S, G, kq2, kre, kmu, kad, ksm, hSl⟩ := kfacts.out q1 q2 q3 q4 q5 q6 hY0.out
                      replace kq2 := Lib.hid kq2
                      replace kre := Lib.hid kre
                      replace kmu := Lib.hid kmu
                      replace kad := Lib.hid kad
                      replace ksm := Lib.hid ksm
                      go_wp2_with fail
                      with_reducible refine (kw.out _).mono ?_
                      rintro E w5 ⟨rfl, hb5⟩
                      have hX6 := hX5.out.new hb5
                      go_upto_region 7 with (fail)
                      generalize hWc : w5.alloc (.cells #[.int .u64 60, .int .i64 100000, .int .i64 (-100000), .int .i64 (m : Int)] 34 (0, 0)) = V1
                      obtain ⟨hX7, hbc, -⟩ := hX6.add hWc
                      obtain ⟨cb, hcb⟩ : ∃ cb, w5.heap.size = cb := ⟨_, rfl⟩
                      have hvc : va + 1 < cb := by rw [← hcb]; exact ltB hX6.1
                      have hwc : w.heap.size + 1 < cb := by rw [← hcb]; exact ltB hX6.2.2.1
                      have hrl : ∀ ad, 0 < m0 → p0 = some ad → ad.block < cb := fun ad h0 ha => Nat.lt_of_lt_of_le (rowLt rx5.out h0 ha) (by rw [← hcb]; exact hb5.size)
                      rw [hcb] at hX7 ⊢
                      have hb6 := brise hb5 hbc
                      have hB7 := brise hB5.out hb6
                      have rx7 := rx5.out.below hb6
                      have ry7 := ry5.out.below hb6
                      replace hX7 := Lib.hid hX7
                      replace hB7 := Lib.hid hB7
                      replace rx7 := Lib.hid rx7
                      replace ry7 := Lib.hid ry7
                      replace hcb := Lib.hid hcb
                      replace hrl := Lib.hid hrl
                      clear hX6 hbc hb6 hb5 hWc
                      clear x0 x1 x2 x3 y0 y1 y2 y3 v0 v1 v2 z0 z1 z2
                      have u0 := cellB hX7.out.1 (i := 0) rfl
                      have y0 := frozenB hX7.out.1 0
                      go_upto_region 8 with (fail)
                      clear u0 y0
                      have hch := chg_setB V1 cb 0 (.int .u64 130)
                      have hX8 : Bxs [(cb, #[.int .u64 130, .int .i64 100000, .int .i64 (-100000), .int .i64 (m : Int)], 34), (va + 1, #[.bool o, .slice q0 n0 j0, .int .i64 d], 29), (va, #[.bool n, .slice p0 m0 k0, .int .i64 e], 29), (w.heap.size + 1, #[.int .i64 0, .bool o, .slice B r s, .int .i64 d], 24), (w.heap.size, #[.int .i64 0, .bool n, .slice A l c, .int .i64 e], 24)] (V1.setCell ⟨cb, 0, none⟩ (.int .u64 130)) := ⟨setB (i := 0) (v := .int .u64 130) hX7.out.1, hch.heapB hX7.out.2.1 (by omega), hch.heapB hX7.out.2.2.1 (by omega), hch.heapB hX7.out.2.2.2.1 (by omega), hch.heapB hX7.out.2.2.2.2.1 (by omega), trivial⟩
                      have hB8 := belBox hB7.out hch (by omega)
                      have rx8 := rx7.out.chgB2 hch (fun ad h0 ha => by have := hrl.out ad h0 ha; omega)
                      generalize V1.setCell ⟨cb, 0, none⟩ (.int .u64 130) = V2 at hX8 hB8 rx8 ⊢
                      clear hch
                      replace hX8 := Lib.hid hX8
                      replace hB8 := Lib.hid hB8
                      replace rx8 := Lib.hid rx8
                      have u0 := cellB hX8.out.1 (i := 0) rfl
                      have u1 := cellB hX8.out.1 (i := 1) rfl
                      have u2 := cellB hX8.out.1 (i := 2) rfl
                      have u3 := cellB hX8.out.1 (i := 3) rfl
                      have y0 := cellB hX8.out.2.2.2.1 (i := 0) rfl
                      have y1 := cellB hX8.out.2.2.2.1 (i := 1) rfl
                      have y2 := cellB hX8.out.2.2.2.1 (i := 2) rfl
                      have y3 := cellB hX8.out.2.2.2.1 (i := 3) rfl
                      have x0 := cellB hX8.out.2.2.2.2.1 (i := 0) rfl
                      have x1 := cellB hX8.out.2.2.2.2.1 (i := 1) rfl
                      have x2 := cellB hX8.out.2.2.2.2.1 (i := 2) rfl
                      have x3 := cellB hX8.out.2.2.2.2.1 (i := 3) rfl
                      have kop := kq2.out V2 hB8.out
                      replace kop := Lib.hid kop
                      go_wp2_with fail
                      with_reducible refine kop.out.mono ?_
                      rintro E wq ⟨qzQ, czQ, rfl, hq, hch⟩
                      have hbq := cbelow hch
                      clear u0 u1 u2 u3 y0 y1 y2 y3 x0 x1 x2 x3 hch kop
                      have hXq := hX8.out.new hbq
                      go_upto_region 9 with (fail)
                      generalize hWz : wq.alloc (.cells #[.int .i64 0, .bool nq, .slice qzQ (digs Q).length czQ, .int .i64 0] 24 (0, 0)) = VQ
                      obtain ⟨hXQ, hbz, -⟩ := hXq.add hWz
                      have hbz2 := brise hbq hbz
                      have hBQ := brise hB8.out hbz2
                      have hqQ := hq.below hbz
                      have rx8 := rx8.out.below hbz2
                      replace rx8 := Lib.hid rx8
                      replace hXQ := Lib.hid hXQ
                      replace hBQ := Lib.hid hBQ
                      replace hqQ := Lib.hid hqQ
                      clear hXq hbz hbz2 hbq hWz hq
                      have u0 := cellB hXQ.out.2.1 (i := 0) rfl
                      have u1 := cellB hXQ.out.2.1 (i := 1) rfl
                      have u2 := cellB hXQ.out.2.1 (i := 2) rfl
                      have u3 := cellB hXQ.out.2.1 (i := 3) rfl
                      have y0 := cellB hXQ.out.2.2.2.2.1 (i := 0) rfl
                      have y1 := cellB hXQ.out.2.2.2.2.1 (i := 1) rfl
                      have y2 := cellB hXQ.out.2.2.2.2.1 (i := 2) rfl
                      have y3 := cellB hXQ.out.2.2.2.2.1 (i := 3) rfl
                      have x0 := cellB hXQ.out.2.2.2.2.2.1 (i := 0) rfl
                      have x1 := cellB hXQ.out.2.2.2.2.2.1 (i := 1) rfl
                      have x2 := cellB hXQ.out.2.2.2.2.2.1 (i := 2) rfl
                      have x3 := cellB hXQ.out.2.2.2.2.2.1 (i := 3) rfl
                      have kop := kre.out _ hBQ.out
                      replace kop := Lib.hid kop
                      go_wp2_with fail
                      with_reducible refine kop.out.mono ?_
                      rintro E wq ⟨qzR, czR, rfl, hq, hch⟩
                      have hbq := cbelow hch
                      clear u0 u1 u2 u3 y0 y1 y2 y3 x0 x1 x2 x3 hch kop
                      have hXq := hXQ.out.new hbq
                      go_upto_region 10 with (fail)
                      generalize hWz : wq.alloc (.cells #[.int .i64 0, .bool n, .slice qzR (digs R).length czR, .int .i64 G] 24 (0, 0)) = VR
                      obtain ⟨hXR, hbz, -⟩ := hXq.add hWz
                      have hbz2 := brise hbq hbz
                      have hBR := brise hBQ.out hbz2
                      have hqR := hq.below hbz
                      have hqQ := hqQ.out.below hbz2
                      replace hqQ := Lib.hid hqQ
                      have rx8 := rx8.out.below hbz2
                      replace rx8 := Lib.hid rx8
                      replace hXR := Lib.hid hXR
                      replace hBR := Lib.hid hBR
                      replace hqR := Lib.hid hqR
                      clear hXq hbz hbz2 hbq hWz hq
                      have u0 := cellB hXR.out.2.2.1 (i := 0) rfl
                      have u1 := cellB hXR.out.2.2.1 (i := 1) rfl
                      have u2 := cellB hXR.out.2.2.1 (i := 2) rfl
                      have u3 := cellB hXR.out.2.2.1 (i := 3) rfl
                      have y0 := cellB hXR.out.2.2.2.2.2.1 (i := 0) rfl
                      have y1 := cellB hXR.out.2.2.2.2.2.1 (i := 1) rfl
                      have y2 := cellB hXR.out.2.2.2.2.2.1 (i := 2) rfl
                      have y3 := cellB hXR.out.2.2.2.2.2.1 (i := 3) rfl
                      have x0 := cellB hXR.out.2.1 (i := 0) rfl
                      have x1 := cellB hXR.out.2.1 (i := 1) rfl
                      have x2 := cellB hXR.out.2.1 (i := 2) rfl
                      have x3 := cellB hXR.out.2.1 (i := 3) rfl
                      have kop := kmu.out _ _ _ hBR.out hqQ.out
                      replace kop := Lib.hid kop
                      go_wp2_with fail
                      with_reducible refine kop.out.mono ?_
                      rintro E wq ⟨qzP, czP, rfl, hq, hch⟩
                      have hbq := cbelow hch
                      clear u0 u1 u2 u3 y0 y1 y2 y3 x0 x1 x2 x3 hch kop
                      have hXq := hXR.out.new hbq
                      go_upto_region 11 with (fail)
                      generalize hWz : wq.alloc (.cells #[.int .i64 0, .bool np, .slice qzP (digs P).length czP, .int .i64 d] 24 (0, 0)) = VP
                      obtain ⟨hXP, hbz, -⟩ := hXq.add hWz
                      have hbz2 := brise hbq hbz
                      have hBP := brise hBR.out hbz2
                      have hqP := hq.below hbz
                      have hqQ := hqQ.out.below hbz2
                      replace hqQ := Lib.hid hqQ
                      have hqR := hqR.out.below hbz2
                      replace hqR := Lib.hid hqR
                      have rx8 := rx8.out.below hbz2
                      replace rx8 := Lib.hid rx8
                      replace hXP := Lib.hid hXP
                      replace hBP := Lib.hid hBP
                      replace hqP := Lib.hid hqP
                      clear hXq hbz hbz2 hbq hWz hq
                      have u0 := cellB hXP.out.2.2.2.1 (i := 0) rfl
                      have u1 := cellB hXP.out.2.2.2.1 (i := 1) rfl
                      have u2 := cellB hXP.out.2.2.2.1 (i := 2) rfl
                      have u3 := cellB hXP.out.2.2.2.1 (i := 3) rfl
                      have y0 := cellB hXP.out.1 (i := 0) rfl
                      have y1 := cellB hXP.out.1 (i := 1) rfl
                      have y2 := cellB hXP.out.1 (i := 2) rfl
                      have y3 := cellB hXP.out.1 (i := 3) rfl
                      have x0 := cellB hXP.out.2.1 (i := 0) rfl
                      have x1 := cellB hXP.out.2.1 (i := 1) rfl
                      have x2 := cellB hXP.out.2.1 (i := 2) rfl
                      have x3 := cellB hXP.out.2.1 (i := 3) rfl
                      have kop := kad.out _ _ _ _ _ hBP.out hqP.out hqR.out
                      replace kop := Lib.hid kop
                      go_wp2_with fail
                      with_reducible refine kop.out.mono ?_
                      rintro E wq ⟨qzS, czS, rfl, hq, hch⟩
                      have hbq := cbelow hch
                      clear u0 u1 u2 u3 y0 y1 y2 y3 x0 x1 x2 x3 hch kop
                      have hXq := hXP.out.new hbq
                      go_upto_region 12 with (fail)
                      generalize hWz : wq.alloc (.cells #[.int .i64 0, .bool n, .slice qzS (digs S).length czS, .int .i64 G] 24 (0, 0)) = VS
                      obtain ⟨hXS, hbz, -⟩ := hXq.add hWz
                      have hbz2 := brise hbq hbz
                      have hBS := brise hBP.out hbz2
                      have hqS := hq.below hbz
                      have hqP := hqP.out.below hbz2
                      replace hqP := Lib.hid hqP
                      have hqR := hqR.out.below hbz2
                      replace hqR := Lib.hid hqR
                      have rx8 := rx8.out.below hbz2
                      replace rx8 := Lib.hid rx8
                      replace hXS := Lib.hid hXS
                      replace hBS := Lib.hid hBS
                      replace hqS := Lib.hid hqS
                      clear hXq hbz hbz2 hbq hWz hq
                      have t0 := cellB hXS.out.1 (i := 0) rfl
                      have t1 := cellB hXS.out.1 (i := 1) rfl
                      have t2 := cellB hXS.out.1 (i := 2) rfl
                      have t3 := cellB hXS.out.1 (i := 3) rfl
                      have ko := ofDec_c _ 0 n qzS _ czS (digs S) G hqS.out (by omega)
                      rw [val_digs, show decide ((0 : Int) = 0 ∧ digs S = digs S) = true by simp] at ko
                      replace ko := Lib.hid ko
                      go_wp2_with fail
                      with_reducible refine ko.out.mono ?_
                      rintro E w14 ⟨g, lg, cg, rfl, hg⟩
                      have hX14 := hXS.out.new hg.bel
                      have hB14 := brise hBS.out hg.bel
                      have hgr := hg.rd
                      have hr14 := rx8.out.below hg.bel
                      clear t0 t1 t2 t3 ko hg
                      go_upto_region 13 with (fail)
                      generalize hWg : w14.alloc (.cells #[.bool n, .slice g lg cg, .int .i64 G] 29 (0, 0)) = V6
                      obtain ⟨hX15, hbg, -⟩ := hX14.add hWg
                      have ksm2 := ksm.out V6 g lg cg p0 m0 k0 (hgr.below hbg) (hr14.below hbg)
                      have hB15 := brise hB14 hbg
                      have hb4n := bitsN4
                      have g0 := cellB hX15.1 (i := 0) rfl
                      have g1 := cellB hX15.1 (i := 1) rfl
                      have g2 := cellB hX15.1 (i := 2) rfl
                      have t0 := cellB hX15.2.2.2.2.2.2.2.1 (i := 0) rfl
                      have t1 := cellB hX15.2.2.2.2.2.2.2.1 (i := 1) rfl
                      have t2 := cellB hX15.2.2.2.2.2.2.2.1 (i := 2) rfl
                      replace ksm2 := Lib.hid ksm2
                      replace hB15 := Lib.hid hB15
                      clear hX15 hX14 hB14 hr14 hgr hbg hWg
                      go_wp2_with fail
                      with_reducible refine ksm2.out.mono ?_
                      rintro E w15 ⟨rfl, hb15⟩
                      go_wp2
                      go_ret
                      exact ⟨by simp, brise hB15.out hb15⟩
                    · have q6t : decide (d > 15) = true := decide_eq_true (by omega)
                      go_wp2
                      go_ret
                      exact ⟨rfl, hB5.out⟩
                  · have q5t : decide (d < -15) = true := decide_eq_true (by omega)
                    go_wp2
                    go_ret
                    exact ⟨rfl, hB5.out⟩
                · have q4t : decide (e > 15) = true := decide_eq_true (by omega)
                  go_wp2
                  go_ret
                  exact ⟨rfl, hB5.out⟩
              · have q3t : decide (e < -15) = true := decide_eq_true (by omega)
                go_wp2
                go_ret
                exact ⟨rfl, hB5.out⟩
            · have q2t : decide ((r : Int) > 1) = true := decide_eq_true (by omega)
              go_wp2
              go_ret
              exact ⟨rfl, hB5.out⟩
          · have q1t : decide ((l : Int) > 1) = true := decide_eq_true (by omega)
            go_wp2
            go_ret
            exact ⟨rfl, hB5.out⟩
    · rw [decide_eq_false hfit2] at kf
      replace kf := Lib.hid kf
      go_wp2_with fail
      with_reducible refine kf.out.mono ?_
      rintro E w2 ⟨rfl, hb⟩
      go_wp2
      go_ret
      exact ⟨rfl, brise hB1.out hb⟩
  · rw [decide_eq_false hfit] at kf
    replace kf := Lib.hid kf
    go_wp2_with fail
    with_reducible refine kf.out.mono ?_
    rintro E w1 ⟨rfl, hb⟩
    go_wp2
    go_ret
    exact ⟨rfl, brise hB0.out hb⟩
end Go.Proofs.YtgdpljjmnmapmaaGreatDoor
