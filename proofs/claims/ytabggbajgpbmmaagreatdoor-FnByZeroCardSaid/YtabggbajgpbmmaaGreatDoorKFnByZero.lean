/- FnByZero: the walk. -/
import Derived.Test.YtabggbajgpbmmaaGreatDoorZ0
import Derived.Test.YtabggbajgpbmmaaGreatDoorQ7
namespace Go.Proofs.YtabggbajgpbmmaaGreatDoor
open Go Go.RowKit

theorem pack4 {w : World} {k : Nat} {a b c d : Value} {T : TypeId} (h : w.heap[k]? = some (.cells #[a, b, c, d] T (0, 0))) (v0 v1 v2 v3 : Value) :
    ∃ V, (((w.setCell ⟨k, 0, none⟩ v0).setCell ⟨k, 1, none⟩ v1).setCell ⟨k, 2, none⟩ v2).setCell ⟨k, 3, none⟩ v3 = V ∧ V.heap[k]? = some (.cells #[v0, v1, v2, v3] T (0, 0)) ∧ Chg w V (fun j => j = k) := ⟨_, rfl, end4 h v0 v1 v2 v3, chg4 w k v0 v1 v2 v3⟩
theorem pack1 (w : World) (o : Obj) : ∃ V, w.alloc o = V ∧ V.heap[w.heap.size]? = some o ∧ Chg w V (fun _ => False) := ⟨_, rfl, allocB w o, (Chg.refl w (fun _ => False)).alloc o⟩

set_option maxRecDepth 100000 in
set_option maxHeartbeats 8000000 in
theorem ByZero_z (w : World) (prec mode : Int) (m : Nat) (hmm : mode % 8 = (m : Int)) (f : Int) (n : Bool) (A : Option Addr) (l c : Nat) (X : List Nat) (e : Int) (g : Int) (o : Bool) (B : Option Addr) (r s : Nat) (Y : List Nat) (d : Int) (h2 : 0 ≤ prec ∧ prec ≤ 255) (h3 : 0 ≤ mode ∧ mode ≤ 255) (hX : RdW w A l c X) (hY : RdW w B r s Y) (hN : val X = 0)
    (hd : ∀ w1, Below w.heap.size w w1 → val Y = 0 → l ≤ 3 → r ≤ 3 → -100 ≤ e → e ≤ 100 → -100 ≤ d → d ≤ 100 → Calls Tryz.prog 12 #[.agg #[.int .u64 (1 + prec % 60), .int .i64 100000, .int .i64 (-100000), .int .i64 (m : Int)], .agg #[.int .i64 0, .bool n, .slice A l c, .int .i64 e], .agg #[.int .i64 0, .bool o, .slice B r s, .int .i64 d]] w1 (Told w1 (QSp 3 false 32))) :
    Calls Tryz.prog 3 #[.int .u8 prec, .int .u8 mode, .agg #[.int .i64 f, .bool n, .slice A l c, .int .i64 e], .agg #[.int .i64 g, .bool o, .slice B r s, .int .i64 d]] w fun E w' => E = .returned (.bool true) ∧ Below w.heap.size w w' := by
  have kw := fun w => wide_c w prec mode m h2 h3 hmm
  replace kw := Lib.hid kw
  replace hd := Lib.hid hd
  clear h2 h3 hmm
  have hlc := hX.cap
  have hcm := hX.max
  have hls := hY.cap
  have hsm := hY.max
  replace hX := Lib.hid hX
  replace hY := Lib.hid hY
  replace hN := Lib.hid hN
  go_enter Tryz.func3, Tryz.ntmps3
  go_upto_region 1 with (fail)
  generalize hW : (w.alloc (.cells #[.int .i64 f, .bool n, .slice A l c, .int .i64 e] 24 (0, 0))).alloc (.cells #[.int .i64 g, .bool o, .slice B r s, .int .i64 d] 24 (0, 0)) = W0
  have hC0 : Chg w W0 (fun _ => False) := by rw [← hW]; exact ((Chg.refl w (fun _ => False)).alloc _).alloc _
  have hX0 : Bp w.heap.size (w.heap.size + 1) f e g d n o A B l c r s W0 := by rw [← hW]; exact ⟨allocB_old (allocB _ _), allocB_at _ _ (by simp)⟩
  have hs0 : w.heap.size + 2 ≤ W0.heap.size := by rw [← hW]; simp
  clear hW
  have kf := fits_c W0 f n A l c e
  obtain ⟨c0, c1, c2, c3, d0, d1, d2, d3⟩ := hX0.cells
  replace hX0 := Lib.hid hX0
  replace hC0 := Lib.hid hC0
  replace hs0 := Lib.hid hs0
  by_cases hfit : l ≤ 2147483647
  · rw [decide_eq_true hfit] at kf
    replace kf := Lib.hid kf
    go_wp2_with fail
    with_reducible refine kf.out.mono ?_
    rintro E w1 ⟨rfl, hb1⟩
    have hc1 := Below.chg hb1
    have hX1 := hX0.out.chg hc1
    have hC1 : Chg w w1 (fun _ => False) := hC0.out.trans (hc1.mono (fun _ _ h => h.elim))
    have hs1 : w.heap.size + 2 ≤ w1.heap.size := Nat.le_trans hs0.out hb1.size
    clear c0 c1 c2 c3 d0 d1 d2 d3 kf hc1 hb1
    obtain ⟨c0, c1, c2, c3, d0, d1, d2, d3⟩ := hX1.cells
    replace hX1 := Lib.hid hX1
    replace hC1 := Lib.hid hC1
    replace hs1 := Lib.hid hs1
    have kf := fits_c w1 g o B r s d
    by_cases hfit2 : r ≤ 2147483647
    · rw [decide_eq_true hfit2] at kf
      replace kf := Lib.hid kf
      go_wp2_with fail
      with_reducible refine kf.out.mono ?_
      rintro E w2 ⟨rfl, hb2⟩
      have hc2 := Below.chg hb2
      have hX2 := hX1.out.chg hc2
      have hC2 : Chg w w2 (fun _ => False) := hC1.out.trans (hc2.mono (fun _ _ h => h.elim))
      have hs2 : w.heap.size + 2 ≤ w2.heap.size := Nat.le_trans hs1.out hb2.size
      clear c0 c1 c2 c3 d0 d1 d2 d3 kf hc2 hb2
      obtain ⟨c0, c1, c2, c3, d0, d1, d2, d3⟩ := hX2.cells
      have kq := both_c w2 f n A l c X e g o B r s Y d (hX.out.chg hC2) (hY.out.chg hC2)
      replace kq := Lib.hid kq
      replace hX2 := Lib.hid hX2
      replace hC2 := Lib.hid hC2
      replace hs2 := Lib.hid hs2
      go_wp2_with fail
      with_reducible refine kq.out.mono ?_
      rintro E w3 ⟨a0, p0, m0, k0, a2, b0, q0, n0, j0, b2, ok, rfl, hb3, hfin⟩
      have hc3 := Below.chg hb3
      have hX3 := hX2.out.chg hc3
      have hC3 : Chg w w3 (fun _ => False) := hC2.out.trans (hc3.mono (fun _ _ h => h.elim))
      have hs3 : w.heap.size + 2 ≤ w3.heap.size := Nat.le_trans hs2.out hb3.size
      clear c0 c1 c2 c3 d0 d1 d2 d3 kq hc3 hb3
      replace hX3 := Lib.hid hX3
      replace hC3 := Lib.hid hC3
      replace hs3 := Lib.hid hs3
      replace hfin := Lib.hid hfin
      cases ok with
      | false =>
        go_wp2
        go_ret
        exact ⟨rfl, Chg.below ((hC3.out.alloc _).alloc _)⟩
      | true =>
        obtain ⟨fx, fy⟩ := hfin.out (by simp)
        have g1 := fx.len
        have g2 := fx.lo
        have g3 := fx.hi
        have g4 := fy.len
        have g5 := fy.lo
        have g6 := fy.hi
        have e1 := fx.form
        have e2 := fy.form
        have e3 := fx.neg
        have e4 := fy.neg
        have e5 := fx.coeff.rd.len
        have e6 := fy.coeff.rd.len
        have e7 := fx.coeff.rd.cap
        have e8 := fy.coeff.rd.cap
        have e9 := fx.coeff.rd.max
        have e10 := fy.coeff.rd.max
        subst e1 e2 e3 e4
        clear hfin fx fy
        replace g1 := Lib.hid g1
        replace g2 := Lib.hid g2
        replace g3 := Lib.hid g3
        replace g4 := Lib.hid g4
        replace g5 := Lib.hid g5
        replace g6 := Lib.hid g6
        go_upto_region 4 with (fail)
        generalize hW : (w3.alloc (.cells #[.bool a0, .slice p0 m0 k0, .int .i64 a2] 29 (0, 0))).alloc (.cells #[.bool b0, .slice q0 n0 j0, .int .i64 b2] 29 (0, 0)) = W
        have hC4 : Chg w W (fun _ => False) := by rw [← hW]; exact (hC3.out.alloc _).alloc _
        have hX4 : Bp w.heap.size (w.heap.size + 1) 0 e 0 d a0 b0 A B l c r s W := by rw [← hW]; exact ⟨allocB_old (allocB_old hX3.out.1), allocB_old (allocB_old hX3.out.2)⟩
        have hVa : W.heap[w3.heap.size]? = some (.cells #[.bool a0, .slice p0 m0 k0, .int .i64 a2] 29 (0, 0)) := by rw [← hW]; exact allocB_old (allocB _ _)
        have hVb : W.heap[w3.heap.size + 1]? = some (.cells #[.bool b0, .slice q0 n0 j0, .int .i64 b2] 29 (0, 0)) := by rw [← hW]; exact allocB_at _ _ (by simp)
        have hs4 : W.heap.size = w3.heap.size + 2 := by rw [← hW]; simp
        clear hW
        have hlt := hs3.out
        have neA : w.heap.size < W.heap.size := by omega
        have neB : w.heap.size + 1 < W.heap.size := by omega
        clear hlt hs4
        have v0 : W.cell? ⟨w3.heap.size + 1, 0, none⟩ = some (.bool b0) := cellB hVb rfl
        have v1' : W.cell? ⟨w3.heap.size + 1, 1, none⟩ = some (.slice q0 n0 j0) := cellB hVb rfl
        have v2' : W.cell? ⟨w3.heap.size + 1, 2, none⟩ = some (.int .i64 b2) := cellB hVb rfl
        have ks := sign_c W b0 q0 n0 j0 b2
        replace hC4 := Lib.hid hC4
        replace hX4 := Lib.hid hX4
        replace hVa := Lib.hid hVa
        replace neA := Lib.hid neA
        replace neB := Lib.hid neB
        replace e5 := Lib.hid e5
        clear hVb
        by_cases hz : n0 = 0
        · subst hz
          have hYz : val Y = 0 := (dB_eq_nil two16).1 (List.length_eq_zero_iff.1 e6)
          rw [if_pos rfl] at ks
          replace ks := Lib.hid ks
          replace hYz := Lib.hid hYz
          clear e6
          go_wp2_with fail
          with_reducible refine ks.out.mono ?_
          rintro E v3 ⟨rfl, hb4⟩
          have hc4 := Below.chg hb4
          have hP := hX4.out.chg hc4
          have hVa3 := hc4.heapB hVa.out (fun h => h)
          have hC : Chg w v3 (fun _ => False) := hC4.out.trans (hc4.mono (fun _ _ h => h.elim))
          replace neA := Nat.lt_of_lt_of_le neA.out hb4.size
          replace neB := Nat.lt_of_lt_of_le neB.out hb4.size
          clear v0 v1' v2' ks hb4 hc4 hX4 hVa hC4
          replace hC := Lib.hid hC
          replace hVa3 := Lib.hid hVa3
          go_wp2_with fail
          have hBx : Bp w.heap.size ((w.heap.size + 1)) 0 e 0 d a0 b0 A B l c r s v3 := hP
          have hBd : Bp w.heap.size ((w.heap.size + 1)) 0 e 0 d a0 b0 A B l c r s v3.drew := hP
          have hS0 := hBd.cells
          have ne0 : w.heap.size ≠ v3.heap.size := Nat.ne_of_lt neA
          have ne1 : (w.heap.size + 1) ≠ v3.heap.size := Nat.ne_of_lt neB
          replace neA := Lib.hid neA
          replace neB := Lib.hid neB
          replace hBx := Lib.hid hBx
          replace hBd := Lib.hid hBd
          clear hP
          go_region_held3 (fun w' => w'.cell? ⟨w.heap.size, 0, none⟩ = some (.int .i64 0) ∧ w'.cell? ⟨w.heap.size, 1, none⟩ = some (.bool a0) ∧ w'.cell? ⟨w.heap.size, 2, none⟩ = some (.slice A l c) ∧ w'.cell? ⟨w.heap.size, 3, none⟩ = some (.int .i64 e) ∧ w'.cell? ⟨(w.heap.size + 1), 0, none⟩ = some (.int .i64 0) ∧ w'.cell? ⟨(w.heap.size + 1), 1, none⟩ = some (.bool b0) ∧ w'.cell? ⟨(w.heap.size + 1), 2, none⟩ = some (.slice B r s) ∧ w'.cell? ⟨(w.heap.size + 1), 3, none⟩ = some (.int .i64 d)) (with_reducible (first | exact hS0 | exact hS1 | exact hS2 | exact (hBd.out.chg ((Chg.refl _ _).alloc _)).cells | exact (hBx.out.chg (((Chg.refl _ _).alloc _).drew)).cells | exact (hB1.out.chg ((Chg.refl _ _).alloc _)).cells | exact (hB2.out.chg ((Chg.refl _ _).alloc _)).cells | exact (hB2.out.set4 v3.heap.size ne0 ne1 _ _ _ _).cells | exact (hB2.out.set4 v1.heap.size me0 me1 _ _ _ _).cells)) (first
            | (go_at_call 13
               with_reducible refine (kw.out _).mono ?_
               rintro e' v1 ⟨rfl, hch1⟩
               have hB1 : Bp w.heap.size ((w.heap.size + 1)) 0 e 0 d a0 b0 A B l c r s v1 := by with_reducible (first | exact hBd.out.chg hch1 | exact (hBd.out.chg ((Chg.refl _ _).alloc _)).chg hch1 | exact (hBx.out.chg (((Chg.refl _ _).alloc _).drew)).chg hch1)
               have hS1 := hB1.cells
               have hQ1 : Chg w v1 (fun _ => False) := by with_reducible (first | exact hC.out.drew.trans (hch1.mono (fun _ _ h => h.elim)) | exact (hC.out.drew.alloc _).trans (hch1.mono (fun _ _ h => h.elim)) | exact (hC.out.alloc _).drew.trans (hch1.mono (fun _ _ h => h.elim)))
               replace hQ1 := Lib.hid hQ1
               have hWv : v3.heap.size ≤ v1.heap.size := Nat.le_trans (by first | exact Nat.le_refl _ | (rw [World.size_alloc]; omega) | (show _ ≤ (v3.alloc _).heap.size; rw [World.size_alloc]; omega)) hch1.size
               have me0 : w.heap.size ≠ v1.heap.size := Nat.ne_of_lt (Nat.lt_of_lt_of_le neA.out hWv)
               have me1 : (w.heap.size + 1) ≠ v1.heap.size := Nat.ne_of_lt (Nat.lt_of_lt_of_le neB.out hWv)
               first
                 | (have hZ := laid1 hch1
                    replace hZ := Lib.hid hZ)
                 | skip
               replace hWv := Lib.hid hWv
               replace hB1 := Lib.hid hB1
               replace hch1 := Lib.hid hch1)
            | (go_at_call 12
               with_reducible refine (hd.out _ (by with_reducible (first | exact Chg.below hQ1.out | exact Chg.below (hQ1.out.alloc _))) hYz.out g1.out g4.out g2.out g3.out g5.out g6.out).mono ?_
               rintro e' v2 ⟨f', n', A', l', c', e2', cn', ok', rfl, ⟨qf, qn, qc, qk⟩, hch2⟩
               replace qf := qf.symm
               replace qn := qn.symm
               replace qc := qc.symm
               replace qk := qk.symm
               subst qf qn qc qk
               have hB2 : Bp w.heap.size ((w.heap.size + 1)) 0 e 0 d a0 b0 A B l c r s v2 := by with_reducible (first | exact hB1.out.chg hch2 | exact (hB1.out.chg ((Chg.refl _ _).alloc _)).chg hch2)
               have hS2 := hB2.cells
               first
                 | (have hZ2 := hch2.heapB hZ.out (fun h => h)
                    have z0 := cellB hZ2 (i := 0) rfl
                    have z1 := cellB hZ2 (i := 1) rfl
                    have z2 := cellB hZ2 (i := 2) rfl
                    have z3 := cellB hZ2 (i := 3) rfl
                    have y0 := frozenB hZ2 0
                    have y1 := frozenB hZ2 1
                    have y2 := frozenB hZ2 2
                    have y3 := frozenB hZ2 3
                    replace hZ2 := Lib.hid hZ2)
                 | (have hZ2 := laid2 hch2
                    have z0 := cellB hZ2 (i := 0) rfl
                    have z1 := cellB hZ2 (i := 1) rfl
                    have z2 := cellB hZ2 (i := 2) rfl
                    have z3 := cellB hZ2 (i := 3) rfl
                    have y0 := frozenB hZ2 0
                    have y1 := frozenB hZ2 1
                    have y2 := frozenB hZ2 2
                    have y3 := frozenB hZ2 3
                    replace hZ2 := Lib.hid hZ2)
                 | skip
               replace hB2 := Lib.hid hB2
               replace hch2 := Lib.hid hch2))
          all_goals
            clear hS0 hS1 hS2 ne0 ne1 me0 me1 hd kw  hBd hB1 hB2
            first
              | (obtain ⟨V, hV, hE, hq⟩ := pack4 hZ2.out (.int .i64 3) (.bool false) (.slice A' l' c') (.int .i64 e2')
                 rw [hV])
              | (obtain ⟨V, hV, hE, hq⟩ := pack1 v2 (.cells #[.int .i64 3, .bool false, .slice A' l' c', .int .i64 e2'] 24 (0, 0))
                 rw [hV])
            have l1 := hWv.out
            have hWV : Chg v3 V (fun _ => False) := by
              with_reducible (first
                | exact (((Chg.refl v3 (fun _ => False)).drew.trans (hch1.out.mono (fun _ _ h => h.elim))).trans (hch2.out.mono (fun _ _ h => h.elim))).trans (hq.mono (fun _ _ h => h.elim))
                | exact ((((Chg.refl v3 (fun _ => False)).drew.trans (hch1.out.mono (fun _ _ h => h.elim))).alloc _).trans (hch2.out.mono (fun _ _ h => h.elim))).trans (hq.mono (fun k _ h => .inr (by omega)))
                | exact ((((Chg.refl v3 (fun _ => False)).alloc _).drew.trans (hch1.out.mono (fun _ _ h => h.elim))).trans (hch2.out.mono (fun _ _ h => h.elim))).trans (hq.mono (fun k _ h => .inr (by omega))))
            clear hV
            try clear z0 z1 z2 z3 y0 y1 y2 y3 hZ2
            try clear hZ
            have hVaV := hWV.heapB hVa3.out (fun h => h)
            have hXV := hBx.out.chg hWV
            have u0 : V.cell? ⟨w3.heap.size, 0, none⟩ = some (.bool a0) := cellB hVaV rfl
            have u1 : V.cell? ⟨w3.heap.size, 1, none⟩ = some (.slice p0 m0 k0) := cellB hVaV rfl
            have u2 : V.cell? ⟨w3.heap.size, 2, none⟩ = some (.int .i64 a2) := cellB hVaV rfl
            have ks := sign_c V a0 p0 m0 k0 a2
            have hm0 : m0 = 0 := by have := e5.out; rw [hN.out, show d16 0 = [] from dB_zero two16] at this; exact this.symm
            subst hm0
            rw [if_pos rfl] at ks
            replace ks := Lib.hid ks
            replace hE := Lib.hid hE
            replace hXV := Lib.hid hXV
            replace hVaV := Lib.hid hVaV
            replace hWV := Lib.hid hWV
            replace hq := Lib.hid hq
            go_wp2_with fail
            with_reducible refine ks.out.mono ?_
            rintro E v4 ⟨rfl, hb5⟩
            have hc5 := Below.chg hb5
            have hE5 := hc5.heapB hE.out (fun h => h)
            have hX5 := hXV.out.chg hc5
            have x1 := hX5.1.cells.2.1
            have x2 := hX5.2.cells.2.1
            have z0 := cellB (i := 0) (v := .int .i64 3) hE5 rfl
            have z1 := cellB (i := 1) (v := .bool false) hE5 rfl
            replace hE5 := Lib.hid hE5
            replace hX5 := Lib.hid hX5
            clear u0 u1 u2 ks
            go_wp2
            go_ret
            exact ⟨rfl, Chg.below (hC.out.trans ((hWV.out.trans (hc5.mono (fun _ _ h => h.elim))).mono (fun _ _ h => h.elim)))⟩
        · have hks : ∃ t : Int, t ≠ 0 ∧ (if n0 = 0 then (0 : Int) else if b0 then -1 else 1) = t := by
            rw [if_neg hz]; cases b0 <;> simp
          obtain ⟨t, ht, hte⟩ := hks
          rw [hte] at ks
          have e0 : (t != 0) = true := by simpa using ht
          replace ks := Lib.hid ks
          clear hte
          replace ht := Lib.hid ht
          go_wp2_with fail
          with_reducible refine ks.out.mono ?_
          rintro E v3 ⟨rfl, hb4⟩
          have hc4 := Below.chg hb4
          go_wp2
          go_ret
          exact ⟨rfl, Chg.below (hC4.out.trans (hc4.mono (fun _ _ h => h.elim)))⟩
    · rw [decide_eq_false hfit2] at kf
      replace kf := Lib.hid kf
      go_wp2_with fail
      with_reducible refine kf.out.mono ?_
      rintro E w2 ⟨rfl, hb2⟩
      have hc2 := Below.chg hb2
      go_wp2
      go_ret
      exact ⟨rfl, Chg.below (hC1.out.trans (hc2.mono (fun _ _ h => h.elim)))⟩
  · rw [decide_eq_false hfit] at kf
    replace kf := Lib.hid kf
    go_wp2_with fail
    with_reducible refine kf.out.mono ?_
    rintro E w1 ⟨rfl, hb1⟩
    have hc1 := Below.chg hb1
    go_wp2
    go_ret
    exact ⟨rfl, Chg.below (hC0.out.trans (hc1.mono (fun _ _ h => h.elim)))⟩
set_option maxRecDepth 100000 in
set_option maxHeartbeats 8000000 in
theorem ByZero_nz (w : World) (prec mode : Int) (m : Nat) (hmm : mode % 8 = (m : Int)) (f : Int) (n : Bool) (A : Option Addr) (l c : Nat) (X : List Nat) (e : Int) (g : Int) (o : Bool) (B : Option Addr) (r s : Nat) (Y : List Nat) (d : Int) (h2 : 0 ≤ prec ∧ prec ≤ 255) (h3 : 0 ≤ mode ∧ mode ≤ 255) (hX : RdW w A l c X) (hY : RdW w B r s Y) (hN : val X ≠ 0)
    (hd : ∀ w1, Below w.heap.size w w1 → val Y = 0 → l ≤ 3 → r ≤ 3 → -100 ≤ e → e ≤ 100 → -100 ≤ d → d ≤ 100 → Calls Tryz.prog 12 #[.agg #[.int .u64 (1 + prec % 60), .int .i64 100000, .int .i64 (-100000), .int .i64 (m : Int)], .agg #[.int .i64 0, .bool n, .slice A l c, .int .i64 e], .agg #[.int .i64 0, .bool o, .slice B r s, .int .i64 d]] w1 (Told w1 (QSp 1 (n != o) 64))) :
    Calls Tryz.prog 3 #[.int .u8 prec, .int .u8 mode, .agg #[.int .i64 f, .bool n, .slice A l c, .int .i64 e], .agg #[.int .i64 g, .bool o, .slice B r s, .int .i64 d]] w fun E w' => E = .returned (.bool true) ∧ Below w.heap.size w w' := by
  have kw := fun w => wide_c w prec mode m h2 h3 hmm
  replace kw := Lib.hid kw
  replace hd := Lib.hid hd
  clear h2 h3 hmm
  have hlc := hX.cap
  have hcm := hX.max
  have hls := hY.cap
  have hsm := hY.max
  replace hX := Lib.hid hX
  replace hY := Lib.hid hY
  replace hN := Lib.hid hN
  go_enter Tryz.func3, Tryz.ntmps3
  go_upto_region 1 with (fail)
  generalize hW : (w.alloc (.cells #[.int .i64 f, .bool n, .slice A l c, .int .i64 e] 24 (0, 0))).alloc (.cells #[.int .i64 g, .bool o, .slice B r s, .int .i64 d] 24 (0, 0)) = W0
  have hC0 : Chg w W0 (fun _ => False) := by rw [← hW]; exact ((Chg.refl w (fun _ => False)).alloc _).alloc _
  have hX0 : Bp w.heap.size (w.heap.size + 1) f e g d n o A B l c r s W0 := by rw [← hW]; exact ⟨allocB_old (allocB _ _), allocB_at _ _ (by simp)⟩
  have hs0 : w.heap.size + 2 ≤ W0.heap.size := by rw [← hW]; simp
  clear hW
  have kf := fits_c W0 f n A l c e
  obtain ⟨c0, c1, c2, c3, d0, d1, d2, d3⟩ := hX0.cells
  replace hX0 := Lib.hid hX0
  replace hC0 := Lib.hid hC0
  replace hs0 := Lib.hid hs0
  by_cases hfit : l ≤ 2147483647
  · rw [decide_eq_true hfit] at kf
    replace kf := Lib.hid kf
    go_wp2_with fail
    with_reducible refine kf.out.mono ?_
    rintro E w1 ⟨rfl, hb1⟩
    have hc1 := Below.chg hb1
    have hX1 := hX0.out.chg hc1
    have hC1 : Chg w w1 (fun _ => False) := hC0.out.trans (hc1.mono (fun _ _ h => h.elim))
    have hs1 : w.heap.size + 2 ≤ w1.heap.size := Nat.le_trans hs0.out hb1.size
    clear c0 c1 c2 c3 d0 d1 d2 d3 kf hc1 hb1
    obtain ⟨c0, c1, c2, c3, d0, d1, d2, d3⟩ := hX1.cells
    replace hX1 := Lib.hid hX1
    replace hC1 := Lib.hid hC1
    replace hs1 := Lib.hid hs1
    have kf := fits_c w1 g o B r s d
    by_cases hfit2 : r ≤ 2147483647
    · rw [decide_eq_true hfit2] at kf
      replace kf := Lib.hid kf
      go_wp2_with fail
      with_reducible refine kf.out.mono ?_
      rintro E w2 ⟨rfl, hb2⟩
      have hc2 := Below.chg hb2
      have hX2 := hX1.out.chg hc2
      have hC2 : Chg w w2 (fun _ => False) := hC1.out.trans (hc2.mono (fun _ _ h => h.elim))
      have hs2 : w.heap.size + 2 ≤ w2.heap.size := Nat.le_trans hs1.out hb2.size
      clear c0 c1 c2 c3 d0 d1 d2 d3 kf hc2 hb2
      obtain ⟨c0, c1, c2, c3, d0, d1, d2, d3⟩ := hX2.cells
      have kq := both_c w2 f n A l c X e g o B r s Y d (hX.out.chg hC2) (hY.out.chg hC2)
      replace kq := Lib.hid kq
      replace hX2 := Lib.hid hX2
      replace hC2 := Lib.hid hC2
      replace hs2 := Lib.hid hs2
      go_wp2_with fail
      with_reducible refine kq.out.mono ?_
      rintro E w3 ⟨a0, p0, m0, k0, a2, b0, q0, n0, j0, b2, ok, rfl, hb3, hfin⟩
      have hc3 := Below.chg hb3
      have hX3 := hX2.out.chg hc3
      have hC3 : Chg w w3 (fun _ => False) := hC2.out.trans (hc3.mono (fun _ _ h => h.elim))
      have hs3 : w.heap.size + 2 ≤ w3.heap.size := Nat.le_trans hs2.out hb3.size
      clear c0 c1 c2 c3 d0 d1 d2 d3 kq hc3 hb3
      replace hX3 := Lib.hid hX3
      replace hC3 := Lib.hid hC3
      replace hs3 := Lib.hid hs3
      replace hfin := Lib.hid hfin
      cases ok with
      | false =>
        go_wp2
        go_ret
        exact ⟨rfl, Chg.below ((hC3.out.alloc _).alloc _)⟩
      | true =>
        obtain ⟨fx, fy⟩ := hfin.out (by simp)
        have g1 := fx.len
        have g2 := fx.lo
        have g3 := fx.hi
        have g4 := fy.len
        have g5 := fy.lo
        have g6 := fy.hi
        have e1 := fx.form
        have e2 := fy.form
        have e3 := fx.neg
        have e4 := fy.neg
        have e5 := fx.coeff.rd.len
        have e6 := fy.coeff.rd.len
        have e7 := fx.coeff.rd.cap
        have e8 := fy.coeff.rd.cap
        have e9 := fx.coeff.rd.max
        have e10 := fy.coeff.rd.max
        subst e1 e2 e3 e4
        clear hfin fx fy
        replace g1 := Lib.hid g1
        replace g2 := Lib.hid g2
        replace g3 := Lib.hid g3
        replace g4 := Lib.hid g4
        replace g5 := Lib.hid g5
        replace g6 := Lib.hid g6
        go_upto_region 4 with (fail)
        generalize hW : (w3.alloc (.cells #[.bool a0, .slice p0 m0 k0, .int .i64 a2] 29 (0, 0))).alloc (.cells #[.bool b0, .slice q0 n0 j0, .int .i64 b2] 29 (0, 0)) = W
        have hC4 : Chg w W (fun _ => False) := by rw [← hW]; exact (hC3.out.alloc _).alloc _
        have hX4 : Bp w.heap.size (w.heap.size + 1) 0 e 0 d a0 b0 A B l c r s W := by rw [← hW]; exact ⟨allocB_old (allocB_old hX3.out.1), allocB_old (allocB_old hX3.out.2)⟩
        have hVa : W.heap[w3.heap.size]? = some (.cells #[.bool a0, .slice p0 m0 k0, .int .i64 a2] 29 (0, 0)) := by rw [← hW]; exact allocB_old (allocB _ _)
        have hVb : W.heap[w3.heap.size + 1]? = some (.cells #[.bool b0, .slice q0 n0 j0, .int .i64 b2] 29 (0, 0)) := by rw [← hW]; exact allocB_at _ _ (by simp)
        have hs4 : W.heap.size = w3.heap.size + 2 := by rw [← hW]; simp
        clear hW
        have hlt := hs3.out
        have neA : w.heap.size < W.heap.size := by omega
        have neB : w.heap.size + 1 < W.heap.size := by omega
        clear hlt hs4
        have v0 : W.cell? ⟨w3.heap.size + 1, 0, none⟩ = some (.bool b0) := cellB hVb rfl
        have v1' : W.cell? ⟨w3.heap.size + 1, 1, none⟩ = some (.slice q0 n0 j0) := cellB hVb rfl
        have v2' : W.cell? ⟨w3.heap.size + 1, 2, none⟩ = some (.int .i64 b2) := cellB hVb rfl
        have ks := sign_c W b0 q0 n0 j0 b2
        replace hC4 := Lib.hid hC4
        replace hX4 := Lib.hid hX4
        replace hVa := Lib.hid hVa
        replace neA := Lib.hid neA
        replace neB := Lib.hid neB
        replace e5 := Lib.hid e5
        clear hVb
        by_cases hz : n0 = 0
        · subst hz
          have hYz : val Y = 0 := (dB_eq_nil two16).1 (List.length_eq_zero_iff.1 e6)
          rw [if_pos rfl] at ks
          replace ks := Lib.hid ks
          replace hYz := Lib.hid hYz
          clear e6
          go_wp2_with fail
          with_reducible refine ks.out.mono ?_
          rintro E v3 ⟨rfl, hb4⟩
          have hc4 := Below.chg hb4
          have hP := hX4.out.chg hc4
          have hVa3 := hc4.heapB hVa.out (fun h => h)
          have hC : Chg w v3 (fun _ => False) := hC4.out.trans (hc4.mono (fun _ _ h => h.elim))
          replace neA := Nat.lt_of_lt_of_le neA.out hb4.size
          replace neB := Nat.lt_of_lt_of_le neB.out hb4.size
          clear v0 v1' v2' ks hb4 hc4 hX4 hVa hC4
          replace hC := Lib.hid hC
          replace hVa3 := Lib.hid hVa3
          go_wp2_with fail
          have hBx : Bp w.heap.size ((w.heap.size + 1)) 0 e 0 d a0 b0 A B l c r s v3 := hP
          have hBd : Bp w.heap.size ((w.heap.size + 1)) 0 e 0 d a0 b0 A B l c r s v3.drew := hP
          have hS0 := hBd.cells
          have ne0 : w.heap.size ≠ v3.heap.size := Nat.ne_of_lt neA
          have ne1 : (w.heap.size + 1) ≠ v3.heap.size := Nat.ne_of_lt neB
          replace neA := Lib.hid neA
          replace neB := Lib.hid neB
          replace hBx := Lib.hid hBx
          replace hBd := Lib.hid hBd
          clear hP
          go_region_held3 (fun w' => w'.cell? ⟨w.heap.size, 0, none⟩ = some (.int .i64 0) ∧ w'.cell? ⟨w.heap.size, 1, none⟩ = some (.bool a0) ∧ w'.cell? ⟨w.heap.size, 2, none⟩ = some (.slice A l c) ∧ w'.cell? ⟨w.heap.size, 3, none⟩ = some (.int .i64 e) ∧ w'.cell? ⟨(w.heap.size + 1), 0, none⟩ = some (.int .i64 0) ∧ w'.cell? ⟨(w.heap.size + 1), 1, none⟩ = some (.bool b0) ∧ w'.cell? ⟨(w.heap.size + 1), 2, none⟩ = some (.slice B r s) ∧ w'.cell? ⟨(w.heap.size + 1), 3, none⟩ = some (.int .i64 d)) (with_reducible (first | exact hS0 | exact hS1 | exact hS2 | exact (hBd.out.chg ((Chg.refl _ _).alloc _)).cells | exact (hBx.out.chg (((Chg.refl _ _).alloc _).drew)).cells | exact (hB1.out.chg ((Chg.refl _ _).alloc _)).cells | exact (hB2.out.chg ((Chg.refl _ _).alloc _)).cells | exact (hB2.out.set4 v3.heap.size ne0 ne1 _ _ _ _).cells | exact (hB2.out.set4 v1.heap.size me0 me1 _ _ _ _).cells)) (first
            | (go_at_call 13
               with_reducible refine (kw.out _).mono ?_
               rintro e' v1 ⟨rfl, hch1⟩
               have hB1 : Bp w.heap.size ((w.heap.size + 1)) 0 e 0 d a0 b0 A B l c r s v1 := by with_reducible (first | exact hBd.out.chg hch1 | exact (hBd.out.chg ((Chg.refl _ _).alloc _)).chg hch1 | exact (hBx.out.chg (((Chg.refl _ _).alloc _).drew)).chg hch1)
               have hS1 := hB1.cells
               have hQ1 : Chg w v1 (fun _ => False) := by with_reducible (first | exact hC.out.drew.trans (hch1.mono (fun _ _ h => h.elim)) | exact (hC.out.drew.alloc _).trans (hch1.mono (fun _ _ h => h.elim)) | exact (hC.out.alloc _).drew.trans (hch1.mono (fun _ _ h => h.elim)))
               replace hQ1 := Lib.hid hQ1
               have hWv : v3.heap.size ≤ v1.heap.size := Nat.le_trans (by first | exact Nat.le_refl _ | (rw [World.size_alloc]; omega) | (show _ ≤ (v3.alloc _).heap.size; rw [World.size_alloc]; omega)) hch1.size
               have me0 : w.heap.size ≠ v1.heap.size := Nat.ne_of_lt (Nat.lt_of_lt_of_le neA.out hWv)
               have me1 : (w.heap.size + 1) ≠ v1.heap.size := Nat.ne_of_lt (Nat.lt_of_lt_of_le neB.out hWv)
               first
                 | (have hZ := laid1 hch1
                    replace hZ := Lib.hid hZ)
                 | skip
               replace hWv := Lib.hid hWv
               replace hB1 := Lib.hid hB1
               replace hch1 := Lib.hid hch1)
            | (go_at_call 12
               with_reducible refine (hd.out _ (by with_reducible (first | exact Chg.below hQ1.out | exact Chg.below (hQ1.out.alloc _))) hYz.out g1.out g4.out g2.out g3.out g5.out g6.out).mono ?_
               rintro e' v2 ⟨f', n', A', l', c', e2', cn', ok', rfl, ⟨qf, qn, qc, qk⟩, hch2⟩
               replace qf := qf.symm
               replace qn := qn.symm
               replace qc := qc.symm
               replace qk := qk.symm
               subst qf qn qc qk
               have hB2 : Bp w.heap.size ((w.heap.size + 1)) 0 e 0 d a0 b0 A B l c r s v2 := by with_reducible (first | exact hB1.out.chg hch2 | exact (hB1.out.chg ((Chg.refl _ _).alloc _)).chg hch2)
               have hS2 := hB2.cells
               first
                 | (have hZ2 := hch2.heapB hZ.out (fun h => h)
                    have z0 := cellB hZ2 (i := 0) rfl
                    have z1 := cellB hZ2 (i := 1) rfl
                    have z2 := cellB hZ2 (i := 2) rfl
                    have z3 := cellB hZ2 (i := 3) rfl
                    have y0 := frozenB hZ2 0
                    have y1 := frozenB hZ2 1
                    have y2 := frozenB hZ2 2
                    have y3 := frozenB hZ2 3
                    replace hZ2 := Lib.hid hZ2)
                 | (have hZ2 := laid2 hch2
                    have z0 := cellB hZ2 (i := 0) rfl
                    have z1 := cellB hZ2 (i := 1) rfl
                    have z2 := cellB hZ2 (i := 2) rfl
                    have z3 := cellB hZ2 (i := 3) rfl
                    have y0 := frozenB hZ2 0
                    have y1 := frozenB hZ2 1
                    have y2 := frozenB hZ2 2
                    have y3 := frozenB hZ2 3
                    replace hZ2 := Lib.hid hZ2)
                 | skip
               replace hB2 := Lib.hid hB2
               replace hch2 := Lib.hid hch2))
          all_goals
            clear hS0 hS1 hS2 ne0 ne1 me0 me1 hd kw  hBd hB1 hB2
            first
              | (obtain ⟨V, hV, hE, hq⟩ := pack4 hZ2.out (.int .i64 1) (.bool (a0 != b0)) (.slice A' l' c') (.int .i64 e2')
                 rw [hV])
              | (obtain ⟨V, hV, hE, hq⟩ := pack1 v2 (.cells #[.int .i64 1, .bool (a0 != b0), .slice A' l' c', .int .i64 e2'] 24 (0, 0))
                 rw [hV])
            have l1 := hWv.out
            have hWV : Chg v3 V (fun _ => False) := by
              with_reducible (first
                | exact (((Chg.refl v3 (fun _ => False)).drew.trans (hch1.out.mono (fun _ _ h => h.elim))).trans (hch2.out.mono (fun _ _ h => h.elim))).trans (hq.mono (fun _ _ h => h.elim))
                | exact ((((Chg.refl v3 (fun _ => False)).drew.trans (hch1.out.mono (fun _ _ h => h.elim))).alloc _).trans (hch2.out.mono (fun _ _ h => h.elim))).trans (hq.mono (fun k _ h => .inr (by omega)))
                | exact ((((Chg.refl v3 (fun _ => False)).alloc _).drew.trans (hch1.out.mono (fun _ _ h => h.elim))).trans (hch2.out.mono (fun _ _ h => h.elim))).trans (hq.mono (fun k _ h => .inr (by omega))))
            clear hV
            try clear z0 z1 z2 z3 y0 y1 y2 y3 hZ2
            try clear hZ
            have hVaV := hWV.heapB hVa3.out (fun h => h)
            have hXV := hBx.out.chg hWV
            have u0 : V.cell? ⟨w3.heap.size, 0, none⟩ = some (.bool a0) := cellB hVaV rfl
            have u1 : V.cell? ⟨w3.heap.size, 1, none⟩ = some (.slice p0 m0 k0) := cellB hVaV rfl
            have u2 : V.cell? ⟨w3.heap.size, 2, none⟩ = some (.int .i64 a2) := cellB hVaV rfl
            have ks := sign_c V a0 p0 m0 k0 a2
            have hm0 : m0 ≠ 0 := fun h => by have := e5.out; rw [h] at this; exact hN.out ((dB_eq_nil two16).1 (List.length_eq_zero_iff.1 this))
            have hks : ∃ t : Int, t ≠ 0 ∧ (if m0 = 0 then (0 : Int) else if a0 then -1 else 1) = t := by
              rw [if_neg hm0]; cases a0 <;> simp
            obtain ⟨t, ht, hte⟩ := hks
            rw [hte] at ks
            have et : (t == 0) = false := by simpa using ht
            clear hte
            replace ht := Lib.hid ht
            replace ks := Lib.hid ks
            replace hE := Lib.hid hE
            replace hXV := Lib.hid hXV
            replace hVaV := Lib.hid hVaV
            replace hWV := Lib.hid hWV
            replace hq := Lib.hid hq
            go_wp2_with fail
            with_reducible refine ks.out.mono ?_
            rintro E v4 ⟨rfl, hb5⟩
            have hc5 := Below.chg hb5
            have hE5 := hc5.heapB hE.out (fun h => h)
            have hX5 := hXV.out.chg hc5
            have x1 := hX5.1.cells.2.1
            have x2 := hX5.2.cells.2.1
            have z0 := cellB (i := 0) (v := .int .i64 1) hE5 rfl
            have z1 := cellB (i := 1) (v := .bool (a0 != b0)) hE5 rfl
            replace hE5 := Lib.hid hE5
            replace hX5 := Lib.hid hX5
            clear u0 u1 u2 ks
            go_wp2
            go_ret
            exact ⟨by cases a0 <;> cases b0 <;> simp <;> decide, Chg.below (hC.out.trans ((hWV.out.trans (hc5.mono (fun _ _ h => h.elim))).mono (fun _ _ h => h.elim)))⟩
        · have hks : ∃ t : Int, t ≠ 0 ∧ (if n0 = 0 then (0 : Int) else if b0 then -1 else 1) = t := by
            rw [if_neg hz]; cases b0 <;> simp
          obtain ⟨t, ht, hte⟩ := hks
          rw [hte] at ks
          have e0 : (t != 0) = true := by simpa using ht
          replace ks := Lib.hid ks
          clear hte
          replace ht := Lib.hid ht
          go_wp2_with fail
          with_reducible refine ks.out.mono ?_
          rintro E v3 ⟨rfl, hb4⟩
          have hc4 := Below.chg hb4
          go_wp2
          go_ret
          exact ⟨rfl, Chg.below (hC4.out.trans (hc4.mono (fun _ _ h => h.elim)))⟩
    · rw [decide_eq_false hfit2] at kf
      replace kf := Lib.hid kf
      go_wp2_with fail
      with_reducible refine kf.out.mono ?_
      rintro E w2 ⟨rfl, hb2⟩
      have hc2 := Below.chg hb2
      go_wp2
      go_ret
      exact ⟨rfl, Chg.below (hC1.out.trans (hc2.mono (fun _ _ h => h.elim)))⟩
  · rw [decide_eq_false hfit] at kf
    replace kf := Lib.hid kf
    go_wp2_with fail
    with_reducible refine kf.out.mono ?_
    rintro E w1 ⟨rfl, hb1⟩
    have hc1 := Below.chg hb1
    go_wp2
    go_ret
    exact ⟨rfl, Chg.below (hC0.out.trans (hc1.mono (fun _ _ h => h.elim)))⟩

theorem FnByZero_walk (prec mode : Int) (f : Int) (n : Bool) (A : Option Addr) (l c : Nat) (X : List Nat) (e : Int) (g : Int) (o : Bool) (B : Option Addr) (r s : Nat) (Y : List Nat) (d : Int) (w : World) (h2 : 0 ≤ prec ∧ prec ≤ 255) (h3 : 0 ≤ mode ∧ mode ≤ 255) (hx : DecIn w f A l c X e) (hy : DecIn w g B r s Y d) :
    Calls Tryz.prog 3 #[.int .u8 prec, .int .u8 mode, .agg #[.int .i64 f, .bool n, .slice A l c, .int .i64 e], .agg #[.int .i64 g, .bool o, .slice B r s, .int .i64 d]] w fun E w' => E = .returned (.bool true) ∧ Below w.heap.size w w' := by
  obtain ⟨m, hmm⟩ : ∃ m : Nat, mode % 8 = (m : Int) := ⟨(mode % 8).toNat, by omega⟩
  have hm : m < 8 := by omega
  have hp : 0 ≤ 1 + prec % 60 ∧ 1 + prec % 60 ≤ 4294967295 := by omega
  by_cases hN : val X = 0
  · refine ByZero_z w prec mode m hmm f n A l c X e g o B r s Y d h2 h3 hx.rd hy.rd hN (fun w1 hb hYz hl hr he1 he2 hd1 hd2 => ?_)
    have hrx := hx.rd.below hb
    have hry := hy.rd.below hb
    have h := implQuo_c w1 (1 + prec % 60) 100000 (-100000) m 0 e 0 d n o A B l c r s (PF n e (val X)) (PF o d (val Y)) 128 3 false hm hp (by omega) (by omega) (by omega) (by omega) PF.st PF.st
      (fun w2 hc2 => madeP w2 n A l c X e (hrx.chg hc2) (by omega) (by omega)) (fun w2 hc2 => madeP w2 o B r s Y d (hry.chg hc2) (by omega) (by omega))
      (fun w2 c2 dd x y _ hcx hdd ⟨o1, h1⟩ ⟨o2, h2⟩ hdx hdy hdc hxy => by
        rw [hYz] at h2
        have k := quoSpZero_c w2 c2 dd x y _ _ _ _ 0 0 e d false n o true (val X) o1 o2 hcx hdd h1 h2 hdc true (by simp [hN])
        exact quo_sp w2 c2 dd x y _ _ _ k)
    rw [show (condN 128 : Int) = 32 by decide] at h
    exact told_of h
  · refine ByZero_nz w prec mode m hmm f n A l c X e g o B r s Y d h2 h3 hx.rd hy.rd hN (fun w1 hb hYz hl hr he1 he2 hd1 hd2 => ?_)
    have hrx := hx.rd.below hb
    have hry := hy.rd.below hb
    have h := implQuo_c w1 (1 + prec % 60) 100000 (-100000) m 0 e 0 d n o A B l c r s (PF n e (val X)) (PF o d (val Y)) 256 1 (n != o) hm hp (by omega) (by omega) (by omega) (by omega) PF.st PF.st
      (fun w2 hc2 => madeP w2 n A l c X e (hrx.chg hc2) (by omega) (by omega)) (fun w2 hc2 => madeP w2 o B r s Y d (hry.chg hc2) (by omega) (by omega))
      (fun w2 c2 dd x y _ hcx hdd ⟨o1, h1⟩ ⟨o2, h2⟩ hdx hdy hdc hxy => by
        rw [hYz] at h2
        have k := quoSpZero_c w2 c2 dd x y _ _ _ _ 0 0 e d false n o true (val X) o1 o2 hcx hdd h1 h2 hdc false (by simp [hN])
        exact quo_sp w2 c2 dd x y _ _ _ k)
    rw [show (condN 256 : Int) = 64 by decide] at h
    exact told_of h
end Go.Proofs.YtabggbajgpbmmaaGreatDoor
