/- FnSqrtBelow: the walk. -/
import Derived.Test.YtabggbajgpbmmaaGreatDoorZ0
import Derived.Test.YtabggbajgpbmmaaGreatDoorZ1
namespace Go.Proofs.YtabggbajgpbmmaaGreatDoor
open Go Go.RowKit

set_option maxRecDepth 100000 in
set_option maxHeartbeats 8000000 in
theorem FnSqrtBelow_ok (w : World) (prec mode : Int) (m : Nat) (hmm : mode % 8 = (m : Int)) (n : Bool) (A : Option Addr) (l c : Nat) (X : List Nat) (e : Int) (h2 : 0 ≤ prec ∧ prec ≤ 255) (h3 : 0 ≤ mode ∧ mode ≤ 255) (hX : RdW w A l c X) (f : Int)
    (hd : ∀ w1, Below w.heap.size w w1 → val X ≠ 0 → l ≤ 3 → -100 ≤ e → e ≤ 100 → Calls Tryz.prog 16 #[.agg #[.int .u64 (1 + prec % 60), .int .i64 100000, .int .i64 (-100000), .int .i64 (m : Int)], .agg #[.int .i64 0, .bool true, .slice A l c, .int .i64 e]] w1 (Told w1 (QSp 3 false 256))) :
    Calls Tryz.prog 8 #[.int .u8 prec, .int .u8 mode, .agg #[.int .i64 f, .bool n, .slice A l c, .int .i64 e]] w fun E w' => E = .returned (.bool true) ∧ Below w.heap.size w w' := by
  have kw := fun w => wide_c w prec mode m h2 h3 hmm
  replace kw := Lib.hid kw
  replace hd := Lib.hid hd
  clear h2 h3 hmm
  have hlc := hX.cap
  have hcm := hX.max
  replace hX := Lib.hid hX
  go_enter Tryz.func8, Tryz.ntmps8
  go_upto_region 1 with (fail)
  generalize hW : w.alloc (.cells #[.int .i64 f, .bool n, .slice A l c, .int .i64 e] 24 (0, 0)) = W0
  have hB0 : Below w.heap.size w W0 := by rw [← hW]; exact (Below.refl _ _).alloc (Nat.le_refl _) _
  have hX0 : Bx1 w.heap.size f n A l c e W0 := by rw [← hW]; exact allocB _ _
  have hs0 : W0.heap.size = w.heap.size + 1 := by rw [← hW]; simp
  clear hW
  have kf := fits_c W0 f n A l c e
  have c0 := hX0.cells
  obtain ⟨c0, c1, c2, c3⟩ := c0
  by_cases hfit : l ≤ 2147483647
  · rw [decide_eq_true hfit] at kf
    replace kf := Lib.hid kf
    replace hX0 := Lib.hid hX0
    replace hB0 := Lib.hid hB0
    replace hs0 := Lib.hid hs0
    go_wp2_with fail
    with_reducible refine kf.out.mono ?_
    rintro E w1 ⟨rfl, hb1⟩
    have hX1 : Bx1 w.heap.size f n A l c e w1 := hX0.out.chg (Below.chg hb1)
    have hB1 : Below w.heap.size w w1 := hB0.out.trans (hb1.mono (by have := hs0.out; omega))
    have hs1 : w.heap.size + 1 ≤ w1.heap.size := by have := hb1.size; have := hs0.out; omega
    clear c0 c1 c2 c3 kf
    obtain ⟨c0, c1, c2, c3⟩ := hX1.cells
    have kq := finite_c w1 f n A l c X e (hX.out.below hB1)
    replace kq := Lib.hid kq
    replace hX1 := Lib.hid hX1
    replace hB1 := Lib.hid hB1
    replace hs1 := Lib.hid hs1
    clear hb1
    go_wp2_with fail
    with_reducible refine kq.out.mono ?_
    rintro E w2 ⟨a0, p0, m0, k0, a2, ok, rfl, hb2, hfin⟩
    have hX2 : Bx1 w.heap.size f n A l c e w2 := hX1.out.chg (Below.chg hb2)
    have hB2 : Below w.heap.size w w2 := hB1.out.trans (hb2.mono (by have := hs1.out; omega))
    have hs2 : w.heap.size + 1 ≤ w2.heap.size := by have := hb2.size; have := hs1.out; omega
    clear c0 c1 c2 c3 kq hb2
    replace hX2 := Lib.hid hX2
    replace hB2 := Lib.hid hB2
    replace hs2 := Lib.hid hs2
    replace hfin := Lib.hid hfin
    cases ok with
    | false =>
      go_wp2
      go_ret
      exact ⟨rfl, hB2.out.alloc (by have := hs2.out; omega) _⟩
    | true =>
      obtain ⟨g1, g2, g3, rfl, g4, rfl, rfl, hco⟩ := hfin.out rfl
      clear hfin
      replace g1 := Lib.hid g1
      replace g2 := Lib.hid g2
      replace g3 := Lib.hid g3
      replace g4 := Lib.hid g4
      have hml := hco.rd.len
      have hmc := hco.rd.cap
      have hmm := hco.rd.max
      clear hco
      go_upto_region 4 with (fail)
      generalize hW : w2.alloc (.cells #[.bool a0, .slice p0 m0 k0, .int .i64 a2] 29 (0, 0)) = W
      have hBW : Below w.heap.size w W := by rw [← hW]; exact hB2.out.alloc (by have := hs2.out; omega) _
      have hXa : Bx1 w.heap.size 0 a0 A l c a2 W := by rw [← hW]; exact allocB_old hX2.out
      have hV : W.heap[w2.heap.size]? = some (.cells #[.bool a0, .slice p0 m0 k0, .int .i64 a2] 29 (0, 0)) := by rw [← hW]; exact allocB _ _
      have hsW : W.heap.size = w2.heap.size + 1 := by rw [← hW]; simp
      clear hW
      have hlt := hs2.out
      have neA : w.heap.size < W.heap.size := by omega
      have v0 : W.cell? ⟨w2.heap.size, 0, none⟩ = some (.bool a0) := cellB hV rfl
      have v1' : W.cell? ⟨w2.heap.size, 1, none⟩ = some (.slice p0 m0 k0) := cellB hV rfl
      have v2' : W.cell? ⟨w2.heap.size, 2, none⟩ = some (.int .i64 a2) := cellB hV rfl
      clear hV hsW hlt
      have ks := sign_c W a0 p0 m0 k0 a2
      have hz : m0 = 0 ∨ (m0 ≠ 0 ∧ a0 = false) ∨ (m0 ≠ 0 ∧ a0 = true) := by cases a0 <;> simp <;> omega
      rcases hz with hz | ⟨hz, ha⟩ | ⟨hz, ha⟩
      · subst hz
        rw [if_pos rfl] at ks
        replace ks := Lib.hid ks
        replace hXa := Lib.hid hXa
        replace hBW := Lib.hid hBW
        replace neA := Lib.hid neA
        go_wp2_with fail
        with_reducible refine ks.out.mono ?_
        rintro E v3 ⟨rfl, hb3⟩
        go_wp2
        go_ret
        exact ⟨rfl, hBW.out.trans (hb3.mono (by have := neA.out; omega))⟩
      · subst ha
        rw [if_neg hz] at ks
        simp only [Bool.false_eq_true, if_false] at ks
        replace ks := Lib.hid ks
        replace hXa := Lib.hid hXa
        replace hBW := Lib.hid hBW
        replace neA := Lib.hid neA
        go_wp2_with fail
        with_reducible refine ks.out.mono ?_
        rintro E v3 ⟨rfl, hb3⟩
        go_wp2
        go_ret
        exact ⟨rfl, hBW.out.trans (hb3.mono (by have := neA.out; omega))⟩
      · subst ha
        have hN : val X ≠ 0 := fun h => by rw [h, show d16 0 = [] from dB_zero two16] at hml; simp at hml; omega
        rw [if_neg hz] at ks
        simp only [if_true] at ks
        replace ks := Lib.hid ks
        replace hXa := Lib.hid hXa
        replace hBW := Lib.hid hBW
        go_wp2_with fail
        with_reducible refine ks.out.mono ?_
        rintro E v3 ⟨rfl, hb3⟩
        have hP : Bx1 w.heap.size 0 true A l c a2 v3 := hXa.out.chg (Below.chg hb3)
        have hC := Below.chg (hBW.out.trans (hb3.mono (by omega)))
        have neA : w.heap.size < v3.heap.size := Nat.lt_of_lt_of_le neA hb3.size
        clear v0 v1' v2' ks hXa hBW hb3
        replace hC := Lib.hid hC
        replace hN := Lib.hid hN
        go_wp2_with fail
        have hBx : Bx1 w.heap.size 0 true A l c a2 v3 := hP
        have hBd : Bx1 w.heap.size 0 true A l c a2 v3.drew := hP
        have hS0 := hBd.cells
        have ne0 : w.heap.size ≠ v3.heap.size := Nat.ne_of_lt neA
        replace neA := Lib.hid neA
        replace hBx := Lib.hid hBx
        replace hBd := Lib.hid hBd
        clear hP
        go_region_held3 (fun w' => w'.cell? ⟨w.heap.size, 0, none⟩ = some (.int .i64 0) ∧ w'.cell? ⟨w.heap.size, 1, none⟩ = some (.bool true) ∧ w'.cell? ⟨w.heap.size, 2, none⟩ = some (.slice A l c) ∧ w'.cell? ⟨w.heap.size, 3, none⟩ = some (.int .i64 a2)) (with_reducible (first | exact hS0 | exact hS1 | exact hS2 | exact (hBd.out.chg ((Chg.refl _ _).alloc _)).cells | exact (hBx.out.chg (((Chg.refl _ _).alloc _).drew)).cells | exact (hB1.out.chg ((Chg.refl _ _).alloc _)).cells | exact (hB2.out.chg ((Chg.refl _ _).alloc _)).cells | exact (hB2.out.set4 v3.heap.size ne0 _ _ _ _).cells | exact (hB2.out.set4 v1.heap.size me0 _ _ _ _).cells)) (first
          | (go_at_call 13
             with_reducible refine (kw.out _).mono ?_
             rintro e' v1 ⟨rfl, hch1⟩
             have hB1 : Bx1 w.heap.size 0 true A l c a2 v1 := by with_reducible (first | exact hBd.out.chg hch1 | exact (hBd.out.chg ((Chg.refl _ _).alloc _)).chg hch1 | exact (hBx.out.chg (((Chg.refl _ _).alloc _).drew)).chg hch1)
             have hS1 := hB1.cells
             have hQ1 : Chg w v1 (fun _ => False) := by with_reducible (first | exact hC.out.drew.trans (hch1.mono (fun _ _ h => h.elim)) | exact (hC.out.drew.alloc _).trans (hch1.mono (fun _ _ h => h.elim)) | exact (hC.out.alloc _).drew.trans (hch1.mono (fun _ _ h => h.elim)))
             replace hQ1 := Lib.hid hQ1
             have hWv : v3.heap.size ≤ v1.heap.size := Nat.le_trans (by first | exact Nat.le_refl _ | (rw [World.size_alloc]; omega) | (show _ ≤ (v3.alloc _).heap.size; rw [World.size_alloc]; omega)) hch1.size
             have me0 : w.heap.size ≠ v1.heap.size := Nat.ne_of_lt (Nat.lt_of_lt_of_le neA.out hWv)
             first
               | (have hZ := laid1 hch1
                  replace hZ := Lib.hid hZ)
               | skip
             replace hWv := Lib.hid hWv
             replace hB1 := Lib.hid hB1
             replace hch1 := Lib.hid hch1)
          | (go_at_call 16
             with_reducible refine (hd.out _ (by with_reducible (first | exact Chg.below hQ1.out | exact Chg.below (hQ1.out.alloc _))) hN.out g1.out g2.out g3.out).mono ?_
             rintro e' v2 ⟨f', n', A', l', c', e2', cn', ok', rfl, ⟨rfl, rfl, rfl, rfl⟩, hch2⟩
             have hB2 : Bx1 w.heap.size 0 true A l c a2 v2 := by with_reducible (first | exact hB1.out.chg hch2 | exact (hB1.out.chg ((Chg.refl _ _).alloc _)).chg hch2)
             have hS2 := hB2.cells
             first
               | (have hZ2 := hch2.heapB hZ.out (fun h => h)
                  have z0 := cellB hZ2 (i := 0) rfl
                  have z1 := cellB hZ2 (i := 1) rfl
                  have z2 := cellB hZ2 (i := 2) rfl
                  have z3 := cellB hZ2 (i := 3) rfl
                  have y0 := frozenB hZ2 0
                  have y1 := frozenB hZ2 1
                  have y2 := frozenB hZ2 2
                  have y3 := frozenB hZ2 3
                  replace hZ2 := Lib.hid hZ2)
               | (have hZ2 := laid2 hch2
                  have z0 := cellB hZ2 (i := 0) rfl
                  have z1 := cellB hZ2 (i := 1) rfl
                  have z2 := cellB hZ2 (i := 2) rfl
                  have z3 := cellB hZ2 (i := 3) rfl
                  have y0 := frozenB hZ2 0
                  have y1 := frozenB hZ2 1
                  have y2 := frozenB hZ2 2
                  have y3 := frozenB hZ2 3
                  replace hZ2 := Lib.hid hZ2)
               | skip
             replace hB2 := Lib.hid hB2
             replace hch2 := Lib.hid hch2))
        all_goals
          clear hS0 hS1 hS2 ne0 me0 hd kw hBx hBd hB1 hB2 neA hN
          go_wp2
          go_ret
          refine ⟨rfl, Chg.below ?_⟩
          have l0 := hC.out.size
          have l1 := hWv.out
          with_reducible (first
            | exact ((hC.out.drew.trans (hch1.out.mono (fun _ _ h => h.elim))).trans (hch2.out.mono (fun _ _ h => h.elim))).alloc _
            | exact (((hC.out.drew.trans (hch1.out.mono (fun _ _ h => h.elim))).alloc _).trans (hch2.out.mono (fun _ _ h => h.elim))).trans ((chg4 _ v1.heap.size _ _ _ _).mono (fun k _ h => .inr (by omega)))
            | exact (((hC.out.alloc _).drew.trans (hch1.out.mono (fun _ _ h => h.elim))).trans (hch2.out.mono (fun _ _ h => h.elim))).trans ((chg4 _ v3.heap.size _ _ _ _).mono (fun k _ h => .inr (by omega))))
  · rw [decide_eq_false hfit] at kf
    replace kf := Lib.hid kf
    replace hX0 := Lib.hid hX0
    replace hB0 := Lib.hid hB0
    replace hs0 := Lib.hid hs0
    go_wp2_with fail
    with_reducible refine kf.out.mono ?_
    rintro E w1 ⟨rfl, hb1⟩
    go_wp2
    go_ret
    exact ⟨rfl, hB0.out.trans (hb1.mono (by have := hs0.out; omega))⟩
theorem FnSqrtBelow_walk (prec mode : Int) (f : Int) (n : Bool) (A : Option Addr) (l c : Nat) (X : List Nat) (e : Int) (w : World) (h2 : 0 ≤ prec ∧ prec ≤ 255) (h3 : 0 ≤ mode ∧ mode ≤ 255) (hx : DecIn w f A l c X e) :
    Calls Tryz.prog 8 #[.int .u8 prec, .int .u8 mode, .agg #[.int .i64 f, .bool n, .slice A l c, .int .i64 e]] w fun E w' => E = .returned (.bool true) ∧ Below w.heap.size w w' := by
  obtain ⟨m, hmm⟩ : ∃ m : Nat, mode % 8 = (m : Int) := ⟨(mode % 8).toNat, by omega⟩
  have hm : m < 8 := by omega
  have hp : 0 ≤ 1 + prec % 60 ∧ 1 + prec % 60 ≤ 4294967295 := by omega
  refine FnSqrtBelow_ok w prec mode m hmm n A l c X e h2 h3 hx.rd f (fun w1 hb hN hl3 he1 he2 => ?_)
  have hr := hx.rd.below hb
  have h := implSqrt_c w1 (1 + prec % 60) 100000 (-100000) m 0 e true A l c (PF true e (val X)) 1024 3 false hm hp (by omega) (by omega) (by omega) (by omega)
    (fun w2 hc2 => madeP w2 true A l c X e (hr.chg hc2) (by omega) (by omega))
    (fun w2 c2 d x hc2 hcx hd ⟨o, ho⟩ hdx hdc => sqrtBelow_c w2 c2 d x _ _ _ (rootBelow_c w2 c2 d x _ _ _ _ 0 0 e false (val X) o hcx hd ho hN hdc))
  rw [show (condN 1024 : Int) = 256 by decide] at h
  exact told_of h
end Go.Proofs.YtabggbajgpbmmaaGreatDoor
