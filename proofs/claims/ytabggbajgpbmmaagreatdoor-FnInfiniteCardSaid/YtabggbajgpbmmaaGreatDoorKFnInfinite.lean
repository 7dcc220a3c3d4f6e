/- FnInfinite: the walk. -/
import Derived.Test.YtabggbajgpbmmaaGreatDoorZ0
import Derived.Test.YtabggbajgpbmmaaGreatDoorQ7
namespace Go.Proofs.YtabggbajgpbmmaaGreatDoor
open Go Go.RowKit

theorem pack4 {w : World} {k : Nat} {a b c d : Value} {T : TypeId} (h : w.heap[k]? = some (.cells #[a, b, c, d] T (0, 0))) (v0 v1 v2 v3 : Value) :
    ∃ V, (((w.setCell ⟨k, 0, none⟩ v0).setCell ⟨k, 1, none⟩ v1).setCell ⟨k, 2, none⟩ v2).setCell ⟨k, 3, none⟩ v3 = V ∧ V.heap[k]? = some (.cells #[v0, v1, v2, v3] T (0, 0)) ∧ Chg w V (fun j => j = k) := ⟨_, rfl, end4 h v0 v1 v2 v3, chg4 w k v0 v1 v2 v3⟩
theorem pack1 (w : World) (o : Obj) : ∃ V, w.alloc o = V ∧ V.heap[w.heap.size]? = some o ∧ Chg w V (fun _ => False) := ⟨_, rfl, allocB w o, (Chg.refl w (fun _ => False)).alloc o⟩

set_option maxRecDepth 100000 in
set_option maxHeartbeats 8000000 in
theorem Inf_0f (w : World) (op prec mode : Int) (m : Nat) (hmm : mode % 8 = (m : Int)) (neg n : Bool) (A : Option Addr) (l c : Nat) (X : List Nat) (e : Int) (hop : op % 3 = 0) (h1 : 0 ≤ op ∧ op ≤ 255) (h2 : 0 ≤ prec ∧ prec ≤ 255) (h3 : 0 ≤ mode ∧ mode ≤ 255) (hX : RdW w A l c X) (f : Int)
    (hd : ∀ w1, Below w.heap.size w w1 → l ≤ 3 → -100 ≤ e → e ≤ 100 → Calls Tryz.prog 15 #[.int .i64 0, .agg #[.int .u64 (1 + prec % 60), .int .i64 100000, .int .i64 (-100000), .int .i64 (m : Int)], .agg #[.int .i64 0, .bool n, .slice A l c, .int .i64 e], .agg #[.int .i64 1, .bool neg, .slice none 0 0, .int .i64 0]] w1 (Told w1 (QSp 1 neg 0))) :
    Calls Tryz.prog 4 #[.int .u8 op, .bool neg, .bool false, .int .u8 prec, .int .u8 mode, .agg #[.int .i64 f, .bool n, .slice A l c, .int .i64 e]] w fun E w' => E = .returned (.bool true) ∧ Below w.heap.size w w' := by
  obtain ⟨h1a, h1b⟩ := h1
  have kw := fun w => wide_c w prec mode m h2 h3 hmm
  replace kw := Lib.hid kw
  replace hd := Lib.hid hd
  clear h2 h3 hmm
  have hlc := hX.cap
  have hcm := hX.max
  replace hX := Lib.hid hX
  go_enter Tryz.func4, Tryz.ntmps4
  go_upto_region 1 with (fail)
  generalize hW : w.alloc (.cells #[.int .i64 f, .bool n, .slice A l c, .int .i64 e] 24 (0, 0)) = W0
  have hB0 : Below w.heap.size w W0 := by rw [← hW]; exact (Below.refl _ _).alloc (Nat.le_refl _) _
  have hX0 : Bx1 w.heap.size f n A l c e W0 := by rw [← hW]; exact allocB _ _
  have hs0 : W0.heap.size = w.heap.size + 1 := by rw [← hW]; simp
  clear hW
  have kf := fits_c W0 f n A l c e
  have c0 := hX0.cells
  obtain ⟨c0, c1, c2, c3⟩ := c0
  by_cases hfit : l ≤ 2147483647
  · rw [decide_eq_true hfit] at kf
    replace kf := Lib.hid kf
    replace hX0 := Lib.hid hX0
    replace hB0 := Lib.hid hB0
    replace hs0 := Lib.hid hs0
    go_wp2_with fail
    with_reducible refine kf.out.mono ?_
    rintro E w1 ⟨rfl, hb1⟩
    have hX1 : Bx1 w.heap.size f n A l c e w1 := hX0.out.chg (Below.chg hb1)
    have hB1 : Below w.heap.size w w1 := hB0.out.trans (hb1.mono (by have := hs0.out; omega))
    have hs1 : w.heap.size + 1 ≤ w1.heap.size := by have := hb1.size; have := hs0.out; omega
    clear c0 c1 c2 c3 kf
    obtain ⟨c0, c1, c2, c3⟩ := hX1.cells
    have kq := finite_c w1 f n A l c X e (hX.out.below hB1)
    replace kq := Lib.hid kq
    replace hX1 := Lib.hid hX1
    replace hB1 := Lib.hid hB1
    replace hs1 := Lib.hid hs1
    clear hb1
    go_wp2_with fail
    with_reducible refine kq.out.mono ?_
    rintro E w2 ⟨a0, p0, m0, k0, a2, ok, rfl, hb2, hfin⟩
    have hX2 : Bx1 w.heap.size f n A l c e w2 := hX1.out.chg (Below.chg hb2)
    have hB2 : Below w.heap.size w w2 := hB1.out.trans (hb2.mono (by have := hs1.out; omega))
    have hs2 : w.heap.size + 1 ≤ w2.heap.size := by have := hb2.size; have := hs1.out; omega
    clear c0 c1 c2 c3 kq hb2
    replace hX2 := Lib.hid hX2
    replace hB2 := Lib.hid hB2
    replace hs2 := Lib.hid hs2
    replace hfin := Lib.hid hfin
    cases ok with
    | false =>
      go_wp2
      go_ret
      exact ⟨rfl, hB2.out.alloc (by have := hs2.out; omega) _⟩
    | true =>
      obtain ⟨g1, g2, g3, rfl, g4, rfl, rfl, hco⟩ := hfin.out rfl
      clear hfin
      replace g1 := Lib.hid g1
      replace g2 := Lib.hid g2
      replace g3 := Lib.hid g3
      replace g4 := Lib.hid g4
      have e5 := hco.rd.len
      have e7 := hco.rd.cap
      have e9 := hco.rd.max
      replace e5 := Lib.hid e5
      clear hco
      go_upto_region 8 with (fail)
      generalize hW : (w2.alloc (.cells #[.bool a0, .slice p0 m0 k0, .int .i64 a2] 29 (0, 0))).alloc (.cells #[.int .i64 1, .bool neg, .slice none 0 0, .int .i64 0] 24 (0, 0)) = W
      have hBW : Below w.heap.size w W := by rw [← hW]; exact (hB2.out.alloc (by have := hs2.out; omega) _).alloc (by have := hs2.out; simp; omega) _
      have hXa : Bx1 w.heap.size 0 a0 A l c a2 W := by rw [← hW]; exact allocB_old (allocB_old hX2.out)
      have hVa3 : W.heap[w2.heap.size]? = some (.cells #[.bool a0, .slice p0 m0 k0, .int .i64 a2] 29 (0, 0)) := by rw [← hW]; exact allocB_old (allocB _ _)
      have hYb : Bx1 (w2.heap.size + 1) 1 neg none 0 0 0 W := by rw [← hW]; exact allocB_at _ _ (by simp)
      have hsW : W.heap.size = w2.heap.size + 2 := by rw [← hW]; simp
      clear hW
      have hlt := hs2.out
      obtain ⟨b, hbe⟩ : ∃ b, w2.heap.size + 1 = b := ⟨_, rfl⟩
      rw [hbe] at hYb ⊢
      have neB : b < W.heap.size := by omega
      have neA : w.heap.size < W.heap.size := by omega
      have hab : w.heap.size ≠ b := by omega
      have hav : w2.heap.size ≠ w.heap.size := by omega
      have hbv : w2.heap.size ≠ b := by omega
      have hlb : w.heap.size ≤ b := by omega
      have v0 : W.cell? ⟨w2.heap.size, 0, none⟩ = some (.bool a0) := cellB hVa3 rfl
      clear hbe hsW hlt
      replace hBW := Lib.hid hBW
      have hP : Bp w.heap.size b 0 a2 1 0 a0 neg A none l c 0 0 W := ⟨hXa, hYb⟩
      have hC := Below.chg hBW.out
      clear hXa hYb hBW
      replace hC := Lib.hid hC
      replace hVa3 := Lib.hid hVa3
      go_wp2_with fail
      clear v0
      have hBx : Bp w.heap.size b 0 a2 1 0 a0 neg A none l c 0 0 W := hP
      have hBd : Bp w.heap.size b 0 a2 1 0 a0 neg A none l c 0 0 W.drew := hP
      have hS0 := hBd.cells
      have ne0 : w.heap.size ≠ W.heap.size := Nat.ne_of_lt neA
      have ne1 : b ≠ W.heap.size := Nat.ne_of_lt neB
      replace neA := Lib.hid neA
      replace neB := Lib.hid neB
      replace hBx := Lib.hid hBx
      replace hBd := Lib.hid hBd
      clear hP
      go_region_held3 (fun w' => w'.cell? ⟨w.heap.size, 0, none⟩ = some (.int .i64 0) ∧ w'.cell? ⟨w.heap.size, 1, none⟩ = some (.bool a0) ∧ w'.cell? ⟨w.heap.size, 2, none⟩ = some (.slice A l c) ∧ w'.cell? ⟨w.heap.size, 3, none⟩ = some (.int .i64 a2) ∧ w'.cell? ⟨b, 0, none⟩ = some (.int .i64 1) ∧ w'.cell? ⟨b, 1, none⟩ = some (.bool neg) ∧ w'.cell? ⟨b, 2, none⟩ = some (.slice none 0 0) ∧ w'.cell? ⟨b, 3, none⟩ = some (.int .i64 0)) (with_reducible (first | exact hS0 | exact hS1 | exact hS2 | exact (hBd.out.chg ((Chg.refl _ _).alloc _)).cells | exact (hBx.out.chg (((Chg.refl _ _).alloc _).drew)).cells | exact (hB1.out.chg ((Chg.refl _ _).alloc _)).cells | exact (hB2.out.chg ((Chg.refl _ _).alloc _)).cells | exact (hB2.out.set4 W.heap.size ne0 ne1 _ _ _ _).cells | exact (hB2.out.set4 v1.heap.size me0 me1 _ _ _ _).cells)) (first
        | (go_at_call 13
           with_reducible refine (kw.out _).mono ?_
           rintro e' v1 ⟨rfl, hch1⟩
           have hB1 : Bp w.heap.size b 0 a2 1 0 a0 neg A none l c 0 0 v1 := by with_reducible (first | exact hBd.out.chg hch1 | exact (hBd.out.chg ((Chg.refl _ _).alloc _)).chg hch1 | exact (hBx.out.chg (((Chg.refl _ _).alloc _).drew)).chg hch1)
           have hS1 := hB1.cells
           have hQ1 : Chg w v1 (fun _ => False) := by with_reducible (first | exact hC.out.drew.trans (hch1.mono (fun _ _ h => h.elim)) | exact (hC.out.drew.alloc _).trans (hch1.mono (fun _ _ h => h.elim)) | exact (hC.out.alloc _).drew.trans (hch1.mono (fun _ _ h => h.elim)))
           replace hQ1 := Lib.hid hQ1
           have hWv : W.heap.size ≤ v1.heap.size := Nat.le_trans (by first | exact Nat.le_refl _ | (rw [World.size_alloc]; omega) | (show _ ≤ (W.alloc _).heap.size; rw [World.size_alloc]; omega)) hch1.size
           have me0 : w.heap.size ≠ v1.heap.size := Nat.ne_of_lt (Nat.lt_of_lt_of_le neA.out hWv)
           have me1 : b ≠ v1.heap.size := Nat.ne_of_lt (Nat.lt_of_lt_of_le neB.out hWv)
           first
             | (have hZ := laid1 hch1
                replace hZ := Lib.hid hZ)
             | skip
           replace hWv := Lib.hid hWv
           replace hB1 := Lib.hid hB1
           replace hch1 := Lib.hid hch1)
        | (go_at_call 15
           with_reducible refine (hd.out _ (by with_reducible (first | exact Chg.below hQ1.out | exact Chg.below (hQ1.out.alloc _))) g1.out g2.out g3.out).mono ?_
           rintro e' v2 ⟨f', n', A', l', c', e2', cn', ok', rfl, ⟨qf, qn, qc, qk⟩, hch2⟩
           replace qf := qf.symm
           replace qn := qn.symm
           replace qc := qc.symm
           replace qk := qk.symm
           subst qf qn qc qk
           have hB2 : Bp w.heap.size b 0 a2 1 0 a0 neg A none l c 0 0 v2 := by with_reducible (first | exact hB1.out.chg hch2 | exact (hB1.out.chg ((Chg.refl _ _).alloc _)).chg hch2)
           have hS2 := hB2.cells
           first
             | (have hZ2 := hch2.heapB hZ.out (fun h => h)
                have z0 := cellB hZ2 (i := 0) rfl
                have z1 := cellB hZ2 (i := 1) rfl
                have z2 := cellB hZ2 (i := 2) rfl
                have z3 := cellB hZ2 (i := 3) rfl
                have y0 := frozenB hZ2 0
                have y1 := frozenB hZ2 1
                have y2 := frozenB hZ2 2
                have y3 := frozenB hZ2 3
                replace hZ2 := Lib.hid hZ2)
             | (have hZ2 := laid2 hch2
                have z0 := cellB hZ2 (i := 0) rfl
                have z1 := cellB hZ2 (i := 1) rfl
                have z2 := cellB hZ2 (i := 2) rfl
                have z3 := cellB hZ2 (i := 3) rfl
                have y0 := frozenB hZ2 0
                have y1 := frozenB hZ2 1
                have y2 := frozenB hZ2 2
                have y3 := frozenB hZ2 3
                replace hZ2 := Lib.hid hZ2)
             | skip
           replace hB2 := Lib.hid hB2
           replace hch2 := Lib.hid hch2))
      all_goals
        clear hS0 hS1 hS2 ne0 ne1 me0 me1 hd kw hop hBd hB1 hB2
        first
          | (obtain ⟨V, hV, hE, hq⟩ := pack4 hZ2.out (.int .i64 1) (.bool neg) (.slice A' l' c') (.int .i64 e2')
             rw [hV])
          | (obtain ⟨V, hV, hE, hq⟩ := pack1 v2 (.cells #[.int .i64 1, .bool neg, .slice A' l' c', .int .i64 e2'] 24 (0, 0))
             rw [hV])
        have l1 := hWv.out
        have hWV : Chg W V (fun _ => False) := by
          with_reducible (first
            | exact (((Chg.refl W (fun _ => False)).drew.trans (hch1.out.mono (fun _ _ h => h.elim))).trans (hch2.out.mono (fun _ _ h => h.elim))).trans (hq.mono (fun _ _ h => h.elim))
            | exact ((((Chg.refl W (fun _ => False)).drew.trans (hch1.out.mono (fun _ _ h => h.elim))).alloc _).trans (hch2.out.mono (fun _ _ h => h.elim))).trans (hq.mono (fun k _ h => .inr (by omega)))
            | exact ((((Chg.refl W (fun _ => False)).alloc _).drew.trans (hch1.out.mono (fun _ _ h => h.elim))).trans (hch2.out.mono (fun _ _ h => h.elim))).trans (hq.mono (fun k _ h => .inr (by omega))))
        clear hV
        try clear z0 z1 z2 z3 y0 y1 y2 y3 hZ2
        try clear hZ
        have z0 := cellB (i := 0) (v := .int .i64 1) hE rfl
        have z1 := cellB (i := 1) (v := .bool neg) hE rfl
        replace hE := Lib.hid hE
        replace hWV := Lib.hid hWV
        replace hq := Lib.hid hq
        go_wp2
        go_ret
        exact ⟨(by first | rfl | (cases a0 <;> cases neg <;> simp) | (simp <;> decide) | (cases a0 <;> cases neg <;> simp <;> decide)), Chg.below (hC.out.trans (hWV.out.mono (fun _ _ h => h.elim)))⟩
  · rw [decide_eq_false hfit] at kf
    replace kf := Lib.hid kf
    replace hX0 := Lib.hid hX0
    replace hB0 := Lib.hid hB0
    replace hs0 := Lib.hid hs0
    go_wp2_with fail
    with_reducible refine kf.out.mono ?_
    rintro E w1 ⟨rfl, hb1⟩
    go_wp2
    go_ret
    exact ⟨rfl, hB0.out.trans (hb1.mono (by have := hs0.out; omega))⟩
set_option maxRecDepth 100000 in
set_option maxHeartbeats 8000000 in
theorem Inf_0t (w : World) (op prec mode : Int) (m : Nat) (hmm : mode % 8 = (m : Int)) (neg n : Bool) (A : Option Addr) (l c : Nat) (X : List Nat) (e : Int) (hop : op % 3 = 0) (h1 : 0 ≤ op ∧ op ≤ 255) (h2 : 0 ≤ prec ∧ prec ≤ 255) (h3 : 0 ≤ mode ∧ mode ≤ 255) (hX : RdW w A l c X) (f : Int)
    (hd : ∀ w1, Below w.heap.size w w1 → l ≤ 3 → -100 ≤ e → e ≤ 100 → Calls Tryz.prog 15 #[.int .i64 0, .agg #[.int .u64 (1 + prec % 60), .int .i64 100000, .int .i64 (-100000), .int .i64 (m : Int)], .agg #[.int .i64 1, .bool neg, .slice none 0 0, .int .i64 0], .agg #[.int .i64 0, .bool n, .slice A l c, .int .i64 e]] w1 (Told w1 (QSp 1 neg 0))) :
    Calls Tryz.prog 4 #[.int .u8 op, .bool neg, .bool true, .int .u8 prec, .int .u8 mode, .agg #[.int .i64 f, .bool n, .slice A l c, .int .i64 e]] w fun E w' => E = .returned (.bool true) ∧ Below w.heap.size w w' := by
  obtain ⟨h1a, h1b⟩ := h1
  have kw := fun w => wide_c w prec mode m h2 h3 hmm
  replace kw := Lib.hid kw
  replace hd := Lib.hid hd
  clear h2 h3 hmm
  have hlc := hX.cap
  have hcm := hX.max
  replace hX := Lib.hid hX
  go_enter Tryz.func4, Tryz.ntmps4
  go_upto_region 1 with (fail)
  generalize hW : w.alloc (.cells #[.int .i64 f, .bool n, .slice A l c, .int .i64 e] 24 (0, 0)) = W0
  have hB0 : Below w.heap.size w W0 := by rw [← hW]; exact (Below.refl _ _).alloc (Nat.le_refl _) _
  have hX0 : Bx1 w.heap.size f n A l c e W0 := by rw [← hW]; exact allocB _ _
  have hs0 : W0.heap.size = w.heap.size + 1 := by rw [← hW]; simp
  clear hW
  have kf := fits_c W0 f n A l c e
  have c0 := hX0.cells
  obtain ⟨c0, c1, c2, c3⟩ := c0
  by_cases hfit : l ≤ 2147483647
  · rw [decide_eq_true hfit] at kf
    replace kf := Lib.hid kf
    replace hX0 := Lib.hid hX0
    replace hB0 := Lib.hid hB0
    replace hs0 := Lib.hid hs0
    go_wp2_with fail
    with_reducible refine kf.out.mono ?_
    rintro E w1 ⟨rfl, hb1⟩
    have hX1 : Bx1 w.heap.size f n A l c e w1 := hX0.out.chg (Below.chg hb1)
    have hB1 : Below w.heap.size w w1 := hB0.out.trans (hb1.mono (by have := hs0.out; omega))
    have hs1 : w.heap.size + 1 ≤ w1.heap.size := by have := hb1.size; have := hs0.out; omega
    clear c0 c1 c2 c3 kf
    obtain ⟨c0, c1, c2, c3⟩ := hX1.cells
    have kq := finite_c w1 f n A l c X e (hX.out.below hB1)
    replace kq := Lib.hid kq
    replace hX1 := Lib.hid hX1
    replace hB1 := Lib.hid hB1
    replace hs1 := Lib.hid hs1
    clear hb1
    go_wp2_with fail
    with_reducible refine kq.out.mono ?_
    rintro E w2 ⟨a0, p0, m0, k0, a2, ok, rfl, hb2, hfin⟩
    have hX2 : Bx1 w.heap.size f n A l c e w2 := hX1.out.chg (Below.chg hb2)
    have hB2 : Below w.heap.size w w2 := hB1.out.trans (hb2.mono (by have := hs1.out; omega))
    have hs2 : w.heap.size + 1 ≤ w2.heap.size := by have := hb2.size; have := hs1.out; omega
    clear c0 c1 c2 c3 kq hb2
    replace hX2 := Lib.hid hX2
    replace hB2 := Lib.hid hB2
    replace hs2 := Lib.hid hs2
    replace hfin := Lib.hid hfin
    cases ok with
    | false =>
      go_wp2
      go_ret
      exact ⟨rfl, hB2.out.alloc (by have := hs2.out; omega) _⟩
    | true =>
      obtain ⟨g1, g2, g3, rfl, g4, rfl, rfl, hco⟩ := hfin.out rfl
      clear hfin
      replace g1 := Lib.hid g1
      replace g2 := Lib.hid g2
      replace g3 := Lib.hid g3
      replace g4 := Lib.hid g4
      have e5 := hco.rd.len
      have e7 := hco.rd.cap
      have e9 := hco.rd.max
      replace e5 := Lib.hid e5
      clear hco
      go_upto_region 8 with (fail)
      generalize hW : (w2.alloc (.cells #[.bool a0, .slice p0 m0 k0, .int .i64 a2] 29 (0, 0))).alloc (.cells #[.int .i64 1, .bool neg, .slice none 0 0, .int .i64 0] 24 (0, 0)) = W
      have hBW : Below w.heap.size w W := by rw [← hW]; exact (hB2.out.alloc (by have := hs2.out; omega) _).alloc (by have := hs2.out; simp; omega) _
      have hXa : Bx1 w.heap.size 0 a0 A l c a2 W := by rw [← hW]; exact allocB_old (allocB_old hX2.out)
      have hVa3 : W.heap[w2.heap.size]? = some (.cells #[.bool a0, .slice p0 m0 k0, .int .i64 a2] 29 (0, 0)) := by rw [← hW]; exact allocB_old (allocB _ _)
      have hYb : Bx1 (w2.heap.size + 1) 1 neg none 0 0 0 W := by rw [← hW]; exact allocB_at _ _ (by simp)
      have hsW : W.heap.size = w2.heap.size + 2 := by rw [← hW]; simp
      clear hW
      have hlt := hs2.out
      obtain ⟨b, hbe⟩ : ∃ b, w2.heap.size + 1 = b := ⟨_, rfl⟩
      rw [hbe] at hYb ⊢
      have neB : b < W.heap.size := by omega
      have neA : w.heap.size < W.heap.size := by omega
      have hab : w.heap.size ≠ b := by omega
      have hav : w2.heap.size ≠ w.heap.size := by omega
      have hbv : w2.heap.size ≠ b := by omega
      have hlb : w.heap.size ≤ b := by omega
      have v0 : W.cell? ⟨w2.heap.size, 0, none⟩ = some (.bool a0) := cellB hVa3 rfl
      clear hbe hsW hlt
      replace hBW := Lib.hid hBW
      obtain ⟨c0, c1, c2, c3⟩ := hXa.cells
      obtain ⟨d0, d1, d2, d3⟩ := hYb.cells
      have i0 := frozenB hXa 0
      have i1 := frozenB hXa 1
      have i2 := frozenB hXa 2
      have i3 := frozenB hXa 3
      have j0 := frozenB hYb 0
      have j1 := frozenB hYb 1
      have j2 := frozenB hYb 2
      have j3 := frozenB hYb 3
      replace hXa := Lib.hid hXa
      replace hYb := Lib.hid hYb
      replace hVa3 := Lib.hid hVa3
      go_upto_region 12 with (fail)
      have e1 := end4 hXa.out (.int .i64 1) (.bool neg) (.slice none 0 0) (.int .i64 0)
      have q1 := chg4 W w.heap.size (.int .i64 1) (.bool neg) (.slice none 0 0) (.int .i64 0)
      have hYb1 := q1.heapB hYb.out (fun h => hab h.symm)
      have hVa4 := q1.heapB hVa3.out hav
      clear c0 c1 c2 c3 d0 d1 d2 d3 i0 i1 i2 i3 j0 j1 j2 j3 v0 hVa3
      generalize hV1 : (((W.setCell ⟨w.heap.size, 0, none⟩ (.int .i64 1)).setCell ⟨w.heap.size, 1, none⟩ (.bool neg)).setCell ⟨w.heap.size, 2, none⟩ (.slice none 0 0)).setCell ⟨w.heap.size, 3, none⟩ (.int .i64 0) = V1 at e1 q1 hYb1 hVa4 ⊢
      have e2 := end4 hYb1 (.int .i64 0) (.bool a0) (.slice A l c) (.int .i64 a2)
      have q2 := chg4 V1 b (.int .i64 0) (.bool a0) (.slice A l c) (.int .i64 a2)
      have e3 := q2.heapB e1 hab
      have hVa3 := q2.heapB hVa4 hbv
      have hs1' : V1.heap.size = W.heap.size := by rw [← hV1]; simp
      clear hV1
      generalize hV2 : (((V1.setCell ⟨b, 0, none⟩ (.int .i64 0)).setCell ⟨b, 1, none⟩ (.bool a0)).setCell ⟨b, 2, none⟩ (.slice A l c)).setCell ⟨b, 3, none⟩ (.int .i64 a2) = V2 at e2 e3 q2 hVa3 ⊢
      have hs2' : V2.heap.size = V1.heap.size := by rw [← hV2]; simp
      clear hV2
      have hP : Bp w.heap.size b 1 0 0 a2 neg a0 none A 0 0 l c V2 := ⟨e3, e2⟩
      have hC : Chg w V2 (fun _ => False) := ((Below.chg hBW.out).trans (q1.mono (fun k _ h => .inr (by omega)))).trans (q2.mono (fun k _ h => .inr (by omega)))
      rw [← hs1', ← hs2'] at neA neB
      have v0 : V2.cell? ⟨w2.heap.size, 0, none⟩ = some (.bool a0) := cellB hVa3 rfl
      clear hXa hYb hBW e1 e2 e3 q1 q2 hYb1 hVa4 hs1' hs2'
      replace hC := Lib.hid hC
      replace hVa3 := Lib.hid hVa3
      go_wp2_with fail
      clear v0
      have hBx : Bp w.heap.size b 1 0 0 a2 neg a0 none A 0 0 l c V2 := hP
      have hBd : Bp w.heap.size b 1 0 0 a2 neg a0 none A 0 0 l c V2.drew := hP
      have hS0 := hBd.cells
      have ne0 : w.heap.size ≠ V2.heap.size := Nat.ne_of_lt neA
      have ne1 : b ≠ V2.heap.size := Nat.ne_of_lt neB
      replace neA := Lib.hid neA
      replace neB := Lib.hid neB
      replace hBx := Lib.hid hBx
      replace hBd := Lib.hid hBd
      clear hP
      go_region_held3 (fun w' => w'.cell? ⟨w.heap.size, 0, none⟩ = some (.int .i64 1) ∧ w'.cell? ⟨w.heap.size, 1, none⟩ = some (.bool neg) ∧ w'.cell? ⟨w.heap.size, 2, none⟩ = some (.slice none 0 0) ∧ w'.cell? ⟨w.heap.size, 3, none⟩ = some (.int .i64 0) ∧ w'.cell? ⟨b, 0, none⟩ = some (.int .i64 0) ∧ w'.cell? ⟨b, 1, none⟩ = some (.bool a0) ∧ w'.cell? ⟨b, 2, none⟩ = some (.slice A l c) ∧ w'.cell? ⟨b, 3, none⟩ = some (.int .i64 a2)) (with_reducible (first | exact hS0 | exact hS1 | exact hS2 | exact (hBd.out.chg ((Chg.refl _ _).alloc _)).cells | exact (hBx.out.chg (((Chg.refl _ _).alloc _).drew)).cells | exact (hB1.out.chg ((Chg.refl _ _).alloc _)).cells | exact (hB2.out.chg ((Chg.refl _ _).alloc _)).cells | exact (hB2.out.set4 V2.heap.size ne0 ne1 _ _ _ _).cells | exact (hB2.out.set4 v1.heap.size me0 me1 _ _ _ _).cells)) (first
        | (go_at_call 13
           with_reducible refine (kw.out _).mono ?_
           rintro e' v1 ⟨rfl, hch1⟩
           have hB1 : Bp w.heap.size b 1 0 0 a2 neg a0 none A 0 0 l c v1 := by with_reducible (first | exact hBd.out.chg hch1 | exact (hBd.out.chg ((Chg.refl _ _).alloc _)).chg hch1 | exact (hBx.out.chg (((Chg.refl _ _).alloc _).drew)).chg hch1)
           have hS1 := hB1.cells
           have hQ1 : Chg w v1 (fun _ => False) := by with_reducible (first | exact hC.out.drew.trans (hch1.mono (fun _ _ h => h.elim)) | exact (hC.out.drew.alloc _).trans (hch1.mono (fun _ _ h => h.elim)) | exact (hC.out.alloc _).drew.trans (hch1.mono (fun _ _ h => h.elim)))
           replace hQ1 := Lib.hid hQ1
           have hWv : V2.heap.size ≤ v1.heap.size := Nat.le_trans (by first | exact Nat.le_refl _ | (rw [World.size_alloc]; omega) | (show _ ≤ (V2.alloc _).heap.size; rw [World.size_alloc]; omega)) hch1.size
           have me0 : w.heap.size ≠ v1.heap.size := Nat.ne_of_lt (Nat.lt_of_lt_of_le neA.out hWv)
           have me1 : b ≠ v1.heap.size := Nat.ne_of_lt (Nat.lt_of_lt_of_le neB.out hWv)
           first
             | (have hZ := laid1 hch1
                replace hZ := Lib.hid hZ)
             | skip
           replace hWv := Lib.hid hWv
           replace hB1 := Lib.hid hB1
           replace hch1 := Lib.hid hch1)
        | (go_at_call 15
           with_reducible refine (hd.out _ (by with_reducible (first | exact Chg.below hQ1.out | exact Chg.below (hQ1.out.alloc _))) g1.out g2.out g3.out).mono ?_
           rintro e' v2 ⟨f', n', A', l', c', e2', cn', ok', rfl, ⟨qf, qn, qc, qk⟩, hch2⟩
           replace qf := qf.symm
           replace qn := qn.symm
           replace qc := qc.symm
           replace qk := qk.symm
           subst qf qn qc qk
           have hB2 : Bp w.heap.size b 1 0 0 a2 neg a0 none A 0 0 l c v2 := by with_reducible (first | exact hB1.out.chg hch2 | exact (hB1.out.chg ((Chg.refl _ _).alloc _)).chg hch2)
           have hS2 := hB2.cells
           first
             | (have hZ2 := hch2.heapB hZ.out (fun h => h)
                have z0 := cellB hZ2 (i := 0) rfl
                have z1 := cellB hZ2 (i := 1) rfl
                have z2 := cellB hZ2 (i := 2) rfl
                have z3 := cellB hZ2 (i := 3) rfl
                have y0 := frozenB hZ2 0
                have y1 := frozenB hZ2 1
                have y2 := frozenB hZ2 2
                have y3 := frozenB hZ2 3
                replace hZ2 := Lib.hid hZ2)
             | (have hZ2 := laid2 hch2
                have z0 := cellB hZ2 (i := 0) rfl
                have z1 := cellB hZ2 (i := 1) rfl
                have z2 := cellB hZ2 (i := 2) rfl
                have z3 := cellB hZ2 (i := 3) rfl
                have y0 := frozenB hZ2 0
                have y1 := frozenB hZ2 1
                have y2 := frozenB hZ2 2
                have y3 := frozenB hZ2 3
                replace hZ2 := Lib.hid hZ2)
             | skip
           replace hB2 := Lib.hid hB2
           replace hch2 := Lib.hid hch2))
      all_goals
        clear hS0 hS1 hS2 ne0 ne1 me0 me1 hd kw hop hBd hB1 hB2
        first
          | (obtain ⟨V, hV, hE, hq⟩ := pack4 hZ2.out (.int .i64 1) (.bool neg) (.slice A' l' c') (.int .i64 e2')
             rw [hV])
          | (obtain ⟨V, hV, hE, hq⟩ := pack1 v2 (.cells #[.int .i64 1, .bool neg, .slice A' l' c', .int .i64 e2'] 24 (0, 0))
             rw [hV])
        have l1 := hWv.out
        have hWV : Chg V2 V (fun _ => False) := by
          with_reducible (first
            | exact (((Chg.refl V2 (fun _ => False)).drew.trans (hch1.out.mono (fun _ _ h => h.elim))).trans (hch2.out.mono (fun _ _ h => h.elim))).trans (hq.mono (fun _ _ h => h.elim))
            | exact ((((Chg.refl V2 (fun _ => False)).drew.trans (hch1.out.mono (fun _ _ h => h.elim))).alloc _).trans (hch2.out.mono (fun _ _ h => h.elim))).trans (hq.mono (fun k _ h => .inr (by omega)))
            | exact ((((Chg.refl V2 (fun _ => False)).alloc _).drew.trans (hch1.out.mono (fun _ _ h => h.elim))).trans (hch2.out.mono (fun _ _ h => h.elim))).trans (hq.mono (fun k _ h => .inr (by omega))))
        clear hV
        try clear z0 z1 z2 z3 y0 y1 y2 y3 hZ2
        try clear hZ
        have z0 := cellB (i := 0) (v := .int .i64 1) hE rfl
        have z1 := cellB (i := 1) (v := .bool neg) hE rfl
        replace hE := Lib.hid hE
        replace hWV := Lib.hid hWV
        replace hq := Lib.hid hq
        go_wp2
        go_ret
        exact ⟨(by first | rfl | (cases a0 <;> cases neg <;> simp) | (simp <;> decide) | (cases a0 <;> cases neg <;> simp <;> decide)), Chg.below (hC.out.trans (hWV.out.mono (fun _ _ h => h.elim)))⟩
  · rw [decide_eq_false hfit] at kf
    replace kf := Lib.hid kf
    replace hX0 := Lib.hid hX0
    replace hB0 := Lib.hid hB0
    replace hs0 := Lib.hid hs0
    go_wp2_with fail
    with_reducible refine kf.out.mono ?_
    rintro E w1 ⟨rfl, hb1⟩
    go_wp2
    go_ret
    exact ⟨rfl, hB0.out.trans (hb1.mono (by have := hs0.out; omega))⟩
set_option maxRecDepth 100000 in
set_option maxHeartbeats 8000000 in
theorem Inf_1f (w : World) (op prec mode : Int) (m : Nat) (hmm : mode % 8 = (m : Int)) (neg n : Bool) (A : Option Addr) (l c : Nat) (X : List Nat) (e : Int) (hop : op % 3 = 1) (h1 : 0 ≤ op ∧ op ≤ 255) (h2 : 0 ≤ prec ∧ prec ≤ 255) (h3 : 0 ≤ mode ∧ mode ≤ 255) (hX : RdW w A l c X) (f : Int)
    (hd : ∀ w1, Below w.heap.size w w1 → l ≤ 3 → -100 ≤ e → e ≤ 100 → Calls Tryz.prog 15 #[.int .i64 1, .agg #[.int .u64 (1 + prec % 60), .int .i64 100000, .int .i64 (-100000), .int .i64 (m : Int)], .agg #[.int .i64 0, .bool n, .slice A l c, .int .i64 e], .agg #[.int .i64 1, .bool neg, .slice none 0 0, .int .i64 0]] w1 (Told w1 (QSp 1 (!neg) 0))) :
    Calls Tryz.prog 4 #[.int .u8 op, .bool neg, .bool false, .int .u8 prec, .int .u8 mode, .agg #[.int .i64 f, .bool n, .slice A l c, .int .i64 e]] w fun E w' => E = .returned (.bool true) ∧ Below w.heap.size w w' := by
  obtain ⟨h1a, h1b⟩ := h1
  have kw := fun w => wide_c w prec mode m h2 h3 hmm
  replace kw := Lib.hid kw
  replace hd := Lib.hid hd
  clear h2 h3 hmm
  have hlc := hX.cap
  have hcm := hX.max
  replace hX := Lib.hid hX
  go_enter Tryz.func4, Tryz.ntmps4
  go_upto_region 1 with (fail)
  generalize hW : w.alloc (.cells #[.int .i64 f, .bool n, .slice A l c, .int .i64 e] 24 (0, 0)) = W0
  have hB0 : Below w.heap.size w W0 := by rw [← hW]; exact (Below.refl _ _).alloc (Nat.le_refl _) _
  have hX0 : Bx1 w.heap.size f n A l c e W0 := by rw [← hW]; exact allocB _ _
  have hs0 : W0.heap.size = w.heap.size + 1 := by rw [← hW]; simp
  clear hW
  have kf := fits_c W0 f n A l c e
  have c0 := hX0.cells
  obtain ⟨c0, c1, c2, c3⟩ := c0
  by_cases hfit : l ≤ 2147483647
  · rw [decide_eq_true hfit] at kf
    replace kf := Lib.hid kf
    replace hX0 := Lib.hid hX0
    replace hB0 := Lib.hid hB0
    replace hs0 := Lib.hid hs0
    go_wp2_with fail
    with_reducible refine kf.out.mono ?_
    rintro E w1 ⟨rfl, hb1⟩
    have hX1 : Bx1 w.heap.size f n A l c e w1 := hX0.out.chg (Below.chg hb1)
    have hB1 : Below w.heap.size w w1 := hB0.out.trans (hb1.mono (by have := hs0.out; omega))
    have hs1 : w.heap.size + 1 ≤ w1.heap.size := by have := hb1.size; have := hs0.out; omega
    clear c0 c1 c2 c3 kf
    obtain ⟨c0, c1, c2, c3⟩ := hX1.cells
    have kq := finite_c w1 f n A l c X e (hX.out.below hB1)
    replace kq := Lib.hid kq
    replace hX1 := Lib.hid hX1
    replace hB1 := Lib.hid hB1
    replace hs1 := Lib.hid hs1
    clear hb1
    go_wp2_with fail
    with_reducible refine kq.out.mono ?_
    rintro E w2 ⟨a0, p0, m0, k0, a2, ok, rfl, hb2, hfin⟩
    have hX2 : Bx1 w.heap.size f n A l c e w2 := hX1.out.chg (Below.chg hb2)
    have hB2 : Below w.heap.size w w2 := hB1.out.trans (hb2.mono (by have := hs1.out; omega))
    have hs2 : w.heap.size + 1 ≤ w2.heap.size := by have := hb2.size; have := hs1.out; omega
    clear c0 c1 c2 c3 kq hb2
    replace hX2 := Lib.hid hX2
    replace hB2 := Lib.hid hB2
    replace hs2 := Lib.hid hs2
    replace hfin := Lib.hid hfin
    cases ok with
    | false =>
      go_wp2
      go_ret
      exact ⟨rfl, hB2.out.alloc (by have := hs2.out; omega) _⟩
    | true =>
      obtain ⟨g1, g2, g3, rfl, g4, rfl, rfl, hco⟩ := hfin.out rfl
      clear hfin
      replace g1 := Lib.hid g1
      replace g2 := Lib.hid g2
      replace g3 := Lib.hid g3
      replace g4 := Lib.hid g4
      have e5 := hco.rd.len
      have e7 := hco.rd.cap
      have e9 := hco.rd.max
      replace e5 := Lib.hid e5
      clear hco
      go_upto_region 8 with (fail)
      generalize hW : (w2.alloc (.cells #[.bool a0, .slice p0 m0 k0, .int .i64 a2] 29 (0, 0))).alloc (.cells #[.int .i64 1, .bool neg, .slice none 0 0, .int .i64 0] 24 (0, 0)) = W
      have hBW : Below w.heap.size w W := by rw [← hW]; exact (hB2.out.alloc (by have := hs2.out; omega) _).alloc (by have := hs2.out; simp; omega) _
      have hXa : Bx1 w.heap.size 0 a0 A l c a2 W := by rw [← hW]; exact allocB_old (allocB_old hX2.out)
      have hVa3 : W.heap[w2.heap.size]? = some (.cells #[.bool a0, .slice p0 m0 k0, .int .i64 a2] 29 (0, 0)) := by rw [← hW]; exact allocB_old (allocB _ _)
      have hYb : Bx1 (w2.heap.size + 1) 1 neg none 0 0 0 W := by rw [← hW]; exact allocB_at _ _ (by simp)
      have hsW : W.heap.size = w2.heap.size + 2 := by rw [← hW]; simp
      clear hW
      have hlt := hs2.out
      obtain ⟨b, hbe⟩ : ∃ b, w2.heap.size + 1 = b := ⟨_, rfl⟩
      rw [hbe] at hYb ⊢
      have neB : b < W.heap.size := by omega
      have neA : w.heap.size < W.heap.size := by omega
      have hab : w.heap.size ≠ b := by omega
      have hav : w2.heap.size ≠ w.heap.size := by omega
      have hbv : w2.heap.size ≠ b := by omega
      have hlb : w.heap.size ≤ b := by omega
      have v0 : W.cell? ⟨w2.heap.size, 0, none⟩ = some (.bool a0) := cellB hVa3 rfl
      clear hbe hsW hlt
      replace hBW := Lib.hid hBW
      have hP : Bp w.heap.size b 0 a2 1 0 a0 neg A none l c 0 0 W := ⟨hXa, hYb⟩
      have hC := Below.chg hBW.out
      clear hXa hYb hBW
      replace hC := Lib.hid hC
      replace hVa3 := Lib.hid hVa3
      go_wp2_with fail
      clear v0
      have hBx : Bp w.heap.size b 0 a2 1 0 a0 neg A none l c 0 0 W := hP
      have hBd : Bp w.heap.size b 0 a2 1 0 a0 neg A none l c 0 0 W.drew := hP
      have hS0 := hBd.cells
      have ne0 : w.heap.size ≠ W.heap.size := Nat.ne_of_lt neA
      have ne1 : b ≠ W.heap.size := Nat.ne_of_lt neB
      replace neA := Lib.hid neA
      replace neB := Lib.hid neB
      replace hBx := Lib.hid hBx
      replace hBd := Lib.hid hBd
      clear hP
      go_region_held3 (fun w' => w'.cell? ⟨w.heap.size, 0, none⟩ = some (.int .i64 0) ∧ w'.cell? ⟨w.heap.size, 1, none⟩ = some (.bool a0) ∧ w'.cell? ⟨w.heap.size, 2, none⟩ = some (.slice A l c) ∧ w'.cell? ⟨w.heap.size, 3, none⟩ = some (.int .i64 a2) ∧ w'.cell? ⟨b, 0, none⟩ = some (.int .i64 1) ∧ w'.cell? ⟨b, 1, none⟩ = some (.bool neg) ∧ w'.cell? ⟨b, 2, none⟩ = some (.slice none 0 0) ∧ w'.cell? ⟨b, 3, none⟩ = some (.int .i64 0)) (with_reducible (first | exact hS0 | exact hS1 | exact hS2 | exact (hBd.out.chg ((Chg.refl _ _).alloc _)).cells | exact (hBx.out.chg (((Chg.refl _ _).alloc _).drew)).cells | exact (hB1.out.chg ((Chg.refl _ _).alloc _)).cells | exact (hB2.out.chg ((Chg.refl _ _).alloc _)).cells | exact (hB2.out.set4 W.heap.size ne0 ne1 _ _ _ _).cells | exact (hB2.out.set4 v1.heap.size me0 me1 _ _ _ _).cells)) (first
        | (go_at_call 13
           with_reducible refine (kw.out _).mono ?_
           rintro e' v1 ⟨rfl, hch1⟩
           have hB1 : Bp w.heap.size b 0 a2 1 0 a0 neg A none l c 0 0 v1 := by with_reducible (first | exact hBd.out.chg hch1 | exact (hBd.out.chg ((Chg.refl _ _).alloc _)).chg hch1 | exact (hBx.out.chg (((Chg.refl _ _).alloc _).drew)).chg hch1)
           have hS1 := hB1.cells
           have hQ1 : Chg w v1 (fun _ => False) := by with_reducible (first | exact hC.out.drew.trans (hch1.mono (fun _ _ h => h.elim)) | exact (hC.out.drew.alloc _).trans (hch1.mono (fun _ _ h => h.elim)) | exact (hC.out.alloc _).drew.trans (hch1.mono (fun _ _ h => h.elim)))
           replace hQ1 := Lib.hid hQ1
           have hWv : W.heap.size ≤ v1.heap.size := Nat.le_trans (by first | exact Nat.le_refl _ | (rw [World.size_alloc]; omega) | (show _ ≤ (W.alloc _).heap.size; rw [World.size_alloc]; omega)) hch1.size
           have me0 : w.heap.size ≠ v1.heap.size := Nat.ne_of_lt (Nat.lt_of_lt_of_le neA.out hWv)
           have me1 : b ≠ v1.heap.size := Nat.ne_of_lt (Nat.lt_of_lt_of_le neB.out hWv)
           first
             | (have hZ := laid1 hch1
                replace hZ := Lib.hid hZ)
             | skip
           replace hWv := Lib.hid hWv
           replace hB1 := Lib.hid hB1
           replace hch1 := Lib.hid hch1)
        | (go_at_call 15
           with_reducible refine (hd.out _ (by with_reducible (first | exact Chg.below hQ1.out | exact Chg.below (hQ1.out.alloc _))) g1.out g2.out g3.out).mono ?_
           rintro e' v2 ⟨f', n', A', l', c', e2', cn', ok', rfl, ⟨qf, qn, qc, qk⟩, hch2⟩
           replace qf := qf.symm
           replace qn := qn.symm
           replace qc := qc.symm
           replace qk := qk.symm
           subst qf qn qc qk
           have hB2 : Bp w.heap.size b 0 a2 1 0 a0 neg A none l c 0 0 v2 := by with_reducible (first | exact hB1.out.chg hch2 | exact (hB1.out.chg ((Chg.refl _ _).alloc _)).chg hch2)
           have hS2 := hB2.cells
           first
             | (have hZ2 := hch2.heapB hZ.out (fun h => h)
                have z0 := cellB hZ2 (i := 0) rfl
                have z1 := cellB hZ2 (i := 1) rfl
                have z2 := cellB hZ2 (i := 2) rfl
                have z3 := cellB hZ2 (i := 3) rfl
                have y0 := frozenB hZ2 0
                have y1 := frozenB hZ2 1
                have y2 := frozenB hZ2 2
                have y3 := frozenB hZ2 3
                replace hZ2 := Lib.hid hZ2)
             | (have hZ2 := laid2 hch2
                have z0 := cellB hZ2 (i := 0) rfl
                have z1 := cellB hZ2 (i := 1) rfl
                have z2 := cellB hZ2 (i := 2) rfl
                have z3 := cellB hZ2 (i := 3) rfl
                have y0 := frozenB hZ2 0
                have y1 := frozenB hZ2 1
                have y2 := frozenB hZ2 2
                have y3 := frozenB hZ2 3
                replace hZ2 := Lib.hid hZ2)
             | skip
           replace hB2 := Lib.hid hB2
           replace hch2 := Lib.hid hch2))
      all_goals
        clear hS0 hS1 hS2 ne0 ne1 me0 me1 hd kw hop hBd hB1 hB2
        first
          | (obtain ⟨V, hV, hE, hq⟩ := pack4 hZ2.out (.int .i64 1) (.bool (!neg)) (.slice A' l' c') (.int .i64 e2')
             rw [hV])
          | (obtain ⟨V, hV, hE, hq⟩ := pack1 v2 (.cells #[.int .i64 1, .bool (!neg), .slice A' l' c', .int .i64 e2'] 24 (0, 0))
             rw [hV])
        have l1 := hWv.out
        have hWV : Chg W V (fun _ => False) := by
          with_reducible (first
            | exact (((Chg.refl W (fun _ => False)).drew.trans (hch1.out.mono (fun _ _ h => h.elim))).trans (hch2.out.mono (fun _ _ h => h.elim))).trans (hq.mono (fun _ _ h => h.elim))
            | exact ((((Chg.refl W (fun _ => False)).drew.trans (hch1.out.mono (fun _ _ h => h.elim))).alloc _).trans (hch2.out.mono (fun _ _ h => h.elim))).trans (hq.mono (fun k _ h => .inr (by omega)))
            | exact ((((Chg.refl W (fun _ => False)).alloc _).drew.trans (hch1.out.mono (fun _ _ h => h.elim))).trans (hch2.out.mono (fun _ _ h => h.elim))).trans (hq.mono (fun k _ h => .inr (by omega))))
        clear hV
        try clear z0 z1 z2 z3 y0 y1 y2 y3 hZ2
        try clear hZ
        have z0 := cellB (i := 0) (v := .int .i64 1) hE rfl
        have z1 := cellB (i := 1) (v := .bool (!neg)) hE rfl
        replace hE := Lib.hid hE
        replace hWV := Lib.hid hWV
        replace hq := Lib.hid hq
        go_wp2
        go_ret
        exact ⟨(by first | rfl | (cases a0 <;> cases neg <;> simp) | (simp <;> decide) | (cases a0 <;> cases neg <;> simp <;> decide)), Chg.below (hC.out.trans (hWV.out.mono (fun _ _ h => h.elim)))⟩
  · rw [decide_eq_false hfit] at kf
    replace kf := Lib.hid kf
    replace hX0 := Lib.hid hX0
    replace hB0 := Lib.hid hB0
    replace hs0 := Lib.hid hs0
    go_wp2_with fail
    with_reducible refine kf.out.mono ?_
    rintro E w1 ⟨rfl, hb1⟩
    go_wp2
    go_ret
    exact ⟨rfl, hB0.out.trans (hb1.mono (by have := hs0.out; omega))⟩
set_option maxRecDepth 100000 in
set_option maxHeartbeats 8000000 in
theorem Inf_1t (w : World) (op prec mode : Int) (m : Nat) (hmm : mode % 8 = (m : Int)) (neg n : Bool) (A : Option Addr) (l c : Nat) (X : List Nat) (e : Int) (hop : op % 3 = 1) (h1 : 0 ≤ op ∧ op ≤ 255) (h2 : 0 ≤ prec ∧ prec ≤ 255) (h3 : 0 ≤ mode ∧ mode ≤ 255) (hX : RdW w A l c X) (f : Int)
    (hd : ∀ w1, Below w.heap.size w w1 → l ≤ 3 → -100 ≤ e → e ≤ 100 → Calls Tryz.prog 15 #[.int .i64 1, .agg #[.int .u64 (1 + prec % 60), .int .i64 100000, .int .i64 (-100000), .int .i64 (m : Int)], .agg #[.int .i64 1, .bool neg, .slice none 0 0, .int .i64 0], .agg #[.int .i64 0, .bool n, .slice A l c, .int .i64 e]] w1 (Told w1 (QSp 1 neg 0))) :
    Calls Tryz.prog 4 #[.int .u8 op, .bool neg, .bool true, .int .u8 prec, .int .u8 mode, .agg #[.int .i64 f, .bool n, .slice A l c, .int .i64 e]] w fun E w' => E = .returned (.bool true) ∧ Below w.heap.size w w' := by
  obtain ⟨h1a, h1b⟩ := h1
  have kw := fun w => wide_c w prec mode m h2 h3 hmm
  replace kw := Lib.hid kw
  replace hd := Lib.hid hd
  clear h2 h3 hmm
  have hlc := hX.cap
  have hcm := hX.max
  replace hX := Lib.hid hX
  go_enter Tryz.func4, Tryz.ntmps4
  go_upto_region 1 with (fail)
  generalize hW : w.alloc (.cells #[.int .i64 f, .bool n, .slice A l c, .int .i64 e] 24 (0, 0)) = W0
  have hB0 : Below w.heap.size w W0 := by rw [← hW]; exact (Below.refl _ _).alloc (Nat.le_refl _) _
  have hX0 : Bx1 w.heap.size f n A l c e W0 := by rw [← hW]; exact allocB _ _
  have hs0 : W0.heap.size = w.heap.size + 1 := by rw [← hW]; simp
  clear hW
  have kf := fits_c W0 f n A l c e
  have c0 := hX0.cells
  obtain ⟨c0, c1, c2, c3⟩ := c0
  by_cases hfit : l ≤ 2147483647
  · rw [decide_eq_true hfit] at kf
    replace kf := Lib.hid kf
    replace hX0 := Lib.hid hX0
    replace hB0 := Lib.hid hB0
    replace hs0 := Lib.hid hs0
    go_wp2_with fail
    with_reducible refine kf.out.mono ?_
    rintro E w1 ⟨rfl, hb1⟩
    have hX1 : Bx1 w.heap.size f n A l c e w1 := hX0.out.chg (Below.chg hb1)
    have hB1 : Below w.heap.size w w1 := hB0.out.trans (hb1.mono (by have := hs0.out; omega))
    have hs1 : w.heap.size + 1 ≤ w1.heap.size := by have := hb1.size; have := hs0.out; omega
    clear c0 c1 c2 c3 kf
    obtain ⟨c0, c1, c2, c3⟩ := hX1.cells
    have kq := finite_c w1 f n A l c X e (hX.out.below hB1)
    replace kq := Lib.hid kq
    replace hX1 := Lib.hid hX1
    replace hB1 := Lib.hid hB1
    replace hs1 := Lib.hid hs1
    clear hb1
    go_wp2_with fail
    with_reducible refine kq.out.mono ?_
    rintro E w2 ⟨a0, p0, m0, k0, a2, ok, rfl, hb2, hfin⟩
    have hX2 : Bx1 w.heap.size f n A l c e w2 := hX1.out.chg (Below.chg hb2)
    have hB2 : Below w.heap.size w w2 := hB1.out.trans (hb2.mono (by have := hs1.out; omega))
    have hs2 : w.heap.size + 1 ≤ w2.heap.size := by have := hb2.size; have := hs1.out; omega
    clear c0 c1 c2 c3 kq hb2
    replace hX2 := Lib.hid hX2
    replace hB2 := Lib.hid hB2
    replace hs2 := Lib.hid hs2
    replace hfin := Lib.hid hfin
    cases ok with
    | false =>
      go_wp2
      go_ret
      exact ⟨rfl, hB2.out.alloc (by have := hs2.out; omega) _⟩
    | true =>
      obtain ⟨g1, g2, g3, rfl, g4, rfl, rfl, hco⟩ := hfin.out rfl
      clear hfin
      replace g1 := Lib.hid g1
      replace g2 := Lib.hid g2
      replace g3 := Lib.hid g3
      replace g4 := Lib.hid g4
      have e5 := hco.rd.len
      have e7 := hco.rd.cap
      have e9 := hco.rd.max
      replace e5 := Lib.hid e5
      clear hco
      go_upto_region 8 with (fail)
      generalize hW : (w2.alloc (.cells #[.bool a0, .slice p0 m0 k0, .int .i64 a2] 29 (0, 0))).alloc (.cells #[.int .i64 1, .bool neg, .slice none 0 0, .int .i64 0] 24 (0, 0)) = W
      have hBW : Below w.heap.size w W := by rw [← hW]; exact (hB2.out.alloc (by have := hs2.out; omega) _).alloc (by have := hs2.out; simp; omega) _
      have hXa : Bx1 w.heap.size 0 a0 A l c a2 W := by rw [← hW]; exact allocB_old (allocB_old hX2.out)
      have hVa3 : W.heap[w2.heap.size]? = some (.cells #[.bool a0, .slice p0 m0 k0, .int .i64 a2] 29 (0, 0)) := by rw [← hW]; exact allocB_old (allocB _ _)
      have hYb : Bx1 (w2.heap.size + 1) 1 neg none 0 0 0 W := by rw [← hW]; exact allocB_at _ _ (by simp)
      have hsW : W.heap.size = w2.heap.size + 2 := by rw [← hW]; simp
      clear hW
      have hlt := hs2.out
      obtain ⟨b, hbe⟩ : ∃ b, w2.heap.size + 1 = b := ⟨_, rfl⟩
      rw [hbe] at hYb ⊢
      have neB : b < W.heap.size := by omega
      have neA : w.heap.size < W.heap.size := by omega
      have hab : w.heap.size ≠ b := by omega
      have hav : w2.heap.size ≠ w.heap.size := by omega
      have hbv : w2.heap.size ≠ b := by omega
      have hlb : w.heap.size ≤ b := by omega
      have v0 : W.cell? ⟨w2.heap.size, 0, none⟩ = some (.bool a0) := cellB hVa3 rfl
      clear hbe hsW hlt
      replace hBW := Lib.hid hBW
      obtain ⟨c0, c1, c2, c3⟩ := hXa.cells
      obtain ⟨d0, d1, d2, d3⟩ := hYb.cells
      have i0 := frozenB hXa 0
      have i1 := frozenB hXa 1
      have i2 := frozenB hXa 2
      have i3 := frozenB hXa 3
      have j0 := frozenB hYb 0
      have j1 := frozenB hYb 1
      have j2 := frozenB hYb 2
      have j3 := frozenB hYb 3
      replace hXa := Lib.hid hXa
      replace hYb := Lib.hid hYb
      replace hVa3 := Lib.hid hVa3
      go_upto_region 12 with (fail)
      have e1 := end4 hXa.out (.int .i64 1) (.bool neg) (.slice none 0 0) (.int .i64 0)
      have q1 := chg4 W w.heap.size (.int .i64 1) (.bool neg) (.slice none 0 0) (.int .i64 0)
      have hYb1 := q1.heapB hYb.out (fun h => hab h.symm)
      have hVa4 := q1.heapB hVa3.out hav
      clear c0 c1 c2 c3 d0 d1 d2 d3 i0 i1 i2 i3 j0 j1 j2 j3 v0 hVa3
      generalize hV1 : (((W.setCell ⟨w.heap.size, 0, none⟩ (.int .i64 1)).setCell ⟨w.heap.size, 1, none⟩ (.bool neg)).setCell ⟨w.heap.size, 2, none⟩ (.slice none 0 0)).setCell ⟨w.heap.size, 3, none⟩ (.int .i64 0) = V1 at e1 q1 hYb1 hVa4 ⊢
      have e2 := end4 hYb1 (.int .i64 0) (.bool a0) (.slice A l c) (.int .i64 a2)
      have q2 := chg4 V1 b (.int .i64 0) (.bool a0) (.slice A l c) (.int .i64 a2)
      have e3 := q2.heapB e1 hab
      have hVa3 := q2.heapB hVa4 hbv
      have hs1' : V1.heap.size = W.heap.size := by rw [← hV1]; simp
      clear hV1
      generalize hV2 : (((V1.setCell ⟨b, 0, none⟩ (.int .i64 0)).setCell ⟨b, 1, none⟩ (.bool a0)).setCell ⟨b, 2, none⟩ (.slice A l c)).setCell ⟨b, 3, none⟩ (.int .i64 a2) = V2 at e2 e3 q2 hVa3 ⊢
      have hs2' : V2.heap.size = V1.heap.size := by rw [← hV2]; simp
      clear hV2
      have hP : Bp w.heap.size b 1 0 0 a2 neg a0 none A 0 0 l c V2 := ⟨e3, e2⟩
      have hC : Chg w V2 (fun _ => False) := ((Below.chg hBW.out).trans (q1.mono (fun k _ h => .inr (by omega)))).trans (q2.mono (fun k _ h => .inr (by omega)))
      rw [← hs1', ← hs2'] at neA neB
      have v0 : V2.cell? ⟨w2.heap.size, 0, none⟩ = some (.bool a0) := cellB hVa3 rfl
      clear hXa hYb hBW e1 e2 e3 q1 q2 hYb1 hVa4 hs1' hs2'
      replace hC := Lib.hid hC
      replace hVa3 := Lib.hid hVa3
      go_wp2_with fail
      clear v0
      have hBx : Bp w.heap.size b 1 0 0 a2 neg a0 none A 0 0 l c V2 := hP
      have hBd : Bp w.heap.size b 1 0 0 a2 neg a0 none A 0 0 l c V2.drew := hP
      have hS0 := hBd.cells
      have ne0 : w.heap.size ≠ V2.heap.size := Nat.ne_of_lt neA
      have ne1 : b ≠ V2.heap.size := Nat.ne_of_lt neB
      replace neA := Lib.hid neA
      replace neB := Lib.hid neB
      replace hBx := Lib.hid hBx
      replace hBd := Lib.hid hBd
      clear hP
      go_region_held3 (fun w' => w'.cell? ⟨w.heap.size, 0, none⟩ = some (.int .i64 1) ∧ w'.cell? ⟨w.heap.size, 1, none⟩ = some (.bool neg) ∧ w'.cell? ⟨w.heap.size, 2, none⟩ = some (.slice none 0 0) ∧ w'.cell? ⟨w.heap.size, 3, none⟩ = some (.int .i64 0) ∧ w'.cell? ⟨b, 0, none⟩ = some (.int .i64 0) ∧ w'.cell? ⟨b, 1, none⟩ = some (.bool a0) ∧ w'.cell? ⟨b, 2, none⟩ = some (.slice A l c) ∧ w'.cell? ⟨b, 3, none⟩ = some (.int .i64 a2)) (with_reducible (first | exact hS0 | exact hS1 | exact hS2 | exact (hBd.out.chg ((Chg.refl _ _).alloc _)).cells | exact (hBx.out.chg (((Chg.refl _ _).alloc _).drew)).cells | exact (hB1.out.chg ((Chg.refl _ _).alloc _)).cells | exact (hB2.out.chg ((Chg.refl _ _).alloc _)).cells | exact (hB2.out.set4 V2.heap.size ne0 ne1 _ _ _ _).cells | exact (hB2.out.set4 v1.heap.size me0 me1 _ _ _ _).cells)) (first
        | (go_at_call 13
           with_reducible refine (kw.out _).mono ?_
           rintro e' v1 ⟨rfl, hch1⟩
           have hB1 : Bp w.heap.size b 1 0 0 a2 neg a0 none A 0 0 l c v1 := by with_reducible (first | exact hBd.out.chg hch1 | exact (hBd.out.chg ((Chg.refl _ _).alloc _)).chg hch1 | exact (hBx.out.chg (((Chg.refl _ _).alloc _).drew)).chg hch1)
           have hS1 := hB1.cells
           have hQ1 : Chg w v1 (fun _ => False) := by with_reducible (first | exact hC.out.drew.trans (hch1.mono (fun _ _ h => h.elim)) | exact (hC.out.drew.alloc _).trans (hch1.mono (fun _ _ h => h.elim)) | exact (hC.out.alloc _).drew.trans (hch1.mono (fun _ _ h => h.elim)))
           replace hQ1 := Lib.hid hQ1
           have hWv : V2.heap.size ≤ v1.heap.size := Nat.le_trans (by first | exact Nat.le_refl _ | (rw [World.size_alloc]; omega) | (show _ ≤ (V2.alloc _).heap.size; rw [World.size_alloc]; omega)) hch1.size
           have me0 : w.heap.size ≠ v1.heap.size := Nat.ne_of_lt (Nat.lt_of_lt_of_le neA.out hWv)
           have me1 : b ≠ v1.heap.size := Nat.ne_of_lt (Nat.lt_of_lt_of_le neB.out hWv)
           first
             | (have hZ := laid1 hch1
                replace hZ := Lib.hid hZ)
             | skip
           replace hWv := Lib.hid hWv
           replace hB1 := Lib.hid hB1
           replace hch1 := Lib.hid hch1)
        | (go_at_call 15
           with_reducible refine (hd.out _ (by with_reducible (first | exact Chg.below hQ1.out | exact Chg.below (hQ1.out.alloc _))) g1.out g2.out g3.out).mono ?_
           rintro e' v2 ⟨f', n', A', l', c', e2', cn', ok', rfl, ⟨qf, qn, qc, qk⟩, hch2⟩
           replace qf := qf.symm
           replace qn := qn.symm
           replace qc := qc.symm
           replace qk := qk.symm
           subst qf qn qc qk
           have hB2 : Bp w.heap.size b 1 0 0 a2 neg a0 none A 0 0 l c v2 := by with_reducible (first | exact hB1.out.chg hch2 | exact (hB1.out.chg ((Chg.refl _ _).alloc _)).chg hch2)
           have hS2 := hB2.cells
           first
             | (have hZ2 := hch2.heapB hZ.out (fun h => h)
                have z0 := cellB hZ2 (i := 0) rfl
                have z1 := cellB hZ2 (i := 1) rfl
                have z2 := cellB hZ2 (i := 2) rfl
                have z3 := cellB hZ2 (i := 3) rfl
                have y0 := frozenB hZ2 0
                have y1 := frozenB hZ2 1
                have y2 := frozenB hZ2 2
                have y3 := frozenB hZ2 3
                replace hZ2 := Lib.hid hZ2)
             | (have hZ2 := laid2 hch2
                have z0 := cellB hZ2 (i := 0) rfl
                have z1 := cellB hZ2 (i := 1) rfl
                have z2 := cellB hZ2 (i := 2) rfl
                have z3 := cellB hZ2 (i := 3) rfl
                have y0 := frozenB hZ2 0
                have y1 := frozenB hZ2 1
                have y2 := frozenB hZ2 2
                have y3 := frozenB hZ2 3
                replace hZ2 := Lib.hid hZ2)
             | skip
           replace hB2 := Lib.hid hB2
           replace hch2 := Lib.hid hch2))
      all_goals
        clear hS0 hS1 hS2 ne0 ne1 me0 me1 hd kw hop hBd hB1 hB2
        first
          | (obtain ⟨V, hV, hE, hq⟩ := pack4 hZ2.out (.int .i64 1) (.bool neg) (.slice A' l' c') (.int .i64 e2')
             rw [hV])
          | (obtain ⟨V, hV, hE, hq⟩ := pack1 v2 (.cells #[.int .i64 1, .bool neg, .slice A' l' c', .int .i64 e2'] 24 (0, 0))
             rw [hV])
        have l1 := hWv.out
        have hWV : Chg V2 V (fun _ => False) := by
          with_reducible (first
            | exact (((Chg.refl V2 (fun _ => False)).drew.trans (hch1.out.mono (fun _ _ h => h.elim))).trans (hch2.out.mono (fun _ _ h => h.elim))).trans (hq.mono (fun _ _ h => h.elim))
            | exact ((((Chg.refl V2 (fun _ => False)).drew.trans (hch1.out.mono (fun _ _ h => h.elim))).alloc _).trans (hch2.out.mono (fun _ _ h => h.elim))).trans (hq.mono (fun k _ h => .inr (by omega)))
            | exact ((((Chg.refl V2 (fun _ => False)).alloc _).drew.trans (hch1.out.mono (fun _ _ h => h.elim))).trans (hch2.out.mono (fun _ _ h => h.elim))).trans (hq.mono (fun k _ h => .inr (by omega))))
        clear hV
        try clear z0 z1 z2 z3 y0 y1 y2 y3 hZ2
        try clear hZ
        have z0 := cellB (i := 0) (v := .int .i64 1) hE rfl
        have z1 := cellB (i := 1) (v := .bool neg) hE rfl
        replace hE := Lib.hid hE
        replace hWV := Lib.hid hWV
        replace hq := Lib.hid hq
        go_wp2
        go_ret
        exact ⟨(by first | rfl | (cases a0 <;> cases neg <;> simp) | (simp <;> decide) | (cases a0 <;> cases neg <;> simp <;> decide)), Chg.below (hC.out.trans (hWV.out.mono (fun _ _ h => h.elim)))⟩
  · rw [decide_eq_false hfit] at kf
    replace kf := Lib.hid kf
    replace hX0 := Lib.hid hX0
    replace hB0 := Lib.hid hB0
    replace hs0 := Lib.hid hs0
    go_wp2_with fail
    with_reducible refine kf.out.mono ?_
    rintro E w1 ⟨rfl, hb1⟩
    go_wp2
    go_ret
    exact ⟨rfl, hB0.out.trans (hb1.mono (by have := hs0.out; omega))⟩
set_option maxRecDepth 100000 in
set_option maxHeartbeats 8000000 in
theorem Inf_2fz (w : World) (op prec mode : Int) (m : Nat) (hmm : mode % 8 = (m : Int)) (neg n : Bool) (A : Option Addr) (l c : Nat) (X : List Nat) (e : Int) (hop : op % 3 = 2) (h1 : 0 ≤ op ∧ op ≤ 255) (h2 : 0 ≤ prec ∧ prec ≤ 255) (h3 : 0 ≤ mode ∧ mode ≤ 255) (hX : RdW w A l c X) (f : Int) (hN : val X = 0)
    (hd : ∀ w1, Below w.heap.size w w1 → l ≤ 3 → -100 ≤ e → e ≤ 100 → Calls Tryz.prog 15 #[.int .i64 2, .agg #[.int .u64 (1 + prec % 60), .int .i64 100000, .int .i64 (-100000), .int .i64 (m : Int)], .agg #[.int .i64 0, .bool n, .slice A l c, .int .i64 e], .agg #[.int .i64 1, .bool neg, .slice none 0 0, .int .i64 0]] w1 (Told w1 (QSp 3 false 256))) :
    Calls Tryz.prog 4 #[.int .u8 op, .bool neg, .bool false, .int .u8 prec, .int .u8 mode, .agg #[.int .i64 f, .bool n, .slice A l c, .int .i64 e]] w fun E w' => E = .returned (.bool true) ∧ Below w.heap.size w w' := by
  obtain ⟨h1a, h1b⟩ := h1
  have kw := fun w => wide_c w prec mode m h2 h3 hmm
  replace kw := Lib.hid kw
  replace hd := Lib.hid hd
  clear h2 h3 hmm
  have hlc := hX.cap
  have hcm := hX.max
  replace hX := Lib.hid hX
  replace hN := Lib.hid hN
  go_enter Tryz.func4, Tryz.ntmps4
  go_upto_region 1 with (fail)
  generalize hW : w.alloc (.cells #[.int .i64 f, .bool n, .slice A l c, .int .i64 e] 24 (0, 0)) = W0
  have hB0 : Below w.heap.size w W0 := by rw [← hW]; exact (Below.refl _ _).alloc (Nat.le_refl _) _
  have hX0 : Bx1 w.heap.size f n A l c e W0 := by rw [← hW]; exact allocB _ _
  have hs0 : W0.heap.size = w.heap.size + 1 := by rw [← hW]; simp
  clear hW
  have kf := fits_c W0 f n A l c e
  have c0 := hX0.cells
  obtain ⟨c0, c1, c2, c3⟩ := c0
  by_cases hfit : l ≤ 2147483647
  · rw [decide_eq_true hfit] at kf
    replace kf := Lib.hid kf
    replace hX0 := Lib.hid hX0
    replace hB0 := Lib.hid hB0
    replace hs0 := Lib.hid hs0
    go_wp2_with fail
    with_reducible refine kf.out.mono ?_
    rintro E w1 ⟨rfl, hb1⟩
    have hX1 : Bx1 w.heap.size f n A l c e w1 := hX0.out.chg (Below.chg hb1)
    have hB1 : Below w.heap.size w w1 := hB0.out.trans (hb1.mono (by have := hs0.out; omega))
    have hs1 : w.heap.size + 1 ≤ w1.heap.size := by have := hb1.size; have := hs0.out; omega
    clear c0 c1 c2 c3 kf
    obtain ⟨c0, c1, c2, c3⟩ := hX1.cells
    have kq := finite_c w1 f n A l c X e (hX.out.below hB1)
    replace kq := Lib.hid kq
    replace hX1 := Lib.hid hX1
    replace hB1 := Lib.hid hB1
    replace hs1 := Lib.hid hs1
    clear hb1
    go_wp2_with fail
    with_reducible refine kq.out.mono ?_
    rintro E w2 ⟨a0, p0, m0, k0, a2, ok, rfl, hb2, hfin⟩
    have hX2 : Bx1 w.heap.size f n A l c e w2 := hX1.out.chg (Below.chg hb2)
    have hB2 : Below w.heap.size w w2 := hB1.out.trans (hb2.mono (by have := hs1.out; omega))
    have hs2 : w.heap.size + 1 ≤ w2.heap.size := by have := hb2.size; have := hs1.out; omega
    clear c0 c1 c2 c3 kq hb2
    replace hX2 := Lib.hid hX2
    replace hB2 := Lib.hid hB2
    replace hs2 := Lib.hid hs2
    replace hfin := Lib.hid hfin
    cases ok with
    | false =>
      go_wp2
      go_ret
      exact ⟨rfl, hB2.out.alloc (by have := hs2.out; omega) _⟩
    | true =>
      obtain ⟨g1, g2, g3, rfl, g4, rfl, rfl, hco⟩ := hfin.out rfl
      clear hfin
      replace g1 := Lib.hid g1
      replace g2 := Lib.hid g2
      replace g3 := Lib.hid g3
      replace g4 := Lib.hid g4
      have e5 := hco.rd.len
      have e7 := hco.rd.cap
      have e9 := hco.rd.max
      replace e5 := Lib.hid e5
      clear hco
      go_upto_region 8 with (fail)
      generalize hW : (w2.alloc (.cells #[.bool a0, .slice p0 m0 k0, .int .i64 a2] 29 (0, 0))).alloc (.cells #[.int .i64 1, .bool neg, .slice none 0 0, .int .i64 0] 24 (0, 0)) = W
      have hBW : Below w.heap.size w W := by rw [← hW]; exact (hB2.out.alloc (by have := hs2.out; omega) _).alloc (by have := hs2.out; simp; omega) _
      have hXa : Bx1 w.heap.size 0 a0 A l c a2 W := by rw [← hW]; exact allocB_old (allocB_old hX2.out)
      have hVa3 : W.heap[w2.heap.size]? = some (.cells #[.bool a0, .slice p0 m0 k0, .int .i64 a2] 29 (0, 0)) := by rw [← hW]; exact allocB_old (allocB _ _)
      have hYb : Bx1 (w2.heap.size + 1) 1 neg none 0 0 0 W := by rw [← hW]; exact allocB_at _ _ (by simp)
      have hsW : W.heap.size = w2.heap.size + 2 := by rw [← hW]; simp
      clear hW
      have hlt := hs2.out
      obtain ⟨b, hbe⟩ : ∃ b, w2.heap.size + 1 = b := ⟨_, rfl⟩
      rw [hbe] at hYb ⊢
      have neB : b < W.heap.size := by omega
      have neA : w.heap.size < W.heap.size := by omega
      have hab : w.heap.size ≠ b := by omega
      have hav : w2.heap.size ≠ w.heap.size := by omega
      have hbv : w2.heap.size ≠ b := by omega
      have hlb : w.heap.size ≤ b := by omega
      have v0 : W.cell? ⟨w2.heap.size, 0, none⟩ = some (.bool a0) := cellB hVa3 rfl
      clear hbe hsW hlt
      replace hBW := Lib.hid hBW
      have hP : Bp w.heap.size b 0 a2 1 0 a0 neg A none l c 0 0 W := ⟨hXa, hYb⟩
      have hC := Below.chg hBW.out
      clear hXa hYb hBW
      replace hC := Lib.hid hC
      replace hVa3 := Lib.hid hVa3
      go_wp2_with fail
      clear v0
      have hBx : Bp w.heap.size b 0 a2 1 0 a0 neg A none l c 0 0 W := hP
      have hBd : Bp w.heap.size b 0 a2 1 0 a0 neg A none l c 0 0 W.drew := hP
      have hS0 := hBd.cells
      have ne0 : w.heap.size ≠ W.heap.size := Nat.ne_of_lt neA
      have ne1 : b ≠ W.heap.size := Nat.ne_of_lt neB
      replace neA := Lib.hid neA
      replace neB := Lib.hid neB
      replace hBx := Lib.hid hBx
      replace hBd := Lib.hid hBd
      clear hP
      go_region_held3 (fun w' => w'.cell? ⟨w.heap.size, 0, none⟩ = some (.int .i64 0) ∧ w'.cell? ⟨w.heap.size, 1, none⟩ = some (.bool a0) ∧ w'.cell? ⟨w.heap.size, 2, none⟩ = some (.slice A l c) ∧ w'.cell? ⟨w.heap.size, 3, none⟩ = some (.int .i64 a2) ∧ w'.cell? ⟨b, 0, none⟩ = some (.int .i64 1) ∧ w'.cell? ⟨b, 1, none⟩ = some (.bool neg) ∧ w'.cell? ⟨b, 2, none⟩ = some (.slice none 0 0) ∧ w'.cell? ⟨b, 3, none⟩ = some (.int .i64 0)) (with_reducible (first | exact hS0 | exact hS1 | exact hS2 | exact (hBd.out.chg ((Chg.refl _ _).alloc _)).cells | exact (hBx.out.chg (((Chg.refl _ _).alloc _).drew)).cells | exact (hB1.out.chg ((Chg.refl _ _).alloc _)).cells | exact (hB2.out.chg ((Chg.refl _ _).alloc _)).cells | exact (hB2.out.set4 W.heap.size ne0 ne1 _ _ _ _).cells | exact (hB2.out.set4 v1.heap.size me0 me1 _ _ _ _).cells)) (first
        | (go_at_call 13
           with_reducible refine (kw.out _).mono ?_
           rintro e' v1 ⟨rfl, hch1⟩
           have hB1 : Bp w.heap.size b 0 a2 1 0 a0 neg A none l c 0 0 v1 := by with_reducible (first | exact hBd.out.chg hch1 | exact (hBd.out.chg ((Chg.refl _ _).alloc _)).chg hch1 | exact (hBx.out.chg (((Chg.refl _ _).alloc _).drew)).chg hch1)
           have hS1 := hB1.cells
           have hQ1 : Chg w v1 (fun _ => False) := by with_reducible (first | exact hC.out.drew.trans (hch1.mono (fun _ _ h => h.elim)) | exact (hC.out.drew.alloc _).trans (hch1.mono (fun _ _ h => h.elim)) | exact (hC.out.alloc _).drew.trans (hch1.mono (fun _ _ h => h.elim)))
           replace hQ1 := Lib.hid hQ1
           have hWv : W.heap.size ≤ v1.heap.size := Nat.le_trans (by first | exact Nat.le_refl _ | (rw [World.size_alloc]; omega) | (show _ ≤ (W.alloc _).heap.size; rw [World.size_alloc]; omega)) hch1.size
           have me0 : w.heap.size ≠ v1.heap.size := Nat.ne_of_lt (Nat.lt_of_lt_of_le neA.out hWv)
           have me1 : b ≠ v1.heap.size := Nat.ne_of_lt (Nat.lt_of_lt_of_le neB.out hWv)
           first
             | (have hZ := laid1 hch1
                replace hZ := Lib.hid hZ)
             | skip
           replace hWv := Lib.hid hWv
           replace hB1 := Lib.hid hB1
           replace hch1 := Lib.hid hch1)
        | (go_at_call 15
           with_reducible refine (hd.out _ (by with_reducible (first | exact Chg.below hQ1.out | exact Chg.below (hQ1.out.alloc _))) g1.out g2.out g3.out).mono ?_
           rintro e' v2 ⟨f', n', A', l', c', e2', cn', ok', rfl, ⟨qf, qn, qc, qk⟩, hch2⟩
           replace qf := qf.symm
           replace qn := qn.symm
           replace qc := qc.symm
           replace qk := qk.symm
           subst qf qn qc qk
           have hB2 : Bp w.heap.size b 0 a2 1 0 a0 neg A none l c 0 0 v2 := by with_reducible (first | exact hB1.out.chg hch2 | exact (hB1.out.chg ((Chg.refl _ _).alloc _)).chg hch2)
           have hS2 := hB2.cells
           first
             | (have hZ2 := hch2.heapB hZ.out (fun h => h)
                have z0 := cellB hZ2 (i := 0) rfl
                have z1 := cellB hZ2 (i := 1) rfl
                have z2 := cellB hZ2 (i := 2) rfl
                have z3 := cellB hZ2 (i := 3) rfl
                have y0 := frozenB hZ2 0
                have y1 := frozenB hZ2 1
                have y2 := frozenB hZ2 2
                have y3 := frozenB hZ2 3
                replace hZ2 := Lib.hid hZ2)
             | (have hZ2 := laid2 hch2
                have z0 := cellB hZ2 (i := 0) rfl
                have z1 := cellB hZ2 (i := 1) rfl
                have z2 := cellB hZ2 (i := 2) rfl
                have z3 := cellB hZ2 (i := 3) rfl
                have y0 := frozenB hZ2 0
                have y1 := frozenB hZ2 1
                have y2 := frozenB hZ2 2
                have y3 := frozenB hZ2 3
                replace hZ2 := Lib.hid hZ2)
             | skip
           replace hB2 := Lib.hid hB2
           replace hch2 := Lib.hid hch2))
      all_goals
        clear hS0 hS1 hS2 ne0 ne1 me0 me1 hd kw hop hBd hB1 hB2
        first
          | (obtain ⟨V, hV, hE, hq⟩ := pack4 hZ2.out (.int .i64 3) (.bool false) (.slice A' l' c') (.int .i64 e2')
             rw [hV])
          | (obtain ⟨V, hV, hE, hq⟩ := pack1 v2 (.cells #[.int .i64 3, .bool false, .slice A' l' c', .int .i64 e2'] 24 (0, 0))
             rw [hV])
        have l1 := hWv.out
        have hWV : Chg W V (fun _ => False) := by
          with_reducible (first
            | exact (((Chg.refl W (fun _ => False)).drew.trans (hch1.out.mono (fun _ _ h => h.elim))).trans (hch2.out.mono (fun _ _ h => h.elim))).trans (hq.mono (fun _ _ h => h.elim))
            | exact ((((Chg.refl W (fun _ => False)).drew.trans (hch1.out.mono (fun _ _ h => h.elim))).alloc _).trans (hch2.out.mono (fun _ _ h => h.elim))).trans (hq.mono (fun k _ h => .inr (by omega)))
            | exact ((((Chg.refl W (fun _ => False)).alloc _).drew.trans (hch1.out.mono (fun _ _ h => h.elim))).trans (hch2.out.mono (fun _ _ h => h.elim))).trans (hq.mono (fun k _ h => .inr (by omega))))
        clear hV
        try clear z0 z1 z2 z3 y0 y1 y2 y3 hZ2
        try clear hZ
        have hVaV := hWV.heapB hVa3.out (fun h => h)
        have u0 : V.cell? ⟨w2.heap.size, 0, none⟩ = some (.bool a0) := cellB hVaV rfl
        have u1 : V.cell? ⟨w2.heap.size, 1, none⟩ = some (.slice p0 m0 k0) := cellB hVaV rfl
        have u2 : V.cell? ⟨w2.heap.size, 2, none⟩ = some (.int .i64 a2) := cellB hVaV rfl
        have ks := sign_c V a0 p0 m0 k0 a2
        have hm0 : m0 = 0 := by have := e5.out; rw [hN.out, show d16 0 = [] from dB_zero two16] at this; exact this.symm
        subst hm0
        rw [if_pos rfl] at ks
        replace ks := Lib.hid ks
        replace hE := Lib.hid hE
        replace hVaV := Lib.hid hVaV
        replace hWV := Lib.hid hWV
        replace hq := Lib.hid hq
        go_wp2_with fail
        with_reducible refine ks.out.mono ?_
        rintro E v4 ⟨rfl, hb5⟩
        have hc5 := Below.chg hb5
        have hE5 := hc5.heapB hE.out (fun h => h)
        have z0 := cellB (i := 0) (v := .int .i64 3) hE5 rfl
        have z1 := cellB (i := 1) (v := .bool false) hE5 rfl
        replace hE5 := Lib.hid hE5
        clear u0 u1 u2 ks
        go_wp2
        go_ret
        exact ⟨(by first | rfl | (cases a0 <;> cases neg <;> simp) | (simp <;> decide) | (cases a0 <;> cases neg <;> simp <;> decide)), Chg.below (hC.out.trans ((hWV.out.trans (hc5.mono (fun _ _ h => h.elim))).mono (fun _ _ h => h.elim)))⟩
  · rw [decide_eq_false hfit] at kf
    replace kf := Lib.hid kf
    replace hX0 := Lib.hid hX0
    replace hB0 := Lib.hid hB0
    replace hs0 := Lib.hid hs0
    go_wp2_with fail
    with_reducible refine kf.out.mono ?_
    rintro E w1 ⟨rfl, hb1⟩
    go_wp2
    go_ret
    exact ⟨rfl, hB0.out.trans (hb1.mono (by have := hs0.out; omega))⟩
set_option maxRecDepth 100000 in
set_option maxHeartbeats 8000000 in
theorem Inf_2fn (w : World) (op prec mode : Int) (m : Nat) (hmm : mode % 8 = (m : Int)) (neg n : Bool) (A : Option Addr) (l c : Nat) (X : List Nat) (e : Int) (hop : op % 3 = 2) (h1 : 0 ≤ op ∧ op ≤ 255) (h2 : 0 ≤ prec ∧ prec ≤ 255) (h3 : 0 ≤ mode ∧ mode ≤ 255) (hX : RdW w A l c X) (f : Int) (hN : val X ≠ 0)
    (hd : ∀ w1, Below w.heap.size w w1 → l ≤ 3 → -100 ≤ e → e ≤ 100 → Calls Tryz.prog 15 #[.int .i64 2, .agg #[.int .u64 (1 + prec % 60), .int .i64 100000, .int .i64 (-100000), .int .i64 (m : Int)], .agg #[.int .i64 0, .bool n, .slice A l c, .int .i64 e], .agg #[.int .i64 1, .bool neg, .slice none 0 0, .int .i64 0]] w1 (Told w1 (QSp 1 (n != neg) 0))) :
    Calls Tryz.prog 4 #[.int .u8 op, .bool neg, .bool false, .int .u8 prec, .int .u8 mode, .agg #[.int .i64 f, .bool n, .slice A l c, .int .i64 e]] w fun E w' => E = .returned (.bool true) ∧ Below w.heap.size w w' := by
  obtain ⟨h1a, h1b⟩ := h1
  have kw := fun w => wide_c w prec mode m h2 h3 hmm
  replace kw := Lib.hid kw
  replace hd := Lib.hid hd
  clear h2 h3 hmm
  have hlc := hX.cap
  have hcm := hX.max
  replace hX := Lib.hid hX
  replace hN := Lib.hid hN
  go_enter Tryz.func4, Tryz.ntmps4
  go_upto_region 1 with (fail)
  generalize hW : w.alloc (.cells #[.int .i64 f, .bool n, .slice A l c, .int .i64 e] 24 (0, 0)) = W0
  have hB0 : Below w.heap.size w W0 := by rw [← hW]; exact (Below.refl _ _).alloc (Nat.le_refl _) _
  have hX0 : Bx1 w.heap.size f n A l c e W0 := by rw [← hW]; exact allocB _ _
  have hs0 : W0.heap.size = w.heap.size + 1 := by rw [← hW]; simp
  clear hW
  have kf := fits_c W0 f n A l c e
  have c0 := hX0.cells
  obtain ⟨c0, c1, c2, c3⟩ := c0
  by_cases hfit : l ≤ 2147483647
  · rw [decide_eq_true hfit] at kf
    replace kf := Lib.hid kf
    replace hX0 := Lib.hid hX0
    replace hB0 := Lib.hid hB0
    replace hs0 := Lib.hid hs0
    go_wp2_with fail
    with_reducible refine kf.out.mono ?_
    rintro E w1 ⟨rfl, hb1⟩
    have hX1 : Bx1 w.heap.size f n A l c e w1 := hX0.out.chg (Below.chg hb1)
    have hB1 : Below w.heap.size w w1 := hB0.out.trans (hb1.mono (by have := hs0.out; omega))
    have hs1 : w.heap.size + 1 ≤ w1.heap.size := by have := hb1.size; have := hs0.out; omega
    clear c0 c1 c2 c3 kf
    obtain ⟨c0, c1, c2, c3⟩ := hX1.cells
    have kq := finite_c w1 f n A l c X e (hX.out.below hB1)
    replace kq := Lib.hid kq
    replace hX1 := Lib.hid hX1
    replace hB1 := Lib.hid hB1
    replace hs1 := Lib.hid hs1
    clear hb1
    go_wp2_with fail
    with_reducible refine kq.out.mono ?_
    rintro E w2 ⟨a0, p0, m0, k0, a2, ok, rfl, hb2, hfin⟩
    have hX2 : Bx1 w.heap.size f n A l c e w2 := hX1.out.chg (Below.chg hb2)
    have hB2 : Below w.heap.size w w2 := hB1.out.trans (hb2.mono (by have := hs1.out; omega))
    have hs2 : w.heap.size + 1 ≤ w2.heap.size := by have := hb2.size; have := hs1.out; omega
    clear c0 c1 c2 c3 kq hb2
    replace hX2 := Lib.hid hX2
    replace hB2 := Lib.hid hB2
    replace hs2 := Lib.hid hs2
    replace hfin := Lib.hid hfin
    cases ok with
    | false =>
      go_wp2
      go_ret
      exact ⟨rfl, hB2.out.alloc (by have := hs2.out; omega) _⟩
    | true =>
      obtain ⟨g1, g2, g3, rfl, g4, rfl, rfl, hco⟩ := hfin.out rfl
      clear hfin
      replace g1 := Lib.hid g1
      replace g2 := Lib.hid g2
      replace g3 := Lib.hid g3
      replace g4 := Lib.hid g4
      have e5 := hco.rd.len
      have e7 := hco.rd.cap
      have e9 := hco.rd.max
      replace e5 := Lib.hid e5
      clear hco
      go_upto_region 8 with (fail)
      generalize hW : (w2.alloc (.cells #[.bool a0, .slice p0 m0 k0, .int .i64 a2] 29 (0, 0))).alloc (.cells #[.int .i64 1, .bool neg, .slice none 0 0, .int .i64 0] 24 (0, 0)) = W
      have hBW : Below w.heap.size w W := by rw [← hW]; exact (hB2.out.alloc (by have := hs2.out; omega) _).alloc (by have := hs2.out; simp; omega) _
      have hXa : Bx1 w.heap.size 0 a0 A l c a2 W := by rw [← hW]; exact allocB_old (allocB_old hX2.out)
      have hVa3 : W.heap[w2.heap.size]? = some (.cells #[.bool a0, .slice p0 m0 k0, .int .i64 a2] 29 (0, 0)) := by rw [← hW]; exact allocB_old (allocB _ _)
      have hYb : Bx1 (w2.heap.size + 1) 1 neg none 0 0 0 W := by rw [← hW]; exact allocB_at _ _ (by simp)
      have hsW : W.heap.size = w2.heap.size + 2 := by rw [← hW]; simp
      clear hW
      have hlt := hs2.out
      obtain ⟨b, hbe⟩ : ∃ b, w2.heap.size + 1 = b := ⟨_, rfl⟩
      rw [hbe] at hYb ⊢
      have neB : b < W.heap.size := by omega
      have neA : w.heap.size < W.heap.size := by omega
      have hab : w.heap.size ≠ b := by omega
      have hav : w2.heap.size ≠ w.heap.size := by omega
      have hbv : w2.heap.size ≠ b := by omega
      have hlb : w.heap.size ≤ b := by omega
      have v0 : W.cell? ⟨w2.heap.size, 0, none⟩ = some (.bool a0) := cellB hVa3 rfl
      clear hbe hsW hlt
      replace hBW := Lib.hid hBW
      have hP : Bp w.heap.size b 0 a2 1 0 a0 neg A none l c 0 0 W := ⟨hXa, hYb⟩
      have hC := Below.chg hBW.out
      clear hXa hYb hBW
      replace hC := Lib.hid hC
      replace hVa3 := Lib.hid hVa3
      go_wp2_with fail
      clear v0
      have hBx : Bp w.heap.size b 0 a2 1 0 a0 neg A none l c 0 0 W := hP
      have hBd : Bp w.heap.size b 0 a2 1 0 a0 neg A none l c 0 0 W.drew := hP
      have hS0 := hBd.cells
      have ne0 : w.heap.size ≠ W.heap.size := Nat.ne_of_lt neA
      have ne1 : b ≠ W.heap.size := Nat.ne_of_lt neB
      replace neA := Lib.hid neA
      replace neB := Lib.hid neB
      replace hBx := Lib.hid hBx
      replace hBd := Lib.hid hBd
      clear hP
      go_region_held3 (fun w' => w'.cell? ⟨w.heap.size, 0, none⟩ = some (.int .i64 0) ∧ w'.cell? ⟨w.heap.size, 1, none⟩ = some (.bool a0) ∧ w'.cell? ⟨w.heap.size, 2, none⟩ = some (.slice A l c) ∧ w'.cell? ⟨w.heap.size, 3, none⟩ = some (.int .i64 a2) ∧ w'.cell? ⟨b, 0, none⟩ = some (.int .i64 1) ∧ w'.cell? ⟨b, 1, none⟩ = some (.bool neg) ∧ w'.cell? ⟨b, 2, none⟩ = some (.slice none 0 0) ∧ w'.cell? ⟨b, 3, none⟩ = some (.int .i64 0)) (with_reducible (first | exact hS0 | exact hS1 | exact hS2 | exact (hBd.out.chg ((Chg.refl _ _).alloc _)).cells | exact (hBx.out.chg (((Chg.refl _ _).alloc _).drew)).cells | exact (hB1.out.chg ((Chg.refl _ _).alloc _)).cells | exact (hB2.out.chg ((Chg.refl _ _).alloc _)).cells | exact (hB2.out.set4 W.heap.size ne0 ne1 _ _ _ _).cells | exact (hB2.out.set4 v1.heap.size me0 me1 _ _ _ _).cells)) (first
        | (go_at_call 13
           with_reducible refine (kw.out _).mono ?_
           rintro e' v1 ⟨rfl, hch1⟩
           have hB1 : Bp w.heap.size b 0 a2 1 0 a0 neg A none l c 0 0 v1 := by with_reducible (first | exact hBd.out.chg hch1 | exact (hBd.out.chg ((Chg.refl _ _).alloc _)).chg hch1 | exact (hBx.out.chg (((Chg.refl _ _).alloc _).drew)).chg hch1)
           have hS1 := hB1.cells
           have hQ1 : Chg w v1 (fun _ => False) := by with_reducible (first | exact hC.out.drew.trans (hch1.mono (fun _ _ h => h.elim)) | exact (hC.out.drew.alloc _).trans (hch1.mono (fun _ _ h => h.elim)) | exact (hC.out.alloc _).drew.trans (hch1.mono (fun _ _ h => h.elim)))
           replace hQ1 := Lib.hid hQ1
           have hWv : W.heap.size ≤ v1.heap.size := Nat.le_trans (by first | exact Nat.le_refl _ | (rw [World.size_alloc]; omega) | (show _ ≤ (W.alloc _).heap.size; rw [World.size_alloc]; omega)) hch1.size
           have me0 : w.heap.size ≠ v1.heap.size := Nat.ne_of_lt (Nat.lt_of_lt_of_le neA.out hWv)
           have me1 : b ≠ v1.heap.size := Nat.ne_of_lt (Nat.lt_of_lt_of_le neB.out hWv)
           first
             | (have hZ := laid1 hch1
                replace hZ := Lib.hid hZ)
             | skip
           replace hWv := Lib.hid hWv
           replace hB1 := Lib.hid hB1
           replace hch1 := Lib.hid hch1)
        | (go_at_call 15
           with_reducible refine (hd.out _ (by with_reducible (first | exact Chg.below hQ1.out | exact Chg.below (hQ1.out.alloc _))) g1.out g2.out g3.out).mono ?_
           rintro e' v2 ⟨f', n', A', l', c', e2', cn', ok', rfl, ⟨qf, qn, qc, qk⟩, hch2⟩
           replace qf := qf.symm
           replace qn := qn.symm
           replace qc := qc.symm
           replace qk := qk.symm
           subst qf qn qc qk
           have hB2 : Bp w.heap.size b 0 a2 1 0 a0 neg A none l c 0 0 v2 := by with_reducible (first | exact hB1.out.chg hch2 | exact (hB1.out.chg ((Chg.refl _ _).alloc _)).chg hch2)
           have hS2 := hB2.cells
           first
             | (have hZ2 := hch2.heapB hZ.out (fun h => h)
                have z0 := cellB hZ2 (i := 0) rfl
                have z1 := cellB hZ2 (i := 1) rfl
                have z2 := cellB hZ2 (i := 2) rfl
                have z3 := cellB hZ2 (i := 3) rfl
                have y0 := frozenB hZ2 0
                have y1 := frozenB hZ2 1
                have y2 := frozenB hZ2 2
                have y3 := frozenB hZ2 3
                replace hZ2 := Lib.hid hZ2)
             | (have hZ2 := laid2 hch2
                have z0 := cellB hZ2 (i := 0) rfl
                have z1 := cellB hZ2 (i := 1) rfl
                have z2 := cellB hZ2 (i := 2) rfl
                have z3 := cellB hZ2 (i := 3) rfl
                have y0 := frozenB hZ2 0
                have y1 := frozenB hZ2 1
                have y2 := frozenB hZ2 2
                have y3 := frozenB hZ2 3
                replace hZ2 := Lib.hid hZ2)
             | skip
           replace hB2 := Lib.hid hB2
           replace hch2 := Lib.hid hch2))
      all_goals
        clear hS0 hS1 hS2 ne0 ne1 me0 me1 hd kw hop hBd hB1 hB2
        first
          | (obtain ⟨V, hV, hE, hq⟩ := pack4 hZ2.out (.int .i64 1) (.bool (a0 != neg)) (.slice A' l' c') (.int .i64 e2')
             rw [hV])
          | (obtain ⟨V, hV, hE, hq⟩ := pack1 v2 (.cells #[.int .i64 1, .bool (a0 != neg), .slice A' l' c', .int .i64 e2'] 24 (0, 0))
             rw [hV])
        have l1 := hWv.out
        have hWV : Chg W V (fun _ => False) := by
          with_reducible (first
            | exact (((Chg.refl W (fun _ => False)).drew.trans (hch1.out.mono (fun _ _ h => h.elim))).trans (hch2.out.mono (fun _ _ h => h.elim))).trans (hq.mono (fun _ _ h => h.elim))
            | exact ((((Chg.refl W (fun _ => False)).drew.trans (hch1.out.mono (fun _ _ h => h.elim))).alloc _).trans (hch2.out.mono (fun _ _ h => h.elim))).trans (hq.mono (fun k _ h => .inr (by omega)))
            | exact ((((Chg.refl W (fun _ => False)).alloc _).drew.trans (hch1.out.mono (fun _ _ h => h.elim))).trans (hch2.out.mono (fun _ _ h => h.elim))).trans (hq.mono (fun k _ h => .inr (by omega))))
        clear hV
        try clear z0 z1 z2 z3 y0 y1 y2 y3 hZ2
        try clear hZ
        have hVaV := hWV.heapB hVa3.out (fun h => h)
        have u0 : V.cell? ⟨w2.heap.size, 0, none⟩ = some (.bool a0) := cellB hVaV rfl
        have u1 : V.cell? ⟨w2.heap.size, 1, none⟩ = some (.slice p0 m0 k0) := cellB hVaV rfl
        have u2 : V.cell? ⟨w2.heap.size, 2, none⟩ = some (.int .i64 a2) := cellB hVaV rfl
        have ks := sign_c V a0 p0 m0 k0 a2
        have hm0 : m0 ≠ 0 := fun h => by have := e5.out; rw [h] at this; exact hN.out ((dB_eq_nil two16).1 (List.length_eq_zero_iff.1 this))
        have hks : ∃ t : Int, t ≠ 0 ∧ (if m0 = 0 then (0 : Int) else if a0 then -1 else 1) = t := by
          rw [if_neg hm0]; cases a0 <;> simp
        obtain ⟨t, ht, hte⟩ := hks
        rw [hte] at ks
        have et : (t == 0) = false := by simpa using ht
        clear hte
        replace ht := Lib.hid ht
        replace ks := Lib.hid ks
        replace hE := Lib.hid hE
        replace hVaV := Lib.hid hVaV
        replace hWV := Lib.hid hWV
        replace hq := Lib.hid hq
        go_wp2_with fail
        with_reducible refine ks.out.mono ?_
        rintro E v4 ⟨rfl, hb5⟩
        have hc5 := Below.chg hb5
        have hE5 := hc5.heapB hE.out (fun h => h)
        have z0 := cellB (i := 0) (v := .int .i64 1) hE5 rfl
        have z1 := cellB (i := 1) (v := .bool (a0 != neg)) hE5 rfl
        replace hE5 := Lib.hid hE5
        clear u0 u1 u2 ks
        go_wp2
        go_ret
        exact ⟨(by first | rfl | (cases a0 <;> cases neg <;> simp) | (simp <;> decide) | (cases a0 <;> cases neg <;> simp <;> decide)), Chg.below (hC.out.trans ((hWV.out.trans (hc5.mono (fun _ _ h => h.elim))).mono (fun _ _ h => h.elim)))⟩
  · rw [decide_eq_false hfit] at kf
    replace kf := Lib.hid kf
    replace hX0 := Lib.hid hX0
    replace hB0 := Lib.hid hB0
    replace hs0 := Lib.hid hs0
    go_wp2_with fail
    with_reducible refine kf.out.mono ?_
    rintro E w1 ⟨rfl, hb1⟩
    go_wp2
    go_ret
    exact ⟨rfl, hB0.out.trans (hb1.mono (by have := hs0.out; omega))⟩
set_option maxRecDepth 100000 in
set_option maxHeartbeats 8000000 in
theorem Inf_2tz (w : World) (op prec mode : Int) (m : Nat) (hmm : mode % 8 = (m : Int)) (neg n : Bool) (A : Option Addr) (l c : Nat) (X : List Nat) (e : Int) (hop : op % 3 = 2) (h1 : 0 ≤ op ∧ op ≤ 255) (h2 : 0 ≤ prec ∧ prec ≤ 255) (h3 : 0 ≤ mode ∧ mode ≤ 255) (hX : RdW w A l c X) (f : Int) (hN : val X = 0)
    (hd : ∀ w1, Below w.heap.size w w1 → l ≤ 3 → -100 ≤ e → e ≤ 100 → Calls Tryz.prog 15 #[.int .i64 2, .agg #[.int .u64 (1 + prec % 60), .int .i64 100000, .int .i64 (-100000), .int .i64 (m : Int)], .agg #[.int .i64 1, .bool neg, .slice none 0 0, .int .i64 0], .agg #[.int .i64 0, .bool n, .slice A l c, .int .i64 e]] w1 (Told w1 (QSp 3 false 256))) :
    Calls Tryz.prog 4 #[.int .u8 op, .bool neg, .bool true, .int .u8 prec, .int .u8 mode, .agg #[.int .i64 f, .bool n, .slice A l c, .int .i64 e]] w fun E w' => E = .returned (.bool true) ∧ Below w.heap.size w w' := by
  obtain ⟨h1a, h1b⟩ := h1
  have kw := fun w => wide_c w prec mode m h2 h3 hmm
  replace kw := Lib.hid kw
  replace hd := Lib.hid hd
  clear h2 h3 hmm
  have hlc := hX.cap
  have hcm := hX.max
  replace hX := Lib.hid hX
  replace hN := Lib.hid hN
  go_enter Tryz.func4, Tryz.ntmps4
  go_upto_region 1 with (fail)
  generalize hW : w.alloc (.cells #[.int .i64 f, .bool n, .slice A l c, .int .i64 e] 24 (0, 0)) = W0
  have hB0 : Below w.heap.size w W0 := by rw [← hW]; exact (Below.refl _ _).alloc (Nat.le_refl _) _
  have hX0 : Bx1 w.heap.size f n A l c e W0 := by rw [← hW]; exact allocB _ _
  have hs0 : W0.heap.size = w.heap.size + 1 := by rw [← hW]; simp
  clear hW
  have kf := fits_c W0 f n A l c e
  have c0 := hX0.cells
  obtain ⟨c0, c1, c2, c3⟩ := c0
  by_cases hfit : l ≤ 2147483647
  · rw [decide_eq_true hfit] at kf
    replace kf := Lib.hid kf
    replace hX0 := Lib.hid hX0
    replace hB0 := Lib.hid hB0
    replace hs0 := Lib.hid hs0
    go_wp2_with fail
    with_reducible refine kf.out.mono ?_
    rintro E w1 ⟨rfl, hb1⟩
    have hX1 : Bx1 w.heap.size f n A l c e w1 := hX0.out.chg (Below.chg hb1)
    have hB1 : Below w.heap.size w w1 := hB0.out.trans (hb1.mono (by have := hs0.out; omega))
    have hs1 : w.heap.size + 1 ≤ w1.heap.size := by have := hb1.size; have := hs0.out; omega
    clear c0 c1 c2 c3 kf
    obtain ⟨c0, c1, c2, c3⟩ := hX1.cells
    have kq := finite_c w1 f n A l c X e (hX.out.below hB1)
    replace kq := Lib.hid kq
    replace hX1 := Lib.hid hX1
    replace hB1 := Lib.hid hB1
    replace hs1 := Lib.hid hs1
    clear hb1
    go_wp2_with fail
    with_reducible refine kq.out.mono ?_
    rintro E w2 ⟨a0, p0, m0, k0, a2, ok, rfl, hb2, hfin⟩
    have hX2 : Bx1 w.heap.size f n A l c e w2 := hX1.out.chg (Below.chg hb2)
    have hB2 : Below w.heap.size w w2 := hB1.out.trans (hb2.mono (by have := hs1.out; omega))
    have hs2 : w.heap.size + 1 ≤ w2.heap.size := by have := hb2.size; have := hs1.out; omega
    clear c0 c1 c2 c3 kq hb2
    replace hX2 := Lib.hid hX2
    replace hB2 := Lib.hid hB2
    replace hs2 := Lib.hid hs2
    replace hfin := Lib.hid hfin
    cases ok with
    | false =>
      go_wp2
      go_ret
      exact ⟨rfl, hB2.out.alloc (by have := hs2.out; omega) _⟩
    | true =>
      obtain ⟨g1, g2, g3, rfl, g4, rfl, rfl, hco⟩ := hfin.out rfl
      clear hfin
      replace g1 := Lib.hid g1
      replace g2 := Lib.hid g2
      replace g3 := Lib.hid g3
      replace g4 := Lib.hid g4
      have e5 := hco.rd.len
      have e7 := hco.rd.cap
      have e9 := hco.rd.max
      replace e5 := Lib.hid e5
      clear hco
      go_upto_region 8 with (fail)
      generalize hW : (w2.alloc (.cells #[.bool a0, .slice p0 m0 k0, .int .i64 a2] 29 (0, 0))).alloc (.cells #[.int .i64 1, .bool neg, .slice none 0 0, .int .i64 0] 24 (0, 0)) = W
      have hBW : Below w.heap.size w W := by rw [← hW]; exact (hB2.out.alloc (by have := hs2.out; omega) _).alloc (by have := hs2.out; simp; omega) _
      have hXa : Bx1 w.heap.size 0 a0 A l c a2 W := by rw [← hW]; exact allocB_old (allocB_old hX2.out)
      have hVa3 : W.heap[w2.heap.size]? = some (.cells #[.bool a0, .slice p0 m0 k0, .int .i64 a2] 29 (0, 0)) := by rw [← hW]; exact allocB_old (allocB _ _)
      have hYb : Bx1 (w2.heap.size + 1) 1 neg none 0 0 0 W := by rw [← hW]; exact allocB_at _ _ (by simp)
      have hsW : W.heap.size = w2.heap.size + 2 := by rw [← hW]; simp
      clear hW
      have hlt := hs2.out
      obtain ⟨b, hbe⟩ : ∃ b, w2.heap.size + 1 = b := ⟨_, rfl⟩
      rw [hbe] at hYb ⊢
      have neB : b < W.heap.size := by omega
      have neA : w.heap.size < W.heap.size := by omega
      have hab : w.heap.size ≠ b := by omega
      have hav : w2.heap.size ≠ w.heap.size := by omega
      have hbv : w2.heap.size ≠ b := by omega
      have hlb : w.heap.size ≤ b := by omega
      have v0 : W.cell? ⟨w2.heap.size, 0, none⟩ = some (.bool a0) := cellB hVa3 rfl
      clear hbe hsW hlt
      replace hBW := Lib.hid hBW
      obtain ⟨c0, c1, c2, c3⟩ := hXa.cells
      obtain ⟨d0, d1, d2, d3⟩ := hYb.cells
      have i0 := frozenB hXa 0
      have i1 := frozenB hXa 1
      have i2 := frozenB hXa 2
      have i3 := frozenB hXa 3
      have j0 := frozenB hYb 0
      have j1 := frozenB hYb 1
      have j2 := frozenB hYb 2
      have j3 := frozenB hYb 3
      replace hXa := Lib.hid hXa
      replace hYb := Lib.hid hYb
      replace hVa3 := Lib.hid hVa3
      go_upto_region 12 with (fail)
      have e1 := end4 hXa.out (.int .i64 1) (.bool neg) (.slice none 0 0) (.int .i64 0)
      have q1 := chg4 W w.heap.size (.int .i64 1) (.bool neg) (.slice none 0 0) (.int .i64 0)
      have hYb1 := q1.heapB hYb.out (fun h => hab h.symm)
      have hVa4 := q1.heapB hVa3.out hav
      clear c0 c1 c2 c3 d0 d1 d2 d3 i0 i1 i2 i3 j0 j1 j2 j3 v0 hVa3
      generalize hV1 : (((W.setCell ⟨w.heap.size, 0, none⟩ (.int .i64 1)).setCell ⟨w.heap.size, 1, none⟩ (.bool neg)).setCell ⟨w.heap.size, 2, none⟩ (.slice none 0 0)).setCell ⟨w.heap.size, 3, none⟩ (.int .i64 0) = V1 at e1 q1 hYb1 hVa4 ⊢
      have e2 := end4 hYb1 (.int .i64 0) (.bool a0) (.slice A l c) (.int .i64 a2)
      have q2 := chg4 V1 b (.int .i64 0) (.bool a0) (.slice A l c) (.int .i64 a2)
      have e3 := q2.heapB e1 hab
      have hVa3 := q2.heapB hVa4 hbv
      have hs1' : V1.heap.size = W.heap.size := by rw [← hV1]; simp
      clear hV1
      generalize hV2 : (((V1.setCell ⟨b, 0, none⟩ (.int .i64 0)).setCell ⟨b, 1, none⟩ (.bool a0)).setCell ⟨b, 2, none⟩ (.slice A l c)).setCell ⟨b, 3, none⟩ (.int .i64 a2) = V2 at e2 e3 q2 hVa3 ⊢
      have hs2' : V2.heap.size = V1.heap.size := by rw [← hV2]; simp
      clear hV2
      have hP : Bp w.heap.size b 1 0 0 a2 neg a0 none A 0 0 l c V2 := ⟨e3, e2⟩
      have hC : Chg w V2 (fun _ => False) := ((Below.chg hBW.out).trans (q1.mono (fun k _ h => .inr (by omega)))).trans (q2.mono (fun k _ h => .inr (by omega)))
      rw [← hs1', ← hs2'] at neA neB
      have v0 : V2.cell? ⟨w2.heap.size, 0, none⟩ = some (.bool a0) := cellB hVa3 rfl
      clear hXa hYb hBW e1 e2 e3 q1 q2 hYb1 hVa4 hs1' hs2'
      replace hC := Lib.hid hC
      replace hVa3 := Lib.hid hVa3
      go_wp2_with fail
      clear v0
      have hBx : Bp w.heap.size b 1 0 0 a2 neg a0 none A 0 0 l c V2 := hP
      have hBd : Bp w.heap.size b 1 0 0 a2 neg a0 none A 0 0 l c V2.drew := hP
      have hS0 := hBd.cells
      have ne0 : w.heap.size ≠ V2.heap.size := Nat.ne_of_lt neA
      have ne1 : b ≠ V2.heap.size := Nat.ne_of_lt neB
      replace neA := Lib.hid neA
      replace neB := Lib.hid neB
      replace hBx := Lib.hid hBx
      replace hBd := Lib.hid hBd
      clear hP
      go_region_held3 (fun w' => w'.cell? ⟨w.heap.size, 0, none⟩ = some (.int .i64 1) ∧ w'.cell? ⟨w.heap.size, 1, none⟩ = some (.bool neg) ∧ w'.cell? ⟨w.heap.size, 2, none⟩ = some (.slice none 0 0) ∧ w'.cell? ⟨w.heap.size, 3, none⟩ = some (.int .i64 0) ∧ w'.cell? ⟨b, 0, none⟩ = some (.int .i64 0) ∧ w'.cell? ⟨b, 1, none⟩ = some (.bool a0) ∧ w'.cell? ⟨b, 2, none⟩ = some (.slice A l c) ∧ w'.cell? ⟨b, 3, none⟩ = some (.int .i64 a2)) (with_reducible (first | exact hS0 | exact hS1 | exact hS2 | exact (hBd.out.chg ((Chg.refl _ _).alloc _)).cells | exact (hBx.out.chg (((Chg.refl _ _).alloc _).drew)).cells | exact (hB1.out.chg ((Chg.refl _ _).alloc _)).cells | exact (hB2.out.chg ((Chg.refl _ _).alloc _)).cells | exact (hB2.out.set4 V2.heap.size ne0 ne1 _ _ _ _).cells | exact (hB2.out.set4 v1.heap.size me0 me1 _ _ _ _).cells)) (first
        | (go_at_call 13
           with_reducible refine (kw.out _).mono ?_
           rintro e' v1 ⟨rfl, hch1⟩
           have hB1 : Bp w.heap.size b 1 0 0 a2 neg a0 none A 0 0 l c v1 := by with_reducible (first | exact hBd.out.chg hch1 | exact (hBd.out.chg ((Chg.refl _ _).alloc _)).chg hch1 | exact (hBx.out.chg (((Chg.refl _ _).alloc _).drew)).chg hch1)
           have hS1 := hB1.cells
           have hQ1 : Chg w v1 (fun _ => False) := by with_reducible (first | exact hC.out.drew.trans (hch1.mono (fun _ _ h => h.elim)) | exact (hC.out.drew.alloc _).trans (hch1.mono (fun _ _ h => h.elim)) | exact (hC.out.alloc _).drew.trans (hch1.mono (fun _ _ h => h.elim)))
           replace hQ1 := Lib.hid hQ1
           have hWv : V2.heap.size ≤ v1.heap.size := Nat.le_trans (by first | exact Nat.le_refl _ | (rw [World.size_alloc]; omega) | (show _ ≤ (V2.alloc _).heap.size; rw [World.size_alloc]; omega)) hch1.size
           have me0 : w.heap.size ≠ v1.heap.size := Nat.ne_of_lt (Nat.lt_of_lt_of_le neA.out hWv)
           have me1 : b ≠ v1.heap.size := Nat.ne_of_lt (Nat.lt_of_lt_of_le neB.out hWv)
           first
             | (have hZ := laid1 hch1
                replace hZ := Lib.hid hZ)
             | skip
           replace hWv := Lib.hid hWv
           replace hB1 := Lib.hid hB1
           replace hch1 := Lib.hid hch1)
        | (go_at_call 15
           with_reducible refine (hd.out _ (by with_reducible (first | exact Chg.below hQ1.out | exact Chg.below (hQ1.out.alloc _))) g1.out g2.out g3.out).mono ?_
           rintro e' v2 ⟨f', n', A', l', c', e2', cn', ok', rfl, ⟨qf, qn, qc, qk⟩, hch2⟩
           replace qf := qf.symm
           replace qn := qn.symm
           replace qc := qc.symm
           replace qk := qk.symm
           subst qf qn qc qk
           have hB2 : Bp w.heap.size b 1 0 0 a2 neg a0 none A 0 0 l c v2 := by with_reducible (first | exact hB1.out.chg hch2 | exact (hB1.out.chg ((Chg.refl _ _).alloc _)).chg hch2)
           have hS2 := hB2.cells
           first
             | (have hZ2 := hch2.heapB hZ.out (fun h => h)
                have z0 := cellB hZ2 (i := 0) rfl
                have z1 := cellB hZ2 (i := 1) rfl
                have z2 := cellB hZ2 (i := 2) rfl
                have z3 := cellB hZ2 (i := 3) rfl
                have y0 := frozenB hZ2 0
                have y1 := frozenB hZ2 1
                have y2 := frozenB hZ2 2
                have y3 := frozenB hZ2 3
                replace hZ2 := Lib.hid hZ2)
             | (have hZ2 := laid2 hch2
                have z0 := cellB hZ2 (i := 0) rfl
                have z1 := cellB hZ2 (i := 1) rfl
                have z2 := cellB hZ2 (i := 2) rfl
                have z3 := cellB hZ2 (i := 3) rfl
                have y0 := frozenB hZ2 0
                have y1 := frozenB hZ2 1
                have y2 := frozenB hZ2 2
                have y3 := frozenB hZ2 3
                replace hZ2 := Lib.hid hZ2)
             | skip
           replace hB2 := Lib.hid hB2
           replace hch2 := Lib.hid hch2))
      all_goals
        clear hS0 hS1 hS2 ne0 ne1 me0 me1 hd kw hop hBd hB1 hB2
        first
          | (obtain ⟨V, hV, hE, hq⟩ := pack4 hZ2.out (.int .i64 3) (.bool false) (.slice A' l' c') (.int .i64 e2')
             rw [hV])
          | (obtain ⟨V, hV, hE, hq⟩ := pack1 v2 (.cells #[.int .i64 3, .bool false, .slice A' l' c', .int .i64 e2'] 24 (0, 0))
             rw [hV])
        have l1 := hWv.out
        have hWV : Chg V2 V (fun _ => False) := by
          with_reducible (first
            | exact (((Chg.refl V2 (fun _ => False)).drew.trans (hch1.out.mono (fun _ _ h => h.elim))).trans (hch2.out.mono (fun _ _ h => h.elim))).trans (hq.mono (fun _ _ h => h.elim))
            | exact ((((Chg.refl V2 (fun _ => False)).drew.trans (hch1.out.mono (fun _ _ h => h.elim))).alloc _).trans (hch2.out.mono (fun _ _ h => h.elim))).trans (hq.mono (fun k _ h => .inr (by omega)))
            | exact ((((Chg.refl V2 (fun _ => False)).alloc _).drew.trans (hch1.out.mono (fun _ _ h => h.elim))).trans (hch2.out.mono (fun _ _ h => h.elim))).trans (hq.mono (fun k _ h => .inr (by omega))))
        clear hV
        try clear z0 z1 z2 z3 y0 y1 y2 y3 hZ2
        try clear hZ
        have hVaV := hWV.heapB hVa3.out (fun h => h)
        have u0 : V.cell? ⟨w2.heap.size, 0, none⟩ = some (.bool a0) := cellB hVaV rfl
        have u1 : V.cell? ⟨w2.heap.size, 1, none⟩ = some (.slice p0 m0 k0) := cellB hVaV rfl
        have u2 : V.cell? ⟨w2.heap.size, 2, none⟩ = some (.int .i64 a2) := cellB hVaV rfl
        have ks := sign_c V a0 p0 m0 k0 a2
        have hm0 : m0 = 0 := by have := e5.out; rw [hN.out, show d16 0 = [] from dB_zero two16] at this; exact this.symm
        subst hm0
        rw [if_pos rfl] at ks
        replace ks := Lib.hid ks
        replace hE := Lib.hid hE
        replace hVaV := Lib.hid hVaV
        replace hWV := Lib.hid hWV
        replace hq := Lib.hid hq
        go_wp2_with fail
        with_reducible refine ks.out.mono ?_
        rintro E v4 ⟨rfl, hb5⟩
        have hc5 := Below.chg hb5
        have hE5 := hc5.heapB hE.out (fun h => h)
        have z0 := cellB (i := 0) (v := .int .i64 3) hE5 rfl
        have z1 := cellB (i := 1) (v := .bool false) hE5 rfl
        replace hE5 := Lib.hid hE5
        clear u0 u1 u2 ks
        go_wp2
        go_ret
        exact ⟨(by first | rfl | (cases a0 <;> cases neg <;> simp) | (simp <;> decide) | (cases a0 <;> cases neg <;> simp <;> decide)), Chg.below (hC.out.trans ((hWV.out.trans (hc5.mono (fun _ _ h => h.elim))).mono (fun _ _ h => h.elim)))⟩
  · rw [decide_eq_false hfit] at kf
    replace kf := Lib.hid kf
    replace hX0 := Lib.hid hX0
    replace hB0 := Lib.hid hB0
    replace hs0 := Lib.hid hs0
    go_wp2_with fail
    with_reducible refine kf.out.mono ?_
    rintro E w1 ⟨rfl, hb1⟩
    go_wp2
    go_ret
    exact ⟨rfl, hB0.out.trans (hb1.mono (by have := hs0.out; omega))⟩
set_option maxRecDepth 100000 in
set_option maxHeartbeats 8000000 in
theorem Inf_2tn (w : World) (op prec mode : Int) (m : Nat) (hmm : mode % 8 = (m : Int)) (neg n : Bool) (A : Option Addr) (l c : Nat) (X : List Nat) (e : Int) (hop : op % 3 = 2) (h1 : 0 ≤ op ∧ op ≤ 255) (h2 : 0 ≤ prec ∧ prec ≤ 255) (h3 : 0 ≤ mode ∧ mode ≤ 255) (hX : RdW w A l c X) (f : Int) (hN : val X ≠ 0)
    (hd : ∀ w1, Below w.heap.size w w1 → l ≤ 3 → -100 ≤ e → e ≤ 100 → Calls Tryz.prog 15 #[.int .i64 2, .agg #[.int .u64 (1 + prec % 60), .int .i64 100000, .int .i64 (-100000), .int .i64 (m : Int)], .agg #[.int .i64 1, .bool neg, .slice none 0 0, .int .i64 0], .agg #[.int .i64 0, .bool n, .slice A l c, .int .i64 e]] w1 (Told w1 (QSp 1 (neg != n) 0))) :
    Calls Tryz.prog 4 #[.int .u8 op, .bool neg, .bool true, .int .u8 prec, .int .u8 mode, .agg #[.int .i64 f, .bool n, .slice A l c, .int .i64 e]] w fun E w' => E = .returned (.bool true) ∧ Below w.heap.size w w' := by
  obtain ⟨h1a, h1b⟩ := h1
  have kw := fun w => wide_c w prec mode m h2 h3 hmm
  replace kw := Lib.hid kw
  replace hd := Lib.hid hd
  clear h2 h3 hmm
  have hlc := hX.cap
  have hcm := hX.max
  replace hX := Lib.hid hX
  replace hN := Lib.hid hN
  go_enter Tryz.func4, Tryz.ntmps4
  go_upto_region 1 with (fail)
  generalize hW : w.alloc (.cells #[.int .i64 f, .bool n, .slice A l c, .int .i64 e] 24 (0, 0)) = W0
  have hB0 : Below w.heap.size w W0 := by rw [← hW]; exact (Below.refl _ _).alloc (Nat.le_refl _) _
  have hX0 : Bx1 w.heap.size f n A l c e W0 := by rw [← hW]; exact allocB _ _
  have hs0 : W0.heap.size = w.heap.size + 1 := by rw [← hW]; simp
  clear hW
  have kf := fits_c W0 f n A l c e
  have c0 := hX0.cells
  obtain ⟨c0, c1, c2, c3⟩ := c0
  by_cases hfit : l ≤ 2147483647
  · rw [decide_eq_true hfit] at kf
    replace kf := Lib.hid kf
    replace hX0 := Lib.hid hX0
    replace hB0 := Lib.hid hB0
    replace hs0 := Lib.hid hs0
    go_wp2_with fail
    with_reducible refine kf.out.mono ?_
    rintro E w1 ⟨rfl, hb1⟩
    have hX1 : Bx1 w.heap.size f n A l c e w1 := hX0.out.chg (Below.chg hb1)
    have hB1 : Below w.heap.size w w1 := hB0.out.trans (hb1.mono (by have := hs0.out; omega))
    have hs1 : w.heap.size + 1 ≤ w1.heap.size := by have := hb1.size; have := hs0.out; omega
    clear c0 c1 c2 c3 kf
    obtain ⟨c0, c1, c2, c3⟩ := hX1.cells
    have kq := finite_c w1 f n A l c X e (hX.out.below hB1)
    replace kq := Lib.hid kq
    replace hX1 := Lib.hid hX1
    replace hB1 := Lib.hid hB1
    replace hs1 := Lib.hid hs1
    clear hb1
    go_wp2_with fail
    with_reducible refine kq.out.mono ?_
    rintro E w2 ⟨a0, p0, m0, k0, a2, ok, rfl, hb2, hfin⟩
    have hX2 : Bx1 w.heap.size f n A l c e w2 := hX1.out.chg (Below.chg hb2)
    have hB2 : Below w.heap.size w w2 := hB1.out.trans (hb2.mono (by have := hs1.out; omega))
    have hs2 : w.heap.size + 1 ≤ w2.heap.size := by have := hb2.size; have := hs1.out; omega
    clear c0 c1 c2 c3 kq hb2
    replace hX2 := Lib.hid hX2
    replace hB2 := Lib.hid hB2
    replace hs2 := Lib.hid hs2
    replace hfin := Lib.hid hfin
    cases ok with
    | false =>
      go_wp2
      go_ret
      exact ⟨rfl, hB2.out.alloc (by have := hs2.out; omega) _⟩
    | true =>
      obtain ⟨g1, g2, g3, rfl, g4, rfl, rfl, hco⟩ := hfin.out rfl
      clear hfin
      replace g1 := Lib.hid g1
      replace g2 := Lib.hid g2
      replace g3 := Lib.hid g3
      replace g4 := Lib.hid g4
      have e5 := hco.rd.len
      have e7 := hco.rd.cap
      have e9 := hco.rd.max
      replace e5 := Lib.hid e5
      clear hco
      go_upto_region 8 with (fail)
      generalize hW : (w2.alloc (.cells #[.bool a0, .slice p0 m0 k0, .int .i64 a2] 29 (0, 0))).alloc (.cells #[.int .i64 1, .bool neg, .slice none 0 0, .int .i64 0] 24 (0, 0)) = W
      have hBW : Below w.heap.size w W := by rw [← hW]; exact (hB2.out.alloc (by have := hs2.out; omega) _).alloc (by have := hs2.out; simp; omega) _
      have hXa : Bx1 w.heap.size 0 a0 A l c a2 W := by rw [← hW]; exact allocB_old (allocB_old hX2.out)
      have hVa3 : W.heap[w2.heap.size]? = some (.cells #[.bool a0, .slice p0 m0 k0, .int .i64 a2] 29 (0, 0)) := by rw [← hW]; exact allocB_old (allocB _ _)
      have hYb : Bx1 (w2.heap.size + 1) 1 neg none 0 0 0 W := by rw [← hW]; exact allocB_at _ _ (by simp)
      have hsW : W.heap.size = w2.heap.size + 2 := by rw [← hW]; simp
      clear hW
      have hlt := hs2.out
      obtain ⟨b, hbe⟩ : ∃ b, w2.heap.size + 1 = b := ⟨_, rfl⟩
      rw [hbe] at hYb ⊢
      have neB : b < W.heap.size := by omega
      have neA : w.heap.size < W.heap.size := by omega
      have hab : w.heap.size ≠ b := by omega
      have hav : w2.heap.size ≠ w.heap.size := by omega
      have hbv : w2.heap.size ≠ b := by omega
      have hlb : w.heap.size ≤ b := by omega
      have v0 : W.cell? ⟨w2.heap.size, 0, none⟩ = some (.bool a0) := cellB hVa3 rfl
      clear hbe hsW hlt
      replace hBW := Lib.hid hBW
      obtain ⟨c0, c1, c2, c3⟩ := hXa.cells
      obtain ⟨d0, d1, d2, d3⟩ := hYb.cells
      have i0 := frozenB hXa 0
      have i1 := frozenB hXa 1
      have i2 := frozenB hXa 2
      have i3 := frozenB hXa 3
      have j0 := frozenB hYb 0
      have j1 := frozenB hYb 1
      have j2 := frozenB hYb 2
      have j3 := frozenB hYb 3
      replace hXa := Lib.hid hXa
      replace hYb := Lib.hid hYb
      replace hVa3 := Lib.hid hVa3
      go_upto_region 12 with (fail)
      have e1 := end4 hXa.out (.int .i64 1) (.bool neg) (.slice none 0 0) (.int .i64 0)
      have q1 := chg4 W w.heap.size (.int .i64 1) (.bool neg) (.slice none 0 0) (.int .i64 0)
      have hYb1 := q1.heapB hYb.out (fun h => hab h.symm)
      have hVa4 := q1.heapB hVa3.out hav
      clear c0 c1 c2 c3 d0 d1 d2 d3 i0 i1 i2 i3 j0 j1 j2 j3 v0 hVa3
      generalize hV1 : (((W.setCell ⟨w.heap.size, 0, none⟩ (.int .i64 1)).setCell ⟨w.heap.size, 1, none⟩ (.bool neg)).setCell ⟨w.heap.size, 2, none⟩ (.slice none 0 0)).setCell ⟨w.heap.size, 3, none⟩ (.int .i64 0) = V1 at e1 q1 hYb1 hVa4 ⊢
      have e2 := end4 hYb1 (.int .i64 0) (.bool a0) (.slice A l c) (.int .i64 a2)
      have q2 := chg4 V1 b (.int .i64 0) (.bool a0) (.slice A l c) (.int .i64 a2)
      have e3 := q2.heapB e1 hab
      have hVa3 := q2.heapB hVa4 hbv
      have hs1' : V1.heap.size = W.heap.size := by rw [← hV1]; simp
      clear hV1
      generalize hV2 : (((V1.setCell ⟨b, 0, none⟩ (.int .i64 0)).setCell ⟨b, 1, none⟩ (.bool a0)).setCell ⟨b, 2, none⟩ (.slice A l c)).setCell ⟨b, 3, none⟩ (.int .i64 a2) = V2 at e2 e3 q2 hVa3 ⊢
      have hs2' : V2.heap.size = V1.heap.size := by rw [← hV2]; simp
      clear hV2
      have hP : Bp w.heap.size b 1 0 0 a2 neg a0 none A 0 0 l c V2 := ⟨e3, e2⟩
      have hC : Chg w V2 (fun _ => False) := ((Below.chg hBW.out).trans (q1.mono (fun k _ h => .inr (by omega)))).trans (q2.mono (fun k _ h => .inr (by omega)))
      rw [← hs1', ← hs2'] at neA neB
      have v0 : V2.cell? ⟨w2.heap.size, 0, none⟩ = some (.bool a0) := cellB hVa3 rfl
      clear hXa hYb hBW e1 e2 e3 q1 q2 hYb1 hVa4 hs1' hs2'
      replace hC := Lib.hid hC
      replace hVa3 := Lib.hid hVa3
      go_wp2_with fail
      clear v0
      have hBx : Bp w.heap.size b 1 0 0 a2 neg a0 none A 0 0 l c V2 := hP
      have hBd : Bp w.heap.size b 1 0 0 a2 neg a0 none A 0 0 l c V2.drew := hP
      have hS0 := hBd.cells
      have ne0 : w.heap.size ≠ V2.heap.size := Nat.ne_of_lt neA
      have ne1 : b ≠ V2.heap.size := Nat.ne_of_lt neB
      replace neA := Lib.hid neA
      replace neB := Lib.hid neB
      replace hBx := Lib.hid hBx
      replace hBd := Lib.hid hBd
      clear hP
      go_region_held3 (fun w' => w'.cell? ⟨w.heap.size, 0, none⟩ = some (.int .i64 1) ∧ w'.cell? ⟨w.heap.size, 1, none⟩ = some (.bool neg) ∧ w'.cell? ⟨w.heap.size, 2, none⟩ = some (.slice none 0 0) ∧ w'.cell? ⟨w.heap.size, 3, none⟩ = some (.int .i64 0) ∧ w'.cell? ⟨b, 0, none⟩ = some (.int .i64 0) ∧ w'.cell? ⟨b, 1, none⟩ = some (.bool a0) ∧ w'.cell? ⟨b, 2, none⟩ = some (.slice A l c) ∧ w'.cell? ⟨b, 3, none⟩ = some (.int .i64 a2)) (with_reducible (first | exact hS0 | exact hS1 | exact hS2 | exact (hBd.out.chg ((Chg.refl _ _).alloc _)).cells | exact (hBx.out.chg (((Chg.refl _ _).alloc _).drew)).cells | exact (hB1.out.chg ((Chg.refl _ _).alloc _)).cells | exact (hB2.out.chg ((Chg.refl _ _).alloc _)).cells | exact (hB2.out.set4 V2.heap.size ne0 ne1 _ _ _ _).cells | exact (hB2.out.set4 v1.heap.size me0 me1 _ _ _ _).cells)) (first
        | (go_at_call 13
           with_reducible refine (kw.out _).mono ?_
           rintro e' v1 ⟨rfl, hch1⟩
           have hB1 : Bp w.heap.size b 1 0 0 a2 neg a0 none A 0 0 l c v1 := by with_reducible (first | exact hBd.out.chg hch1 | exact (hBd.out.chg ((Chg.refl _ _).alloc _)).chg hch1 | exact (hBx.out.chg (((Chg.refl _ _).alloc _).drew)).chg hch1)
           have hS1 := hB1.cells
           have hQ1 : Chg w v1 (fun _ => False) := by with_reducible (first | exact hC.out.drew.trans (hch1.mono (fun _ _ h => h.elim)) | exact (hC.out.drew.alloc _).trans (hch1.mono (fun _ _ h => h.elim)) | exact (hC.out.alloc _).drew.trans (hch1.mono (fun _ _ h => h.elim)))
           replace hQ1 := Lib.hid hQ1
           have hWv : V2.heap.size ≤ v1.heap.size := Nat.le_trans (by first | exact Nat.le_refl _ | (rw [World.size_alloc]; omega) | (show _ ≤ (V2.alloc _).heap.size; rw [World.size_alloc]; omega)) hch1.size
           have me0 : w.heap.size ≠ v1.heap.size := Nat.ne_of_lt (Nat.lt_of_lt_of_le neA.out hWv)
           have me1 : b ≠ v1.heap.size := Nat.ne_of_lt (Nat.lt_of_lt_of_le neB.out hWv)
           first
             | (have hZ := laid1 hch1
                replace hZ := Lib.hid hZ)
             | skip
           replace hWv := Lib.hid hWv
           replace hB1 := Lib.hid hB1
           replace hch1 := Lib.hid hch1)
        | (go_at_call 15
           with_reducible refine (hd.out _ (by with_reducible (first | exact Chg.below hQ1.out | exact Chg.below (hQ1.out.alloc _))) g1.out g2.out g3.out).mono ?_
           rintro e' v2 ⟨f', n', A', l', c', e2', cn', ok', rfl, ⟨qf, qn, qc, qk⟩, hch2⟩
           replace qf := qf.symm
           replace qn := qn.symm
           replace qc := qc.symm
           replace qk := qk.symm
           subst qf qn qc qk
           have hB2 : Bp w.heap.size b 1 0 0 a2 neg a0 none A 0 0 l c v2 := by with_reducible (first | exact hB1.out.chg hch2 | exact (hB1.out.chg ((Chg.refl _ _).alloc _)).chg hch2)
           have hS2 := hB2.cells
           first
             | (have hZ2 := hch2.heapB hZ.out (fun h => h)
                have z0 := cellB hZ2 (i := 0) rfl
                have z1 := cellB hZ2 (i := 1) rfl
                have z2 := cellB hZ2 (i := 2) rfl
                have z3 := cellB hZ2 (i := 3) rfl
                have y0 := frozenB hZ2 0
                have y1 := frozenB hZ2 1
                have y2 := frozenB hZ2 2
                have y3 := frozenB hZ2 3
                replace hZ2 := Lib.hid hZ2)
             | (have hZ2 := laid2 hch2
                have z0 := cellB hZ2 (i := 0) rfl
                have z1 := cellB hZ2 (i := 1) rfl
                have z2 := cellB hZ2 (i := 2) rfl
                have z3 := cellB hZ2 (i := 3) rfl
                have y0 := frozenB hZ2 0
                have y1 := frozenB hZ2 1
                have y2 := frozenB hZ2 2
                have y3 := frozenB hZ2 3
                replace hZ2 := Lib.hid hZ2)
             | skip
           replace hB2 := Lib.hid hB2
           replace hch2 := Lib.hid hch2))
      all_goals
        clear hS0 hS1 hS2 ne0 ne1 me0 me1 hd kw hop hBd hB1 hB2
        first
          | (obtain ⟨V, hV, hE, hq⟩ := pack4 hZ2.out (.int .i64 1) (.bool (neg != a0)) (.slice A' l' c') (.int .i64 e2')
             rw [hV])
          | (obtain ⟨V, hV, hE, hq⟩ := pack1 v2 (.cells #[.int .i64 1, .bool (neg != a0), .slice A' l' c', .int .i64 e2'] 24 (0, 0))
             rw [hV])
        have l1 := hWv.out
        have hWV : Chg V2 V (fun _ => False) := by
          with_reducible (first
            | exact (((Chg.refl V2 (fun _ => False)).drew.trans (hch1.out.mono (fun _ _ h => h.elim))).trans (hch2.out.mono (fun _ _ h => h.elim))).trans (hq.mono (fun _ _ h => h.elim))
            | exact ((((Chg.refl V2 (fun _ => False)).drew.trans (hch1.out.mono (fun _ _ h => h.elim))).alloc _).trans (hch2.out.mono (fun _ _ h => h.elim))).trans (hq.mono (fun k _ h => .inr (by omega)))
            | exact ((((Chg.refl V2 (fun _ => False)).alloc _).drew.trans (hch1.out.mono (fun _ _ h => h.elim))).trans (hch2.out.mono (fun _ _ h => h.elim))).trans (hq.mono (fun k _ h => .inr (by omega))))
        clear hV
        try clear z0 z1 z2 z3 y0 y1 y2 y3 hZ2
        try clear hZ
        have hVaV := hWV.heapB hVa3.out (fun h => h)
        have u0 : V.cell? ⟨w2.heap.size, 0, none⟩ = some (.bool a0) := cellB hVaV rfl
        have u1 : V.cell? ⟨w2.heap.size, 1, none⟩ = some (.slice p0 m0 k0) := cellB hVaV rfl
        have u2 : V.cell? ⟨w2.heap.size, 2, none⟩ = some (.int .i64 a2) := cellB hVaV rfl
        have ks := sign_c V a0 p0 m0 k0 a2
        have hm0 : m0 ≠ 0 := fun h => by have := e5.out; rw [h] at this; exact hN.out ((dB_eq_nil two16).1 (List.length_eq_zero_iff.1 this))
        have hks : ∃ t : Int, t ≠ 0 ∧ (if m0 = 0 then (0 : Int) else if a0 then -1 else 1) = t := by
          rw [if_neg hm0]; cases a0 <;> simp
        obtain ⟨t, ht, hte⟩ := hks
        rw [hte] at ks
        have et : (t == 0) = false := by simpa using ht
        clear hte
        replace ht := Lib.hid ht
        replace ks := Lib.hid ks
        replace hE := Lib.hid hE
        replace hVaV := Lib.hid hVaV
        replace hWV := Lib.hid hWV
        replace hq := Lib.hid hq
        go_wp2_with fail
        with_reducible refine ks.out.mono ?_
        rintro E v4 ⟨rfl, hb5⟩
        have hc5 := Below.chg hb5
        have hE5 := hc5.heapB hE.out (fun h => h)
        have z0 := cellB (i := 0) (v := .int .i64 1) hE5 rfl
        have z1 := cellB (i := 1) (v := .bool (neg != a0)) hE5 rfl
        replace hE5 := Lib.hid hE5
        clear u0 u1 u2 ks
        go_wp2
        go_ret
        exact ⟨(by first | rfl | (cases a0 <;> cases neg <;> simp) | (simp <;> decide) | (cases a0 <;> cases neg <;> simp <;> decide)), Chg.below (hC.out.trans ((hWV.out.trans (hc5.mono (fun _ _ h => h.elim))).mono (fun _ _ h => h.elim)))⟩
  · rw [decide_eq_false hfit] at kf
    replace kf := Lib.hid kf
    replace hX0 := Lib.hid hX0
    replace hB0 := Lib.hid hB0
    replace hs0 := Lib.hid hs0
    go_wp2_with fail
    with_reducible refine kf.out.mono ?_
    rintro E w1 ⟨rfl, hb1⟩
    go_wp2
    go_ret
    exact ⟨rfl, hB0.out.trans (hb1.mono (by have := hs0.out; omega))⟩

theorem FnInfinite_walk (op : Int) (neg second : Bool) (prec mode : Int) (f : Int) (n : Bool) (A : Option Addr) (l c : Nat) (X : List Nat) (e : Int) (w : World) (h1 : 0 ≤ op ∧ op ≤ 255) (h2 : 0 ≤ prec ∧ prec ≤ 255) (h3 : 0 ≤ mode ∧ mode ≤ 255) (hx : DecIn w f A l c X e) :
    Calls Tryz.prog 4 #[.int .u8 op, .bool neg, .bool second, .int .u8 prec, .int .u8 mode, .agg #[.int .i64 f, .bool n, .slice A l c, .int .i64 e]] w fun E w' => E = .returned (.bool true) ∧ Below w.heap.size w w' := by
  obtain ⟨m, hmm⟩ : ∃ m : Nat, mode % 8 = (m : Int) := ⟨(mode % 8).toNat, by omega⟩
  have hm : m < 8 := by omega
  have hp : 0 ≤ 1 + prec % 60 ∧ 1 + prec % 60 ≤ 4294967295 := by omega
  rcases (by omega : op % 3 = 0 ∨ op % 3 = 1 ∨ op % 3 = 2) with hk | hk | hk
  · cases second with
    | false =>
      refine Inf_0f w op prec mode m hmm neg n A l c X e hk h1 h2 h3 hx.rd f (fun w1 hb hl he1 he2 => ?_)
      have hr := hx.rd.below hb
      refine did0_c w1 _ _ _ m 0 e 1 0 n neg A none l c 0 0 _ QSp.st ?_
      intro w1' hc1
      have h := implAdd_c w1' (1 + prec % 60) 100000 (-100000) m 0 e 1 0 n neg A none l c 0 0 (PF n e (val X)) (fun w k => DecZ w k 1 neg 0) 0 1 neg hm hp (by omega) (by omega) (by omega) (by omega) PF.st (stS _ _)
        (fun w2 hc2 => madeP w2 n A l c X e ((hr.chg hc1).chg hc2) (by omega) (by omega)) (fun w2 _ => madeS w2 1 neg (by omega) _ _ _ _)
        (fun w2 c2 d x y _ hcx hdd hx hy hdx hdy hdc hxy => by
          obtain ⟨o, ho⟩ := hx
          exact by
            have h := addInfy_c w2 c2 d x y 0 0 0 false n neg false hdd hy ho.c0 ho.c1
            rw [show (neg != false) = neg by cases neg <;> rfl] at h
            exact cAdd_of w2 c2 d x y _ SpR.ret h)
      rw [show (condN 0 : Int) = 0 by decide] at h
      exact told_of h
    | true =>
      refine Inf_0t w op prec mode m hmm neg n A l c X e hk h1 h2 h3 hx.rd f (fun w1 hb hl he1 he2 => ?_)
      have hr := hx.rd.below hb
      refine did0_c w1 _ _ _ m 1 0 0 e neg n none A 0 0 l c _ QSp.st ?_
      intro w1' hc1
      have h := implAdd_c w1' (1 + prec % 60) 100000 (-100000) m 1 0 0 e neg n none A 0 0 l c (fun w k => DecZ w k 1 neg 0) (PF n e (val X)) 0 1 neg hm hp (by omega) (by omega) (by omega) (by omega) (stS _ _) PF.st
        (fun w2 _ => madeS w2 1 neg (by omega) _ _ _ _) (fun w2 hc2 => madeP w2 n A l c X e ((hr.chg hc1).chg hc2) (by omega) (by omega))
        (fun w2 c2 d x y _ hcx hdd hx hy hdx hdy hdc hxy => by
          obtain ⟨o, ho⟩ := hy
          exact cAdd_of w2 c2 d x y _ SpR.ret (addInfx_c w2 c2 d x y 0 0 0 false neg n false hdd hx ho.c0 ho.c1 hdx))
      rw [show (condN 0 : Int) = 0 by decide] at h
      exact told_of h
  · cases second with
    | false =>
      refine Inf_1f w op prec mode m hmm neg n A l c X e hk h1 h2 h3 hx.rd f (fun w1 hb hl he1 he2 => ?_)
      have hr := hx.rd.below hb
      refine did1_c w1 _ _ _ m 0 e 1 0 n neg A none l c 0 0 _ QSp.st ?_
      intro w1' hc1
      have h := implSub_c w1' (1 + prec % 60) 100000 (-100000) m 0 e 1 0 n neg A none l c 0 0 (PF n e (val X)) (fun w k => DecZ w k 1 neg 0) 0 1 (!neg) hm hp (by omega) (by omega) (by omega) (by omega) PF.st (stS _ _)
        (fun w2 hc2 => madeP w2 n A l c X e ((hr.chg hc1).chg hc2) (by omega) (by omega)) (fun w2 _ => madeS w2 1 neg (by omega) _ _ _ _)
        (fun w2 c2 d x y _ hcx hdd hx hy hdx hdy hdc hxy => by
          obtain ⟨o, ho⟩ := hx
          exact by
            have h := addInfy_c w2 c2 d x y 0 0 0 false n neg true hdd hy ho.c0 ho.c1
            rw [show (neg != true) = (!neg) by cases neg <;> rfl] at h
            exact cSub_of w2 c2 d x y _ SpR.ret h)
      rw [show (condN 0 : Int) = 0 by decide] at h
      exact told_of h
    | true =>
      refine Inf_1t w op prec mode m hmm neg n A l c X e hk h1 h2 h3 hx.rd f (fun w1 hb hl he1 he2 => ?_)
      have hr := hx.rd.below hb
      refine did1_c w1 _ _ _ m 1 0 0 e neg n none A 0 0 l c _ QSp.st ?_
      intro w1' hc1
      have h := implSub_c w1' (1 + prec % 60) 100000 (-100000) m 1 0 0 e neg n none A 0 0 l c (fun w k => DecZ w k 1 neg 0) (PF n e (val X)) 0 1 neg hm hp (by omega) (by omega) (by omega) (by omega) (stS _ _) PF.st
        (fun w2 _ => madeS w2 1 neg (by omega) _ _ _ _) (fun w2 hc2 => madeP w2 n A l c X e ((hr.chg hc1).chg hc2) (by omega) (by omega))
        (fun w2 c2 d x y _ hcx hdd hx hy hdx hdy hdc hxy => by
          obtain ⟨o, ho⟩ := hy
          exact cSub_of w2 c2 d x y _ SpR.ret (addInfx_c w2 c2 d x y 0 0 0 false neg n true hdd hx ho.c0 ho.c1 hdx))
      rw [show (condN 0 : Int) = 0 by decide] at h
      exact told_of h
  · by_cases hN : val X = 0
    · cases second with
      | false =>
        refine Inf_2fz w op prec mode m hmm neg n A l c X e hk h1 h2 h3 hx.rd f hN (fun w1 hb hl he1 he2 => ?_)
        have hr := hx.rd.below hb
        refine did2_c w1 _ _ _ m 0 e 1 0 n neg A none l c 0 0 _ QSp.st ?_
        intro w1' hc1
        have h := implMul_c w1' (1 + prec % 60) 100000 (-100000) m 0 e 1 0 n neg A none l c 0 0 (PF n e (val X)) (fun w k => DecZ w k 1 neg 0) 1024 3 false hm hp (by omega) (by omega) (by omega) (by omega) PF.st (stS _ _)
          (fun w2 hc2 => madeP w2 n A l c X e ((hr.chg hc1).chg hc2) (by omega) (by omega)) (fun w2 _ => madeS w2 1 neg (by omega) _ _ _ _)
          (fun w2 c2 d x y _ hcx hdd hx hy hdx hdy hdc hxy => by
            obtain ⟨o, ho⟩ := hx
            exact by
              have h := mulInf_c w2 c2 d x y _ _ _ _ 0 0 1 0 e 0 false n neg (val X) 0 o none hcx hdd ho hy.toA (.inr (.inr ⟨rfl, rfl⟩)) hdc true (by simp [hN])
              exact h)
        rw [show (condN 1024 : Int) = 256 by decide] at h
        exact told_of h
      | true =>
        refine Inf_2tz w op prec mode m hmm neg n A l c X e hk h1 h2 h3 hx.rd f hN (fun w1 hb hl he1 he2 => ?_)
        have hr := hx.rd.below hb
        refine did2_c w1 _ _ _ m 1 0 0 e neg n none A 0 0 l c _ QSp.st ?_
        intro w1' hc1
        have h := implMul_c w1' (1 + prec % 60) 100000 (-100000) m 1 0 0 e neg n none A 0 0 l c (fun w k => DecZ w k 1 neg 0) (PF n e (val X)) 1024 3 false hm hp (by omega) (by omega) (by omega) (by omega) (stS _ _) PF.st
          (fun w2 _ => madeS w2 1 neg (by omega) _ _ _ _) (fun w2 hc2 => madeP w2 n A l c X e ((hr.chg hc1).chg hc2) (by omega) (by omega))
          (fun w2 c2 d x y _ hcx hdd hx hy hdx hdy hdc hxy => by
            obtain ⟨o, ho⟩ := hy
            exact by
              have h := mulInf_c w2 c2 d x y _ _ _ _ 0 1 0 0 0 e false neg n 0 (val X) none o hcx hdd hx.toA ho (.inr (.inl ⟨rfl, rfl⟩)) hdc true (by simp [hN])
              exact h)
        rw [show (condN 1024 : Int) = 256 by decide] at h
        exact told_of h
    · cases second with
      | false =>
        refine Inf_2fn w op prec mode m hmm neg n A l c X e hk h1 h2 h3 hx.rd f hN (fun w1 hb hl he1 he2 => ?_)
        have hr := hx.rd.below hb
        refine did2_c w1 _ _ _ m 0 e 1 0 n neg A none l c 0 0 _ QSp.st ?_
        intro w1' hc1
        have h := implMul_c w1' (1 + prec % 60) 100000 (-100000) m 0 e 1 0 n neg A none l c 0 0 (PF n e (val X)) (fun w k => DecZ w k 1 neg 0) 0 1 (n != neg) hm hp (by omega) (by omega) (by omega) (by omega) PF.st (stS _ _)
          (fun w2 hc2 => madeP w2 n A l c X e ((hr.chg hc1).chg hc2) (by omega) (by omega)) (fun w2 _ => madeS w2 1 neg (by omega) _ _ _ _)
          (fun w2 c2 d x y _ hcx hdd hx hy hdx hdy hdc hxy => by
            obtain ⟨o, ho⟩ := hx
            exact by
              have h := mulInf_c w2 c2 d x y _ _ _ _ 0 0 1 0 e 0 false n neg (val X) 0 o none hcx hdd ho hy.toA (.inr (.inr ⟨rfl, rfl⟩)) hdc false (by simp [hN])
              exact h)
        rw [show (condN 0 : Int) = 0 by decide] at h
        exact told_of h
      | true =>
        refine Inf_2tn w op prec mode m hmm neg n A l c X e hk h1 h2 h3 hx.rd f hN (fun w1 hb hl he1 he2 => ?_)
        have hr := hx.rd.below hb
        refine did2_c w1 _ _ _ m 1 0 0 e neg n none A 0 0 l c _ QSp.st ?_
        intro w1' hc1
        have h := implMul_c w1' (1 + prec % 60) 100000 (-100000) m 1 0 0 e neg n none A 0 0 l c (fun w k => DecZ w k 1 neg 0) (PF n e (val X)) 0 1 (neg != n) hm hp (by omega) (by omega) (by omega) (by omega) (stS _ _) PF.st
          (fun w2 _ => madeS w2 1 neg (by omega) _ _ _ _) (fun w2 hc2 => madeP w2 n A l c X e ((hr.chg hc1).chg hc2) (by omega) (by omega))
          (fun w2 c2 d x y _ hcx hdd hx hy hdx hdy hdc hxy => by
            obtain ⟨o, ho⟩ := hy
            exact by
              have h := mulInf_c w2 c2 d x y _ _ _ _ 0 1 0 0 0 e false neg n 0 (val X) none o hcx hdd hx.toA ho (.inr (.inl ⟨rfl, rfl⟩)) hdc false (by simp [hN])
              exact h)
        rw [show (condN 0 : Int) = 0 by decide] at h
        exact told_of h
end Go.Proofs.YtabggbajgpbmmaaGreatDoor
