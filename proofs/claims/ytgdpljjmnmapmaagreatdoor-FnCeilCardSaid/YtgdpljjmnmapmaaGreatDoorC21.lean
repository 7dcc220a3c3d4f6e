/- The laws' test of two decimals. -/
import Derived.Test.YtgdpljjmnmapmaaGreatDoorC16
namespace Go.Proofs.YtgdpljjmnmapmaaGreatDoor
open Go Go.RowKit

theorem FinV.chg {w w1 w2 w3 : World} {f : Int} {n : Bool} {l : Nat} {X : List Nat} {e : Int} {a0 : Bool} {p0 : Option Addr} {m0 k0 : Nat} {a2 : Int} {S : Nat → Prop} (h : FinV w1 w2 f n l X e a0 p0 m0 k0 a2) (hw : Chg w w1 (fun _ => False)) (hc : Chg w2 w3 S) (hS : ∀ k, S k → w.heap.size ≤ k ∧ (k < w1.heap.size ∨ w2.heap.size ≤ k)) : FinV w w3 f n l X e a0 p0 m0 k0 a2 :=
  ⟨h.len, h.lo, h.hi, h.form, h.norm, h.neg, h.ex, h.coeff.chg hw hc hS⟩
/-- What both tells. -/
def BothRes (w w' : World) (E : Ending) (f : Int) (n : Bool) (l : Nat) (X : List Nat) (e : Int) (g : Int) (o : Bool) (r : Nat) (Y : List Nat) (d : Int) : Prop :=
  ∃ (a0 : Bool) (p0 : Option Addr) (m0 k0 : Nat) (a2 : Int) (b0 : Bool) (q0 : Option Addr) (n0 j0 : Nat) (b2 : Int) (ok : Bool),
    E = .returned (.tuple #[.agg #[.bool a0, .slice p0 m0 k0, .int .i64 a2], .agg #[.bool b0, .slice q0 n0 j0, .int .i64 b2], .bool ok]) ∧ Below w.heap.size w w' ∧
      (ok = true → FinV w w' f n l X e a0 p0 m0 k0 a2 ∧ FinV w w' g o r Y d b0 q0 n0 j0 b2)

set_option maxRecDepth 20000 in
set_option maxHeartbeats 4000000 in
theorem both_c (w : World) (f : Int) (n : Bool) (A : Option Addr) (l c : Nat) (X : List Nat) (e : Int) (g : Int) (o : Bool) (B : Option Addr) (r s : Nat) (Y : List Nat) (d : Int) (hX : RdW w A l c X) (hY : RdW w B r s Y) :
    Calls Tryz.prog 20 #[.agg #[.int .i64 f, .bool n, .slice A l c, .int .i64 e], .agg #[.int .i64 g, .bool o, .slice B r s, .int .i64 d]] w fun E w' => BothRes w w' E f n l X e g o r Y d := by
  replace hX := Lib.hid hX
  replace hY := Lib.hid hY
  go_enter Tryz.func20, Tryz.ntmps20
  go_upto_region 1 with (fail)
  generalize hW : (((w.alloc (.cells #[.int .i64 f, .bool n, .slice A l c, .int .i64 e] 24 (0, 0))).alloc (.cells #[.int .i64 g, .bool o, .slice B r s, .int .i64 d] 24 (0, 0))).alloc (.cells #[.bool false, .slice none 0 0, .int .i64 0] 29 (0, 0))).alloc (.cells #[.bool false, .slice none 0 0, .int .i64 0] 29 (0, 0)) = W
  have hC0 : Chg w W (fun _ => False) := by rw [← hW]; exact ((((Chg.refl w (fun _ => False)).alloc _).alloc _).alloc _).alloc _
  have hXa : Bx1 w.heap.size f n A l c e W := by rw [← hW]; exact allocB_old (allocB_old (allocB_old (allocB _ _)))
  have hYa : Bx1 (w.heap.size + 1) g o B r s d W := by rw [← hW]; exact allocB_old (allocB_old (allocB_at _ _ (by simp)))
  have hRa : W.heap[w.heap.size + 2]? = some (.cells #[.bool false, .slice none 0 0, .int .i64 0] 29 (0, 0)) := by rw [← hW]; exact allocB_old (allocB_at _ _ (by simp))
  have hRb : W.heap[w.heap.size + 3]? = some (.cells #[.bool false, .slice none 0 0, .int .i64 0] 29 (0, 0)) := by rw [← hW]; exact allocB_at _ _ (by simp)
  have hsz : W.heap.size = w.heap.size + 4 := by rw [← hW]; simp
  clear hW
  obtain ⟨c0, c1, c2, c3⟩ := hXa.cells
  have bl : ∀ {u v : World}, Chg u v (fun _ => False) → Below u.heap.size u v := fun h => ⟨h.os, h.tape, h.output, h.size, fun k hk => h.block k hk (fun h => h)⟩
  have kq := finite_c W f n A l c X e (hX.out.below (bl hC0))
  replace kq := Lib.hid kq
  replace hC0 := Lib.hid hC0
  replace hYa := Lib.hid hYa
  replace hRa := Lib.hid hRa
  replace hRb := Lib.hid hRb
  replace hsz := Lib.hid hsz
  go_wp2_with fail
  with_reducible refine kq.out.mono ?_
  rintro E w1 ⟨a0, p0, m0, k0, a2, ok1, rfl, hb1, hf1⟩
  clear c0 c1 c2 c3 kq hXa
  go_upto_region 2 with (fail)
  have hc1 := Below.chg hb1
  have hs1 := hb1.size
  obtain ⟨Va, hVa⟩ : ∃ Va, w1.heap.size = Va := ⟨_, rfl⟩
  generalize hW1 : w1.alloc (.cells #[.bool a0, .slice p0 m0 k0, .int .i64 a2] 29 (0, 0)) = W1
  have hC1 : Chg w1 W1 (fun _ => False) := by rw [← hW1]; exact (Chg.refl w1 (fun _ => False)).alloc _
  have hV1 : W1.heap[Va]? = some (.cells #[.bool a0, .slice p0 m0 k0, .int .i64 a2] 29 (0, 0)) := by rw [← hW1, ← hVa]; exact allocB _ _
  have hsz1 : W1.heap.size = Va + 1 := by rw [← hW1, ← hVa]; simp
  clear hW1
  have hC1' : Chg W W1 (fun _ => False) := hc1.trans (hC1.mono (fun _ _ h => h.elim))
  have hY1 := Bx1.chg hYa.out hC1'
  have hRa1 := hC1'.heapB hRa.out (fun h => h)
  have hRb1 := hC1'.heapB hRb.out (fun h => h)
  have hC01 : Chg w W1 (fun _ => False) := hC0.out.trans (hC1'.mono (fun _ _ h => h.elim))
  obtain ⟨c0, c1, c2, c3⟩ := hY1.cells
  have kq := finite_c W1 g o B r s Y d (hY.out.below (bl hC01))
  rw [hVa]
  replace kq := Lib.hid kq
  replace hV1 := Lib.hid hV1
  replace hf1 := Lib.hid hf1
  replace hC1 := Lib.hid hC1
  replace hC01 := Lib.hid hC01
  replace hC1' := Lib.hid hC1'
  replace hRa1 := Lib.hid hRa1
  replace hRb1 := Lib.hid hRb1
  replace hsz1 := Lib.hid hsz1
  replace hs1 := Lib.hid hs1
  replace hVa := Lib.hid hVa
  replace hc1 := Lib.hid hc1
  clear hb1
  go_wp2_with fail
  with_reducible refine kq.out.mono ?_
  rintro E w2 ⟨b0, q0, n0, j0, b2, ok2, rfl, hb2, hf2⟩
  clear c0 c1 c2 c3 kq hY1
  go_upto_region 3 with (fail)
  have hc2 := Below.chg hb2
  have hs2 := hb2.size
  obtain ⟨Vb, hVb⟩ : ∃ Vb, w2.heap.size = Vb := ⟨_, rfl⟩
  generalize hW2 : w2.alloc (.cells #[.bool b0, .slice q0 n0 j0, .int .i64 b2] 29 (0, 0)) = W2
  have hC2 : Chg w2 W2 (fun _ => False) := by rw [← hW2]; exact (Chg.refl w2 (fun _ => False)).alloc _
  have hU : W2.heap[Vb]? = some (.cells #[.bool b0, .slice q0 n0 j0, .int .i64 b2] 29 (0, 0)) := by rw [← hW2, ← hVb]; exact allocB _ _
  have hsz2 : W2.heap.size = Vb + 1 := by rw [← hW2, ← hVb]; simp
  clear hW2
  rw [hVb]
  have hC2' : Chg W1 W2 (fun _ => False) := hc2.trans (hC2.mono (fun _ _ h => h.elim))
  have hV := hC2'.heapB hV1.out (fun h => h)
  have hRa2 := hC2'.heapB hRa1.out (fun h => h)
  have hRb2 := hC2'.heapB hRb1.out (fun h => h)
  have hC02 : Chg w W2 (fun _ => False) := hC01.out.trans (hC2'.mono (fun _ _ h => h.elim))
  have l1 := hsz.out
  have l2 := hsz1.out
  have l3 := hs1.out
  have l4 := hVa.out
  have x0 : W2.cell? ⟨Va, 0, none⟩ = some (.bool a0) := cellB hV rfl
  have x1 : W2.cell? ⟨Va, 1, none⟩ = some (.slice p0 m0 k0) := cellB hV rfl
  have x2 : W2.cell? ⟨Va, 2, none⟩ = some (.int .i64 a2) := cellB hV rfl
  have y0 : W2.cell? ⟨Vb, 0, none⟩ = some (.bool b0) := cellB hU rfl
  have y1 : W2.cell? ⟨Vb, 1, none⟩ = some (.slice q0 n0 j0) := cellB hU rfl
  have y2 : W2.cell? ⟨Vb, 2, none⟩ = some (.int .i64 b2) := cellB hU rfl
  have u0 : W2.cell? ⟨w.heap.size + 2, 0, none⟩ = some (.bool false) := cellB hRa2 rfl
  have u1 : W2.cell? ⟨w.heap.size + 2, 1, none⟩ = some (.slice none 0 0) := cellB hRa2 rfl
  have u2 : W2.cell? ⟨w.heap.size + 2, 2, none⟩ = some (.int .i64 0) := cellB hRa2 rfl
  have t0 : W2.cell? ⟨w.heap.size + 3, 0, none⟩ = some (.bool false) := cellB hRb2 rfl
  have t1 : W2.cell? ⟨w.heap.size + 3, 1, none⟩ = some (.slice none 0 0) := cellB hRb2 rfl
  have t2 : W2.cell? ⟨w.heap.size + 3, 2, none⟩ = some (.int .i64 0) := cellB hRb2 rfl
  have i0 : W2.frozen? ⟨w.heap.size + 2, 0, none⟩ = false := frozenB hRa2 0
  have i1 : W2.frozen? ⟨w.heap.size + 2, 1, none⟩ = false := frozenB hRa2 1
  have i2 : W2.frozen? ⟨w.heap.size + 2, 2, none⟩ = false := frozenB hRa2 2
  have r0 : W2.frozen? ⟨w.heap.size + 3, 0, none⟩ = false := frozenB hRb2 0
  have r1 : W2.frozen? ⟨w.heap.size + 3, 1, none⟩ = false := frozenB hRb2 1
  have r2 : W2.frozen? ⟨w.heap.size + 3, 2, none⟩ = false := frozenB hRb2 2
  have X0 : W2.drew.cell? ⟨Va, 0, none⟩ = some (.bool a0) := cellB hV rfl
  have X1 : W2.drew.cell? ⟨Va, 1, none⟩ = some (.slice p0 m0 k0) := cellB hV rfl
  have X2 : W2.drew.cell? ⟨Va, 2, none⟩ = some (.int .i64 a2) := cellB hV rfl
  have Y0 : W2.drew.cell? ⟨Vb, 0, none⟩ = some (.bool b0) := cellB hU rfl
  have Y1 : W2.drew.cell? ⟨Vb, 1, none⟩ = some (.slice q0 n0 j0) := cellB hU rfl
  have Y2 : W2.drew.cell? ⟨Vb, 2, none⟩ = some (.int .i64 b2) := cellB hU rfl
  have U0 : W2.drew.cell? ⟨w.heap.size + 2, 0, none⟩ = some (.bool false) := cellB hRa2 rfl
  have U1 : W2.drew.cell? ⟨w.heap.size + 2, 1, none⟩ = some (.slice none 0 0) := cellB hRa2 rfl
  have U2 : W2.drew.cell? ⟨w.heap.size + 2, 2, none⟩ = some (.int .i64 0) := cellB hRa2 rfl
  have T0 : W2.drew.cell? ⟨w.heap.size + 3, 0, none⟩ = some (.bool false) := cellB hRb2 rfl
  have T1 : W2.drew.cell? ⟨w.heap.size + 3, 1, none⟩ = some (.slice none 0 0) := cellB hRb2 rfl
  have T2 : W2.drew.cell? ⟨w.heap.size + 3, 2, none⟩ = some (.int .i64 0) := cellB hRb2 rfl
  have I0 : W2.drew.frozen? ⟨w.heap.size + 2, 0, none⟩ = false := frozenB hRa2 0
  have I1 : W2.drew.frozen? ⟨w.heap.size + 2, 1, none⟩ = false := frozenB hRa2 1
  have I2 : W2.drew.frozen? ⟨w.heap.size + 2, 2, none⟩ = false := frozenB hRa2 2
  have R0 : W2.drew.frozen? ⟨w.heap.size + 3, 0, none⟩ = false := frozenB hRb2 0
  have R1 : W2.drew.frozen? ⟨w.heap.size + 3, 1, none⟩ = false := frozenB hRb2 1
  have R2 : W2.drew.frozen? ⟨w.heap.size + 3, 2, none⟩ = false := frozenB hRb2 2
  replace hV := Lib.hid hV
  replace hU := Lib.hid hU
  replace hRa2 := Lib.hid hRa2
  replace hRb2 := Lib.hid hRb2
  replace hC2 := Lib.hid hC2
  replace hC2' := Lib.hid hC2'
  replace hC02 := Lib.hid hC02
  replace hf2 := Lib.hid hf2
  replace hc2 := Lib.hid hc2
  have l5 := hVb
  have o1 : w.heap.size + 3 < Va := by omega
  have o2 : Va < Vb := by omega
  have d1 : Va ≠ w.heap.size + 1 + 1 := by omega
  have d2 : Va ≠ w.heap.size + 1 + 1 + 1 := by omega
  have d3 : Vb ≠ w.heap.size + 1 + 1 := by omega
  have d4 : Vb ≠ w.heap.size + 1 + 1 + 1 := by omega
  have d5 : Va ≠ w.heap.size + 2 := by omega
  have d6 : Va ≠ w.heap.size + 3 := by omega
  have d7 : Vb ≠ w.heap.size + 2 := by omega
  have d8 : Vb ≠ w.heap.size + 3 := by omega
  replace l4 := Lib.hid l4
  replace hVb := Lib.hid hVb
  replace l1 := Lib.hid l1
  replace l2 := Lib.hid l2
  replace l3 := Lib.hid l3
  replace hs2 := Lib.hid hs2
  clear hb2 bl l5
  cases ok1
  all_goals
    go_region
    go_wp2
    clear x0 x1 x2 y0 y1 y2 t0 t1 t2 i0 i1 i2 r0 r1 r2 X0 X1 X2 Y0 Y1 Y2 U0 U1 U2 T0 T1 T2 I0 I1 I2 R0 R1 R2 d1 d2 d3 d4 d5 d6 d7 d8
    have hE1 := end3 hRa2.out (.bool a0) (.slice p0 m0 k0) (.int .i64 a2)
    have hch1 := chg3 W2 (w.heap.size + 2) (.bool a0) (.slice p0 m0 k0) (.int .i64 a2)
    have hRb3 := hch1.heapB hRb2.out (by omega)
    generalize ((W2.setCell ⟨w.heap.size + 2, 0, none⟩ (.bool a0)).setCell ⟨w.heap.size + 2, 1, none⟩ (.slice p0 m0 k0)).setCell ⟨w.heap.size + 2, 2, none⟩ (.int .i64 a2) = V1 at hE1 hch1 hRb3 ⊢
    have hE2 := end3 hRb3 (.bool b0) (.slice q0 n0 j0) (.int .i64 b2)
    have hch2 := chg3 V1 (w.heap.size + 3) (.bool b0) (.slice q0 n0 j0) (.int .i64 b2)
    have hE3 := hch2.heapB hE1 (by omega)
    generalize ((V1.setCell ⟨w.heap.size + 3, 0, none⟩ (.bool b0)).setCell ⟨w.heap.size + 3, 1, none⟩ (.slice q0 n0 j0)).setCell ⟨w.heap.size + 3, 2, none⟩ (.int .i64 b2) = V2 at hE2 hE3 hch2 ⊢
    have g0 : V2.cell? ⟨w.heap.size + 1 + 1, 0, none⟩ = some (.bool a0) := cellB hE3 rfl
    have g1 : V2.cell? ⟨w.heap.size + 1 + 1, 1, none⟩ = some (.slice p0 m0 k0) := cellB hE3 rfl
    have g2 : V2.cell? ⟨w.heap.size + 1 + 1, 2, none⟩ = some (.int .i64 a2) := cellB hE3 rfl
    have g3 : V2.cell? ⟨w.heap.size + 1 + 1 + 1, 0, none⟩ = some (.bool b0) := cellB hE2 rfl
    have g4 : V2.cell? ⟨w.heap.size + 1 + 1 + 1, 1, none⟩ = some (.slice q0 n0 j0) := cellB hE2 rfl
    have g5 : V2.cell? ⟨w.heap.size + 1 + 1 + 1, 2, none⟩ = some (.int .i64 b2) := cellB hE2 rfl
    have k1 := l1.out
    have k2 := l2.out
    have k3 := l3.out
    have k4 := l4.out
    have k5 := hVb.out
    have k6 := hs2.out
    have m0' : Chg W2 V2 (fun k => k = w.heap.size + 2 ∨ k = w.heap.size + 3) := (hch1.mono (fun k _ h => .inl h)).trans (hch2.mono (fun k _ h => .inl (.inr h)))
    have m1 : Chg w2 V2.drew (fun k => k = w.heap.size + 2 ∨ k = w.heap.size + 3) := ((hC2.out.mono (fun _ _ h => h.elim)).trans (m0'.mono (fun k _ h => .inl h))).drew
    have m2 : Chg w1 V2.drew (fun k => k = w.heap.size + 2 ∨ k = w.heap.size + 3) := ((hC1.out.mono (fun _ _ h => h.elim)).trans (hc2.out.mono (fun _ _ h => h.elim))).trans (m1.mono (fun k _ h => .inl h))
    have m3 : Chg w V2.drew (fun _ => False) := (hC02.out.trans (m0'.mono (fun k _ h => .inr (by omega)))).drew
  · exact bodyPost_ret (v := .tuple #[.agg #[.bool a0, .slice p0 m0 k0, .int .i64 a2], .agg #[.bool b0, .slice q0 n0 j0, .int .i64 b2], .bool false]) (by simp [results, Tryz.results20, go_sem, g0, g1, g2, g3, g4, g5]) rfl
      ⟨_, _, _, _, _, _, _, _, _, _, _, rfl, ⟨m3.os, m3.tape, m3.output, m3.size, fun k hk => m3.block k hk (fun h => h)⟩, (fun h => by cases h)⟩
  · exact bodyPost_ret (v := .tuple #[.agg #[.bool a0, .slice p0 m0 k0, .int .i64 a2], .agg #[.bool b0, .slice q0 n0 j0, .int .i64 b2], .bool ok2]) (by simp [results, Tryz.results20, go_sem, g0, g1, g2, g3, g4, g5]) rfl
      ⟨_, _, _, _, _, _, _, _, _, _, _, rfl, ⟨m3.os, m3.tape, m3.output, m3.size, fun k hk => m3.block k hk (fun h => h)⟩, (fun h => ⟨(hf1.out (by simp)).chg hC0.out m2 (fun k h => by omega), (hf2.out h).chg hC01.out m1 (fun k h => by omega)⟩)⟩
end Go.Proofs.YtgdpljjmnmapmaaGreatDoor
