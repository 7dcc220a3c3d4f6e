/- The laws' test: a decimal and its conditions are a value that is rounded. The laws' test of two decimals. What the laws of rounded answers lean on: contexts, boxes, sizes. -/
import Derived.Test.YtlnillnngckegaaGreatDoorM38
import Derived.Test.YtlnillnngckegaaGreatDoorM39
import Derived.Test.YtlnillnngckegaaGreatDoorM46
namespace Go.Proofs.YtlnillnngckegaaGreatDoor
open Go Go.RowKit

theorem rnd_sign {s n : Bool} {N : Nat} (h : s = n ∨ N = 0) (p m : Nat) (hp : 1 ≤ p) : rndN s N p m = rndN n N p m ∧ rndK s N p m = rndK n N p m := by
  rcases h with rfl | rfl
  · exact ⟨rfl, rfl⟩
  · unfold rndN rndK; rw [figs_zero, if_pos hp, if_pos hp, if_pos hp, if_pos hp]; exact ⟨rfl, rfl⟩
theorem rndN_zero {n : Bool} {N p m : Nat} (hp : 1 ≤ p) (h : N = 0) : rndN n N p m = 0 := by
  subst h; unfold rndN; rw [figs_zero, if_pos hp]
def flagN (N p : Nat) : Int := (if p < figs N then 16 else 0) + (if rndX N p then 4 else 0)

set_option maxRecDepth 20000 in
set_option maxHeartbeats 8000000 in
theorem rounds_c (w : World) (nz n : Bool) (A p : Option Addr) (l c a b : Nat) (ez e ma mi cond : Int) (N f m : Nat) (hZ : RdW w A l c (digs (rndN n N f m))) (hl : l ≤ 1000000) (hez : ez = e + (rndK n N f m : Int)) (hn : nz = n ∨ rndN n N f m = 0) (hc : cond = flagN N f)
    (hV : RdD w p a b (d16 N)) (ha : a ≤ 900) (hN : figs N ≤ 900) (hf : 1 ≤ f ∧ f ≤ 900) (hm : m < 8) (he : -100000 ≤ e ∧ e ≤ 100000) :
    Calls Tryz.prog 13 #[.agg #[.int .i64 0, .bool nz, .slice A l c, .int .i64 ez], .int .i64 cond, .bool true, .agg #[.bool n, .slice p a b, .int .i64 e], .agg #[.int .u64 (f : Int), .int .i64 ma, .int .i64 mi, .int .i64 (m : Int)]] w fun E w' => E = .returned (.bool true) ∧ Below w.heap.size w w' := by
  have kr := fun W (hb : Below w.heap.size w W) => rndV_c W n p a b e N f m (hV.below hb) ha hN hf hm he
  have kf := fun W => flags_c W (decide (f < figs N)) (rndX N f)
  have hce : cond = (if decide (f < figs N) = true then 16 else 0) + (if rndX N f = true then 4 else 0) := by rw [hc]; unfold flagN; simp
  unfold RndV at kr
  rw [← hez] at kr
  generalize rndN n N f m = R at hZ hn kr
  generalize decide (f < figs N) = fl at kf hce kr
  generalize rndX N f = X at kf hce kr
  have hXX := hce.symm
  rw [hXX] at kf
  clear hez hc
  replace kr := Lib.hid kr
  replace kf := Lib.hid kf
  replace hZ := Lib.hid hZ
  replace hV := Lib.hid hV
  replace hn := Lib.hid hn
  replace hN := Lib.hid hN
  replace hce := Lib.hid hce
  replace hXX := Lib.hid hXX
  go_enter Tryz.func13, Tryz.ntmps13
  go_upto_region 1 with (fail)
  generalize hW : ((w.alloc (.cells #[.int .i64 0, .bool nz, .slice A l c, .int .i64 ez] 24 (0, 0))).alloc (.cells #[.bool n, .slice p a b, .int .i64 e] 29 (0, 0))).alloc (.cells #[.int .u64 (f : Int), .int .i64 ma, .int .i64 mi, .int .i64 (m : Int)] 34 (0, 0)) = W
  have hB0 : Below w.heap.size w W := by rw [← hW]; exact (((Below.refl _ _).alloc (Nat.le_refl _) _).alloc (by simp) _).alloc (by simp; omega) _
  have hZ0 : W.heap[w.heap.size]? = some (.cells #[.int .i64 0, .bool nz, .slice A l c, .int .i64 ez] 24 (0, 0)) := by rw [← hW]; exact allocB_old (allocB_old (allocB _ _))
  have hV0 : W.heap[w.heap.size + 1]? = some (.cells #[.bool n, .slice p a b, .int .i64 e] 29 (0, 0)) := by rw [← hW]; exact allocB_old (allocB_at _ _ (by simp))
  have hC0 : W.heap[w.heap.size + 2]? = some (.cells #[.int .u64 (f : Int), .int .i64 ma, .int .i64 mi, .int .i64 (m : Int)] 34 (0, 0)) := by rw [← hW]; exact allocB_at _ _ (by simp)
  clear hW
  have v0 := cellB hV0 (i := 0) rfl
  have v1 := cellB hV0 (i := 1) rfl
  have v2 := cellB hV0 (i := 2) rfl
  have c0 : W.cell? ⟨w.heap.size + 1 + 1, 0, none⟩ = some (.int .u64 (f : Int)) := cellB hC0 rfl
  have c3 : W.cell? ⟨w.heap.size + 1 + 1, 3, none⟩ = some (.int .i64 (m : Int)) := cellB hC0 rfl
  have kr := kr.out W hB0
  replace kr := Lib.hid kr
  replace hB0 := Lib.hid hB0
  replace hZ0 := Lib.hid hZ0
  replace hV0 := Lib.hid hV0
  clear hC0
  go_wp2_with fail
  with_reducible refine kr.out.mono ?_
  rintro E w1 ⟨q, a1, b1, rfl, h1, hb1⟩
  clear v0 v1 v2 c0 c3 kr
  have hq1 := h1.rd (hV.out.below hB0.out) hb1
  have hZ1 := bkeep hb1 hZ0.out
  have hbw := brise hB0.out hb1
  replace hq1 := Lib.hid hq1
  replace hZ1 := Lib.hid hZ1
  replace hbw := Lib.hid hbw
  clear h1 hb1
  go_upto_region 2 with (fail)
  have hG : (w1.alloc (.cells #[.bool n, .slice q a1 b1, .int .i64 ez] 29 (0, 0))).heap[w1.heap.size]? = some (.cells #[.bool n, .slice q a1 b1, .int .i64 ez] 29 (0, 0)) := allocB _ _
  have hbV : Below w1.heap.size w1 (w1.alloc (.cells #[.bool n, .slice q a1 b1, .int .i64 ez] 29 (0, 0))) := (Below.refl _ _).alloc (Nat.le_refl _) _
  have hq2 := hq1.out.below hbV
  have hZ2 := bkeep hbV hZ1.out
  have hbw2 := brise hbw.out hbV
  obtain ⟨g, hge⟩ : ∃ g, w1.heap.size = g := ⟨_, rfl⟩
  rw [hge] at hG ⊢
  generalize w1.alloc (.cells #[.bool n, .slice q a1 b1, .int .i64 ez] 29 (0, 0)) = V at hG hq2 hZ2 hbw2 ⊢
  have g0 := cellB hG (i := 0) rfl
  have g1 := cellB hG (i := 1) rfl
  have g2 := cellB hG (i := 2) rfl
  have z0 := cellB hZ2 (i := 0) rfl
  have z1 := cellB hZ2 (i := 1) rfl
  have z2 := cellB hZ2 (i := 2) rfl
  have z3 := cellB hZ2 (i := 3) rfl
  have ki := isDec_c V nz n A q l c a1 b1 ez R (hZ.out.below hbw2) hq2 hl hn.out
  replace ki := Lib.hid ki
  replace hbw2 := Lib.hid hbw2
  replace hge := Lib.hid hge
  clear hG hq2 hZ2 hbV hq1 hZ1 hbw
  go_wp2_with fail
  with_reducible refine ki.out.mono ?_
  rintro E w2 ⟨rfl, hb2⟩
  clear g0 g1 g2 z0 z1 z2 z3 ki
  have hb3 := brise hbw2.out hb2
  replace hb3 := Lib.hid hb3
  clear hb2
  go_wp2_with fail
  with_reducible refine (kf.out _).mono ?_
  rintro E w3 ⟨rfl, hw⟩
  obtain rfl := hw
  go_wp2
  go_ret
  exact ⟨rfl, hb3.out⟩
end Go.Proofs.YtlnillnngckegaaGreatDoor

namespace Go.Proofs.YtlnillnngckegaaGreatDoor
open Go Go.RowKit

theorem FinV.chg {w w1 w2 w3 : World} {f : Int} {n : Bool} {l : Nat} {X : List Nat} {e : Int} {a0 : Bool} {p0 : Option Addr} {m0 k0 : Nat} {a2 : Int} {S : Nat → Prop} (h : FinV w1 w2 f n l X e a0 p0 m0 k0 a2) (hw : Chg w w1 (fun _ => False)) (hc : Chg w2 w3 S) (hS : ∀ k, S k → w.heap.size ≤ k ∧ (k < w1.heap.size ∨ w2.heap.size ≤ k)) : FinV w w3 f n l X e a0 p0 m0 k0 a2 :=
  ⟨h.len, h.lo, h.hi, h.form, h.norm, h.neg, h.ex, h.coeff.chg hw hc hS⟩
/-- What both tells. -/
def BothRes (w w' : World) (E : Ending) (f : Int) (n : Bool) (l : Nat) (X : List Nat) (e : Int) (g : Int) (o : Bool) (r : Nat) (Y : List Nat) (d : Int) : Prop :=
  ∃ (a0 : Bool) (p0 : Option Addr) (m0 k0 : Nat) (a2 : Int) (b0 : Bool) (q0 : Option Addr) (n0 j0 : Nat) (b2 : Int) (ok : Bool),
    E = .returned (.tuple #[.agg #[.bool a0, .slice p0 m0 k0, .int .i64 a2], .agg #[.bool b0, .slice q0 n0 j0, .int .i64 b2], .bool ok]) ∧ Below w.heap.size w w' ∧
      (ok = true → FinV w w' f n l X e a0 p0 m0 k0 a2 ∧ FinV w w' g o r Y d b0 q0 n0 j0 b2)

set_option maxRecDepth 20000 in
set_option maxHeartbeats 4000000 in
theorem both_c (w : World) (f : Int) (n : Bool) (A : Option Addr) (l c : Nat) (X : List Nat) (e : Int) (g : Int) (o : Bool) (B : Option Addr) (r s : Nat) (Y : List Nat) (d : Int) (hX : RdW w A l c X) (hY : RdW w B r s Y) :
    Calls Tryz.prog 17 #[.agg #[.int .i64 f, .bool n, .slice A l c, .int .i64 e], .agg #[.int .i64 g, .bool o, .slice B r s, .int .i64 d]] w fun E w' => BothRes w w' E f n l X e g o r Y d := by
  replace hX := Lib.hid hX
  replace hY := Lib.hid hY
  go_enter Tryz.func17, Tryz.ntmps17
  go_upto_region 1 with (fail)
  generalize hW : (((w.alloc (.cells #[.int .i64 f, .bool n, .slice A l c, .int .i64 e] 24 (0, 0))).alloc (.cells #[.int .i64 g, .bool o, .slice B r s, .int .i64 d] 24 (0, 0))).alloc (.cells #[.bool false, .slice none 0 0, .int .i64 0] 29 (0, 0))).alloc (.cells #[.bool false, .slice none 0 0, .int .i64 0] 29 (0, 0)) = W
  have hC0 : Chg w W (fun _ => False) := by rw [← hW]; exact ((((Chg.refl w (fun _ => False)).alloc _).alloc _).alloc _).alloc _
  have hXa : Bx1 w.heap.size f n A l c e W := by rw [← hW]; exact allocB_old (allocB_old (allocB_old (allocB _ _)))
  have hYa : Bx1 (w.heap.size + 1) g o B r s d W := by rw [← hW]; exact allocB_old (allocB_old (allocB_at _ _ (by simp)))
  have hRa : W.heap[w.heap.size + 2]? = some (.cells #[.bool false, .slice none 0 0, .int .i64 0] 29 (0, 0)) := by rw [← hW]; exact allocB_old (allocB_at _ _ (by simp))
  have hRb : W.heap[w.heap.size + 3]? = some (.cells #[.bool false, .slice none 0 0, .int .i64 0] 29 (0, 0)) := by rw [← hW]; exact allocB_at _ _ (by simp)
  have hsz : W.heap.size = w.heap.size + 4 := by rw [← hW]; simp
  clear hW
  obtain ⟨c0, c1, c2, c3⟩ := hXa.cells
  have bl : ∀ {u v : World}, Chg u v (fun _ => False) → Below u.heap.size u v := fun h => ⟨h.os, h.tape, h.output, h.size, fun k hk => h.block k hk (fun h => h)⟩
  have kq := finite_c W f n A l c X e (hX.out.below (bl hC0))
  replace kq := Lib.hid kq
  replace hC0 := Lib.hid hC0
  replace hYa := Lib.hid hYa
  replace hRa := Lib.hid hRa
  replace hRb := Lib.hid hRb
  replace hsz := Lib.hid hsz
  go_wp2_with fail
  with_reducible refine kq.out.mono ?_
  rintro E w1 ⟨a0, p0, m0, k0, a2, ok1, rfl, hb1, hf1⟩
  clear c0 c1 c2 c3 kq hXa
  go_upto_region 2 with (fail)
  have hc1 := Below.chg hb1
  have hs1 := hb1.size
  obtain ⟨Va, hVa⟩ : ∃ Va, w1.heap.size = Va := ⟨_, rfl⟩
  generalize hW1 : w1.alloc (.cells #[.bool a0, .slice p0 m0 k0, .int .i64 a2] 29 (0, 0)) = W1
  have hC1 : Chg w1 W1 (fun _ => False) := by rw [← hW1]; exact (Chg.refl w1 (fun _ => False)).alloc _
  have hV1 : W1.heap[Va]? = some (.cells #[.bool a0, .slice p0 m0 k0, .int .i64 a2] 29 (0, 0)) := by rw [← hW1, ← hVa]; exact allocB _ _
  have hsz1 : W1.heap.size = Va + 1 := by rw [← hW1, ← hVa]; simp
  clear hW1
  have hC1' : Chg W W1 (fun _ => False) := hc1.trans (hC1.mono (fun _ _ h => h.elim))
  have hY1 := Bx1.chg hYa.out hC1'
  have hRa1 := hC1'.heapB hRa.out (fun h => h)
  have hRb1 := hC1'.heapB hRb.out (fun h => h)
  have hC01 : Chg w W1 (fun _ => False) := hC0.out.trans (hC1'.mono (fun _ _ h => h.elim))
  obtain ⟨c0, c1, c2, c3⟩ := hY1.cells
  have kq := finite_c W1 g o B r s Y d (hY.out.below (bl hC01))
  rw [hVa]
  replace kq := Lib.hid kq
  replace hV1 := Lib.hid hV1
  replace hf1 := Lib.hid hf1
  replace hC1 := Lib.hid hC1
  replace hC01 := Lib.hid hC01
  replace hC1' := Lib.hid hC1'
  replace hRa1 := Lib.hid hRa1
  replace hRb1 := Lib.hid hRb1
  replace hsz1 := Lib.hid hsz1
  replace hs1 := Lib.hid hs1
  replace hVa := Lib.hid hVa
  replace hc1 := Lib.hid hc1
  clear hb1
  go_wp2_with fail
  with_reducible refine kq.out.mono ?_
  rintro E w2 ⟨b0, q0, n0, j0, b2, ok2, rfl, hb2, hf2⟩
  clear c0 c1 c2 c3 kq hY1
  go_upto_region 3 with (fail)
  have hc2 := Below.chg hb2
  have hs2 := hb2.size
  obtain ⟨Vb, hVb⟩ : ∃ Vb, w2.heap.size = Vb := ⟨_, rfl⟩
  generalize hW2 : w2.alloc (.cells #[.bool b0, .slice q0 n0 j0, .int .i64 b2] 29 (0, 0)) = W2
  have hC2 : Chg w2 W2 (fun _ => False) := by rw [← hW2]; exact (Chg.refl w2 (fun _ => False)).alloc _
  have hU : W2.heap[Vb]? = some (.cells #[.bool b0, .slice q0 n0 j0, .int .i64 b2] 29 (0, 0)) := by rw [← hW2, ← hVb]; exact allocB _ _
  have hsz2 : W2.heap.size = Vb + 1 := by rw [← hW2, ← hVb]; simp
  clear hW2
  rw [hVb]
  have hC2' : Chg W1 W2 (fun _ => False) := hc2.trans (hC2.mono (fun _ _ h => h.elim))
  have hV := hC2'.heapB hV1.out (fun h => h)
  have hRa2 := hC2'.heapB hRa1.out (fun h => h)
  have hRb2 := hC2'.heapB hRb1.out (fun h => h)
  have hC02 : Chg w W2 (fun _ => False) := hC01.out.trans (hC2'.mono (fun _ _ h => h.elim))
  have l1 := hsz.out
  have l2 := hsz1.out
  have l3 := hs1.out
  have l4 := hVa.out
  have x0 : W2.cell? ⟨Va, 0, none⟩ = some (.bool a0) := cellB hV rfl
  have x1 : W2.cell? ⟨Va, 1, none⟩ = some (.slice p0 m0 k0) := cellB hV rfl
  have x2 : W2.cell? ⟨Va, 2, none⟩ = some (.int .i64 a2) := cellB hV rfl
  have y0 : W2.cell? ⟨Vb, 0, none⟩ = some (.bool b0) := cellB hU rfl
  have y1 : W2.cell? ⟨Vb, 1, none⟩ = some (.slice q0 n0 j0) := cellB hU rfl
  have y2 : W2.cell? ⟨Vb, 2, none⟩ = some (.int .i64 b2) := cellB hU rfl
  have u0 : W2.cell? ⟨w.heap.size + 2, 0, none⟩ = some (.bool false) := cellB hRa2 rfl
  have u1 : W2.cell? ⟨w.heap.size + 2, 1, none⟩ = some (.slice none 0 0) := cellB hRa2 rfl
  have u2 : W2.cell? ⟨w.heap.size + 2, 2, none⟩ = some (.int .i64 0) := cellB hRa2 rfl
  have t0 : W2.cell? ⟨w.heap.size + 3, 0, none⟩ = some (.bool false) := cellB hRb2 rfl
  have t1 : W2.cell? ⟨w.heap.size + 3, 1, none⟩ = some (.slice none 0 0) := cellB hRb2 rfl
  have t2 : W2.cell? ⟨w.heap.size + 3, 2, none⟩ = some (.int .i64 0) := cellB hRb2 rfl
  have i0 : W2.frozen? ⟨w.heap.size + 2, 0, none⟩ = false := frozenB hRa2 0
  have i1 : W2.frozen? ⟨w.heap.size + 2, 1, none⟩ = false := frozenB hRa2 1
  have i2 : W2.frozen? ⟨w.heap.size + 2, 2, none⟩ = false := frozenB hRa2 2
  have r0 : W2.frozen? ⟨w.heap.size + 3, 0, none⟩ = false := frozenB hRb2 0
  have r1 : W2.frozen? ⟨w.heap.size + 3, 1, none⟩ = false := frozenB hRb2 1
  have r2 : W2.frozen? ⟨w.heap.size + 3, 2, none⟩ = false := frozenB hRb2 2
  have X0 : W2.drew.cell? ⟨Va, 0, none⟩ = some (.bool a0) := cellB hV rfl
  have X1 : W2.drew.cell? ⟨Va, 1, none⟩ = some (.slice p0 m0 k0) := cellB hV rfl
  have X2 : W2.drew.cell? ⟨Va, 2, none⟩ = some (.int .i64 a2) := cellB hV rfl
  have Y0 : W2.drew.cell? ⟨Vb, 0, none⟩ = some (.bool b0) := cellB hU rfl
  have Y1 : W2.drew.cell? ⟨Vb, 1, none⟩ = some (.slice q0 n0 j0) := cellB hU rfl
  have Y2 : W2.drew.cell? ⟨Vb, 2, none⟩ = some (.int .i64 b2) := cellB hU rfl
  have U0 : W2.drew.cell? ⟨w.heap.size + 2, 0, none⟩ = some (.bool false) := cellB hRa2 rfl
  have U1 : W2.drew.cell? ⟨w.heap.size + 2, 1, none⟩ = some (.slice none 0 0) := cellB hRa2 rfl
  have U2 : W2.drew.cell? ⟨w.heap.size + 2, 2, none⟩ = some (.int .i64 0) := cellB hRa2 rfl
  have T0 : W2.drew.cell? ⟨w.heap.size + 3, 0, none⟩ = some (.bool false) := cellB hRb2 rfl
  have T1 : W2.drew.cell? ⟨w.heap.size + 3, 1, none⟩ = some (.slice none 0 0) := cellB hRb2 rfl
  have T2 : W2.drew.cell? ⟨w.heap.size + 3, 2, none⟩ = some (.int .i64 0) := cellB hRb2 rfl
  have I0 : W2.drew.frozen? ⟨w.heap.size + 2, 0, none⟩ = false := frozenB hRa2 0
  have I1 : W2.drew.frozen? ⟨w.heap.size + 2, 1, none⟩ = false := frozenB hRa2 1
  have I2 : W2.drew.frozen? ⟨w.heap.size + 2, 2, none⟩ = false := frozenB hRa2 2
  have R0 : W2.drew.frozen? ⟨w.heap.size + 3, 0, none⟩ = false := frozenB hRb2 0
  have R1 : W2.drew.frozen? ⟨w.heap.size + 3, 1, none⟩ = false := frozenB hRb2 1
  have R2 : W2.drew.frozen? ⟨w.heap.size + 3, 2, none⟩ = false := frozenB hRb2 2
  replace hV := Lib.hid hV
  replace hU := Lib.hid hU
  replace hRa2 := Lib.hid hRa2
  replace hRb2 := Lib.hid hRb2
  replace hC2 := Lib.hid hC2
  replace hC2' := Lib.hid hC2'
  replace hC02 := Lib.hid hC02
  replace hf2 := Lib.hid hf2
  replace hc2 := Lib.hid hc2
  have l5 := hVb
  have o1 : w.heap.size + 3 < Va := by omega
  have o2 : Va < Vb := by omega
  have d1 : Va ≠ w.heap.size + 1 + 1 := by omega
  have d2 : Va ≠ w.heap.size + 1 + 1 + 1 := by omega
  have d3 : Vb ≠ w.heap.size + 1 + 1 := by omega
  have d4 : Vb ≠ w.heap.size + 1 + 1 + 1 := by omega
  have d5 : Va ≠ w.heap.size + 2 := by omega
  have d6 : Va ≠ w.heap.size + 3 := by omega
  have d7 : Vb ≠ w.heap.size + 2 := by omega
  have d8 : Vb ≠ w.heap.size + 3 := by omega
  replace l4 := Lib.hid l4
  replace hVb := Lib.hid hVb
  replace l1 := Lib.hid l1
  replace l2 := Lib.hid l2
  replace l3 := Lib.hid l3
  replace hs2 := Lib.hid hs2
  clear hb2 bl l5
  cases ok1
  all_goals
    go_region
    go_wp2
    clear x0 x1 x2 y0 y1 y2 t0 t1 t2 i0 i1 i2 r0 r1 r2 X0 X1 X2 Y0 Y1 Y2 U0 U1 U2 T0 T1 T2 I0 I1 I2 R0 R1 R2 d1 d2 d3 d4 d5 d6 d7 d8
    have hE1 := end3 hRa2.out (.bool a0) (.slice p0 m0 k0) (.int .i64 a2)
    have hch1 := chg3 W2 (w.heap.size + 2) (.bool a0) (.slice p0 m0 k0) (.int .i64 a2)
    have hRb3 := hch1.heapB hRb2.out (by omega)
    generalize ((W2.setCell ⟨w.heap.size + 2, 0, none⟩ (.bool a0)).setCell ⟨w.heap.size + 2, 1, none⟩ (.slice p0 m0 k0)).setCell ⟨w.heap.size + 2, 2, none⟩ (.int .i64 a2) = V1 at hE1 hch1 hRb3 ⊢
    have hE2 := end3 hRb3 (.bool b0) (.slice q0 n0 j0) (.int .i64 b2)
    have hch2 := chg3 V1 (w.heap.size + 3) (.bool b0) (.slice q0 n0 j0) (.int .i64 b2)
    have hE3 := hch2.heapB hE1 (by omega)
    generalize ((V1.setCell ⟨w.heap.size + 3, 0, none⟩ (.bool b0)).setCell ⟨w.heap.size + 3, 1, none⟩ (.slice q0 n0 j0)).setCell ⟨w.heap.size + 3, 2, none⟩ (.int .i64 b2) = V2 at hE2 hE3 hch2 ⊢
    have g0 : V2.cell? ⟨w.heap.size + 1 + 1, 0, none⟩ = some (.bool a0) := cellB hE3 rfl
    have g1 : V2.cell? ⟨w.heap.size + 1 + 1, 1, none⟩ = some (.slice p0 m0 k0) := cellB hE3 rfl
    have g2 : V2.cell? ⟨w.heap.size + 1 + 1, 2, none⟩ = some (.int .i64 a2) := cellB hE3 rfl
    have g3 : V2.cell? ⟨w.heap.size + 1 + 1 + 1, 0, none⟩ = some (.bool b0) := cellB hE2 rfl
    have g4 : V2.cell? ⟨w.heap.size + 1 + 1 + 1, 1, none⟩ = some (.slice q0 n0 j0) := cellB hE2 rfl
    have g5 : V2.cell? ⟨w.heap.size + 1 + 1 + 1, 2, none⟩ = some (.int .i64 b2) := cellB hE2 rfl
    have k1 := l1.out
    have k2 := l2.out
    have k3 := l3.out
    have k4 := l4.out
    have k5 := hVb.out
    have k6 := hs2.out
    have m0' : Chg W2 V2 (fun k => k = w.heap.size + 2 ∨ k = w.heap.size + 3) := (hch1.mono (fun k _ h => .inl h)).trans (hch2.mono (fun k _ h => .inl (.inr h)))
    have m1 : Chg w2 V2.drew (fun k => k = w.heap.size + 2 ∨ k = w.heap.size + 3) := ((hC2.out.mono (fun _ _ h => h.elim)).trans (m0'.mono (fun k _ h => .inl h))).drew
    have m2 : Chg w1 V2.drew (fun k => k = w.heap.size + 2 ∨ k = w.heap.size + 3) := ((hC1.out.mono (fun _ _ h => h.elim)).trans (hc2.out.mono (fun _ _ h => h.elim))).trans (m1.mono (fun k _ h => .inl h))
    have m3 : Chg w V2.drew (fun _ => False) := (hC02.out.trans (m0'.mono (fun k _ h => .inr (by omega)))).drew
  · exact bodyPost_ret (v := .tuple #[.agg #[.bool a0, .slice p0 m0 k0, .int .i64 a2], .agg #[.bool b0, .slice q0 n0 j0, .int .i64 b2], .bool false]) (by simp [results, Tryz.results17, go_sem, g0, g1, g2, g3, g4, g5]) rfl
      ⟨_, _, _, _, _, _, _, _, _, _, _, rfl, ⟨m3.os, m3.tape, m3.output, m3.size, fun k hk => m3.block k hk (fun h => h)⟩, (fun h => by cases h)⟩
  · exact bodyPost_ret (v := .tuple #[.agg #[.bool a0, .slice p0 m0 k0, .int .i64 a2], .agg #[.bool b0, .slice q0 n0 j0, .int .i64 b2], .bool ok2]) (by simp [results, Tryz.results17, go_sem, g0, g1, g2, g3, g4, g5]) rfl
      ⟨_, _, _, _, _, _, _, _, _, _, _, rfl, ⟨m3.os, m3.tape, m3.output, m3.size, fun k hk => m3.block k hk (fun h => h)⟩, (fun h => ⟨(hf1.out (by simp)).chg hC0.out m2 (fun k h => by omega), (hf2.out h).chg hC01.out m1 (fun k h => by omega)⟩)⟩
end Go.Proofs.YtlnillnngckegaaGreatDoor

namespace Go.Proofs.YtlnillnngckegaaGreatDoor
open Go Go.RowKit

/-- A context of a precision from 1 to 60 and a mode. -/
theorem wideC_c (w : World) (prec mode : Int) (p m : Nat) (hp : 0 ≤ prec ∧ prec ≤ 255) (hm : 0 ≤ mode ∧ mode ≤ 255) (hmm : mode % 8 = (m : Int)) (hpp : 1 + prec % 60 = (p : Int)) :
    Calls Tryz.prog 11 #[.int .u8 prec, .int .u8 mode] w fun e w' => e = .returned (.agg #[.int .u64 (p : Int), .int .i64 100000, .int .i64 (-100000), .int .i64 (m : Int)]) ∧ Below w.heap.size w w' := by
  obtain ⟨hp1, hp2⟩ := hp
  obtain ⟨hm1, hm2⟩ := hm
  have i1 : IntKind.u64.wrap (prec % 60) = prec % 60 := IntWalk.u64_in _ (by omega)
  have i2 : IntKind.u64.wrap (1 + prec % 60) = 1 + prec % 60 := IntWalk.u64_in _ (by omega)
  rw [← hmm, ← hpp]
  clear hmm hpp
  go_enter Tryz.func11, Tryz.ntmps11
  go_wp2
  exact bodyPost_ret (v := .agg #[.int .u64 (1 + prec % 60), .int .i64 100000, .int .i64 (-100000), .int .i64 (mode % 8)]) (by simp [results, Tryz.results11, go_sem]) rfl ⟨rfl, (Below.refl _ _).alloc (Nat.le_refl _) _⟩
theorem cbelow {w w' : World} (h : Chg w w' (fun _ => False)) : Below w.heap.size w w' := ⟨h.os, h.tape, h.output, h.size, fun k hk => h.block k hk (fun h => h)⟩
theorem Glob.bel {w w' : World} (h : Glob w) (hb : Below w.heap.size w w') : Glob w' := h.chg (Below.chg hb) (fun _ _ h => h)
theorem condN_flag (N p : Nat) : (condN (rndC N p) : Int) = flagN N p := by
  unfold rndC flagN rndX
  by_cases h : figs N ≤ p
  · have h2 : ¬ p < figs N := by omega
    simp [h, h2, condN]
  · have h2 : p < figs N := by omega
    cases inexN N (figs N - p) <;> simp [h, h2, condN]
/-- Three words. -/
theorem val3 {X : List Nat} (hw : Wd X) {l : Nat} (hX : X.length = l) (hl : l ≤ 3) : val X < 10 ^ 58 ∧ nbits (val X) ≤ 192 := by
  have h1 := val_lt hw
  have h2 : WB ^ X.length ≤ WB ^ 3 := Nat.pow_le_pow_right WB_pos (by omega)
  have h3 : WB ^ 3 = 2 ^ 192 := by rw [WB_bits]
  have h4 : 2 ^ 192 < 10 ^ 58 := by decide
  exact ⟨by omega, nbits_le_iff.2 (by omega)⟩
theorem nbits_wide {N i k : Nat} (h : nbits N ≤ k) : nbits (N * 10 ^ i) ≤ k + 4 * i := by
  rw [nbits_le_iff] at *
  rw [Nat.pow_add, Nat.pow_mul]
  exact Nat.lt_of_lt_of_le (Nat.mul_lt_mul_of_pos_right h (ten_pos i)) (Nat.mul_le_mul_left _ (Nat.pow_le_pow_left (by decide) i))
theorem d16_len_ten {N j : Nat} (h : N < 10 ^ j) : (d16 N).length ≤ j := (dB_len_le two16).2 (Nat.lt_of_lt_of_le h (Nat.pow_le_pow_left (by decide) j))
theorem figs_ten {N j : Nat} (h : N < 10 ^ j) : figs N ≤ j + 1 := (figs_le_iff (by omega)).2 (Nat.lt_of_lt_of_le h (ten_le (by omega)))
theorem rnd_small {n : Bool} {N p m : Nat} (hp : 1 ≤ p) (hp2 : p ≤ 60) : (digs (rndN n N p m)).length ≤ 4 := by
  have h1 := figs_lt (rndN n N p m)
  have h2 := ten_le (Nat.le_trans (rndN_figs (neg := n) (C := N) (p := p) (mode := m) hp) hp2)
  have h3 : 10 ^ 60 < WB ^ 4 := by rw [WB_bits]; decide
  exact digs_len_le.2 (by omega)
theorem rndK_le (n : Bool) (N p m : Nat) : rndK n N p m ≤ figs N + 1 := by
  unfold rndK; split
  · omega
  · split <;> omega
theorem sum_ten {A B j : Nat} (hA : A < 10 ^ j) (hB : B < 10 ^ j) (s t : Bool) : (if s = t then A + B else if B ≤ A then A - B else B - A) < 10 ^ (j + 1) := by
  rw [ten_succ]
  split
  · omega
  · split <;> omega
theorem wide_ten {N i j : Nat} (h : N < 10 ^ j) : N * 10 ^ i < 10 ^ (j + i) := by
  rw [Nat.pow_add]; exact Nat.mul_lt_mul_of_pos_right h (ten_pos i)
theorem ten_weak {N i j : Nat} (h : N < 10 ^ i) (hij : i ≤ j) : N < 10 ^ j := Nat.lt_of_lt_of_le h (ten_le hij)
/-- The boxes of what is told, of one value, and of a context. -/
def Bl1 (zb vb cb : Nat) (nz : Bool) (q : Option Addr) (lq cq : Nat) (ez : Int) (s : Bool) (p : Option Addr) (l c : Nat) (e : Int) (pr m : Nat) (w : World) : Prop :=
  w.heap[zb]? = some (.cells #[.int .i64 0, .bool nz, .slice q lq cq, .int .i64 ez] 24 (0, 0)) ∧ w.heap[vb]? = some (.cells #[.bool s, .slice p l c, .int .i64 e] 29 (0, 0)) ∧
    w.heap[cb]? = some (.cells #[.int .u64 (pr : Int), .int .i64 100000, .int .i64 (-100000), .int .i64 (m : Int)] 34 (0, 0))
theorem Bl1.cells {zb vb cb : Nat} {nz : Bool} {q : Option Addr} {lq cq : Nat} {ez : Int} {s : Bool} {p : Option Addr} {l c : Nat} {e : Int} {pr m : Nat} {w : World} (h : Bl1 zb vb cb nz q lq cq ez s p l c e pr m w) :
    w.cell? ⟨zb, 0, none⟩ = some (.int .i64 0) ∧ w.cell? ⟨zb, 1, none⟩ = some (.bool nz) ∧ w.cell? ⟨zb, 2, none⟩ = some (.slice q lq cq) ∧ w.cell? ⟨zb, 3, none⟩ = some (.int .i64 ez) ∧
    w.cell? ⟨vb, 0, none⟩ = some (.bool s) ∧ w.cell? ⟨vb, 1, none⟩ = some (.slice p l c) ∧ w.cell? ⟨vb, 2, none⟩ = some (.int .i64 e) ∧
    w.cell? ⟨cb, 0, none⟩ = some (.int .u64 (pr : Int)) ∧ w.cell? ⟨cb, 1, none⟩ = some (.int .i64 100000) ∧ w.cell? ⟨cb, 2, none⟩ = some (.int .i64 (-100000)) ∧ w.cell? ⟨cb, 3, none⟩ = some (.int .i64 (m : Int)) :=
  ⟨cellB h.1 rfl, cellB h.1 rfl, cellB h.1 rfl, cellB h.1 rfl, cellB h.2.1 rfl, cellB h.2.1 rfl, cellB h.2.1 rfl, cellB h.2.2 rfl, cellB h.2.2 rfl, cellB h.2.2 rfl, cellB h.2.2 rfl⟩
theorem Bl1.new {zb vb cb : Nat} {nz : Bool} {q : Option Addr} {lq cq : Nat} {ez : Int} {s : Bool} {p : Option Addr} {l c : Nat} {e : Int} {pr m : Nat} {w w' : World} (h : Bl1 zb vb cb nz q lq cq ez s p l c e pr m w) (hb : Below w.heap.size w w') : Bl1 zb vb cb nz q lq cq ez s p l c e pr m w' := ⟨bkeep hb h.1, bkeep hb h.2.1, bkeep hb h.2.2⟩
theorem addS_sum (s t : Bool) (A B : Nat) (fl : Bool) : addS s t A B fl = sumS s t A B ∨ addN s t A B = 0 := by
  unfold addS sumS addN
  by_cases h : s = t
  · rw [if_pos h, if_pos h]; exact .inl rfl
  · rw [if_neg h, if_neg h, if_neg h]
    rcases Nat.lt_trichotomy A B with h1 | h1 | h1
    · rw [if_neg (by omega), if_neg (by omega), if_neg (by omega)]
      refine .inl ?_
      cases s <;> cases t <;> simp_all
    · subst h1; rw [if_pos (Nat.le_refl _)]; exact .inr (by simp)
    · rw [if_neg (by omega), if_pos h1, if_pos (by omega)]; exact .inl rfl
theorem negS_not (n : Bool) (N : Nat) : negS n N = !n ∨ N = 0 := by
  unfold negS
  by_cases h : N = 0
  · exact .inr h
  · refine .inl ?_
    rw [decide_eq_false h]; cases n <;> rfl
end Go.Proofs.YtlnillnngckegaaGreatDoor
