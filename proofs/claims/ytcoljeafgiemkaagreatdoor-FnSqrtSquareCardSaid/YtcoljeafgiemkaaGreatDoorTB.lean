/- More: The reference's values: the opposite, sums. More: Boxes kept as a list. -/
import Derived.Test.YtcoljeafgiemkaaGreatDoorC21
import Derived.Test.YtcoljeafgiemkaaGreatDoorTA
import Derived.Test.YtcoljeafgiemkaaGreatDoorC10
import Derived.Test.YtcoljeafgiemkaaGreatDoorC12
namespace Go.Proofs.YtcoljeafgiemkaaGreatDoor
open Go Go.RowKit

theorem opp_c (w : World) (n : Bool) (p : Option Addr) (l c : Nat) (e : Int) (N : Nat) (_hX : RdD w p l c (d16 N)) :
    Calls Tryz.prog 35 #[.agg #[.bool n, .slice p l c, .int .i64 e]] w fun E w' => E = .returned (.agg #[.bool (!n), .slice p l c, .int .i64 e]) ∧ Below w.heap.size w w' := by
  clear _hX
  go_enter Tryz.func35, Tryz.ntmps35
  go_upto_region 1 with (fail)
  generalize hW : (w.alloc (.cells #[.bool n, .slice p l c, .int .i64 e] 30 (0, 0))).alloc (.cells #[.bool false, .slice none 0 0, .int .i64 0] 30 (0, 0)) = W
  have hB0 : Below w.heap.size w W := by rw [← hW]; exact ((Below.refl _ _).alloc (Nat.le_refl _) _).alloc (by simp) _
  have hV0 : W.heap[w.heap.size]? = some (.cells #[.bool n, .slice p l c, .int .i64 e] 30 (0, 0)) := by rw [← hW]; exact allocB_old (allocB _ _)
  have hR0 : W.heap[w.heap.size + 1]? = some (.cells #[.bool false, .slice none 0 0, .int .i64 0] 30 (0, 0)) := by rw [← hW]; exact allocB_at _ _ (by simp)
  clear hW
  have v0 := cellB hV0 (i := 0) rfl
  have v1 := cellB hV0 (i := 1) rfl
  have v2 := cellB hV0 (i := 2) rfl
  have z0 := cellB hR0 (i := 0) rfl
  have z1 := cellB hR0 (i := 1) rfl
  have z2 := cellB hR0 (i := 2) rfl
  have y0 := frozenB hR0 0
  have y1 := frozenB hR0 1
  have y2 := frozenB hR0 2
  replace hB0 := Lib.hid hB0
  replace hR0 := Lib.hid hR0
  clear hV0
  go_wp2
  clear v0 v1 v2 z0 z1 z2 y0 y1 y2
  have hE := end3 hR0.out (.bool (!n)) (.slice p l c) (.int .i64 e)
  have hch := chg3 W (w.heap.size + 1) (.bool (!n)) (.slice p l c) (.int .i64 e)
  generalize ((W.setCell ⟨w.heap.size + 1, 0, none⟩ (.bool (!n))).setCell ⟨w.heap.size + 1, 1, none⟩ (.slice p l c)).setCell ⟨w.heap.size + 1, 2, none⟩ (.int .i64 e) = W9 at hE hch ⊢
  have e0 : W9.cell? ⟨w.heap.size + 1, 0, none⟩ = some (.bool (!n)) := cellB hE rfl
  have e1 : W9.cell? ⟨w.heap.size + 1, 1, none⟩ = some (.slice p l c) := cellB hE rfl
  have e2 : W9.cell? ⟨w.heap.size + 1, 2, none⟩ = some (.int .i64 e) := cellB hE rfl
  exact bodyPost_ret (v := .agg #[.bool (!n), .slice p l c, .int .i64 e]) (by simp [results, Tryz.results35, go_sem, e0, e1, e2]) rfl ⟨rfl, by have h1 := (Below.chg hB0.out).trans (hch.mono (fun k _ h => .inr (by omega))); exact ⟨h1.os, h1.tape, h1.output, h1.size, fun k hk => h1.block k hk (fun h => h)⟩⟩

theorem d16_len_wide {N l i : Nat} (h : (d16 N).length = l) : (d16 (N * 10 ^ i)).length ≤ l + i := by
  refine (dB_len_le two16).2 ?_
  have h1 := (dB_len_le two16 (n := N) (k := l)).1 (by rw [← h]; exact Nat.le_refl _)
  have h2 : 10 ^ i ≤ 65536 ^ i := Nat.pow_le_pow_left (by decide) i
  rw [Nat.pow_add]
  exact Nat.lt_of_lt_of_le (Nat.mul_lt_mul_of_pos_right h1 (ten_pos i)) (Nat.mul_le_mul_left _ h2)
theorem ord3_ge {a b : Nat} : 0 ≤ ord3 a b ↔ b ≤ a := by
  unfold ord3; split
  · omega
  · split <;> omega
set_option maxRecDepth 20000 in
set_option maxHeartbeats 8000000 in
theorem sumV_c (w : World) (s t : Bool) (p q : Option Addr) (l c a b : Nat) (e f : Int) (N M : Nat) (g : Int) (i j A B : Nat) (hX : RdD w p l c (d16 N)) (hY : RdD w q a b (d16 M)) (hl : l ≤ 1000) (ha : a ≤ 1000) (he : -1000 ≤ e ∧ e ≤ 1000) (hf : -1000 ≤ f ∧ f ≤ 1000)
    (hg : min e f = g) (hi : e - g = (i : Int)) (hj : f - g = (j : Int)) (hA : A = N * 10 ^ i) (hB : B = M * 10 ^ j) :
    Calls Tryz.prog 34 #[.agg #[.bool s, .slice p l c, .int .i64 e], .agg #[.bool t, .slice q a b, .int .i64 f]] w fun E w' => ValN w w' E (sumS s t A B) g (if s = t then A + B else if B ≤ A then A - B else B - A) := by
  have hs1 : s = t → sumS s t A B = s ∧ (if s = t then A + B else if B ≤ A then A - B else B - A) = A + B := fun h => ⟨by unfold sumS; rw [if_pos h], by rw [if_pos h]⟩
  have hs2 : ¬ s = t → B ≤ A → sumS s t A B = s ∧ (if s = t then A + B else if B ≤ A then A - B else B - A) = A - B := fun h h' => ⟨by unfold sumS; rw [if_neg h, if_pos h'], by rw [if_neg h, if_pos h']⟩
  have hs3 : ¬ s = t → ¬ B ≤ A → sumS s t A B = t ∧ (if s = t then A + B else if B ≤ A then A - B else B - A) = B - A := fun h h' => ⟨by unfold sumS; rw [if_neg h, if_neg h'], by rw [if_neg h, if_neg h']⟩
  generalize sumS s t A B = SG at hs1 hs2 hs3 ⊢
  generalize (if s = t then A + B else if B ≤ A then A - B else B - A) = RR at hs1 hs2 hs3 ⊢
  replace hs1 := Lib.hid hs1
  replace hs2 := Lib.hid hs2
  replace hs3 := Lib.hid hs3
  have hlA : (d16 A).length ≤ 4000 := by rw [hA]; exact Nat.le_trans (d16_len_wide hX.len) (by omega)
  have hlB : (d16 B).length ≤ 4000 := by rw [hB]; exact Nat.le_trans (d16_len_wide hY.len) (by omega)
  have kA := fun W (hb : Below w.heap.size w W) => wideV_c W s p l c e N g i (hX.below hb) (by omega) hi (by omega) (by omega)
  have kB := fun W (hb : Below w.heap.size w W) => wideV_c W t q a b f M g j (hY.below hb) (by omega) hj (by omega) (by omega)
  rw [← hA] at kA
  rw [← hB] at kB
  replace kA := Lib.hid kA
  replace kB := Lib.hid kB
  replace hX := Lib.hid hX
  replace hY := Lib.hid hY
  replace hA := Lib.hid hA
  replace hB := Lib.hid hB
  replace hi := Lib.hid hi
  replace hj := Lib.hid hj
  go_enter Tryz.func34, Tryz.ntmps34
  go_upto_region 1 with (fail)
  generalize hW : ((w.alloc (.cells #[.bool s, .slice p l c, .int .i64 e] 30 (0, 0))).alloc (.cells #[.bool t, .slice q a b, .int .i64 f] 30 (0, 0))).alloc (.cells #[.bool false, .slice none 0 0, .int .i64 0] 30 (0, 0)) = W
  have hB0 : Below w.heap.size w W := by rw [← hW]; exact (((Below.refl _ _).alloc (Nat.le_refl _) _).alloc (by simp) _).alloc (by simp; omega) _
  have hP0 : W.heap[w.heap.size]? = some (.cells #[.bool s, .slice p l c, .int .i64 e] 30 (0, 0)) := by rw [← hW]; exact allocB_old (allocB_old (allocB _ _))
  have hQ0 : W.heap[w.heap.size + 1]? = some (.cells #[.bool t, .slice q a b, .int .i64 f] 30 (0, 0)) := by rw [← hW]; exact allocB_old (allocB_at _ _ (by simp))
  have hR0 : W.heap[w.heap.size + 2]? = some (.cells #[.bool false, .slice none 0 0, .int .i64 0] 30 (0, 0)) := by rw [← hW]; exact allocB_at _ _ (by simp)
  have hsz : W.heap.size = w.heap.size + 3 := by rw [← hW]; simp
  clear hW
  have hBv : Bv2 w.heap.size s t p q l c a b e f W := ⟨hP0, hQ0⟩
  have e2 := cellB hP0 (i := 2) rfl
  have f2 := cellB hQ0 (i := 2) rfl
  replace hBv := Lib.hid hBv
  replace hB0 := Lib.hid hB0
  replace hR0 := Lib.hid hR0
  replace hsz := Lib.hid hsz
  clear hP0 hQ0
  go_upto_region 2 with (fail)
  clear e2 f2
  have hS0 := (show Bv2 w.heap.size s t p q l c a b e f W.drew from hBv.out).cells
  go_region_held3 (fun w' => w'.cell? ⟨w.heap.size, 0, none⟩ = some (.bool s) ∧ w'.cell? ⟨w.heap.size, 1, none⟩ = some (.slice p l c) ∧ w'.cell? ⟨w.heap.size, 2, none⟩ = some (.int .i64 e) ∧ w'.cell? ⟨w.heap.size + 1, 0, none⟩ = some (.bool t) ∧ w'.cell? ⟨w.heap.size + 1, 1, none⟩ = some (.slice q a b) ∧ w'.cell? ⟨w.heap.size + 1, 2, none⟩ = some (.int .i64 f)) (first | exact hS0 | exact hS1 | exact hS2) (first
    | (go_at_call 69
       with_reducible refine (kA.out W.drew (Below.drw hB0.out)).mono ?_
       rintro E w1 ⟨p1, l1, c1, rfl, h1⟩
       have hb1 := bundrew h1.bel
       have hBv1 := hBv.out.new hb1
       have hS1 := hBv1.cells
       replace h1 := Lib.hid h1
       replace hb1 := Lib.hid hb1
       replace hBv1 := Lib.hid hBv1)
    | (go_at_call 69
       with_reducible refine (kB.out w1 (brise hB0.out hb1.out)).mono ?_
       rintro E w2 ⟨q1, a1, b1, rfl, h2⟩
       have hBv2 := hBv1.out.new h2.bel
       have hS2 := hBv2.cells
       replace h2 := Lib.hid h2
       replace hBv2 := Lib.hid hBv2))
  have hrA := h1.out.rd.below h2.out.bel
  have hrB := h2.out.rd
  have hb2 := brise hb1.out h2.out.bel
  have hR2 := bkeep hb2 hR0.out
  have hl1 : l1 ≤ 4000 := by rw [← hrA.len]; exact hlA
  have ha1 : a1 ≤ 4000 := by rw [← hrB.len]; exact hlB
  have c0 := hBv2.out.cells.1
  have d0 := hBv2.out.cells.2.2.2.1
  replace hrA := Lib.hid hrA
  replace hrB := Lib.hid hrB
  replace hb2 := Lib.hid hb2
  replace hR2 := Lib.hid hR2
  replace hlA := Lib.hid hlA
  replace hlB := Lib.hid hlB
  clear hS0 hS1 hS2 h1 h2 kA kB hBv1 hb1 hBv hR0
  by_cases hst : s = t
  · subst hst
    obtain ⟨hsg, hrr⟩ := hs1.out rfl
    replace hsg := Lib.hid hsg
    replace hrr := Lib.hid hrr
    go_upto_region 4 with (fail)
    clear c0 d0
    have k3 := addD_c (w2).drew p1 q1 l1 c1 a1 b1 A B (hrA.out.below (Below.drw (Below.refl _ _))) (hrB.out.below (Below.drw (Below.refl _ _))) (by omega) (by omega)
    replace k3 := Lib.hid k3
    have hS0 : (w2).drew.cell? ⟨w.heap.size, 0, none⟩ = some (.bool s) := hBv2.out.cells.1
    go_region_held3 (fun w' => w'.cell? ⟨w.heap.size, 0, none⟩ = some (.bool s)) (first | exact hS0 | exact hS1 | exact (hBv3.out.chg (chg3 w4 _ _ _ _) (by omega) (by omega)).cells.1) (
      (go_at_call 50
       with_reducible refine k3.out.mono ?_
       rintro E w4 ⟨r, lr, cr, rfl, h4⟩
       have hb4 := bundrew h4.bel
       have hBv3 := hBv2.out.new hb4
       have hR4 := bkeep hb4 hR2.out
       have hS1 := hBv3.cells.1
       have z0 := cellB hR4 (i := 0) rfl
       have z1 := cellB hR4 (i := 1) rfl
       have z2 := cellB hR4 (i := 2) rfl
       have y0 := frozenB hR4 0
       have y1 := frozenB hR4 1
       have y2 := frozenB hR4 2
       replace hR4 := Lib.hid hR4
       replace h4 := Lib.hid h4
       replace hb4 := Lib.hid hb4
       replace hBv3 := Lib.hid hBv3))
    go_wp2
    clear hS0 hS1 z0 z1 z2 y0 y1 y2
    have hE := end3 hR4.out (.bool s) (.slice r lr cr) (.int .i64 g)
    have hch := chg3 w4 (w.heap.size + 2) (.bool s) (.slice r lr cr) (.int .i64 g)
    generalize ((w4.setCell ⟨w.heap.size + 2, 0, none⟩ (.bool s)).setCell ⟨w.heap.size + 2, 1, none⟩ (.slice r lr cr)).setCell ⟨w.heap.size + 2, 2, none⟩ (.int .i64 g) = W9 at hE hch ⊢
    have e0 : W9.cell? ⟨w.heap.size + 1 + 1, 0, none⟩ = some (.bool s) := cellB hE rfl
    have e1 : W9.cell? ⟨w.heap.size + 1 + 1, 1, none⟩ = some (.slice r lr cr) := cellB hE rfl
    have e2 : W9.cell? ⟨w.heap.size + 1 + 1, 2, none⟩ = some (.int .i64 g) := cellB hE rfl
    exact bodyPost_ret (v := .agg #[.bool s, .slice r lr cr, .int .i64 g]) (by simp [results, Tryz.results34, go_sem, e0, e1, e2]) rfl ⟨r, lr, cr, by rw [hsg.out], ((DRes.early (w := W) (w1 := (w2).drew) h4.out (Below.drw hb2.out)).chgBox hB0.out hch (by omega) (by have := hsz.out; omega)).eq hrr.out.symm⟩
  · have hst2 : (s == t) = false := by simpa using hst
    replace hst := Lib.hid hst
    go_upto_region 5 with (fail)
    have kc := cmpD_c w2 p1 q1 l1 c1 a1 b1 A B hrA.out hrB.out
    by_cases hle : B ≤ A
    · have hR := ord3_ge.2 hle
      obtain ⟨hsg, hrr⟩ := hs2.out hst.out hle
      replace hrr := Lib.hid hrr
      generalize ord3 A B = R at hR kc
      replace kc := Lib.hid kc
      replace hsg := Lib.hid hsg
      replace hle := Lib.hid hle
      go_wp2_with fail
      with_reducible refine kc.out.mono ?_
      rintro E w3 ⟨rfl, n, rfl⟩
      have hbn := Below.drwS (w := w2) n
      have hrA := hrA.out.below hbn
      have hrB := hrB.out.below hbn
      have hR2 := bkeep hbn hR2.out
      have hb2 := brise hb2.out hbn
      have hBv2 := hBv2.out.new hbn
      generalize w2.drewN n = w3 at hrA hrB hR2 hb2 hBv2 ⊢
      replace hrA := Lib.hid hrA
      replace hrB := Lib.hid hrB
      replace hR2 := Lib.hid hR2
      replace hb2 := Lib.hid hb2
      replace hBv2 := Lib.hid hBv2
      clear hbn
      go_upto_region 6 with (fail)
      clear c0 d0 kc
      have k3 := subD_c (w3).drew p1 q1 l1 c1 a1 b1 A B (hrA.out.below (Below.drw (Below.refl _ _))) (hrB.out.below (Below.drw (Below.refl _ _))) (by omega) (by omega) hle.out
      replace k3 := Lib.hid k3
      have hS0 : (w3).drew.cell? ⟨w.heap.size, 0, none⟩ = some (.bool s) := hBv2.out.cells.1
      go_region_held3 (fun w' => w'.cell? ⟨w.heap.size, 0, none⟩ = some (.bool s)) (first | exact hS0 | exact hS1 | exact (hBv3.out.chg (chg3 w4 _ _ _ _) (by omega) (by omega)).cells.1) (
        (go_at_call 70
         with_reducible refine k3.out.mono ?_
         rintro E w4 ⟨r, lr, cr, rfl, h4⟩
         have hb4 := bundrew h4.bel
         have hBv3 := hBv2.out.new hb4
         have hR4 := bkeep hb4 hR2.out
         have hS1 := hBv3.cells.1
         have z0 := cellB hR4 (i := 0) rfl
         have z1 := cellB hR4 (i := 1) rfl
         have z2 := cellB hR4 (i := 2) rfl
         have y0 := frozenB hR4 0
         have y1 := frozenB hR4 1
         have y2 := frozenB hR4 2
         replace hR4 := Lib.hid hR4
         replace h4 := Lib.hid h4
         replace hb4 := Lib.hid hb4
         replace hBv3 := Lib.hid hBv3))
      go_wp2
      clear hS0 hS1 z0 z1 z2 y0 y1 y2
      have hE := end3 hR4.out (.bool s) (.slice r lr cr) (.int .i64 g)
      have hch := chg3 w4 (w.heap.size + 2) (.bool s) (.slice r lr cr) (.int .i64 g)
      generalize ((w4.setCell ⟨w.heap.size + 2, 0, none⟩ (.bool s)).setCell ⟨w.heap.size + 2, 1, none⟩ (.slice r lr cr)).setCell ⟨w.heap.size + 2, 2, none⟩ (.int .i64 g) = W9 at hE hch ⊢
      have e0 : W9.cell? ⟨w.heap.size + 1 + 1, 0, none⟩ = some (.bool s) := cellB hE rfl
      have e1 : W9.cell? ⟨w.heap.size + 1 + 1, 1, none⟩ = some (.slice r lr cr) := cellB hE rfl
      have e2 : W9.cell? ⟨w.heap.size + 1 + 1, 2, none⟩ = some (.int .i64 g) := cellB hE rfl
      exact bodyPost_ret (v := .agg #[.bool s, .slice r lr cr, .int .i64 g]) (by simp [results, Tryz.results34, go_sem, e0, e1, e2]) rfl ⟨r, lr, cr, by rw [hsg.out], ((DRes.early (w := W) (w1 := (w3).drew) h4.out (Below.drw hb2.out)).chgBox hB0.out hch (by omega) (by have := hsz.out; omega)).eq hrr.out.symm⟩
    · have hR : ¬ 0 ≤ ord3 A B := fun h => hle (ord3_ge.1 h)
      obtain ⟨hsg, hrr⟩ := hs3.out hst.out hle
      replace hrr := Lib.hid hrr
      generalize ord3 A B = R at hR kc
      have hR : R < 0 := by omega
      have hRd : decide (0 ≤ R) = false := by simp; omega
      replace kc := Lib.hid kc
      replace hsg := Lib.hid hsg
      have hle2 : A ≤ B := by omega
      replace hle := Lib.hid hle
      replace hle2 := Lib.hid hle2
      go_wp2_with fail
      with_reducible refine kc.out.mono ?_
      rintro E w3 ⟨rfl, n, rfl⟩
      have hbn := Below.drwS (w := w2) n
      have hrA := hrA.out.below hbn
      have hrB := hrB.out.below hbn
      have hR2 := bkeep hbn hR2.out
      have hb2 := brise hb2.out hbn
      have hBv2 := hBv2.out.new hbn
      generalize w2.drewN n = w3 at hrA hrB hR2 hb2 hBv2 ⊢
      replace hrA := Lib.hid hrA
      replace hrB := Lib.hid hrB
      replace hR2 := Lib.hid hR2
      replace hb2 := Lib.hid hb2
      replace hBv2 := Lib.hid hBv2
      clear hbn
      go_upto_region 7 with (fail)
      clear c0 d0 kc
      have k3 := subD_c (w3).drew q1 p1 a1 b1 l1 c1 B A (hrB.out.below (Below.drw (Below.refl _ _))) (hrA.out.below (Below.drw (Below.refl _ _))) (by omega) (by omega) hle2.out
      replace k3 := Lib.hid k3
      have hS0 : (w3).drew.cell? ⟨w.heap.size + 1, 0, none⟩ = some (.bool t) := hBv2.out.cells.2.2.2.1
      go_region_held3 (fun w' => w'.cell? ⟨w.heap.size + 1, 0, none⟩ = some (.bool t)) (first | exact hS0 | exact hS1 | exact (hBv3.out.chg (chg3 w4 _ _ _ _) (by omega) (by omega)).cells.2.2.2.1) (
        (go_at_call 70
         with_reducible refine k3.out.mono ?_
         rintro E w4 ⟨r, lr, cr, rfl, h4⟩
         have hb4 := bundrew h4.bel
         have hBv3 := hBv2.out.new hb4
         have hR4 := bkeep hb4 hR2.out
         have hS1 := hBv3.cells.2.2.2.1
         have z0 := cellB hR4 (i := 0) rfl
         have z1 := cellB hR4 (i := 1) rfl
         have z2 := cellB hR4 (i := 2) rfl
         have y0 := frozenB hR4 0
         have y1 := frozenB hR4 1
         have y2 := frozenB hR4 2
         replace hR4 := Lib.hid hR4
         replace h4 := Lib.hid h4
         replace hb4 := Lib.hid hb4
         replace hBv3 := Lib.hid hBv3))
      go_wp2
      clear hS0 hS1 z0 z1 z2 y0 y1 y2
      have hE := end3 hR4.out (.bool t) (.slice r lr cr) (.int .i64 g)
      have hch := chg3 w4 (w.heap.size + 2) (.bool t) (.slice r lr cr) (.int .i64 g)
      generalize ((w4.setCell ⟨w.heap.size + 2, 0, none⟩ (.bool t)).setCell ⟨w.heap.size + 2, 1, none⟩ (.slice r lr cr)).setCell ⟨w.heap.size + 2, 2, none⟩ (.int .i64 g) = W9 at hE hch ⊢
      have e0 : W9.cell? ⟨w.heap.size + 1 + 1, 0, none⟩ = some (.bool t) := cellB hE rfl
      have e1 : W9.cell? ⟨w.heap.size + 1 + 1, 1, none⟩ = some (.slice r lr cr) := cellB hE rfl
      have e2 : W9.cell? ⟨w.heap.size + 1 + 1, 2, none⟩ = some (.int .i64 g) := cellB hE rfl
      exact bodyPost_ret (v := .agg #[.bool t, .slice r lr cr, .int .i64 g]) (by simp [results, Tryz.results34, go_sem, e0, e1, e2]) rfl ⟨r, lr, cr, by rw [hsg.out], ((DRes.early (w := W) (w1 := (w3).drew) h4.out (Below.drw hb2.out)).chgBox hB0.out hch (by omega) (by have := hsz.out; omega)).eq hrr.out.symm⟩
end Go.Proofs.YtcoljeafgiemkaaGreatDoor

namespace Go.Proofs.YtcoljeafgiemkaaGreatDoor
open Go Go.RowKit

theorem Bxs.al {L : List (Nat × Array Value × TypeId)} {w : World} (h : Bxs L w) (o : Obj) : Bxs L (w.alloc o) := Bxs.new ((Below.refl _ _).alloc (Nat.le_refl _) _) h
theorem belBox {w0 w w' : World} {k : Nat} (h : Below w0.heap.size w0 w) (hc : Chg w w' (fun j => j = k)) (hk : w0.heap.size ≤ k) : Below w0.heap.size w0 w' := bbox (Below.refl _ _) h hc hk
theorem bD (w : World) : Below w.heap.size w w.drew := Below.drw (Below.refl _ _)
theorem bA (w : World) (o : Obj) : Below w.heap.size w (w.alloc o) := (Below.refl _ _).alloc (Nat.le_refl _) _
theorem rowLt {w : World} {A : Option Addr} {l c : Nat} {D : List Nat} (h : RdD w A l c D) {ad : Addr} (h0 : 0 < l) (ha : A = some ad) : ad.block < w.heap.size := by
  obtain ⟨ad2, e2, hc2⟩ := h.cells h0
  rw [e2] at ha; cases ha
  have := World.block_lt_of_cell? w _ (hc2 0 h0)
  rw [add_block] at this
  exact this
theorem RdD.chgB2 {w w' : World} {A : Option Addr} {l c : Nat} {D : List Nat} {k : Nat} (h : RdD w A l c D) (hb : Chg w w' (fun j => j = k)) (hS : ∀ ad, 0 < l → A = some ad → ad.block ≠ k) : RdD w' A l c D :=
  ⟨h.len, h.cap, h.max, h.dg, fun hl => by
    obtain ⟨ad, e, hc⟩ := h.cells hl
    exact ⟨ad, e, fun j hj => hb.cell (hc j hj) (by rw [add_block]; exact hS ad hl e)⟩⟩
end Go.Proofs.YtcoljeafgiemkaaGreatDoor
