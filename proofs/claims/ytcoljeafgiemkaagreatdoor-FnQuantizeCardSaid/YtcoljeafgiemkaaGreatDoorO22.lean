/- A value of the reference as an integer. -/
import Derived.Test.YtcoljeafgiemkaaGreatDoorC21
import Derived.Test.YtcoljeafgiemkaaGreatDoorC26
namespace Go.Proofs.YtcoljeafgiemkaaGreatDoor
open Go Go.RowKit

/-- A value as an integer, and whether it is another one. -/
def WholeB (w w' : World) (E : Ending) (n : Bool) (E1 : Int) (R : Nat) (x : Bool) : Prop := ∃ q a b, E = .returned (.tuple #[.agg #[.bool n, .slice q a b, .int .i64 E1], .bool x]) ∧ RdD w' q a b (d16 R) ∧ Below w.heap.size w w'
def WholeV (w w' : World) (E : Ending) (n : Bool) (E1 : Int) (R : Nat) : Prop := ∃ q a b x, E = .returned (.tuple #[.agg #[.bool n, .slice q a b, .int .i64 E1], .bool x]) ∧ RdD w' q a b (d16 R) ∧ Below w.heap.size w w'
theorem RdD.chgB3 {w w' : World} {A : Option Addr} {l c : Nat} {D : List Nat} {k : Nat} (h : RdD w A l c D) (hb : Chg w w' (fun j => j = k)) (hS : ∀ ad, 0 < l → A = some ad → ad.block ≠ k) : RdD w' A l c D :=
  ⟨h.len, h.cap, h.max, h.dg, fun hl => by
    obtain ⟨ad, e, hc⟩ := h.cells hl
    exact ⟨ad, e, fun j hj => hb.cell (hc j hj) (by rw [add_block]; exact hS ad hl e)⟩⟩
theorem rowLt3 {w : World} {A : Option Addr} {l c : Nat} {D : List Nat} (h : RdD w A l c D) {ad : Addr} (h0 : 0 < l) (ha : A = some ad) : ad.block < w.heap.size := by
  obtain ⟨ad2, e2, hc2⟩ := h.cells h0
  rw [e2] at ha; cases ha
  have := World.block_lt_of_cell? w _ (hc2 0 h0)
  rw [add_block] at this
  exact this
set_option maxRecDepth 20000 in
set_option maxHeartbeats 4000000 in
theorem wholeB_c (w : World) (n : Bool) (p : Option Addr) (l c : Nat) (e : Int) (N m : Nat) (hX : RdD w p l c (d16 N)) (hl : l ≤ 950) (hm : m < 8) {E1 : Int} {R : Nat} {xx : Bool}
    (hres : (0 ≤ e ∧ E1 = e ∧ R = N ∧ xx = false) ∨ ∃ k : Nat, -e = (k : Int) ∧ 1 ≤ k ∧ k ≤ 900 ∧ E1 = 0 ∧ R = cutN n N k m ∧ xx = inexN N k) :
    Calls Tryz.prog 20 #[.agg #[.bool n, .slice p l c, .int .i64 e], .int .i64 (m : Int)] w fun E w' => WholeB w w' E n E1 R xx := by
  unfold WholeB
  replace hX := Lib.hid hX
  replace hres := Lib.hid hres
  go_enter Tryz.func20, Tryz.ntmps20
  go_upto_region 1 with (fail)
  generalize hW : (w.alloc (.cells #[.bool n, .slice p l c, .int .i64 e] 30 (0, 0))).alloc (.cells #[.bool false, .slice none 0 0, .int .i64 0] 30 (0, 0)) = W
  have hB0 : Below w.heap.size w W := by rw [← hW]; exact ((Below.refl _ _).alloc (Nat.le_refl _) _).alloc (by simp) _
  have hV0 : W.heap[w.heap.size]? = some (.cells #[.bool n, .slice p l c, .int .i64 e] 30 (0, 0)) := by rw [← hW]; exact allocB_old (allocB _ _)
  have hR0 : W.heap[w.heap.size + 1]? = some (.cells #[.bool false, .slice none 0 0, .int .i64 0] 30 (0, 0)) := by rw [← hW]; exact allocB_at _ _ (by simp)
  have hrW := hX.out.below hB0
  have hpl : ∀ ad, 0 < l → p = some ad → ad.block < w.heap.size := fun ad h0 ha => rowLt3 hX.out h0 ha
  clear hW
  have v0 := cellB hV0 (i := 0) rfl
  have v1 := cellB hV0 (i := 1) rfl
  have v2 := cellB hV0 (i := 2) rfl
  replace hB0 := Lib.hid hB0
  replace hpl := Lib.hid hpl
  replace hrW := Lib.hid hrW
  rcases hres.out with ⟨h0, hE1, hR, hxx⟩ | ⟨k, hk, hk1, hk9, hE1, hR, hxx⟩
  · have hge : decide (e ≥ 0) = true := decide_eq_true h0
    have z0 := cellB hR0 (i := 0) rfl
    have z1 := cellB hR0 (i := 1) rfl
    have z2 := cellB hR0 (i := 2) rfl
    have y0 := frozenB hR0 0
    have y1 := frozenB hR0 1
    have y2 := frozenB hR0 2
    replace hR0 := Lib.hid hR0
    replace hE1 := Lib.hid hE1
    replace hR := Lib.hid hR
    replace hxx := Lib.hid hxx
    clear hV0
    go_wp2
    clear v0 v1 v2 z0 z1 z2 y0 y1 y2
    have hE := end3 hR0.out (.bool n) (.slice p l c) (.int .i64 e)
    have hch := chg3 W (w.heap.size + 1) (.bool n) (.slice p l c) (.int .i64 e)
    generalize ((W.setCell ⟨w.heap.size + 1, 0, none⟩ (.bool n)).setCell ⟨w.heap.size + 1, 1, none⟩ (.slice p l c)).setCell ⟨w.heap.size + 1, 2, none⟩ (.int .i64 e) = W9 at hE hch ⊢
    have e0 : W9.cell? ⟨w.heap.size + 1, 0, none⟩ = some (.bool n) := cellB hE rfl
    have e1 : W9.cell? ⟨w.heap.size + 1, 1, none⟩ = some (.slice p l c) := cellB hE rfl
    have e2 : W9.cell? ⟨w.heap.size + 1, 2, none⟩ = some (.int .i64 e) := cellB hE rfl
    have hrf := hrW.out.chgB3 hch (fun ad h0 ha => by have := hpl.out ad h0 ha; omega)
    have hbf := bbox (Below.refl w.heap.size w) hB0.out hch (by omega)
    exact bodyPost_ret (v := .tuple #[.agg #[.bool n, .slice p l c, .int .i64 e], .bool false]) (by simp [results, Tryz.results20, go_sem, e0, e1, e2]) rfl ⟨p, l, c, by rw [hE1.out, hxx.out], by rw [hR.out]; exact hrf, hbf⟩
  · have hge : decide (e ≥ 0) = false := decide_eq_false (by omega)
    have ek : IntKind.i64.wrap (-e) = (k : Int) := by rw [hk]; exact IntWalk.i64_in _ (by omega)
    have kc := cutV_c W n p l c e N k m hrW.out hl hk9 hm (by omega)
    unfold ValB at kc
    rw [← hR, show e + (k : Int) = E1 by omega, ← hxx] at kc
    replace kc := Lib.hid kc
    replace hR0 := Lib.hid hR0
    replace hE1 := Lib.hid hE1
    replace hR := Lib.hid hR
    replace hk := Lib.hid hk
    replace hxx := Lib.hid hxx
    clear hV0
    go_wp2_with fail
    with_reducible refine kc.out.mono ?_
    rintro E w1 ⟨q, a, b, rfl, h1⟩
    have hR1 := bkeep h1.bel hR0.out
    have z0 := cellB hR1 (i := 0) rfl
    have z1 := cellB hR1 (i := 1) rfl
    have z2 := cellB hR1 (i := 2) rfl
    have y0 := frozenB hR1 0
    have y1 := frozenB hR1 1
    have y2 := frozenB hR1 2
    have hlt := ltB hR0.out
    replace hR1 := Lib.hid hR1
    replace h1 := Lib.hid h1
    replace hlt := Lib.hid hlt
    clear v0 v1 v2 kc
    go_wp2
    clear z0 z1 z2 y0 y1 y2
    have hE := end3 hR1.out (.bool n) (.slice q a b) (.int .i64 E1)
    have hch := chg3 w1 (w.heap.size + 1) (.bool n) (.slice q a b) (.int .i64 E1)
    generalize ((w1.setCell ⟨w.heap.size + 1, 0, none⟩ (.bool n)).setCell ⟨w.heap.size + 1, 1, none⟩ (.slice q a b)).setCell ⟨w.heap.size + 1, 2, none⟩ (.int .i64 E1) = W9 at hE hch ⊢
    have e0 : W9.cell? ⟨w.heap.size + 1, 0, none⟩ = some (.bool n) := cellB hE rfl
    have e1 : W9.cell? ⟨w.heap.size + 1, 1, none⟩ = some (.slice q a b) := cellB hE rfl
    have e2 : W9.cell? ⟨w.heap.size + 1, 2, none⟩ = some (.int .i64 E1) := cellB hE rfl
    have hrf := h1.out.rd.chgB3 hch (fun ad h0 ha => by have h2 := h1.out.loc ad ha; have h3 := hlt.out; omega)
    have hbf := bbox hB0.out h1.out.bel hch (by omega)
    exact bodyPost_ret (v := .tuple #[.agg #[.bool n, .slice q a b, .int .i64 E1], .bool xx]) (by simp [results, Tryz.results20, go_sem, e0, e1, e2]) rfl ⟨q, a, b, rfl, hrf, hbf⟩
theorem wholeV_c (w : World) (n : Bool) (p : Option Addr) (l c : Nat) (e : Int) (N m : Nat) (hX : RdD w p l c (d16 N)) (hl : l ≤ 950) (hm : m < 8) {E1 : Int} {R : Nat}
    (hres : (0 ≤ e ∧ E1 = e ∧ R = N) ∨ ∃ k : Nat, -e = (k : Int) ∧ 1 ≤ k ∧ k ≤ 900 ∧ E1 = 0 ∧ R = cutN n N k m) :
    Calls Tryz.prog 20 #[.agg #[.bool n, .slice p l c, .int .i64 e], .int .i64 (m : Int)] w fun E w' => WholeV w w' E n E1 R := by
  obtain ⟨xx, h2⟩ : ∃ xx, (0 ≤ e ∧ E1 = e ∧ R = N ∧ xx = false) ∨ ∃ k : Nat, -e = (k : Int) ∧ 1 ≤ k ∧ k ≤ 900 ∧ E1 = 0 ∧ R = cutN n N k m ∧ xx = inexN N k := by
    rcases hres with ⟨h0, h1, h2⟩ | ⟨k, h0, h1, h2, h3, h4⟩
    · exact ⟨_, .inl ⟨h0, h1, h2, rfl⟩⟩
    · exact ⟨_, .inr ⟨k, h0, h1, h2, h3, h4, rfl⟩⟩
  refine (wholeB_c w n p l c e N m hX hl hm h2).mono (fun E w' h => ?_)
  obtain ⟨q, a, b, hE, h3, h4⟩ := h
  exact ⟨q, a, b, xx, hE, h3, h4⟩
end Go.Proofs.YtcoljeafgiemkaaGreatDoor
