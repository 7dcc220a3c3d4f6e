/- The reference's values: products. -/
import Derived.Test.YtcoljeafgiemkaaGreatDoorC21
import Derived.Test.YtcoljeafgiemkaaGreatDoorSB
namespace Go.Proofs.YtcoljeafgiemkaaGreatDoor
open Go Go.RowKit

set_option maxRecDepth 20000 in
set_option maxHeartbeats 4000000 in
theorem prodV_c (w : World) (s t : Bool) (p q : Option Addr) (l c a b : Nat) (e f : Int) (N M : Nat) (hX : RdD w p l c (d16 N)) (hY : RdD w q a b (d16 M)) (hl : l ≤ 1000000) (ha : a ≤ 1000000) (he : -1000000 ≤ e ∧ e ≤ 1000000) (hf : -1000000 ≤ f ∧ f ≤ 1000000) :
    Calls Tryz.prog 37 #[.agg #[.bool s, .slice p l c, .int .i64 e], .agg #[.bool t, .slice q a b, .int .i64 f]] w fun E w' => ValN w w' E (s != t) (e + f) (N * M) := by
  have hef : IntKind.i64.wrap (e + f) = e + f := IntWalk.i64_in _ (by omega)
  replace hX := Lib.hid hX
  replace hY := Lib.hid hY
  go_enter Tryz.func37, Tryz.ntmps37
  go_upto_region 1 with (fail)
  generalize hW : ((w.alloc (.cells #[.bool s, .slice p l c, .int .i64 e] 30 (0, 0))).alloc (.cells #[.bool t, .slice q a b, .int .i64 f] 30 (0, 0))).alloc (.cells #[.bool false, .slice none 0 0, .int .i64 0] 30 (0, 0)) = W
  have hB0 : Below w.heap.size w W := by rw [← hW]; exact (((Below.refl _ _).alloc (Nat.le_refl _) _).alloc (by simp) _).alloc (by simp; omega) _
  have hP0 : W.heap[w.heap.size]? = some (.cells #[.bool s, .slice p l c, .int .i64 e] 30 (0, 0)) := by rw [← hW]; exact allocB_old (allocB_old (allocB _ _))
  have hQ0 : W.heap[w.heap.size + 1]? = some (.cells #[.bool t, .slice q a b, .int .i64 f] 30 (0, 0)) := by rw [← hW]; exact allocB_old (allocB_at _ _ (by simp))
  have hR0 : W.heap[w.heap.size + 2]? = some (.cells #[.bool false, .slice none 0 0, .int .i64 0] 30 (0, 0)) := by rw [← hW]; exact allocB_at _ _ (by simp)
  have hsz : W.heap.size = w.heap.size + 3 := by rw [← hW]; simp
  clear hW
  have hS0 : W.drew.cell? ⟨w.heap.size, 0, none⟩ = some (.bool s) ∧ W.drew.cell? ⟨w.heap.size, 1, none⟩ = some (.slice p l c) ∧ W.drew.cell? ⟨w.heap.size, 2, none⟩ = some (.int .i64 e) ∧ W.drew.cell? ⟨w.heap.size + 1, 0, none⟩ = some (.bool t) ∧ W.drew.cell? ⟨w.heap.size + 1, 1, none⟩ = some (.slice q a b) ∧ W.drew.cell? ⟨w.heap.size + 1, 2, none⟩ = some (.int .i64 f) := ⟨cellB hP0 rfl, cellB hP0 rfl, cellB hP0 rfl, cellB hQ0 rfl, cellB hQ0 rfl, cellB hQ0 rfl⟩
  have km := mulD_c W.drew p q l c a b N M ((hX.out.below hB0).below (Below.drw (Below.refl _ _))) ((hY.out.below hB0).below (Below.drw (Below.refl _ _))) hl ha
  replace km := Lib.hid km
  replace hB0 := Lib.hid hB0
  replace hP0 := Lib.hid hP0
  replace hQ0 := Lib.hid hQ0
  replace hR0 := Lib.hid hR0
  replace hsz := Lib.hid hsz
  go_region_held3 (fun w' => w'.cell? ⟨w.heap.size, 0, none⟩ = some (.bool s) ∧ w'.cell? ⟨w.heap.size, 1, none⟩ = some (.slice p l c) ∧ w'.cell? ⟨w.heap.size, 2, none⟩ = some (.int .i64 e) ∧ w'.cell? ⟨w.heap.size + 1, 0, none⟩ = some (.bool t) ∧ w'.cell? ⟨w.heap.size + 1, 1, none⟩ = some (.slice q a b) ∧ w'.cell? ⟨w.heap.size + 1, 2, none⟩ = some (.int .i64 f)) (first | exact hS0 | exact hS1 | exact (hB1.out.chg (chg3 w1 _ _ _ _) (by omega) (by omega)).cells) (
    (go_at_call 15
     with_reducible refine km.out.mono ?_
     rintro E w1 ⟨r, lr, cr, rfl, h1⟩
     have hb1 := bundrew h1.bel
     have hP1 := bkeep hb1 hP0.out
     have hQ1 := bkeep hb1 hQ0.out
     have hR1 := bkeep hb1 hR0.out
     have hS1 : w1.cell? ⟨w.heap.size, 0, none⟩ = some (.bool s) ∧ w1.cell? ⟨w.heap.size, 1, none⟩ = some (.slice p l c) ∧ w1.cell? ⟨w.heap.size, 2, none⟩ = some (.int .i64 e) ∧ w1.cell? ⟨w.heap.size + 1, 0, none⟩ = some (.bool t) ∧ w1.cell? ⟨w.heap.size + 1, 1, none⟩ = some (.slice q a b) ∧ w1.cell? ⟨w.heap.size + 1, 2, none⟩ = some (.int .i64 f) := ⟨cellB hP1 rfl, cellB hP1 rfl, cellB hP1 rfl, cellB hQ1 rfl, cellB hQ1 rfl, cellB hQ1 rfl⟩
     have z0 := cellB hR1 (i := 0) rfl
     have z1 := cellB hR1 (i := 1) rfl
     have z2 := cellB hR1 (i := 2) rfl
     have y0 := frozenB hR1 0
     have y1 := frozenB hR1 1
     have y2 := frozenB hR1 2
     have hB1 : Bv2 w.heap.size s t p q l c a b e f w1 := ⟨hP1, hQ1⟩
     replace hB1 := Lib.hid hB1
     replace hR1 := Lib.hid hR1
     replace h1 := Lib.hid h1
     replace hb1 := Lib.hid hb1
     clear hP1 hQ1))
  go_wp2
  clear hS0 hS1 z0 z1 z2 y0 y1 y2
  have hE := end3 hR1.out (.bool (!(s == t))) (.slice r lr cr) (.int .i64 (e + f))
  have hch := chg3 w1 (w.heap.size + 2) (.bool (!(s == t))) (.slice r lr cr) (.int .i64 (e + f))
  generalize ((w1.setCell ⟨w.heap.size + 2, 0, none⟩ (.bool (!(s == t)))).setCell ⟨w.heap.size + 2, 1, none⟩ (.slice r lr cr)).setCell ⟨w.heap.size + 2, 2, none⟩ (.int .i64 (e + f)) = W9 at hE hch ⊢
  have e0 : W9.cell? ⟨w.heap.size + 1 + 1, 0, none⟩ = some (.bool (!(s == t))) := cellB hE rfl
  have e1 : W9.cell? ⟨w.heap.size + 1 + 1, 1, none⟩ = some (.slice r lr cr) := cellB hE rfl
  have e2 : W9.cell? ⟨w.heap.size + 1 + 1, 2, none⟩ = some (.int .i64 (e + f)) := cellB hE rfl
  exact bodyPost_ret (v := .agg #[.bool (!(s == t)), .slice r lr cr, .int .i64 (e + f)]) (by simp [results, Tryz.results37, go_sem, e0, e1, e2]) rfl ⟨r, lr, cr, rfl, (DRes.early (w := W) (w1 := W.drew) h1.out (Below.drw (Below.refl _ _))).chgBox hB0.out hch (by omega) (by have := hsz.out; omega)⟩
end Go.Proofs.YtcoljeafgiemkaaGreatDoor
