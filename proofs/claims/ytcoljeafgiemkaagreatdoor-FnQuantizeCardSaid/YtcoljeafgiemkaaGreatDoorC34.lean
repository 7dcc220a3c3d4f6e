/- The reference's values: is a decimal a value. -/
import Derived.Test.YtcoljeafgiemkaaGreatDoorC21
import Derived.Test.YtcoljeafgiemkaaGreatDoorC22
namespace Go.Proofs.YtcoljeafgiemkaaGreatDoor
open Go Go.RowKit

set_option maxRecDepth 20000 in
set_option maxHeartbeats 4000000 in
theorem isDec_c (w : World) (nx nv : Bool) (A p : Option Addr) (l c a b : Nat) (e : Int) (N : Nat) (hX : RdW w A l c (digs N)) (hV : RdD w p a b (d16 N)) (hl : l ≤ 1000000) (hn : nx = nv ∨ N = 0) :
    Calls Tryz.prog 19 #[.agg #[.int .i64 0, .bool nx, .slice A l c, .int .i64 e], .agg #[.bool nv, .slice p a b, .int .i64 e]] w fun E w' => E = .returned (.bool true) ∧ Below w.heap.size w w' := by
  have ko := fun W (hb : Below w.heap.size w W) => ofDec_c W 0 nx A l c (digs N) e (hX.below hb) hl
  rw [val_digs, show decide ((0 : Int) = 0 ∧ digs N = digs N) = true by simp] at ko
  have o3 : ord3 N N = 0 := ord3_zero.2 rfl
  have ha0 : N = 0 → a = 0 := fun h => len0_of hV h
  replace ko := Lib.hid ko
  replace hX := Lib.hid hX
  replace hV := Lib.hid hV
  replace o3 := Lib.hid o3
  have hcase : (nx = nv) ∨ (nx = !nv ∧ a = 0) := by
    rcases hn with h | h
    · exact .inl h
    · have := ha0 h
      cases nx <;> cases nv <;> simp_all
  clear hn ha0
  go_enter Tryz.func19, Tryz.ntmps19
  go_upto_region 1 with (fail)
  generalize hW : (w.alloc (.cells #[.int .i64 0, .bool nx, .slice A l c, .int .i64 e] 24 (0, 0))).alloc (.cells #[.bool nv, .slice p a b, .int .i64 e] 30 (0, 0)) = W
  have hB0 : Below w.heap.size w W := by rw [← hW]; exact ((Below.refl _ _).alloc (Nat.le_refl _) _).alloc (by simp) _
  have hX0 : W.heap[w.heap.size]? = some (.cells #[.int .i64 0, .bool nx, .slice A l c, .int .i64 e] 24 (0, 0)) := by rw [← hW]; exact allocB_old (allocB _ _)
  have hV0 : W.heap[w.heap.size + 1]? = some (.cells #[.bool nv, .slice p a b, .int .i64 e] 30 (0, 0)) := by rw [← hW]; exact allocB_at _ _ (by simp)
  clear hW
  have x0 := cellB hX0 (i := 0) rfl
  have x1 := cellB hX0 (i := 1) rfl
  have x2 := cellB hX0 (i := 2) rfl
  have x3 := cellB hX0 (i := 3) rfl
  have ko := ko.out W hB0
  replace ko := Lib.hid ko
  replace hB0 := Lib.hid hB0
  replace hX0 := Lib.hid hX0
  replace hV0 := Lib.hid hV0
  go_wp2_with fail
  with_reducible refine ko.out.mono ?_
  rintro E w1 ⟨q, a1, b1, rfl, h1⟩
  clear x0 x1 x2 x3 ko
  go_upto_region 2 with (fail)
  have hb1 : Below w1.heap.size w1 (w1.alloc (.cells #[.bool nx, .slice q a1 b1, .int .i64 e] 30 (0, 0))) := (Below.refl _ _).alloc (Nat.le_refl _) _
  have hG : (w1.alloc (.cells #[.bool nx, .slice q a1 b1, .int .i64 e] 30 (0, 0))).heap[w1.heap.size]? = some (.cells #[.bool nx, .slice q a1 b1, .int .i64 e] 30 (0, 0)) := allocB _ _
  have hbV := brise h1.bel hb1
  have hV2 := bkeep hbV hV0.out
  have h2 := h1.later hb1
  have hv2 := hV.out.below (brise hB0.out hbV)
  have hfin := brise hB0.out hbV
  generalize w1.alloc (.cells #[.bool nx, .slice q a1 b1, .int .i64 e] 30 (0, 0)) = V at hG hV2 h2 hv2 hfin ⊢
  have kc := cmpD_c V q p a1 b1 a b N N h2.rd hv2
  rw [o3.out] at kc
  have g0 := cellB hG (i := 0) rfl
  have g1 := cellB hG (i := 1) rfl
  have g2 := cellB hG (i := 2) rfl
  have v0 := cellB hV2 (i := 0) rfl
  have v1 := cellB hV2 (i := 1) rfl
  have v2 := cellB hV2 (i := 2) rfl
  replace kc := Lib.hid kc
  replace hfin := Lib.hid hfin
  clear hG hV2 h2 hv2 hbV hb1 h1
  rcases hcase with rfl | ⟨rfl, rfl⟩
  · go_wp2_with fail
    with_reducible refine kc.out.mono ?_
    rintro E w4 ⟨rfl, nn, rfl⟩
    cases nx
    all_goals
      go_wp2
      go_ret
      exact ⟨rfl, Below.drwN hfin.out nn⟩
  · go_wp2_with fail
    with_reducible refine kc.out.mono ?_
    rintro E w4 ⟨rfl, nn, rfl⟩
    cases nv
    all_goals
      go_wp2
      go_ret
      exact ⟨rfl, Below.drwN hfin.out nn⟩
end Go.Proofs.YtcoljeafgiemkaaGreatDoor
