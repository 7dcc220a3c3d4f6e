/- What impl.Into and laws.did tell, for every operation. -/
import Derived.Test.YtcoljeafgiemkaaGreatDoorZI2
import Derived.Test.YtcoljeafgiemkaaGreatDoorC21
namespace Go.Proofs.YtcoljeafgiemkaaGreatDoor
open Go Go.RowKit

theorem intoFacts0 (w : World) (hG : Glob w) {p m : Nat} (hm : m < 8) (hp : 1 ≤ p ∧ p ≤ 60) {e d : Int} {n o : Bool} {A B : Option Addr} {l c r s : Nat} {X Y : List Nat} (hX : RdW w A l c X) (hY : RdW w B r s Y) (hl : l ≤ 3) (hr : r ≤ 3) (he : -100 ≤ e ∧ e ≤ 100) (hd : -100 ≤ d ∧ d ≤ 100) (k : Int) (hk : 0 ≤ k ∧ k < 6) (hk0 : k ≤ 2 ∨ val Y ≠ 0) :
    ∃ (f E0 : Int) (nz : Bool) (R cn : Nat),
      (∀ W, Below w.heap.size w W → Calls Tryz.prog 29 #[.int .i64 k, .int .i64 0, .agg #[.int .u64 (p : Int), .int .i64 100000, .int .i64 (-100000), .int .i64 (m : Int)], .agg #[.int .i64 0, .bool n, .slice A l c, .int .i64 e], .agg #[.int .i64 0, .bool o, .slice B r s, .int .i64 d]] W fun E w' => TellF W w' E f nz E0 R cn) ∧
      (∀ W, Below w.heap.size w W → Calls Tryz.prog 30 #[.int .i64 k, .agg #[.int .u64 (p : Int), .int .i64 100000, .int .i64 (-100000), .int .i64 (m : Int)], .agg #[.int .i64 0, .bool n, .slice A l c, .int .i64 e], .agg #[.int .i64 0, .bool o, .slice B r s, .int .i64 d]] W fun E w' => TellF W w' E f nz E0 R cn) := by
  rcases (by omega : k = 0 ∨ k = 1 ∨ k = 2 ∨ k = 3 ∨ k = 4 ∨ k = 5) with rfl | rfl | rfl | rfl | rfl | rfl
  · exact intoFAdd0 w hG hm hp hX hY hl hr he hd
  · exact intoFSub0 w hG hm hp hX hY hl hr he hd
  · exact intoFMul0 w hG hm hp hX hY hl hr he hd
  · exact intoFQuo0 w hG hm hp hX hY hl hr he hd (hk0.resolve_left (by omega))
  · exact intoFQuoInteger0 w hG hm hp hX hY hl hr he hd (hk0.resolve_left (by omega))
  · exact intoFRem0 w hG hm hp hX hY hl hr he hd (hk0.resolve_left (by omega))
theorem intoFacts1 (w : World) (hG : Glob w) {p m : Nat} (hm : m < 8) (hp : 1 ≤ p ∧ p ≤ 60) {e d : Int} {n o : Bool} {A B : Option Addr} {l c r s : Nat} {X Y : List Nat} (hX : RdW w A l c X) (hY : RdW w B r s Y) (hl : l ≤ 3) (hr : r ≤ 3) (he : -100 ≤ e ∧ e ≤ 100) (hd : -100 ≤ d ∧ d ≤ 100) (k : Int) (hk : 0 ≤ k ∧ k < 6) (hk0 : k ≤ 2 ∨ val Y ≠ 0) :
    ∃ (f E0 : Int) (nz : Bool) (R cn : Nat),
      (∀ W, Below w.heap.size w W → Calls Tryz.prog 29 #[.int .i64 k, .int .i64 1, .agg #[.int .u64 (p : Int), .int .i64 100000, .int .i64 (-100000), .int .i64 (m : Int)], .agg #[.int .i64 0, .bool n, .slice A l c, .int .i64 e], .agg #[.int .i64 0, .bool o, .slice B r s, .int .i64 d]] W fun E w' => TellF W w' E f nz E0 R cn) ∧
      (∀ W, Below w.heap.size w W → Calls Tryz.prog 30 #[.int .i64 k, .agg #[.int .u64 (p : Int), .int .i64 100000, .int .i64 (-100000), .int .i64 (m : Int)], .agg #[.int .i64 0, .bool n, .slice A l c, .int .i64 e], .agg #[.int .i64 0, .bool o, .slice B r s, .int .i64 d]] W fun E w' => TellF W w' E f nz E0 R cn) := by
  rcases (by omega : k = 0 ∨ k = 1 ∨ k = 2 ∨ k = 3 ∨ k = 4 ∨ k = 5) with rfl | rfl | rfl | rfl | rfl | rfl
  · exact intoFAdd1 w hG hm hp hX hY hl hr he hd
  · exact intoFSub1 w hG hm hp hX hY hl hr he hd
  · exact intoFMul1 w hG hm hp hX hY hl hr he hd
  · exact intoFQuo1 w hG hm hp hX hY hl hr he hd (hk0.resolve_left (by omega))
  · exact intoFQuoInteger1 w hG hm hp hX hY hl hr he hd (hk0.resolve_left (by omega))
  · exact intoFRem1 w hG hm hp hX hY hl hr he hd (hk0.resolve_left (by omega))
theorem intoFacts2 (w : World) (hG : Glob w) {p m : Nat} (hm : m < 8) (hp : 1 ≤ p ∧ p ≤ 60) {e d : Int} {n o : Bool} {A B : Option Addr} {l c r s : Nat} {X Y : List Nat} (hX : RdW w A l c X) (hY : RdW w B r s Y) (hl : l ≤ 3) (hr : r ≤ 3) (he : -100 ≤ e ∧ e ≤ 100) (hd : -100 ≤ d ∧ d ≤ 100) (k : Int) (hk : 0 ≤ k ∧ k < 6) (hk0 : k ≤ 2 ∨ val X ≠ 0) :
    ∃ (f E0 : Int) (nz : Bool) (R cn : Nat),
      (∀ W, Below w.heap.size w W → Calls Tryz.prog 29 #[.int .i64 k, .int .i64 2, .agg #[.int .u64 (p : Int), .int .i64 100000, .int .i64 (-100000), .int .i64 (m : Int)], .agg #[.int .i64 0, .bool n, .slice A l c, .int .i64 e], .agg #[.int .i64 0, .bool o, .slice B r s, .int .i64 d]] W fun E w' => TellF W w' E f nz E0 R cn) ∧
      (∀ W, Below w.heap.size w W → Calls Tryz.prog 30 #[.int .i64 k, .agg #[.int .u64 (p : Int), .int .i64 100000, .int .i64 (-100000), .int .i64 (m : Int)], .agg #[.int .i64 0, .bool n, .slice A l c, .int .i64 e], .agg #[.int .i64 0, .bool n, .slice A l c, .int .i64 e]] W fun E w' => TellF W w' E f nz E0 R cn) := by
  rcases (by omega : k = 0 ∨ k = 1 ∨ k = 2 ∨ k = 3 ∨ k = 4 ∨ k = 5) with rfl | rfl | rfl | rfl | rfl | rfl
  · exact intoFAdd2 w hG hm hp hX hY hl hr he hd
  · exact intoFSub2 w hG hm hp hX hY hl hr he hd
  · exact intoFMul2 w hG hm hp hX hY hl hr he hd
  · exact intoFQuo2 w hG hm hp hX hY hl hr he hd (hk0.resolve_left (by omega))
  · exact intoFQuoInteger2 w hG hm hp hX hY hl hr he hd (hk0.resolve_left (by omega))
  · exact intoFRem2 w hG hm hp hX hY hl hr he hd (hk0.resolve_left (by omega))
/-- Two boxes written. -/
theorem pack34 {W : World} {vb ob : Nat} (hne : vb ≠ ob) {a b c x0 x1 x2 x3 : Value} {T S : TypeId} (hb : W.heap[vb]? = some (.cells #[a, b, c] T (0, 0))) (ho : W.heap[ob]? = some (.cells #[x0, x1, x2, x3] S (0, 0))) (v0 v1 v2 u0 u1 u2 u3 : Value) :
    ∃ V, ((((((W.setCell ⟨vb, 0, none⟩ v0).setCell ⟨vb, 1, none⟩ v1).setCell ⟨vb, 2, none⟩ v2).setCell ⟨ob, 0, none⟩ u0).setCell ⟨ob, 1, none⟩ u1).setCell ⟨ob, 2, none⟩ u2).setCell ⟨ob, 3, none⟩ u3 = V ∧ V.heap[vb]? = some (.cells #[v0, v1, v2] T (0, 0)) ∧ V.heap[ob]? = some (.cells #[u0, u1, u2, u3] S (0, 0)) ∧ Chg W V (fun j => j = vb ∨ j = ob) := by
  have h1 := end3 hb v0 v1 v2
  have c1 := chg3 W vb v0 v1 v2
  have h2 := c1.heapB ho (Ne.symm hne)
  generalize ((W.setCell ⟨vb, 0, none⟩ v0).setCell ⟨vb, 1, none⟩ v1).setCell ⟨vb, 2, none⟩ v2 = W1 at h1 c1 h2 ⊢
  have c2 : Chg W1 ((((W1.setCell ⟨ob, 0, none⟩ u0).setCell ⟨ob, 1, none⟩ u1).setCell ⟨ob, 2, none⟩ u2).setCell ⟨ob, 3, none⟩ u3) (fun j => j = ob) := (((chg_setB W1 ob 0 u0).trans ((chg_setB _ ob 1 u1).mono (fun _ _ h => .inl h))).trans ((chg_setB _ ob 2 u2).mono (fun _ _ h => .inl h))).trans ((chg_setB _ ob 3 u3).mono (fun _ _ h => .inl h))
  have h3 := setB (i := 3) (v := u3) (setB (i := 2) (v := u2) (setB (i := 1) (v := u1) (setB (i := 0) (v := u0) h2)))
  exact ⟨_, rfl, c2.heapB h1 hne, h3, (c1.mono (fun _ _ h => .inl h)).trans (c2.mono (fun _ _ h => .inl (.inr h)))⟩
end Go.Proofs.YtcoljeafgiemkaaGreatDoor
