/- Blocks of several cells, and decimals that are no finite number. -/
import Derived.Test.YtabggbajgpbmmaaGreatDoorN2
namespace Go.Proofs.YtabggbajgpbmmaaGreatDoor
open Go Go.RowKit

theorem cellB {w : World} {b i : Nat} {cs : Array Value} {T : TypeId} {v : Value} (h : w.heap[b]? = some (.cells cs T (0, 0))) (hi : cs[i]? = some v) : w.cell? ⟨b, i, none⟩ = some v := by
  unfold World.cell?; simp [h, hi]
theorem frozenB {w : World} {b : Nat} {cs : Array Value} {T : TypeId} (h : w.heap[b]? = some (.cells cs T (0, 0))) (i : Nat) : w.frozen? ⟨b, i, none⟩ = false := by
  unfold World.frozen?; rw [h]; simp
theorem setB {w : World} {b i : Nat} {cs : Array Value} {T : TypeId} {v : Value} (h : w.heap[b]? = some (.cells cs T (0, 0))) : (w.setCell ⟨b, i, none⟩ v).heap[b]? = some (.cells (cs.setIfInBounds i v) T (0, 0)) := by
  simp only [World.setCell, Array.getElem?_modify, if_true, h, Option.map_some]
  simp
theorem chg_setB (w : World) (b i : Nat) (v : Value) : Chg w (w.setCell ⟨b, i, none⟩ v) (fun k => k = b) :=
  ⟨rfl, rfl, rfl, by rw [World.size_setCell]; exact Nat.le_refl _, fun k _ hn => Below.heap_setCell _ _ _ _ hn⟩
theorem ltB {w : World} {b : Nat} {o : Obj} (h : w.heap[b]? = some o) : b < w.heap.size := by
  rcases Nat.lt_or_ge b w.heap.size with h' | h'
  · exact h'
  · rw [Array.getElem?_eq_none h'] at h; cases h
theorem Chg.heapB {w w' : World} {S : Nat → Prop} (h : Chg w w' S) {b : Nat} {o : Obj} (hb : w.heap[b]? = some o) (hn : ¬ S b) : w'.heap[b]? = some o := by
  rw [h.block b (ltB hb) hn]; exact hb
theorem allocB (w : World) (o : Obj) : (w.alloc o).heap[w.heap.size]? = some o := by
  show (w.heap.push _)[w.heap.size]? = _
  rw [Array.getElem?_push, if_pos rfl]
theorem allocB_old {w : World} {b : Nat} {o o' : Obj} (h : w.heap[b]? = some o) : (w.alloc o').heap[b]? = some o := by
  rw [Below.heap_alloc _ _ _ (ltB h)]; exact h

/-- A decimal with the coefficient of a new one: its form, its sign, its exponent. -/
def DecZ (w : World) (b : Nat) (form : Int) (neg : Bool) (exp : Int) : Prop :=
  w.heap[b]? = some (.cells #[.int .i8 form, .bool neg, .int .i32 exp, .bool false, .slice none 0 0, .bool false] 58 (0, 0))
theorem DecZ.chg {w w' : World} {S : Nat → Prop} {b : Nat} {f e : Int} {n : Bool} (h : DecZ w b f n e) (hc : Chg w w' S) (hn : ¬ S b) : DecZ w' b f n e := hc.heapB h hn
theorem DecZ.c0 {w : World} {b : Nat} {f e : Int} {n : Bool} (h : DecZ w b f n e) : w.cell? ⟨b, 0, none⟩ = some (.int .i8 f) := cellB h rfl
theorem DecZ.c1 {w : World} {b : Nat} {f e : Int} {n : Bool} (h : DecZ w b f n e) : w.cell? ⟨b, 1, none⟩ = some (.bool n) := cellB h rfl
theorem DecZ.c2 {w : World} {b : Nat} {f e : Int} {n : Bool} (h : DecZ w b f n e) : w.cell? ⟨b, 2, none⟩ = some (.int .i32 e) := cellB h rfl
theorem DecZ.c3 {w : World} {b : Nat} {f e : Int} {n : Bool} (h : DecZ w b f n e) : w.cell? ⟨b, 3, none⟩ = some (.bool false) := cellB h rfl
theorem DecZ.c4 {w : World} {b : Nat} {f e : Int} {n : Bool} (h : DecZ w b f n e) : w.cell? ⟨b, 4, none⟩ = some (.slice none 0 0) := cellB h rfl
theorem DecZ.c5 {w : World} {b : Nat} {f e : Int} {n : Bool} (h : DecZ w b f n e) : w.cell? ⟨b, 5, none⟩ = some (.bool false) := cellB h rfl
theorem DecZ.fz {w : World} {b : Nat} {f e : Int} {n : Bool} (h : DecZ w b f n e) (i : Nat) : w.frozen? ⟨b, i, none⟩ = false := frozenB h i
end Go.Proofs.YtabggbajgpbmmaaGreatDoor
