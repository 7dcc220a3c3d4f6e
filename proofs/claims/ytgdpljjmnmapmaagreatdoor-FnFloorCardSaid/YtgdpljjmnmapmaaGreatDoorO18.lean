/- Boxes kept as a list. -/
import Derived.Test.YtgdpljjmnmapmaaGreatDoorC20
namespace Go.Proofs.YtgdpljjmnmapmaaGreatDoor
open Go Go.RowKit

/-- Blocks that hold plain data: place, contents, type. -/
def Bxs : List (Nat × Array Value × TypeId) → World → Prop
  | [], _ => True
  | (k, cs, T) :: L, w => w.heap[k]? = some (.cells cs T (0, 0)) ∧ Bxs L w
theorem Bxs.new {w w' : World} (hb : Below w.heap.size w w') : ∀ {L : List (Nat × Array Value × TypeId)}, Bxs L w → Bxs L w'
  | [], _ => trivial
  | (_, _, _) :: _, h => ⟨bkeep hb h.1, Bxs.new hb h.2⟩
theorem Bxs.add {L : List (Nat × Array Value × TypeId)} {w W : World} (h : Bxs L w) {cs : Array Value} {T : TypeId} (hW : w.alloc (.cells cs T (0, 0)) = W) : Bxs ((w.heap.size, cs, T) :: L) W ∧ Below w.heap.size w W ∧ W.heap.size = w.heap.size + 1 := by
  subst hW
  have hb : Below w.heap.size w (w.alloc (.cells cs T (0, 0))) := (Below.refl _ _).alloc (Nat.le_refl _) _
  exact ⟨⟨allocB _ _, Bxs.new hb h⟩, hb, by simp⟩
/-- A block is written. -/
theorem Bxs.chg {w w' : World} {S : Nat → Prop} (hc : Chg w w' S) : ∀ {L : List (Nat × Array Value × TypeId)}, (∀ t, t ∈ L → ¬ S t.1) → Bxs L w → Bxs L w'
  | [], _, _ => trivial
  | (k, cs, T) :: _, hS, h => ⟨hc.heapB h.1 (hS (k, cs, T) (List.mem_cons_self ..)), Bxs.chg hc (fun t ht => hS t (List.mem_cons_of_mem _ ht)) h.2⟩
theorem sgn_ne (o : Bool) {sg : Int} (h : (if o then -1 else 1) = sg) : (sg == 0) = false := by
  subst h; cases o <;> rfl
theorem Bxs.drew {L : List (Nat × Array Value × TypeId)} {w : World} (h : Bxs L w) : Bxs L w.drew := Bxs.new (Below.drw (Below.refl _ _)) h
theorem Bxs.al {L : List (Nat × Array Value × TypeId)} {w : World} (h : Bxs L w) (o : Obj) : Bxs L (w.alloc o) := Bxs.new ((Below.refl _ _).alloc (Nat.le_refl _) _) h
theorem Bxs.lt {w : World} : ∀ {L : List (Nat × Array Value × TypeId)}, Bxs L w → ∀ t, t ∈ L → t.1 < w.heap.size
  | [], _, _, ht => by cases ht
  | (k, cs, T) :: L, h, t, ht => by
    rcases List.mem_cons.1 ht with rfl | ht
    · exact ltB h.1
    · exact Bxs.lt h.2 t ht
theorem Bxs.box {L : List (Nat × Array Value × TypeId)} {w0 w w' : World} {k : Nat} (h0 : Bxs L w0) (h : Bxs L w) (hc : Chg w w' (fun j => j = k)) (hk : w0.heap.size ≤ k) : Bxs L w' :=
  h.chg hc (fun t ht he => by have := h0.lt t ht; omega)
theorem belBox {w0 w w' : World} {k : Nat} (h : Below w0.heap.size w0 w) (hc : Chg w w' (fun j => j = k)) (hk : w0.heap.size ≤ k) : Below w0.heap.size w0 w' := bbox (Below.refl _ _) h hc hk
theorem pack3 {w : World} {k : Nat} {a b c : Value} {T : TypeId} (h : w.heap[k]? = some (.cells #[a, b, c] T (0, 0))) (v0 v1 v2 : Value) :
    ∃ V, ((w.setCell ⟨k, 0, none⟩ v0).setCell ⟨k, 1, none⟩ v1).setCell ⟨k, 2, none⟩ v2 = V ∧ V.heap[k]? = some (.cells #[v0, v1, v2] T (0, 0)) ∧ Chg w V (fun j => j = k) := ⟨_, rfl, end3 h v0 v1 v2, chg3 w k v0 v1 v2⟩
theorem bD (w : World) : Below w.heap.size w w.drew := Below.drw (Below.refl _ _)
theorem bA (w : World) (o : Obj) : Below w.heap.size w (w.alloc o) := (Below.refl _ _).alloc (Nat.le_refl _) _
theorem bDA (w : World) (o : Obj) : Below w.heap.size w (w.drew.alloc o) := brise (bD w) (bA _ _)
theorem bAD (w : World) (o : Obj) : Below w.heap.size w (w.alloc o).drew := brise (bA w o) (bD _)
theorem pack1' (w : World) (o : Obj) : ∃ V, w.alloc o = V ∧ V.heap[w.heap.size]? = some o ∧ Chg w V (fun j => j = w.heap.size) := ⟨_, rfl, allocB w o, ((Chg.refl w (fun _ => False)).alloc o).mono (fun _ _ h => h.elim)⟩
theorem szAD (w : World) (o : Obj) : (w.alloc o).drew.heap.size = w.heap.size + 1 := by show (w.alloc o).heap.size = _; simp
theorem szDA (w : World) (o : Obj) : (w.drew.alloc o).heap.size = w.heap.size + 1 := by rw [World.size_alloc]; rfl
theorem szD (w : World) : w.drew.heap.size = w.heap.size := rfl
theorem rowLt {w : World} {A : Option Addr} {l c : Nat} {D : List Nat} (h : RdD w A l c D) {ad : Addr} (h0 : 0 < l) (ha : A = some ad) : ad.block < w.heap.size := by
  obtain ⟨ad2, e2, hc2⟩ := h.cells h0
  rw [e2] at ha; cases ha
  have := World.block_lt_of_cell? w _ (hc2 0 h0)
  rw [add_block] at this
  exact this
theorem RdD.chgB2 {w w' : World} {A : Option Addr} {l c : Nat} {D : List Nat} {k : Nat} (h : RdD w A l c D) (hb : Chg w w' (fun j => j = k)) (hS : ∀ ad, 0 < l → A = some ad → ad.block ≠ k) : RdD w' A l c D :=
  ⟨h.len, h.cap, h.max, h.dg, fun hl => by
    obtain ⟨ad, e, hc⟩ := h.cells hl
    exact ⟨ad, e, fun j hj => hb.cell (hc j hj) (by rw [add_block]; exact hS ad hl e)⟩⟩
end Go.Proofs.YtgdpljjmnmapmaaGreatDoor
