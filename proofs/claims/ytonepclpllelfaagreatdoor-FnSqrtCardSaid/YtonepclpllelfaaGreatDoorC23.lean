/- Boxes kept as a list. Boxes kept as a list, in whatever world stands there: an allocation, a draw, a store. Boxes kept as a list: a new one stands ahead of the list; rows kept beside new boxes. -/
import Derived.Test.YtonepclpllelfaaGreatDoorC19
namespace Go.Proofs.YtonepclpllelfaaGreatDoor
open Go Go.RowKit

/-- Blocks that hold plain data: place, contents, type. -/
def Bxs : List (Nat × Array Value × TypeId) → World → Prop
  | [], _ => True
  | (k, cs, T) :: L, w => w.heap[k]? = some (.cells cs T (0, 0)) ∧ Bxs L w
theorem Bxs.new {w w' : World} (hb : Below w.heap.size w w') : ∀ {L : List (Nat × Array Value × TypeId)}, Bxs L w → Bxs L w'
  | [], _ => trivial
  | (_, _, _) :: _, h => ⟨bkeep hb h.1, Bxs.new hb h.2⟩
theorem Bxs.add {L : List (Nat × Array Value × TypeId)} {w W : World} (h : Bxs L w) {cs : Array Value} {T : TypeId} (hW : w.alloc (.cells cs T (0, 0)) = W) : Bxs ((w.heap.size, cs, T) :: L) W ∧ Below w.heap.size w W ∧ W.heap.size = w.heap.size + 1 := by
  subst hW
  have hb : Below w.heap.size w (w.alloc (.cells cs T (0, 0))) := (Below.refl _ _).alloc (Nat.le_refl _) _
  exact ⟨⟨allocB _ _, Bxs.new hb h⟩, hb, by simp⟩
/-- A block is written. -/
theorem Bxs.chg {w w' : World} {S : Nat → Prop} (hc : Chg w w' S) : ∀ {L : List (Nat × Array Value × TypeId)}, (∀ t, t ∈ L → ¬ S t.1) → Bxs L w → Bxs L w'
  | [], _, _ => trivial
  | (k, cs, T) :: _, hS, h => ⟨hc.heapB h.1 (hS (k, cs, T) (List.mem_cons_self ..)), Bxs.chg hc (fun t ht => hS t (List.mem_cons_of_mem _ ht)) h.2⟩
theorem sgn_ne (o : Bool) {sg : Int} (h : (if o then -1 else 1) = sg) : (sg == 0) = false := by
  subst h; cases o <;> rfl
theorem Bxs.drew {L : List (Nat × Array Value × TypeId)} {w : World} (h : Bxs L w) : Bxs L w.drew := Bxs.new (Below.drw (Below.refl _ _)) h
theorem Bxs.al {L : List (Nat × Array Value × TypeId)} {w : World} (h : Bxs L w) (o : Obj) : Bxs L (w.alloc o) := Bxs.new ((Below.refl _ _).alloc (Nat.le_refl _) _) h
theorem Bxs.lt {w : World} : ∀ {L : List (Nat × Array Value × TypeId)}, Bxs L w → ∀ t, t ∈ L → t.1 < w.heap.size
  | [], _, _, ht => by cases ht
  | (k, cs, T) :: L, h, t, ht => by
    rcases List.mem_cons.1 ht with rfl | ht
    · exact ltB h.1
    · exact Bxs.lt h.2 t ht
theorem Bxs.box {L : List (Nat × Array Value × TypeId)} {w0 w w' : World} {k : Nat} (h0 : Bxs L w0) (h : Bxs L w) (hc : Chg w w' (fun j => j = k)) (hk : w0.heap.size ≤ k) : Bxs L w' :=
  h.chg hc (fun t ht he => by have := h0.lt t ht; omega)
theorem belBox {w0 w w' : World} {k : Nat} (h : Below w0.heap.size w0 w) (hc : Chg w w' (fun j => j = k)) (hk : w0.heap.size ≤ k) : Below w0.heap.size w0 w' := bbox (Below.refl _ _) h hc hk
theorem pack3 {w : World} {k : Nat} {a b c : Value} {T : TypeId} (h : w.heap[k]? = some (.cells #[a, b, c] T (0, 0))) (v0 v1 v2 : Value) :
    ∃ V, ((w.setCell ⟨k, 0, none⟩ v0).setCell ⟨k, 1, none⟩ v1).setCell ⟨k, 2, none⟩ v2 = V ∧ V.heap[k]? = some (.cells #[v0, v1, v2] T (0, 0)) ∧ Chg w V (fun j => j = k) := ⟨_, rfl, end3 h v0 v1 v2, chg3 w k v0 v1 v2⟩
theorem bD (w : World) : Below w.heap.size w w.drew := Below.drw (Below.refl _ _)
theorem bA (w : World) (o : Obj) : Below w.heap.size w (w.alloc o) := (Below.refl _ _).alloc (Nat.le_refl _) _
theorem bDA (w : World) (o : Obj) : Below w.heap.size w (w.drew.alloc o) := brise (bD w) (bA _ _)
theorem bAD (w : World) (o : Obj) : Below w.heap.size w (w.alloc o).drew := brise (bA w o) (bD _)
theorem pack1' (w : World) (o : Obj) : ∃ V, w.alloc o = V ∧ V.heap[w.heap.size]? = some o ∧ Chg w V (fun j => j = w.heap.size) := ⟨_, rfl, allocB w o, ((Chg.refl w (fun _ => False)).alloc o).mono (fun _ _ h => h.elim)⟩
theorem szAD (w : World) (o : Obj) : (w.alloc o).drew.heap.size = w.heap.size + 1 := by show (w.alloc o).heap.size = _; simp
theorem szDA (w : World) (o : Obj) : (w.drew.alloc o).heap.size = w.heap.size + 1 := by rw [World.size_alloc]; rfl
theorem szD (w : World) : w.drew.heap.size = w.heap.size := rfl
theorem rowLt {w : World} {A : Option Addr} {l c : Nat} {D : List Nat} (h : RdD w A l c D) {ad : Addr} (h0 : 0 < l) (ha : A = some ad) : ad.block < w.heap.size := by
  obtain ⟨ad2, e2, hc2⟩ := h.cells h0
  rw [e2] at ha; cases ha
  have := World.block_lt_of_cell? w _ (hc2 0 h0)
  rw [add_block] at this
  exact this
theorem RdD.chgB2 {w w' : World} {A : Option Addr} {l c : Nat} {D : List Nat} {k : Nat} (h : RdD w A l c D) (hb : Chg w w' (fun j => j = k)) (hS : ∀ ad, 0 < l → A = some ad → ad.block ≠ k) : RdD w' A l c D :=
  ⟨h.len, h.cap, h.max, h.dg, fun hl => by
    obtain ⟨ad, e, hc⟩ := h.cells hl
    exact ⟨ad, e, fun j hj => hb.cell (hc j hj) (by rw [add_block]; exact hS ad hl e)⟩⟩
end Go.Proofs.YtonepclpllelfaaGreatDoor

namespace Go.Proofs.YtonepclpllelfaaGreatDoor
open Go Go.RowKit

theorem bal {w W : World} (h : Below w.heap.size w W) (o : Obj) : Below w.heap.size w (W.alloc o) := h.alloc h.size o
theorem bdr {w W : World} (h : Below w.heap.size w W) : Below w.heap.size w W.drew := Below.drw h
theorem bxsDr {L : List (Nat × Array Value × TypeId)} {w : World} (h : Bxs L w) : Bxs L w.drew := h.drew
theorem bxsAl {L : List (Nat × Array Value × TypeId)} {w : World} (h : Bxs L w) (o : Obj) : Bxs L (w.alloc o) := h.al o
theorem bxsSet {L : List (Nat × Array Value × TypeId)} {V w : World} (hV : Bxs L V) (h : Bxs L w) {k i : Nat} {v : Value} (hk : V.heap.size ≤ k) : Bxs L (w.setCell ⟨k, i, none⟩ v) :=
  h.chg (chg_setB w k i v) (fun t ht he => by have := hV.lt t ht; omega)
theorem setNe {w : World} {k k' i : Nat} {v : Value} {o : Obj} (hk : k ≠ k') (h : w.heap[k]? = some o) : (w.setCell ⟨k', i, none⟩ v).heap[k]? = some o := by
  rw [Below.heap_setCell _ _ _ _ hk]; exact h
theorem belSet {w W : World} (h : Below w.heap.size w W) {k i : Nat} {v : Value} (hk : w.heap.size ≤ k) : Below w.heap.size w (W.setCell ⟨k, i, none⟩ v) := belBox h (chg_setB W k i v) hk
theorem rdSet {w : World} {A : Option Addr} {l c : Nat} {D : List Nat} (h : RdD w A l c D) {k i : Nat} {v : Value} (hk : ∀ ad, 0 < l → A = some ad → ad.block ≠ k) : RdD (w.setCell ⟨k, i, none⟩ v) A l c D := h.chgB2 (chg_setB w k i v) hk
end Go.Proofs.YtonepclpllelfaaGreatDoor

namespace Go.Proofs.YtonepclpllelfaaGreatDoor
open Go Go.RowKit

theorem bxsAdd {L : List (Nat × Array Value × TypeId)} {w : World} {cs : Array Value} {T : TypeId} (h : Bxs L w) : Bxs ((w.heap.size, cs, T) :: L) (w.alloc (.cells cs T (0, 0))) := ⟨allocB _ _, Bxs.new (bA _ _) h⟩
theorem bxsNil (w : World) : Bxs [] w := trivial
theorem rdAl {w : World} {A : Option Addr} {l c : Nat} {D : List Nat} (h : RdD w A l c D) (o : Obj) : RdD (w.alloc o) A l c D := h.below (bA _ _)
theorem rdDr {w : World} {A : Option Addr} {l c : Nat} {D : List Nat} (h : RdD w A l c D) : RdD w.drew A l c D := h.below (bD _)
theorem setNe3 {w : World} {k k' : Nat} {o : Obj} (hk : k ≠ k') (h : w.heap[k]? = some o) (u0 u1 u2 : Value) : (((w.setCell ⟨k', 0, none⟩ u0).setCell ⟨k', 1, none⟩ u1).setCell ⟨k', 2, none⟩ u2).heap[k]? = some o := setNe hk (setNe hk (setNe hk h))
theorem two_ne {w : World} {k k' : Nat} {o o' : Obj} (_h : w.heap[k]? = some o) (_h' : w.heap[k']? = some o') (hk : k ≠ k') : k ≠ k' := hk
/-- Two boxes are written, each whole. -/
theorem pack33 {w v : World} {L : List (Nat × Array Value × TypeId)} {k k' : Nat} {a b c a' b' c' : Value} {T : TypeId} (hX : Bxs L w) (hb : Below w.heap.size w v) (hk : w.heap.size ≤ k) (hk' : w.heap.size ≤ k') (hne : k ≠ k')
    (h : v.heap[k]? = some (.cells #[a, b, c] T (0, 0))) (h' : v.heap[k']? = some (.cells #[a', b', c'] T (0, 0))) (v0 v1 v2 u0 u1 u2 : Value) :
    ∃ V, (((((v.setCell ⟨k, 0, none⟩ v0).setCell ⟨k, 1, none⟩ v1).setCell ⟨k, 2, none⟩ v2).setCell ⟨k', 0, none⟩ u0).setCell ⟨k', 1, none⟩ u1).setCell ⟨k', 2, none⟩ u2 = V ∧
      Bxs ((k, #[v0, v1, v2], T) :: (k', #[u0, u1, u2], T) :: L) V ∧ Below w.heap.size w V ∧
      ∀ A l c D, RdD v A l c D → (∀ ad : Addr, 0 < l → A = some ad → ad.block ≠ k ∧ ad.block ≠ k') → RdD V A l c D := by
  obtain ⟨U, hU, hE, hq⟩ := pack3 h v0 v1 v2
  rw [hU]
  have hU' : U.heap[k']? = some (.cells #[a', b', c'] T (0, 0)) := hq.heapB h' (fun he => hne he.symm)
  obtain ⟨V, hV, hF, hr⟩ := pack3 hU' u0 u1 u2
  rw [hV]
  have x1 := Bxs.box hX (hX.new hb) hq hk
  have x2 := Bxs.box hX x1 hr hk'
  exact ⟨V, rfl, ⟨hr.heapB hE hne, hF, x2⟩, belBox (belBox hb hq hk) hr hk', fun A l c D hd hs => (hd.chgB2 hq (fun ad h0 ha => (hs ad h0 ha).1)).chgB2 hr (fun ad h0 ha => (hs ad h0 ha).2)⟩
/-- Two boxes are laid, each with what it holds. -/
theorem pack11 {w v : World} {L : List (Nat × Array Value × TypeId)} {T : TypeId} (hX : Bxs L w) (hb : Below w.heap.size w v) (c1 c2 : Array Value) :
    ∃ V, (v.alloc (.cells c1 T (0, 0))).alloc (.cells c2 T (0, 0)) = V ∧
      V.heap[v.heap.size]? = some (.cells c1 T (0, 0)) ∧ V.heap[v.heap.size + 1]? = some (.cells c2 T (0, 0)) ∧ Bxs L V ∧ Below w.heap.size w V ∧
      ∀ A l c D, RdD v A l c D → RdD V A l c D :=
  ⟨_, rfl, allocB_old (allocB v _), allocB_at _ _ (by simp), bxsAl (bxsAl (hX.new hb) _) _, bal (bal hb _) _, fun _ _ _ _ h => rdAl (rdAl h _) _⟩
/-- One box is laid with what it holds, an elder one is written. -/
theorem pack13 {w v : World} {L : List (Nat × Array Value × TypeId)} {k' : Nat} {a' b' c' : Value} {T : TypeId} (hX : Bxs L w) (hb : Below w.heap.size w v) (hk' : w.heap.size ≤ k')
    (h' : v.heap[k']? = some (.cells #[a', b', c'] T (0, 0))) (c1 : Array Value) (u0 u1 u2 : Value) :
    ∃ V, (((v.alloc (.cells c1 T (0, 0))).setCell ⟨k', 0, none⟩ u0).setCell ⟨k', 1, none⟩ u1).setCell ⟨k', 2, none⟩ u2 = V ∧
      Bxs ((v.heap.size, c1, T) :: (k', #[u0, u1, u2], T) :: L) V ∧ Below w.heap.size w V ∧
      ∀ A l c D, RdD v A l c D → (∀ ad : Addr, 0 < l → A = some ad → ad.block ≠ k') → RdD V A l c D := by
  have hlt := ltB h'
  obtain ⟨V, hV, hF, hr⟩ := pack3 (allocB_old (o' := .cells c1 T (0, 0)) h') u0 u1 u2
  rw [hV]
  have hb1 := bal hb (.cells c1 T (0, 0))
  have x1 := Bxs.box hX (hX.new hb1) hr hk'
  exact ⟨V, rfl, ⟨hr.heapB (allocB v _) (fun he => Nat.ne_of_lt hlt he.symm), hF, x1⟩, belBox hb1 hr hk', fun A l c D hd hs => (rdAl hd _).chgB2 hr hs⟩
end Go.Proofs.YtonepclpllelfaaGreatDoor
