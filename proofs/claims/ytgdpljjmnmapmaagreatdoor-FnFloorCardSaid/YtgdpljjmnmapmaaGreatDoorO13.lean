/- Boxes of the laws: decimals as plain data; values; contexts. -/
import Derived.Test.YtgdpljjmnmapmaaGreatDoorC36
namespace Go.Proofs.YtgdpljjmnmapmaaGreatDoor
open Go Go.RowKit

/-- The boxes of two decimals as plain data. -/
def Bd22 (k : Nat) (f : Int) (n : Bool) (A : Option Addr) (l c : Nat) (e : Int) (g : Int) (o : Bool) (B : Option Addr) (r s : Nat) (d : Int) (w : World) : Prop :=
  w.heap[k]? = some (.cells #[.int .i64 f, .bool n, .slice A l c, .int .i64 e] 24 (0, 0)) ∧ w.heap[k + 1]? = some (.cells #[.int .i64 g, .bool o, .slice B r s, .int .i64 d] 24 (0, 0))
theorem Bd22.cells {k : Nat} {f : Int} {n : Bool} {A : Option Addr} {l c : Nat} {e : Int} {g : Int} {o : Bool} {B : Option Addr} {r s : Nat} {d : Int} {w : World} (h : Bd22 k f n A l c e g o B r s d w) :
    w.cell? ⟨k, 0, none⟩ = some (.int .i64 f) ∧ w.cell? ⟨k, 1, none⟩ = some (.bool n) ∧ w.cell? ⟨k, 2, none⟩ = some (.slice A l c) ∧ w.cell? ⟨k, 3, none⟩ = some (.int .i64 e) ∧
    w.cell? ⟨k + 1, 0, none⟩ = some (.int .i64 g) ∧ w.cell? ⟨k + 1, 1, none⟩ = some (.bool o) ∧ w.cell? ⟨k + 1, 2, none⟩ = some (.slice B r s) ∧ w.cell? ⟨k + 1, 3, none⟩ = some (.int .i64 d) :=
  ⟨cellB h.1 rfl, cellB h.1 rfl, cellB h.1 rfl, cellB h.1 rfl, cellB h.2 rfl, cellB h.2 rfl, cellB h.2 rfl, cellB h.2 rfl⟩
theorem Bd22.new {k : Nat} {f : Int} {n : Bool} {A : Option Addr} {l c : Nat} {e : Int} {g : Int} {o : Bool} {B : Option Addr} {r s : Nat} {d : Int} {w w' : World} (h : Bd22 k f n A l c e g o B r s d w) (hb : Below w.heap.size w w') : Bd22 k f n A l c e g o B r s d w' := ⟨bkeep hb h.1, bkeep hb h.2⟩
/-- The boxes of what is told, of two values, and of a context. -/
def Bl2 (zb vb ub cb : Nat) (nz : Bool) (q : Option Addr) (lq cq : Nat) (ez : Int) (s : Bool) (p : Option Addr) (l c : Nat) (e : Int) (t : Bool) (u : Option Addr) (a b : Nat) (f : Int) (pr m : Nat) (w : World) : Prop :=
  w.heap[zb]? = some (.cells #[.int .i64 0, .bool nz, .slice q lq cq, .int .i64 ez] 24 (0, 0)) ∧ w.heap[vb]? = some (.cells #[.bool s, .slice p l c, .int .i64 e] 29 (0, 0)) ∧ w.heap[ub]? = some (.cells #[.bool t, .slice u a b, .int .i64 f] 29 (0, 0)) ∧
    w.heap[cb]? = some (.cells #[.int .u64 (pr : Int), .int .i64 100000, .int .i64 (-100000), .int .i64 (m : Int)] 34 (0, 0))
theorem Bl2.cells {zb vb ub cb : Nat} {nz : Bool} {q : Option Addr} {lq cq : Nat} {ez : Int} {s : Bool} {p : Option Addr} {l c : Nat} {e : Int} {t : Bool} {u : Option Addr} {a b : Nat} {f : Int} {pr m : Nat} {w : World} (h : Bl2 zb vb ub cb nz q lq cq ez s p l c e t u a b f pr m w) :
    w.cell? ⟨zb, 0, none⟩ = some (.int .i64 0) ∧ w.cell? ⟨zb, 1, none⟩ = some (.bool nz) ∧ w.cell? ⟨zb, 2, none⟩ = some (.slice q lq cq) ∧ w.cell? ⟨zb, 3, none⟩ = some (.int .i64 ez) ∧
    w.cell? ⟨vb, 0, none⟩ = some (.bool s) ∧ w.cell? ⟨vb, 1, none⟩ = some (.slice p l c) ∧ w.cell? ⟨vb, 2, none⟩ = some (.int .i64 e) ∧
    w.cell? ⟨ub, 0, none⟩ = some (.bool t) ∧ w.cell? ⟨ub, 1, none⟩ = some (.slice u a b) ∧ w.cell? ⟨ub, 2, none⟩ = some (.int .i64 f) ∧
    w.cell? ⟨cb, 0, none⟩ = some (.int .u64 (pr : Int)) ∧ w.cell? ⟨cb, 1, none⟩ = some (.int .i64 100000) ∧ w.cell? ⟨cb, 2, none⟩ = some (.int .i64 (-100000)) ∧ w.cell? ⟨cb, 3, none⟩ = some (.int .i64 (m : Int)) :=
  ⟨cellB h.1 rfl, cellB h.1 rfl, cellB h.1 rfl, cellB h.1 rfl, cellB h.2.1 rfl, cellB h.2.1 rfl, cellB h.2.1 rfl, cellB h.2.2.1 rfl, cellB h.2.2.1 rfl, cellB h.2.2.1 rfl, cellB h.2.2.2 rfl, cellB h.2.2.2 rfl, cellB h.2.2.2 rfl, cellB h.2.2.2 rfl⟩
theorem Bl2.new {zb vb ub cb : Nat} {nz : Bool} {q : Option Addr} {lq cq : Nat} {ez : Int} {s : Bool} {p : Option Addr} {l c : Nat} {e : Int} {t : Bool} {u : Option Addr} {a b : Nat} {f : Int} {pr m : Nat} {w w' : World} (h : Bl2 zb vb ub cb nz q lq cq ez s p l c e t u a b f pr m w) (hb : Below w.heap.size w w') : Bl2 zb vb ub cb nz q lq cq ez s p l c e t u a b f pr m w' := ⟨bkeep hb h.1, bkeep hb h.2.1, bkeep hb h.2.2.1, bkeep hb h.2.2.2⟩
theorem RdD.chgAt' {w w' : World} {A : Option Addr} {l c : Nat} {D : List Nat} {S : Nat → Prop} (h : RdD w A l c D) (hb : Chg w w' S) (hS : ∀ ad, 0 < l → A = some ad → ¬ S ad.block) : RdD w' A l c D :=
  ⟨h.len, h.cap, h.max, h.dg, fun hl => by
    obtain ⟨ad, e, hc⟩ := h.cells hl
    exact ⟨ad, e, fun j hj => hb.cell (hc j hj) (by rw [add_block]; exact hS ad hl e)⟩⟩
theorem RdW.bel {w w' : World} {A : Option Addr} {l c : Nat} {X : List Nat} (h : RdW w A l c X) (hb : Below w.heap.size w w') : RdW w' A l c X := h.below hb
end Go.Proofs.YtgdpljjmnmapmaaGreatDoor
