/- Boxes of the laws: decimals as plain data; values; contexts. A world for the witnesses: the settled one, the listed variables as their initialisers lay them. Closed facts that every row shares. -/
import Derived.Test.YtlnillnngckegaaGreatDoorM11
import Derived.Test.YtlnillnngckegaaGreatDoorM15
import Derived.Test.YtlnillnngckegaaGreatDoorM47
namespace Go.Proofs.YtlnillnngckegaaGreatDoor
open Go Go.RowKit

/-- The boxes of two decimals as plain data. -/
def Bd22 (k : Nat) (f : Int) (n : Bool) (A : Option Addr) (l c : Nat) (e : Int) (g : Int) (o : Bool) (B : Option Addr) (r s : Nat) (d : Int) (w : World) : Prop :=
  w.heap[k]? = some (.cells #[.int .i64 f, .bool n, .slice A l c, .int .i64 e] 24 (0, 0)) ∧ w.heap[k + 1]? = some (.cells #[.int .i64 g, .bool o, .slice B r s, .int .i64 d] 24 (0, 0))
theorem Bd22.cells {k : Nat} {f : Int} {n : Bool} {A : Option Addr} {l c : Nat} {e : Int} {g : Int} {o : Bool} {B : Option Addr} {r s : Nat} {d : Int} {w : World} (h : Bd22 k f n A l c e g o B r s d w) :
    w.cell? ⟨k, 0, none⟩ = some (.int .i64 f) ∧ w.cell? ⟨k, 1, none⟩ = some (.bool n) ∧ w.cell? ⟨k, 2, none⟩ = some (.slice A l c) ∧ w.cell? ⟨k, 3, none⟩ = some (.int .i64 e) ∧
    w.cell? ⟨k + 1, 0, none⟩ = some (.int .i64 g) ∧ w.cell? ⟨k + 1, 1, none⟩ = some (.bool o) ∧ w.cell? ⟨k + 1, 2, none⟩ = some (.slice B r s) ∧ w.cell? ⟨k + 1, 3, none⟩ = some (.int .i64 d) :=
  ⟨cellB h.1 rfl, cellB h.1 rfl, cellB h.1 rfl, cellB h.1 rfl, cellB h.2 rfl, cellB h.2 rfl, cellB h.2 rfl, cellB h.2 rfl⟩
theorem Bd22.new {k : Nat} {f : Int} {n : Bool} {A : Option Addr} {l c : Nat} {e : Int} {g : Int} {o : Bool} {B : Option Addr} {r s : Nat} {d : Int} {w w' : World} (h : Bd22 k f n A l c e g o B r s d w) (hb : Below w.heap.size w w') : Bd22 k f n A l c e g o B r s d w' := ⟨bkeep hb h.1, bkeep hb h.2⟩
/-- The boxes of what is told, of two values, and of a context. -/
def Bl2 (zb vb ub cb : Nat) (nz : Bool) (q : Option Addr) (lq cq : Nat) (ez : Int) (s : Bool) (p : Option Addr) (l c : Nat) (e : Int) (t : Bool) (u : Option Addr) (a b : Nat) (f : Int) (pr m : Nat) (w : World) : Prop :=
  w.heap[zb]? = some (.cells #[.int .i64 0, .bool nz, .slice q lq cq, .int .i64 ez] 24 (0, 0)) ∧ w.heap[vb]? = some (.cells #[.bool s, .slice p l c, .int .i64 e] 29 (0, 0)) ∧ w.heap[ub]? = some (.cells #[.bool t, .slice u a b, .int .i64 f] 29 (0, 0)) ∧
    w.heap[cb]? = some (.cells #[.int .u64 (pr : Int), .int .i64 100000, .int .i64 (-100000), .int .i64 (m : Int)] 34 (0, 0))
theorem Bl2.cells {zb vb ub cb : Nat} {nz : Bool} {q : Option Addr} {lq cq : Nat} {ez : Int} {s : Bool} {p : Option Addr} {l c : Nat} {e : Int} {t : Bool} {u : Option Addr} {a b : Nat} {f : Int} {pr m : Nat} {w : World} (h : Bl2 zb vb ub cb nz q lq cq ez s p l c e t u a b f pr m w) :
    w.cell? ⟨zb, 0, none⟩ = some (.int .i64 0) ∧ w.cell? ⟨zb, 1, none⟩ = some (.bool nz) ∧ w.cell? ⟨zb, 2, none⟩ = some (.slice q lq cq) ∧ w.cell? ⟨zb, 3, none⟩ = some (.int .i64 ez) ∧
    w.cell? ⟨vb, 0, none⟩ = some (.bool s) ∧ w.cell? ⟨vb, 1, none⟩ = some (.slice p l c) ∧ w.cell? ⟨vb, 2, none⟩ = some (.int .i64 e) ∧
    w.cell? ⟨ub, 0, none⟩ = some (.bool t) ∧ w.cell? ⟨ub, 1, none⟩ = some (.slice u a b) ∧ w.cell? ⟨ub, 2, none⟩ = some (.int .i64 f) ∧
    w.cell? ⟨cb, 0, none⟩ = some (.int .u64 (pr : Int)) ∧ w.cell? ⟨cb, 1, none⟩ = some (.int .i64 100000) ∧ w.cell? ⟨cb, 2, none⟩ = some (.int .i64 (-100000)) ∧ w.cell? ⟨cb, 3, none⟩ = some (.int .i64 (m : Int)) :=
  ⟨cellB h.1 rfl, cellB h.1 rfl, cellB h.1 rfl, cellB h.1 rfl, cellB h.2.1 rfl, cellB h.2.1 rfl, cellB h.2.1 rfl, cellB h.2.2.1 rfl, cellB h.2.2.1 rfl, cellB h.2.2.1 rfl, cellB h.2.2.2 rfl, cellB h.2.2.2 rfl, cellB h.2.2.2 rfl, cellB h.2.2.2 rfl⟩
theorem Bl2.new {zb vb ub cb : Nat} {nz : Bool} {q : Option Addr} {lq cq : Nat} {ez : Int} {s : Bool} {p : Option Addr} {l c : Nat} {e : Int} {t : Bool} {u : Option Addr} {a b : Nat} {f : Int} {pr m : Nat} {w w' : World} (h : Bl2 zb vb ub cb nz q lq cq ez s p l c e t u a b f pr m w) (hb : Below w.heap.size w w') : Bl2 zb vb ub cb nz q lq cq ez s p l c e t u a b f pr m w' := ⟨bkeep hb h.1, bkeep hb h.2.1, bkeep hb h.2.2.1, bkeep hb h.2.2.2⟩
theorem RdD.chgAt' {w w' : World} {A : Option Addr} {l c : Nat} {D : List Nat} {S : Nat → Prop} (h : RdD w A l c D) (hb : Chg w w' S) (hS : ∀ ad, 0 < l → A = some ad → ¬ S ad.block) : RdD w' A l c D :=
  ⟨h.len, h.cap, h.max, h.dg, fun hl => by
    obtain ⟨ad, e, hc⟩ := h.cells hl
    exact ⟨ad, e, fun j hj => hb.cell (hc j hj) (by rw [add_block]; exact hS ad hl e)⟩⟩
theorem RdW.bel {w w' : World} {A : Option Addr} {l c : Nat} {X : List Nat} (h : RdW w A l c X) (hb : Below w.heap.size w w') : RdW w' A l c X := h.below hb
end Go.Proofs.YtlnillnngckegaaGreatDoor

namespace Go.Proofs.YtlnillnngckegaaGreatDoor
open Go.ChangeShapes Go.WideShapes Go.ChangeAt Go.RowKit

/-- A settled world in which a block is laid. -/
noncomputable def lay (w : World) (g : Nat) (cs : Array Value) : World :=
  { w with heap := w.heap.modify g fun
      | .cells _ t frozen => .cells cs t frozen
      | o => o }
noncomputable def laidWorld (os : Os) : World :=
  lay (lay (lay (lay (lay (lay (lay (World.holding Tryz.prog os ⟨#[], #[], []⟩)
    0 #[.int .i64 12])
    1 #[.int .i64 80])
    2 #[.int .i64 40])
    3 #[.int .i64 40])
    6 #[.int .i64 8])
    7 #[.int .u8 0, .int .u8 1, .int .u8 28, .int .u8 2, .int .u8 29, .int .u8 14, .int .u8 24, .int .u8 3, .int .u8 30, .int .u8 22, .int .u8 20, .int .u8 15, .int .u8 25, .int .u8 17, .int .u8 4, .int .u8 8, .int .u8 31, .int .u8 27, .int .u8 13, .int .u8 23, .int .u8 21, .int .u8 19, .int .u8 16, .int .u8 7, .int .u8 26, .int .u8 12, .int .u8 18, .int .u8 6, .int .u8 11, .int .u8 5, .int .u8 10, .int .u8 9])
    8 #[.int .u8 0, .int .u8 1, .int .u8 56, .int .u8 2, .int .u8 57, .int .u8 49, .int .u8 28, .int .u8 3, .int .u8 61, .int .u8 58, .int .u8 42, .int .u8 50, .int .u8 38, .int .u8 29, .int .u8 17, .int .u8 4, .int .u8 62, .int .u8 47, .int .u8 59, .int .u8 36, .int .u8 45, .int .u8 43, .int .u8 51, .int .u8 22, .int .u8 53, .int .u8 39, .int .u8 33, .int .u8 30, .int .u8 24, .int .u8 18, .int .u8 12, .int .u8 5, .int .u8 63, .int .u8 55, .int .u8 48, .int .u8 27, .int .u8 60, .int .u8 41, .int .u8 37, .int .u8 16, .int .u8 46, .int .u8 35, .int .u8 44, .int .u8 21, .int .u8 52, .int .u8 32, .int .u8 23, .int .u8 11, .int .u8 54, .int .u8 26, .int .u8 40, .int .u8 15, .int .u8 34, .int .u8 20, .int .u8 31, .int .u8 10, .int .u8 25, .int .u8 14, .int .u8 19, .int .u8 9, .int .u8 13, .int .u8 8, .int .u8 7, .int .u8 6]

theorem trodVars_len {H : Type} {enc : TypeId × Value → H} {P : Program} {w : World} {sp : Nat → Bool} : ∀ {ns : List String} {gs : List (DataW H)} {ps : List MemPlace}, DataW.TrodVars enc P w sp ns gs ps → gs.length = ns.length
  | [], [], _, _ => rfl
  | [], _ :: _, _, h => h.elim
  | _ :: _, [], _, h => h.elim
  | _ :: ns, _ :: ds, _, h => by
    obtain ⟨g, t, cs, fuel, p, q, h1, h2, h3, h4, hs, e⟩ := h
    simp only [List.length_cons]
    rw [trodVars_len hs]
theorem five_of {α : Type} {l : List α} (h : l.length = 5) : ∃ a b c d e, l = [a, b, c, d, e] := by
  match l, h with
  | [a, b, c, d, e], _ => exact ⟨a, b, c, d, e, rfl⟩

/-- What a row's list gives: the package's variables. -/
theorem glob_of {w : World} {l : List (String × DataW Unit)} (h : laidMet Tryz.prog l w) (h0 : ("loop.example/pub-g03241/pub/bigall.basicSqrThreshold", DataW.lit (.int .i64 12)) ∈ l) (h1 : ("loop.example/pub-g03241/pub/bigall.karatsubaSqrThreshold", DataW.lit (.int .i64 80)) ∈ l)
    (h2 : ("loop.example/pub-g03241/pub/bigall.karatsubaThreshold", DataW.lit (.int .i64 40)) ∈ l) (h3 : ("loop.example/pub-g03241/pub/bigall.divRecursiveThreshold", DataW.lit (.int .i64 40)) ∈ l) (h6 : ("loop.example/pub-g03241/pub/bigall.leafSize", DataW.lit (.int .i64 8)) ∈ l) : Glob w := by
  obtain ⟨ps, hl, _⟩ := h
  have hi : Tryz.prog.underlying 3 = some (.int .i64) := Tryz.underlying3
  exact ⟨laid_int (n := "loop.example/pub-g03241/pub/bigall.basicSqrThreshold") (by kernel_rfl) (by kernel_rfl) hi hl h0, laid_int (n := "loop.example/pub-g03241/pub/bigall.karatsubaSqrThreshold") (by kernel_rfl) (by kernel_rfl) hi hl h1,
    laid_int (n := "loop.example/pub-g03241/pub/bigall.karatsubaThreshold") (by kernel_rfl) (by kernel_rfl) hi hl h2, laid_int (n := "loop.example/pub-g03241/pub/bigall.divRecursiveThreshold") (by kernel_rfl) (by kernel_rfl) hi hl h3,
    laid_int (n := "loop.example/pub-g03241/pub/bigall.leafSize") (by kernel_rfl) (by kernel_rfl) hi hl h6⟩
/-- The list that every row of this seat bears. -/
noncomputable def laidList : List (String × DataW Unit) := Rows.fnRoundRow.laid
theorem glob_of_laid {w : World} (h : laidMetH Tryz.prog laidList w) : Glob w :=
  glob_of (l := laidList) h (by simp [laidList, Rows.fnRoundRow, Rows.laid_loop_example_pub_g03241_pub_bigall_basicSqrThreshold]) (by simp [laidList, Rows.fnRoundRow, Rows.laid_loop_example_pub_g03241_pub_bigall_karatsubaSqrThreshold]) (by simp [laidList, Rows.fnRoundRow, Rows.laid_loop_example_pub_g03241_pub_bigall_karatsubaThreshold]) (by simp [laidList, Rows.fnRoundRow, Rows.laid_loop_example_pub_g03241_pub_bigall_divRecursiveThreshold]) (by simp [laidList, Rows.fnRoundRow, Rows.laid_loop_example_pub_g03241_pub_bigall_leafSize])

end Go.Proofs.YtlnillnngckegaaGreatDoor

namespace Go.Proofs.YtlnillnngckegaaGreatDoor
open Go.ChangeShapes Go.WideShapes Go.ChangeAt Go.RowKit Go.Joins
open Go
theorem fact2 : (mapsRowed Tryz.prog) = true := by kernel_rfl
theorem fact6 : ((Tryz.prog.stops == [])) = true := by kernel_rfl
theorem fact8 : ((Tryz.prog.stopKnobs == [])) = true := by kernel_rfl
theorem fact22 : ((Rows.fnRoundRow.plainKeys == Tryz.prog.plainKeys)) = true := by kernel_rfl
theorem fact24 : (Tryz.prog.stopsHeard) = true := by kernel_rfl
theorem fact25 : (Tryz.prog.mayEnter) = true := by kernel_rfl
theorem fact26 : ((Rows.fnRoundRow.lifted == Tryz.prog.liftsFinal)) = true := by kernel_rfl
theorem fact27 : ((Tryz.prog.make == some Rows.fnRoundRow.make)) = true := by kernel_rfl
theorem band {a b : Bool} (ha : a = true) (hb : b = true) : (a && b) = true := by rw [ha, hb]; rfl
end Go.Proofs.YtlnillnngckegaaGreatDoor
