/- A world for the witnesses: the settled one, the listed variables as their initialisers lay them. -/
import Derived.Test.YtgdpljjmnmapmaaGreatDoorC03
import Derived.Test.YtgdpljjmnmapmaaGreatDoorC09
namespace Go.Proofs.YtgdpljjmnmapmaaGreatDoor
open Go.ChangeShapes Go.WideShapes Go.ChangeAt Go.RowKit

/-- A settled world in which a block is laid. -/
noncomputable def lay (w : World) (g : Nat) (cs : Array Value) : World :=
  { w with heap := w.heap.modify g fun
      | .cells _ t frozen => .cells cs t frozen
      | o => o }
noncomputable def laidWorld (os : Os) : World :=
  lay (lay (lay (lay (lay (lay (lay (World.holding Tryz.prog os ⟨#[], #[], []⟩)
    1 #[.int .i64 12])
    2 #[.int .i64 80])
    3 #[.int .i64 40])
    0 #[.int .i64 40])
    6 #[.int .i64 8])
    7 #[.int .u8 0, .int .u8 1, .int .u8 28, .int .u8 2, .int .u8 29, .int .u8 14, .int .u8 24, .int .u8 3, .int .u8 30, .int .u8 22, .int .u8 20, .int .u8 15, .int .u8 25, .int .u8 17, .int .u8 4, .int .u8 8, .int .u8 31, .int .u8 27, .int .u8 13, .int .u8 23, .int .u8 21, .int .u8 19, .int .u8 16, .int .u8 7, .int .u8 26, .int .u8 12, .int .u8 18, .int .u8 6, .int .u8 11, .int .u8 5, .int .u8 10, .int .u8 9])
    8 #[.int .u8 0, .int .u8 1, .int .u8 56, .int .u8 2, .int .u8 57, .int .u8 49, .int .u8 28, .int .u8 3, .int .u8 61, .int .u8 58, .int .u8 42, .int .u8 50, .int .u8 38, .int .u8 29, .int .u8 17, .int .u8 4, .int .u8 62, .int .u8 47, .int .u8 59, .int .u8 36, .int .u8 45, .int .u8 43, .int .u8 51, .int .u8 22, .int .u8 53, .int .u8 39, .int .u8 33, .int .u8 30, .int .u8 24, .int .u8 18, .int .u8 12, .int .u8 5, .int .u8 63, .int .u8 55, .int .u8 48, .int .u8 27, .int .u8 60, .int .u8 41, .int .u8 37, .int .u8 16, .int .u8 46, .int .u8 35, .int .u8 44, .int .u8 21, .int .u8 52, .int .u8 32, .int .u8 23, .int .u8 11, .int .u8 54, .int .u8 26, .int .u8 40, .int .u8 15, .int .u8 34, .int .u8 20, .int .u8 31, .int .u8 10, .int .u8 25, .int .u8 14, .int .u8 19, .int .u8 9, .int .u8 13, .int .u8 8, .int .u8 7, .int .u8 6]

theorem trodVars_len {H : Type} {enc : TypeId × Value → H} {P : Program} {w : World} {sp : Nat → Bool} : ∀ {ns : List String} {gs : List (DataW H)} {ps : List MemPlace}, DataW.TrodVars enc P w sp ns gs ps → gs.length = ns.length
  | [], [], _, _ => rfl
  | [], _ :: _, _, h => h.elim
  | _ :: _, [], _, h => h.elim
  | _ :: ns, _ :: ds, _, h => by
    obtain ⟨g, t, cs, fuel, p, q, h1, h2, h3, h4, hs, e⟩ := h
    simp only [List.length_cons]
    rw [trodVars_len hs]
theorem five_of {α : Type} {l : List α} (h : l.length = 5) : ∃ a b c d e, l = [a, b, c, d, e] := by
  match l, h with
  | [a, b, c, d, e], _ => exact ⟨a, b, c, d, e, rfl⟩

/-- What a row's list gives: the package's variables. -/
theorem glob_of {w : World} {l : List (String × DataW Unit)} (h : laidMet Tryz.prog l w) (h0 : ("loop.example/pub-g03241/pub/bigall.basicSqrThreshold", DataW.lit (.int .i64 12)) ∈ l) (h1 : ("loop.example/pub-g03241/pub/bigall.karatsubaSqrThreshold", DataW.lit (.int .i64 80)) ∈ l)
    (h2 : ("loop.example/pub-g03241/pub/bigall.karatsubaThreshold", DataW.lit (.int .i64 40)) ∈ l) (h3 : ("loop.example/pub-g03241/pub/bigall.divRecursiveThreshold", DataW.lit (.int .i64 40)) ∈ l) (h6 : ("loop.example/pub-g03241/pub/bigall.leafSize", DataW.lit (.int .i64 8)) ∈ l) : Glob w := by
  obtain ⟨ps, hl, _⟩ := h
  have hi : Tryz.prog.underlying 3 = some (.int .i64) := Tryz.underlying3
  exact ⟨laid_int (n := "loop.example/pub-g03241/pub/bigall.basicSqrThreshold") (by kernel_rfl) (by kernel_rfl) hi hl h0, laid_int (n := "loop.example/pub-g03241/pub/bigall.karatsubaSqrThreshold") (by kernel_rfl) (by kernel_rfl) hi hl h1,
    laid_int (n := "loop.example/pub-g03241/pub/bigall.karatsubaThreshold") (by kernel_rfl) (by kernel_rfl) hi hl h2, laid_int (n := "loop.example/pub-g03241/pub/bigall.divRecursiveThreshold") (by kernel_rfl) (by kernel_rfl) hi hl h3,
    laid_int (n := "loop.example/pub-g03241/pub/bigall.leafSize") (by kernel_rfl) (by kernel_rfl) hi hl h6⟩
/-- The list that every row of this seat bears. -/
noncomputable def laidList : List (String × DataW Unit) := Rows.fnCeilRow.laid
theorem glob_of_laid {w : World} (h : laidMetH Tryz.prog laidList w) : Glob w :=
  glob_of (l := laidList) h (by simp [laidList, Rows.fnCeilRow, Rows.laid_loop_example_pub_g03241_pub_bigall_basicSqrThreshold]) (by simp [laidList, Rows.fnCeilRow, Rows.laid_loop_example_pub_g03241_pub_bigall_karatsubaSqrThreshold]) (by simp [laidList, Rows.fnCeilRow, Rows.laid_loop_example_pub_g03241_pub_bigall_karatsubaThreshold]) (by simp [laidList, Rows.fnCeilRow, Rows.laid_loop_example_pub_g03241_pub_bigall_divRecursiveThreshold]) (by simp [laidList, Rows.fnCeilRow, Rows.laid_loop_example_pub_g03241_pub_bigall_leafSize])

end Go.Proofs.YtgdpljjmnmapmaaGreatDoor
