/- Decimal.Modf: the integer part and the fraction. What the thin package tells: a number, or any answer. -/
import Derived.Test.YtcoljeafgiemkaaGreatDoorC38
import Derived.Test.YtcoljeafgiemkaaGreatDoorC40
namespace Go.Proofs.YtcoljeafgiemkaaGreatDoor
open Go Go.RowKit

end Go.Proofs.YtcoljeafgiemkaaGreatDoor

namespace Go.Proofs.YtcoljeafgiemkaaGreatDoor
open Go Go.RowKit

/-- What is told, but for the answer. -/
def TellC (w w' : World) (E : Ending) (cn : Int) : Prop := ∃ F s q l cc e1, E = .returned (.tuple #[.agg #[.int .i64 F, .bool s, .slice q l cc, .int .i64 e1], .int .i64 cn, .bool true]) ∧ Chg w w' (fun _ => False)
/-- A number is told. -/
def TellN (w w' : World) (E : Ending) (n : Bool) (e : Int) (N : Nat) (cn : Int) : Prop := ∃ q cc, E = .returned (.tuple #[.agg #[.int .i64 0, .bool n, .slice q (digs N).length cc, .int .i64 e], .int .i64 cn, .bool true]) ∧ RdW w' q (digs N).length cc (digs N) ∧ Chg w w' (fun _ => False)
theorem tellN {w w' : World} {E : Ending} {n : Bool} {e : Int} {N cn : Nat} (h : ImplQ (QFin n e N) w w' E cn) : TellN w w' E n e N (cn : Int) := by
  obtain ⟨F, s, q, l, cc, e1, hE, ⟨rfl, rfl, rfl, rfl, hr⟩, hc⟩ := h
  exact ⟨q, cc, hE, hr, hc⟩
theorem TellN.c {w w' : World} {E : Ending} {n : Bool} {e : Int} {N : Nat} {cn : Int} (h : TellN w w' E n e N cn) : TellC w w' E cn := by
  obtain ⟨q, cc, hE, _, hc⟩ := h
  exact ⟨_, _, _, _, _, _, hE, hc⟩
end Go.Proofs.YtcoljeafgiemkaaGreatDoor
