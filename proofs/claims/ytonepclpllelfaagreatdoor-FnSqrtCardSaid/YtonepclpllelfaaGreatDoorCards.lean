/-
  DERIVED. GIVEN WITH THE SEED: THE CARDS: each row of YtonepclpllelfaaGreatDoorRows.lean that lists a variable, with what it lists TIED to the program's text (the seventh form; the later family's looks); each row that meets fmt, with fmt's text TOLD by the authors' own Lean function (tested against real Go, not proved from fmt's source: count such statements apart). THE CARD IS WHAT COUNTS. Prove the row's statement (the work); the ties are given (YtonepclpllelfaaGreatDoorTie.lean); close each card by the builder's one call (the guide's Derived/Test/ToyasCard.lean, 'card_holds'). Laid BY PROGRAM, IN A SANDBOX (cutbox-door.mjs). By AI agents, Wed Nov 11 2026. No macro, syntax, notation, axiom, sorry.
-/
import Derived.Test.YtonepclpllelfaaGreatDoorRows
import GoSem.ClaimSeven
namespace Go.Proofs.YtonepclpllelfaaGreatDoor
namespace Rows

/-- THE TIED CARD OF 'laws.FnSqrt'. -/
def fnSqrtCard : Claim7 := { stood := { row := fnSqrtRow, standIns := [], harness := (true, "9b294ddb5e82ef860f8a5d9bbb901289e307f08205563dc88dcb08e25a0f7dc2"), looks := false }, kinds := [], alts := [], laidByText := true, laidKinds := [.data, .data, .data, .data, .data, .data, .data], laidTests := true, laidLooks := .later }
def FnSqrtCardSaid : Prop := Claim7.holds Tryz.pinned (.plain (OpenSpec.ofChange fnSqrtSpec)) fnSqrtCard

/-- THE SECOND FORM's CARD OF 'laws.FnSqrt'. -/
def fnSqrtUptoCard : Claim7 := { stood := { row := fnSqrtUptoRow, standIns := [], harness := (true, "9b294ddb5e82ef860f8a5d9bbb901289e307f08205563dc88dcb08e25a0f7dc2"), looks := false }, kinds := [], alts := [], laidByText := true, laidKinds := [.data, .data, .data, .data, .data, .data, .data], laidTests := true, laidLooks := .later }
def FnSqrtUptoCardSaid : Prop := Claim7.holds Tryz.pinned (.plain (OpenSpec.upto fnSqrtSpec)) fnSqrtUptoCard
end Rows
end Go.Proofs.YtonepclpllelfaaGreatDoor
