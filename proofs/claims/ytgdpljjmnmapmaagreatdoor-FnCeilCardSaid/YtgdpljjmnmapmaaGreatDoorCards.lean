/-
  DERIVED. GIVEN WITH THE SEED: THE CARDS: each row of YtgdpljjmnmapmaaGreatDoorRows.lean that lists a variable, with what it lists TIED to the program's text (the seventh form; the later family's looks); each row that meets fmt, with fmt's text TOLD by the authors' own Lean function (tested against real Go, not proved from fmt's source: count such statements apart). THE CARD IS WHAT COUNTS. Prove the row's statement (the work); the ties are given (YtgdpljjmnmapmaaGreatDoorTie.lean); close each card by the builder's one call (the guide's Derived/Test/ToyasCard.lean, 'card_holds'). Laid BY PROGRAM, IN A SANDBOX (cutbox-door.mjs). By AI agents, Wed Nov 11 2026. No macro, syntax, notation, axiom, sorry.
-/
import Derived.Test.YtgdpljjmnmapmaaGreatDoorRows
import GoSem.ClaimSeven
namespace Go.Proofs.YtgdpljjmnmapmaaGreatDoor
namespace Rows

/-- THE TIED CARD OF 'laws.FnCeil'. -/
def fnCeilCard : Claim7 := { stood := { row := fnCeilRow, standIns := [], harness := (true, "339ffc4cd6bb8d5664a97b7c5f5788f1ac0e75d03bac7ece7e8f8f920e2f2c3f"), looks := false }, kinds := [], alts := [], laidByText := true, laidKinds := [.data, .data, .data, .data, .data, .data, .data], laidTests := true, laidLooks := .later }
def FnCeilCardSaid : Prop := Claim7.holds Tryz.pinned (.plain (OpenSpec.ofChange fnCeilSpec)) fnCeilCard

/-- THE TIED CARD OF 'laws.FnFloor'. -/
def fnFloorCard : Claim7 := { stood := { row := fnFloorRow, standIns := [], harness := (true, "339ffc4cd6bb8d5664a97b7c5f5788f1ac0e75d03bac7ece7e8f8f920e2f2c3f"), looks := false }, kinds := [], alts := [], laidByText := true, laidKinds := [.data, .data, .data, .data, .data, .data, .data], laidTests := true, laidLooks := .later }
def FnFloorCardSaid : Prop := Claim7.holds Tryz.pinned (.plain (OpenSpec.ofChange fnFloorSpec)) fnFloorCard

/-- THE TIED CARD OF 'laws.FnReduce'. -/
def fnReduceCard : Claim7 := { stood := { row := fnReduceRow, standIns := [], harness := (true, "339ffc4cd6bb8d5664a97b7c5f5788f1ac0e75d03bac7ece7e8f8f920e2f2c3f"), looks := false }, kinds := [], alts := [], laidByText := true, laidKinds := [.data, .data, .data, .data, .data, .data, .data], laidTests := true, laidLooks := .later }
def FnReduceCardSaid : Prop := Claim7.holds Tryz.pinned (.plain (OpenSpec.ofChange fnReduceSpec)) fnReduceCard

/-- THE TIED CARD OF 'laws.FnDivRem'. -/
def fnDivRemCard : Claim7 := { stood := { row := fnDivRemRow, standIns := [], harness := (true, "339ffc4cd6bb8d5664a97b7c5f5788f1ac0e75d03bac7ece7e8f8f920e2f2c3f"), looks := false }, kinds := [], alts := [], laidByText := true, laidKinds := [.data, .data, .data, .data, .data, .data, .data], laidTests := true, laidLooks := .later }
def FnDivRemCardSaid : Prop := Claim7.holds Tryz.pinned (.plain (OpenSpec.ofChange fnDivRemSpec)) fnDivRemCard

/-- THE SECOND FORM's CARD OF 'laws.FnCeil'. -/
def fnCeilUptoCard : Claim7 := { stood := { row := fnCeilUptoRow, standIns := [], harness := (true, "339ffc4cd6bb8d5664a97b7c5f5788f1ac0e75d03bac7ece7e8f8f920e2f2c3f"), looks := false }, kinds := [], alts := [], laidByText := true, laidKinds := [.data, .data, .data, .data, .data, .data, .data], laidTests := true, laidLooks := .later }
def FnCeilUptoCardSaid : Prop := Claim7.holds Tryz.pinned (.plain (OpenSpec.upto fnCeilSpec)) fnCeilUptoCard

/-- THE SECOND FORM's CARD OF 'laws.FnFloor'. -/
def fnFloorUptoCard : Claim7 := { stood := { row := fnFloorUptoRow, standIns := [], harness := (true, "339ffc4cd6bb8d5664a97b7c5f5788f1ac0e75d03bac7ece7e8f8f920e2f2c3f"), looks := false }, kinds := [], alts := [], laidByText := true, laidKinds := [.data, .data, .data, .data, .data, .data, .data], laidTests := true, laidLooks := .later }
def FnFloorUptoCardSaid : Prop := Claim7.holds Tryz.pinned (.plain (OpenSpec.upto fnFloorSpec)) fnFloorUptoCard

/-- THE SECOND FORM's CARD OF 'laws.FnReduce'. -/
def fnReduceUptoCard : Claim7 := { stood := { row := fnReduceUptoRow, standIns := [], harness := (true, "339ffc4cd6bb8d5664a97b7c5f5788f1ac0e75d03bac7ece7e8f8f920e2f2c3f"), looks := false }, kinds := [], alts := [], laidByText := true, laidKinds := [.data, .data, .data, .data, .data, .data, .data], laidTests := true, laidLooks := .later }
def FnReduceUptoCardSaid : Prop := Claim7.holds Tryz.pinned (.plain (OpenSpec.upto fnReduceSpec)) fnReduceUptoCard

/-- THE SECOND FORM's CARD OF 'laws.FnDivRem'. -/
def fnDivRemUptoCard : Claim7 := { stood := { row := fnDivRemUptoRow, standIns := [], harness := (true, "339ffc4cd6bb8d5664a97b7c5f5788f1ac0e75d03bac7ece7e8f8f920e2f2c3f"), looks := false }, kinds := [], alts := [], laidByText := true, laidKinds := [.data, .data, .data, .data, .data, .data, .data], laidTests := true, laidLooks := .later }
def FnDivRemUptoCardSaid : Prop := Claim7.holds Tryz.pinned (.plain (OpenSpec.upto fnDivRemSpec)) fnDivRemUptoCard
end Rows
end Go.Proofs.YtgdpljjmnmapmaaGreatDoor
