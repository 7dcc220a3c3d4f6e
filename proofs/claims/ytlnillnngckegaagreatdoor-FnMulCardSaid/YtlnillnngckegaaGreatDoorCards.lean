/-
  DERIVED. GIVEN WITH THE SEED: THE CARDS: each row of YtlnillnngckegaaGreatDoorRows.lean that lists a variable, with what it lists TIED to the program's text (the seventh form; the later family's looks); each row that meets fmt, with fmt's text TOLD by the authors' own Lean function (tested against real Go, not proved from fmt's source: count such statements apart). THE CARD IS WHAT COUNTS. Prove the row's statement (the work); the ties are given (YtlnillnngckegaaGreatDoorTie.lean); close each card by the builder's one call (the guide's Derived/Test/ToyasCard.lean, 'card_holds'). Laid BY PROGRAM, IN A SANDBOX (cutbox-door.mjs). By AI agents, Wed Nov 11 2026. No macro, syntax, notation, axiom, sorry.
-/
import Derived.Test.YtlnillnngckegaaGreatDoorRows
import GoSem.ClaimSeven
namespace Go.Proofs.YtlnillnngckegaaGreatDoor
namespace Rows

/-- THE TIED CARD OF 'laws.FnRound'. -/
def fnRoundCard : Claim7 := { stood := { row := fnRoundRow, standIns := [], harness := (true, "8878701b7e5cf590cab007210684fd2e0bdab7deb00863a2615e178f5fce81ca"), looks := false }, kinds := [], alts := [], laidByText := true, laidKinds := [.data, .data, .data, .data, .data, .data, .data], laidTests := true, laidLooks := .later }
def FnRoundCardSaid : Prop := Claim7.holds Tryz.pinned (.plain (OpenSpec.ofChange fnRoundSpec)) fnRoundCard

/-- THE TIED CARD OF 'laws.FnAbs'. -/
def fnAbsCard : Claim7 := { stood := { row := fnAbsRow, standIns := [], harness := (true, "8878701b7e5cf590cab007210684fd2e0bdab7deb00863a2615e178f5fce81ca"), looks := false }, kinds := [], alts := [], laidByText := true, laidKinds := [.data, .data, .data, .data, .data, .data, .data], laidTests := true, laidLooks := .later }
def FnAbsCardSaid : Prop := Claim7.holds Tryz.pinned (.plain (OpenSpec.ofChange fnAbsSpec)) fnAbsCard

/-- THE TIED CARD OF 'laws.FnNeg'. -/
def fnNegCard : Claim7 := { stood := { row := fnNegRow, standIns := [], harness := (true, "8878701b7e5cf590cab007210684fd2e0bdab7deb00863a2615e178f5fce81ca"), looks := false }, kinds := [], alts := [], laidByText := true, laidKinds := [.data, .data, .data, .data, .data, .data, .data], laidTests := true, laidLooks := .later }
def FnNegCardSaid : Prop := Claim7.holds Tryz.pinned (.plain (OpenSpec.ofChange fnNegSpec)) fnNegCard

/-- THE TIED CARD OF 'laws.FnMul'. -/
def fnMulCard : Claim7 := { stood := { row := fnMulRow, standIns := [], harness := (true, "8878701b7e5cf590cab007210684fd2e0bdab7deb00863a2615e178f5fce81ca"), looks := false }, kinds := [], alts := [], laidByText := true, laidKinds := [.data, .data, .data, .data, .data, .data, .data], laidTests := true, laidLooks := .later }
def FnMulCardSaid : Prop := Claim7.holds Tryz.pinned (.plain (OpenSpec.ofChange fnMulSpec)) fnMulCard

/-- THE TIED CARD OF 'laws.FnAdd'. -/
def fnAddCard : Claim7 := { stood := { row := fnAddRow, standIns := [], harness := (true, "8878701b7e5cf590cab007210684fd2e0bdab7deb00863a2615e178f5fce81ca"), looks := false }, kinds := [], alts := [], laidByText := true, laidKinds := [.data, .data, .data, .data, .data, .data, .data], laidTests := true, laidLooks := .later }
def FnAddCardSaid : Prop := Claim7.holds Tryz.pinned (.plain (OpenSpec.ofChange fnAddSpec)) fnAddCard

/-- THE TIED CARD OF 'laws.FnSub'. -/
def fnSubCard : Claim7 := { stood := { row := fnSubRow, standIns := [], harness := (true, "8878701b7e5cf590cab007210684fd2e0bdab7deb00863a2615e178f5fce81ca"), looks := false }, kinds := [], alts := [], laidByText := true, laidKinds := [.data, .data, .data, .data, .data, .data, .data], laidTests := true, laidLooks := .later }
def FnSubCardSaid : Prop := Claim7.holds Tryz.pinned (.plain (OpenSpec.ofChange fnSubSpec)) fnSubCard

/-- THE SECOND FORM's CARD OF 'laws.FnRound'. -/
def fnRoundUptoCard : Claim7 := { stood := { row := fnRoundUptoRow, standIns := [], harness := (true, "8878701b7e5cf590cab007210684fd2e0bdab7deb00863a2615e178f5fce81ca"), looks := false }, kinds := [], alts := [], laidByText := true, laidKinds := [.data, .data, .data, .data, .data, .data, .data], laidTests := true, laidLooks := .later }
def FnRoundUptoCardSaid : Prop := Claim7.holds Tryz.pinned (.plain (OpenSpec.upto fnRoundSpec)) fnRoundUptoCard

/-- THE SECOND FORM's CARD OF 'laws.FnAbs'. -/
def fnAbsUptoCard : Claim7 := { stood := { row := fnAbsUptoRow, standIns := [], harness := (true, "8878701b7e5cf590cab007210684fd2e0bdab7deb00863a2615e178f5fce81ca"), looks := false }, kinds := [], alts := [], laidByText := true, laidKinds := [.data, .data, .data, .data, .data, .data, .data], laidTests := true, laidLooks := .later }
def FnAbsUptoCardSaid : Prop := Claim7.holds Tryz.pinned (.plain (OpenSpec.upto fnAbsSpec)) fnAbsUptoCard

/-- THE SECOND FORM's CARD OF 'laws.FnNeg'. -/
def fnNegUptoCard : Claim7 := { stood := { row := fnNegUptoRow, standIns := [], harness := (true, "8878701b7e5cf590cab007210684fd2e0bdab7deb00863a2615e178f5fce81ca"), looks := false }, kinds := [], alts := [], laidByText := true, laidKinds := [.data, .data, .data, .data, .data, .data, .data], laidTests := true, laidLooks := .later }
def FnNegUptoCardSaid : Prop := Claim7.holds Tryz.pinned (.plain (OpenSpec.upto fnNegSpec)) fnNegUptoCard

/-- THE SECOND FORM's CARD OF 'laws.FnMul'. -/
def fnMulUptoCard : Claim7 := { stood := { row := fnMulUptoRow, standIns := [], harness := (true, "8878701b7e5cf590cab007210684fd2e0bdab7deb00863a2615e178f5fce81ca"), looks := false }, kinds := [], alts := [], laidByText := true, laidKinds := [.data, .data, .data, .data, .data, .data, .data], laidTests := true, laidLooks := .later }
def FnMulUptoCardSaid : Prop := Claim7.holds Tryz.pinned (.plain (OpenSpec.upto fnMulSpec)) fnMulUptoCard

/-- THE SECOND FORM's CARD OF 'laws.FnAdd'. -/
def fnAddUptoCard : Claim7 := { stood := { row := fnAddUptoRow, standIns := [], harness := (true, "8878701b7e5cf590cab007210684fd2e0bdab7deb00863a2615e178f5fce81ca"), looks := false }, kinds := [], alts := [], laidByText := true, laidKinds := [.data, .data, .data, .data, .data, .data, .data], laidTests := true, laidLooks := .later }
def FnAddUptoCardSaid : Prop := Claim7.holds Tryz.pinned (.plain (OpenSpec.upto fnAddSpec)) fnAddUptoCard

/-- THE SECOND FORM's CARD OF 'laws.FnSub'. -/
def fnSubUptoCard : Claim7 := { stood := { row := fnSubUptoRow, standIns := [], harness := (true, "8878701b7e5cf590cab007210684fd2e0bdab7deb00863a2615e178f5fce81ca"), looks := false }, kinds := [], alts := [], laidByText := true, laidKinds := [.data, .data, .data, .data, .data, .data, .data], laidTests := true, laidLooks := .later }
def FnSubUptoCardSaid : Prop := Claim7.holds Tryz.pinned (.plain (OpenSpec.upto fnSubSpec)) fnSubUptoCard
end Rows
end Go.Proofs.YtlnillnngckegaaGreatDoor
