/-
  DERIVED. GIVEN WITH THE SEED: THE CARDS: each row of YtffjgkghmdhlkaaGreatDoorRows.lean that lists a variable, with what it lists TIED to the program's text (the seventh form; the later family's looks); each row that meets fmt, with fmt's text TOLD by the authors' own Lean function (tested against real Go, not proved from fmt's source: count such statements apart). THE CARD IS WHAT COUNTS. Prove the row's statement (the work); the ties are given (YtffjgkghmdhlkaaGreatDoorTie.lean); close each card by the builder's one call (the guide's Derived/Test/ToyasCard.lean, 'card_holds'). Laid BY PROGRAM, IN A SANDBOX (cutbox-door.mjs). By AI agents, Wed Nov 11 2026. No macro, syntax, notation, axiom, sorry.
-/
import Derived.Test.YtffjgkghmdhlkaaGreatDoorRows
import GoSem.ClaimSeven
namespace Go.Proofs.YtffjgkghmdhlkaaGreatDoor
namespace Rows

/-- THE TIED CARD OF 'laws.FnOverflow'. -/
def fnOverflowCard : Claim7 := { stood := { row := fnOverflowRow, standIns := [], harness := (true, "bb7aa9f9f099e834684e900ae4120b70bf76d4ff0a835bc1f9fba36b0b29b776"), looks := false }, kinds := [], alts := [], laidByText := true, laidKinds := [.data, .data, .data, .data, .data, .data, .data], laidTests := true, laidLooks := .later }
def FnOverflowCardSaid : Prop := Claim7.holds Tryz.pinned (.plain (OpenSpec.ofChange fnOverflowSpec)) fnOverflowCard

/-- THE TIED CARD OF 'laws.FnSubnormal'. -/
def fnSubnormalCard : Claim7 := { stood := { row := fnSubnormalRow, standIns := [], harness := (true, "bb7aa9f9f099e834684e900ae4120b70bf76d4ff0a835bc1f9fba36b0b29b776"), looks := false }, kinds := [], alts := [], laidByText := true, laidKinds := [.data, .data, .data, .data, .data, .data, .data], laidTests := true, laidLooks := .later }
def FnSubnormalCardSaid : Prop := Claim7.holds Tryz.pinned (.plain (OpenSpec.ofChange fnSubnormalSpec)) fnSubnormalCard

/-- THE TIED CARD OF 'laws.FnRem'. -/
def fnRemCard : Claim7 := { stood := { row := fnRemRow, standIns := [], harness := (true, "bb7aa9f9f099e834684e900ae4120b70bf76d4ff0a835bc1f9fba36b0b29b776"), looks := false }, kinds := [], alts := [], laidByText := true, laidKinds := [.data, .data, .data, .data, .data, .data, .data], laidTests := true, laidLooks := .later }
def FnRemCardSaid : Prop := Claim7.holds Tryz.pinned (.plain (OpenSpec.ofChange fnRemSpec)) fnRemCard

/-- THE TIED CARD OF 'laws.FnQuo'. -/
def fnQuoCard : Claim7 := { stood := { row := fnQuoRow, standIns := [], harness := (true, "bb7aa9f9f099e834684e900ae4120b70bf76d4ff0a835bc1f9fba36b0b29b776"), looks := false }, kinds := [], alts := [], laidByText := true, laidKinds := [.data, .data, .data, .data, .data, .data, .data], laidTests := true, laidLooks := .later }
def FnQuoCardSaid : Prop := Claim7.holds Tryz.pinned (.plain (OpenSpec.ofChange fnQuoSpec)) fnQuoCard

/-- THE TIED CARD OF 'laws.FnQuoFigures'. -/
def fnQuoFiguresCard : Claim7 := { stood := { row := fnQuoFiguresRow, standIns := [], harness := (true, "bb7aa9f9f099e834684e900ae4120b70bf76d4ff0a835bc1f9fba36b0b29b776"), looks := false }, kinds := [], alts := [], laidByText := true, laidKinds := [.data, .data, .data, .data, .data, .data, .data], laidTests := true, laidLooks := .later }
def FnQuoFiguresCardSaid : Prop := Claim7.holds Tryz.pinned (.plain (OpenSpec.ofChange fnQuoFiguresSpec)) fnQuoFiguresCard

/-- THE TIED CARD OF 'laws.FnCommutes'. -/
def fnCommutesCard : Claim7 := { stood := { row := fnCommutesRow, standIns := [], harness := (true, "bb7aa9f9f099e834684e900ae4120b70bf76d4ff0a835bc1f9fba36b0b29b776"), looks := false }, kinds := [], alts := [], laidByText := true, laidKinds := [.data, .data, .data, .data, .data, .data, .data], laidTests := true, laidLooks := .later }
def FnCommutesCardSaid : Prop := Claim7.holds Tryz.pinned (.plain (OpenSpec.ofChange fnCommutesSpec)) fnCommutesCard

/-- THE SECOND FORM's CARD OF 'laws.FnOverflow'. -/
def fnOverflowUptoCard : Claim7 := { stood := { row := fnOverflowUptoRow, standIns := [], harness := (true, "bb7aa9f9f099e834684e900ae4120b70bf76d4ff0a835bc1f9fba36b0b29b776"), looks := false }, kinds := [], alts := [], laidByText := true, laidKinds := [.data, .data, .data, .data, .data, .data, .data], laidTests := true, laidLooks := .later }
def FnOverflowUptoCardSaid : Prop := Claim7.holds Tryz.pinned (.plain (OpenSpec.upto fnOverflowSpec)) fnOverflowUptoCard

/-- THE SECOND FORM's CARD OF 'laws.FnSubnormal'. -/
def fnSubnormalUptoCard : Claim7 := { stood := { row := fnSubnormalUptoRow, standIns := [], harness := (true, "bb7aa9f9f099e834684e900ae4120b70bf76d4ff0a835bc1f9fba36b0b29b776"), looks := false }, kinds := [], alts := [], laidByText := true, laidKinds := [.data, .data, .data, .data, .data, .data, .data], laidTests := true, laidLooks := .later }
def FnSubnormalUptoCardSaid : Prop := Claim7.holds Tryz.pinned (.plain (OpenSpec.upto fnSubnormalSpec)) fnSubnormalUptoCard

/-- THE SECOND FORM's CARD OF 'laws.FnRem'. -/
def fnRemUptoCard : Claim7 := { stood := { row := fnRemUptoRow, standIns := [], harness := (true, "bb7aa9f9f099e834684e900ae4120b70bf76d4ff0a835bc1f9fba36b0b29b776"), looks := false }, kinds := [], alts := [], laidByText := true, laidKinds := [.data, .data, .data, .data, .data, .data, .data], laidTests := true, laidLooks := .later }
def FnRemUptoCardSaid : Prop := Claim7.holds Tryz.pinned (.plain (OpenSpec.upto fnRemSpec)) fnRemUptoCard

/-- THE SECOND FORM's CARD OF 'laws.FnQuo'. -/
def fnQuoUptoCard : Claim7 := { stood := { row := fnQuoUptoRow, standIns := [], harness := (true, "bb7aa9f9f099e834684e900ae4120b70bf76d4ff0a835bc1f9fba36b0b29b776"), looks := false }, kinds := [], alts := [], laidByText := true, laidKinds := [.data, .data, .data, .data, .data, .data, .data], laidTests := true, laidLooks := .later }
def FnQuoUptoCardSaid : Prop := Claim7.holds Tryz.pinned (.plain (OpenSpec.upto fnQuoSpec)) fnQuoUptoCard

/-- THE SECOND FORM's CARD OF 'laws.FnQuoFigures'. -/
def fnQuoFiguresUptoCard : Claim7 := { stood := { row := fnQuoFiguresUptoRow, standIns := [], harness := (true, "bb7aa9f9f099e834684e900ae4120b70bf76d4ff0a835bc1f9fba36b0b29b776"), looks := false }, kinds := [], alts := [], laidByText := true, laidKinds := [.data, .data, .data, .data, .data, .data, .data], laidTests := true, laidLooks := .later }
def FnQuoFiguresUptoCardSaid : Prop := Claim7.holds Tryz.pinned (.plain (OpenSpec.upto fnQuoFiguresSpec)) fnQuoFiguresUptoCard

/-- THE SECOND FORM's CARD OF 'laws.FnCommutes'. -/
def fnCommutesUptoCard : Claim7 := { stood := { row := fnCommutesUptoRow, standIns := [], harness := (true, "bb7aa9f9f099e834684e900ae4120b70bf76d4ff0a835bc1f9fba36b0b29b776"), looks := false }, kinds := [], alts := [], laidByText := true, laidKinds := [.data, .data, .data, .data, .data, .data, .data], laidTests := true, laidLooks := .later }
def FnCommutesUptoCardSaid : Prop := Claim7.holds Tryz.pinned (.plain (OpenSpec.upto fnCommutesSpec)) fnCommutesUptoCard
end Rows
end Go.Proofs.YtffjgkghmdhlkaaGreatDoor
