/-
  DERIVED. GIVEN WITH THE SEED: THE CARDS: each row of YtcoljeafgiemkaaGreatDoorRows.lean that lists a variable, with what it lists TIED to the program's text (the seventh form; the later family's looks); each row that meets fmt, with fmt's text TOLD by the authors' own Lean function (tested against real Go, not proved from fmt's source: count such statements apart). THE CARD IS WHAT COUNTS. Prove the row's statement (the work); the ties are given (YtcoljeafgiemkaaGreatDoorTie.lean); close each card by the builder's one call (the guide's Derived/Test/ToyasCard.lean, 'card_holds'). Laid BY PROGRAM, IN A SANDBOX (cutbox-door.mjs). By AI agents, Wed Nov 11 2026. No macro, syntax, notation, axiom, sorry.
-/
import Derived.Test.YtcoljeafgiemkaaGreatDoorRows
import GoSem.ClaimSeven
namespace Go.Proofs.YtcoljeafgiemkaaGreatDoor
namespace Rows

/-- THE TIED CARD OF 'laws.FnQuantize'. -/
def fnQuantizeCard : Claim7 := { stood := { row := fnQuantizeRow, standIns := [], harness := (true, "5e057113444291830e4182105db97a9f40854bb4fde61498dfd58b9cab5620bc"), looks := false }, kinds := [], alts := [], laidByText := true, laidKinds := [.data, .data, .data, .data, .data, .data, .data], laidTests := true, laidLooks := .later }
def FnQuantizeCardSaid : Prop := Claim7.holds Tryz.pinned (.plain (OpenSpec.ofChange fnQuantizeSpec)) fnQuantizeCard

/-- THE TIED CARD OF 'laws.FnIntegral'. -/
def fnIntegralCard : Claim7 := { stood := { row := fnIntegralRow, standIns := [], harness := (true, "5e057113444291830e4182105db97a9f40854bb4fde61498dfd58b9cab5620bc"), looks := false }, kinds := [], alts := [], laidByText := true, laidKinds := [.data, .data, .data, .data, .data, .data, .data], laidTests := true, laidLooks := .later }
def FnIntegralCardSaid : Prop := Claim7.holds Tryz.pinned (.plain (OpenSpec.ofChange fnIntegralSpec)) fnIntegralCard

/-- THE TIED CARD OF 'laws.FnReduce'. -/
def fnReduceCard : Claim7 := { stood := { row := fnReduceRow, standIns := [], harness := (true, "5e057113444291830e4182105db97a9f40854bb4fde61498dfd58b9cab5620bc"), looks := false }, kinds := [], alts := [], laidByText := true, laidKinds := [.data, .data, .data, .data, .data, .data, .data], laidTests := true, laidLooks := .later }
def FnReduceCardSaid : Prop := Claim7.holds Tryz.pinned (.plain (OpenSpec.ofChange fnReduceSpec)) fnReduceCard

/-- THE TIED CARD OF 'laws.FnInto'. -/
def fnIntoCard : Claim7 := { stood := { row := fnIntoRow, standIns := [], harness := (true, "5e057113444291830e4182105db97a9f40854bb4fde61498dfd58b9cab5620bc"), looks := false }, kinds := [], alts := [], laidByText := true, laidKinds := [.data, .data, .data, .data, .data, .data, .data], laidTests := true, laidLooks := .later }
def FnIntoCardSaid : Prop := Claim7.holds Tryz.pinned (.plain (OpenSpec.ofChange fnIntoSpec)) fnIntoCard

/-- THE TIED CARD OF 'laws.FnSqrt'. -/
def fnSqrtCard : Claim7 := { stood := { row := fnSqrtRow, standIns := [], harness := (true, "5e057113444291830e4182105db97a9f40854bb4fde61498dfd58b9cab5620bc"), looks := false }, kinds := [], alts := [], laidByText := true, laidKinds := [.data, .data, .data, .data, .data, .data, .data], laidTests := true, laidLooks := .later }
def FnSqrtCardSaid : Prop := Claim7.holds Tryz.pinned (.plain (OpenSpec.ofChange fnSqrtSpec)) fnSqrtCard

/-- THE TIED CARD OF 'laws.FnSqrtExact'. -/
def fnSqrtExactCard : Claim7 := { stood := { row := fnSqrtExactRow, standIns := [], harness := (true, "5e057113444291830e4182105db97a9f40854bb4fde61498dfd58b9cab5620bc"), looks := false }, kinds := [], alts := [], laidByText := true, laidKinds := [.data, .data, .data, .data, .data, .data, .data], laidTests := true, laidLooks := .later }
def FnSqrtExactCardSaid : Prop := Claim7.holds Tryz.pinned (.plain (OpenSpec.ofChange fnSqrtExactSpec)) fnSqrtExactCard

/-- THE TIED CARD OF 'laws.FnSqrtSquare'. -/
def fnSqrtSquareCard : Claim7 := { stood := { row := fnSqrtSquareRow, standIns := [], harness := (true, "5e057113444291830e4182105db97a9f40854bb4fde61498dfd58b9cab5620bc"), looks := false }, kinds := [], alts := [], laidByText := true, laidKinds := [.data, .data, .data, .data, .data, .data, .data], laidTests := true, laidLooks := .later }
def FnSqrtSquareCardSaid : Prop := Claim7.holds Tryz.pinned (.plain (OpenSpec.ofChange fnSqrtSquareSpec)) fnSqrtSquareCard

/-- THE SECOND FORM's CARD OF 'laws.FnQuantize'. -/
def fnQuantizeUptoCard : Claim7 := { stood := { row := fnQuantizeUptoRow, standIns := [], harness := (true, "5e057113444291830e4182105db97a9f40854bb4fde61498dfd58b9cab5620bc"), looks := false }, kinds := [], alts := [], laidByText := true, laidKinds := [.data, .data, .data, .data, .data, .data, .data], laidTests := true, laidLooks := .later }
def FnQuantizeUptoCardSaid : Prop := Claim7.holds Tryz.pinned (.plain (OpenSpec.upto fnQuantizeSpec)) fnQuantizeUptoCard

/-- THE SECOND FORM's CARD OF 'laws.FnIntegral'. -/
def fnIntegralUptoCard : Claim7 := { stood := { row := fnIntegralUptoRow, standIns := [], harness := (true, "5e057113444291830e4182105db97a9f40854bb4fde61498dfd58b9cab5620bc"), looks := false }, kinds := [], alts := [], laidByText := true, laidKinds := [.data, .data, .data, .data, .data, .data, .data], laidTests := true, laidLooks := .later }
def FnIntegralUptoCardSaid : Prop := Claim7.holds Tryz.pinned (.plain (OpenSpec.upto fnIntegralSpec)) fnIntegralUptoCard

/-- THE SECOND FORM's CARD OF 'laws.FnReduce'. -/
def fnReduceUptoCard : Claim7 := { stood := { row := fnReduceUptoRow, standIns := [], harness := (true, "5e057113444291830e4182105db97a9f40854bb4fde61498dfd58b9cab5620bc"), looks := false }, kinds := [], alts := [], laidByText := true, laidKinds := [.data, .data, .data, .data, .data, .data, .data], laidTests := true, laidLooks := .later }
def FnReduceUptoCardSaid : Prop := Claim7.holds Tryz.pinned (.plain (OpenSpec.upto fnReduceSpec)) fnReduceUptoCard

/-- THE SECOND FORM's CARD OF 'laws.FnInto'. -/
def fnIntoUptoCard : Claim7 := { stood := { row := fnIntoUptoRow, standIns := [], harness := (true, "5e057113444291830e4182105db97a9f40854bb4fde61498dfd58b9cab5620bc"), looks := false }, kinds := [], alts := [], laidByText := true, laidKinds := [.data, .data, .data, .data, .data, .data, .data], laidTests := true, laidLooks := .later }
def FnIntoUptoCardSaid : Prop := Claim7.holds Tryz.pinned (.plain (OpenSpec.upto fnIntoSpec)) fnIntoUptoCard

/-- THE SECOND FORM's CARD OF 'laws.FnSqrt'. -/
def fnSqrtUptoCard : Claim7 := { stood := { row := fnSqrtUptoRow, standIns := [], harness := (true, "5e057113444291830e4182105db97a9f40854bb4fde61498dfd58b9cab5620bc"), looks := false }, kinds := [], alts := [], laidByText := true, laidKinds := [.data, .data, .data, .data, .data, .data, .data], laidTests := true, laidLooks := .later }
def FnSqrtUptoCardSaid : Prop := Claim7.holds Tryz.pinned (.plain (OpenSpec.upto fnSqrtSpec)) fnSqrtUptoCard

/-- THE SECOND FORM's CARD OF 'laws.FnSqrtExact'. -/
def fnSqrtExactUptoCard : Claim7 := { stood := { row := fnSqrtExactUptoRow, standIns := [], harness := (true, "5e057113444291830e4182105db97a9f40854bb4fde61498dfd58b9cab5620bc"), looks := false }, kinds := [], alts := [], laidByText := true, laidKinds := [.data, .data, .data, .data, .data, .data, .data], laidTests := true, laidLooks := .later }
def FnSqrtExactUptoCardSaid : Prop := Claim7.holds Tryz.pinned (.plain (OpenSpec.upto fnSqrtExactSpec)) fnSqrtExactUptoCard

/-- THE SECOND FORM's CARD OF 'laws.FnSqrtSquare'. -/
def fnSqrtSquareUptoCard : Claim7 := { stood := { row := fnSqrtSquareUptoRow, standIns := [], harness := (true, "5e057113444291830e4182105db97a9f40854bb4fde61498dfd58b9cab5620bc"), looks := false }, kinds := [], alts := [], laidByText := true, laidKinds := [.data, .data, .data, .data, .data, .data, .data], laidTests := true, laidLooks := .later }
def FnSqrtSquareUptoCardSaid : Prop := Claim7.holds Tryz.pinned (.plain (OpenSpec.upto fnSqrtSquareSpec)) fnSqrtSquareUptoCard
end Rows
end Go.Proofs.YtcoljeafgiemkaaGreatDoor
