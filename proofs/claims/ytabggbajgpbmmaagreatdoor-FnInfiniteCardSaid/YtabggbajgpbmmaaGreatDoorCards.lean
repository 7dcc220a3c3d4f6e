/-
  DERIVED. GIVEN WITH THE SEED: THE CARDS: each row of YtabggbajgpbmmaaGreatDoorRows.lean that lists a variable, with what it lists TIED to the program's text (the seventh form; the later family's looks); each row that meets fmt, with fmt's text TOLD by the authors' own Lean function (tested against real Go, not proved from fmt's source: count such statements apart). THE CARD IS WHAT COUNTS. Prove the row's statement (the work); the ties are given (YtabggbajgpbmmaaGreatDoorTie.lean); close each card by the builder's one call (the guide's Derived/Test/ToyasCard.lean, 'card_holds'). Laid BY PROGRAM, IN A SANDBOX (cutbox-door.mjs). By AI agents, Wed Nov 11 2026. No macro, syntax, notation, axiom, sorry.
-/
import Derived.Test.YtabggbajgpbmmaaGreatDoorRows
import GoSem.ClaimSeven
namespace Go.Proofs.YtabggbajgpbmmaaGreatDoor
namespace Rows

/-- THE TIED CARD OF 'laws.FnByZero'. -/
def fnByZeroCard : Claim7 := { stood := { row := fnByZeroRow, standIns := [], harness := (true, "9b6e41eeabf50f7036e9319db9cfe6d22776332752e2dd1102eb3707dca02532"), looks := false }, kinds := [], alts := [], laidByText := true, laidKinds := [.data, .data, .data, .data, .data, .data, .data], laidTests := true, laidLooks := .later }
def FnByZeroCardSaid : Prop := Claim7.holds Tryz.pinned (.plain (OpenSpec.ofChange fnByZeroSpec)) fnByZeroCard

/-- THE TIED CARD OF 'laws.FnInfinite'. -/
def fnInfiniteCard : Claim7 := { stood := { row := fnInfiniteRow, standIns := [], harness := (true, "9b6e41eeabf50f7036e9319db9cfe6d22776332752e2dd1102eb3707dca02532"), looks := false }, kinds := [], alts := [], laidByText := true, laidKinds := [.data, .data, .data, .data, .data, .data, .data], laidTests := true, laidLooks := .later }
def FnInfiniteCardSaid : Prop := Claim7.holds Tryz.pinned (.plain (OpenSpec.ofChange fnInfiniteSpec)) fnInfiniteCard

/-- THE TIED CARD OF 'laws.FnInfinities'. -/
def fnInfinitiesCard : Claim7 := { stood := { row := fnInfinitiesRow, standIns := [], harness := (true, "9b6e41eeabf50f7036e9319db9cfe6d22776332752e2dd1102eb3707dca02532"), looks := false }, kinds := [], alts := [], laidByText := true, laidKinds := [.data, .data, .data, .data, .data, .data, .data], laidTests := true, laidLooks := .later }
def FnInfinitiesCardSaid : Prop := Claim7.holds Tryz.pinned (.plain (OpenSpec.ofChange fnInfinitiesSpec)) fnInfinitiesCard

/-- THE TIED CARD OF 'laws.FnQuiet'. -/
def fnQuietCard : Claim7 := { stood := { row := fnQuietRow, standIns := [], harness := (true, "9b6e41eeabf50f7036e9319db9cfe6d22776332752e2dd1102eb3707dca02532"), looks := false }, kinds := [], alts := [], laidByText := true, laidKinds := [.data, .data, .data, .data, .data, .data, .data], laidTests := true, laidLooks := .later }
def FnQuietCardSaid : Prop := Claim7.holds Tryz.pinned (.plain (OpenSpec.ofChange fnQuietSpec)) fnQuietCard

/-- THE TIED CARD OF 'laws.FnSignaling'. -/
def fnSignalingCard : Claim7 := { stood := { row := fnSignalingRow, standIns := [], harness := (true, "9b6e41eeabf50f7036e9319db9cfe6d22776332752e2dd1102eb3707dca02532"), looks := false }, kinds := [], alts := [], laidByText := true, laidKinds := [.data, .data, .data, .data, .data, .data, .data], laidTests := true, laidLooks := .later }
def FnSignalingCardSaid : Prop := Claim7.holds Tryz.pinned (.plain (OpenSpec.ofChange fnSignalingSpec)) fnSignalingCard

/-- THE TIED CARD OF 'laws.FnSqrtBelow'. -/
def fnSqrtBelowCard : Claim7 := { stood := { row := fnSqrtBelowRow, standIns := [], harness := (true, "9b6e41eeabf50f7036e9319db9cfe6d22776332752e2dd1102eb3707dca02532"), looks := false }, kinds := [], alts := [], laidByText := true, laidKinds := [.data, .data, .data, .data, .data, .data, .data], laidTests := true, laidLooks := .later }
def FnSqrtBelowCardSaid : Prop := Claim7.holds Tryz.pinned (.plain (OpenSpec.ofChange fnSqrtBelowSpec)) fnSqrtBelowCard

/-- THE SECOND FORM's CARD OF 'laws.FnByZero'. -/
def fnByZeroUptoCard : Claim7 := { stood := { row := fnByZeroUptoRow, standIns := [], harness := (true, "9b6e41eeabf50f7036e9319db9cfe6d22776332752e2dd1102eb3707dca02532"), looks := false }, kinds := [], alts := [], laidByText := true, laidKinds := [.data, .data, .data, .data, .data, .data, .data], laidTests := true, laidLooks := .later }
def FnByZeroUptoCardSaid : Prop := Claim7.holds Tryz.pinned (.plain (OpenSpec.upto fnByZeroSpec)) fnByZeroUptoCard

/-- THE SECOND FORM's CARD OF 'laws.FnInfinite'. -/
def fnInfiniteUptoCard : Claim7 := { stood := { row := fnInfiniteUptoRow, standIns := [], harness := (true, "9b6e41eeabf50f7036e9319db9cfe6d22776332752e2dd1102eb3707dca02532"), looks := false }, kinds := [], alts := [], laidByText := true, laidKinds := [.data, .data, .data, .data, .data, .data, .data], laidTests := true, laidLooks := .later }
def FnInfiniteUptoCardSaid : Prop := Claim7.holds Tryz.pinned (.plain (OpenSpec.upto fnInfiniteSpec)) fnInfiniteUptoCard

/-- THE SECOND FORM's CARD OF 'laws.FnInfinities'. -/
def fnInfinitiesUptoCard : Claim7 := { stood := { row := fnInfinitiesUptoRow, standIns := [], harness := (true, "9b6e41eeabf50f7036e9319db9cfe6d22776332752e2dd1102eb3707dca02532"), looks := false }, kinds := [], alts := [], laidByText := true, laidKinds := [.data, .data, .data, .data, .data, .data, .data], laidTests := true, laidLooks := .later }
def FnInfinitiesUptoCardSaid : Prop := Claim7.holds Tryz.pinned (.plain (OpenSpec.upto fnInfinitiesSpec)) fnInfinitiesUptoCard

/-- THE SECOND FORM's CARD OF 'laws.FnQuiet'. -/
def fnQuietUptoCard : Claim7 := { stood := { row := fnQuietUptoRow, standIns := [], harness := (true, "9b6e41eeabf50f7036e9319db9cfe6d22776332752e2dd1102eb3707dca02532"), looks := false }, kinds := [], alts := [], laidByText := true, laidKinds := [.data, .data, .data, .data, .data, .data, .data], laidTests := true, laidLooks := .later }
def FnQuietUptoCardSaid : Prop := Claim7.holds Tryz.pinned (.plain (OpenSpec.upto fnQuietSpec)) fnQuietUptoCard

/-- THE SECOND FORM's CARD OF 'laws.FnSignaling'. -/
def fnSignalingUptoCard : Claim7 := { stood := { row := fnSignalingUptoRow, standIns := [], harness := (true, "9b6e41eeabf50f7036e9319db9cfe6d22776332752e2dd1102eb3707dca02532"), looks := false }, kinds := [], alts := [], laidByText := true, laidKinds := [.data, .data, .data, .data, .data, .data, .data], laidTests := true, laidLooks := .later }
def FnSignalingUptoCardSaid : Prop := Claim7.holds Tryz.pinned (.plain (OpenSpec.upto fnSignalingSpec)) fnSignalingUptoCard

/-- THE SECOND FORM's CARD OF 'laws.FnSqrtBelow'. -/
def fnSqrtBelowUptoCard : Claim7 := { stood := { row := fnSqrtBelowUptoRow, standIns := [], harness := (true, "9b6e41eeabf50f7036e9319db9cfe6d22776332752e2dd1102eb3707dca02532"), looks := false }, kinds := [], alts := [], laidByText := true, laidKinds := [.data, .data, .data, .data, .data, .data, .data], laidTests := true, laidLooks := .later }
def FnSqrtBelowUptoCardSaid : Prop := Claim7.holds Tryz.pinned (.plain (OpenSpec.upto fnSqrtBelowSpec)) fnSqrtBelowUptoCard
end Rows
end Go.Proofs.YtabggbajgpbmmaaGreatDoor
