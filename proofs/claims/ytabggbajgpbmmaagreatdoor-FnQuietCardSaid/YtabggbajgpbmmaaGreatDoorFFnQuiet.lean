/- FnQuiet: the closed facts of its row. -/
import Derived.Test.YtabggbajgpbmmaaGreatDoorC2
namespace Go.Proofs.YtabggbajgpbmmaaGreatDoor.fnQuiet
open Go.ChangeShapes Go.WideShapes Go.ChangeAt Go.RowKit Go.Joins
open Go
theorem k0 : (Rows.fnQuietRow.wf (OpenSpec.ofChange Rows.fnQuietSpec)) = true := by kernel_rfl
theorem k3 : (Tryz.f6.params.all (Tryz.prog.readableRec ·)) = true := by kernel_rfl
theorem k4 : (namedTie Tryz.prog Rows.fnQuietRow.named Rows.fnQuietSpec.vars) = true := by kernel_rfl
theorem k5 : ((Rows.fnQuietRow.stops == [])) = true := by kernel_rfl
theorem k7 : ((Rows.fnQuietRow.knobs == [])) = true := by kernel_rfl
theorem k9 : ((Rows.fnQuietRow.inPlace == Tryz.prog.inPlace 6)) = true := by kernel_rfl
theorem k10 : ((Rows.fnQuietRow.unfollowed == Tryz.prog.unfollowed 6)) = true := by kernel_rfl
theorem k11 : ((Rows.fnQuietRow.recurses == Tryz.prog.recurses 6)) = true := by kernel_rfl
theorem k12 : ((Rows.fnQuietRow.named == Tryz.prog.varsNamed 6)) = true := by kernel_rfl
theorem k13 : ((Rows.fnQuietRow.maps == (Tryz.f6.params.toList ++ Rows.fnQuietSpec.plain.varTypes Tryz.prog).any (Tryz.prog.mapsRec ·))) = true := by kernel_rfl
theorem k14 : ((Rows.fnQuietRow.ifaces == (Tryz.f6.params.toList ++ Rows.fnQuietSpec.plain.varTypes Tryz.prog).any (Tryz.prog.ifacesRec ·))) = true := by kernel_rfl
theorem k15 : ((Rows.fnQuietRow.mapsOut == Tryz.prog.mapsAmong Tryz.f6.resultTypes.toList)) = true := by kernel_rfl
theorem k16 : ((Rows.fnQuietRow.loops == (Tryz.f6.params.toList ++ Rows.fnQuietSpec.plain.varTypes Tryz.prog).any (Tryz.prog.loopsFrom ·))) = true := by kernel_rfl
theorem k17 : ((Rows.fnQuietRow.wideKeys == (Tryz.f6.params.toList ++ Rows.fnQuietSpec.plain.varTypes Tryz.prog ++ Tryz.f6.resultTypes.toList).any (Tryz.prog.wideKeysFrom ·))) = true := by kernel_rfl
theorem k18 : (Rows.fnQuietSpec.vars.all (Tryz.prog.varReadable ·)) = true := by kernel_rfl
theorem k19 : (Tryz.f6.resultTypes.all (fun t => Tryz.prog.readableRec t && decide (t < Tryz.prog.types.size))) = true := by kernel_rfl
theorem k20 : ((Rows.fnQuietRow.ifacesOut == Tryz.f6.resultTypes.toList.any (Tryz.prog.ifacesRec ·))) = true := by kernel_rfl
theorem k21 : ((Rows.fnQuietRow.loopsOut == Tryz.f6.resultTypes.toList.any (Tryz.prog.loopsFrom ·))) = true := by kernel_rfl
theorem k23 : (Rows.fnQuietRow.shortTexts.isNone) = true := by kernel_rfl
theorem k28 : ((Rows.fnQuietRow.kinds == (if Rows.fnQuietRow.domain.isEmpty then [] else Tryz.f6.params.toList.map fun t => match Tryz.prog.underlying t with | some (.int k) => some k | _ => none))) = true := by kernel_rfl
theorem k29 : ((Rows.fnQuietRow.pinned == Rows.fnQuietRow.pinnedBy)) = true := by kernel_rfl
theorem k30 : ((Rows.fnQuietRow.veiled == (Tryz.f6.params.toList ++ Rows.fnQuietSpec.plain.varTypes Tryz.prog ++ Tryz.f6.resultTypes.toList).any (Tryz.prog.veiledRec ·))) = true := by kernel_rfl
theorem k31 : (Rows.fnQuietRow.veiledFits Tryz.prog Tryz.f6.params.toList (Tryz.f6.params.toList ++ Rows.fnQuietSpec.plain.varTypes Tryz.prog ++ Tryz.f6.resultTypes.toList)) = true := by kernel_rfl
end Go.Proofs.YtabggbajgpbmmaaGreatDoor.fnQuiet
