/- FnSqrtBelow: the closed facts of its row. -/
import Derived.Test.YtabggbajgpbmmaaGreatDoorC2
namespace Go.Proofs.YtabggbajgpbmmaaGreatDoor.fnSqrtBelow
open Go.ChangeShapes Go.WideShapes Go.ChangeAt Go.RowKit Go.Joins
open Go
theorem k0 : (Rows.fnSqrtBelowRow.wf (OpenSpec.ofChange Rows.fnSqrtBelowSpec)) = true := by kernel_rfl
theorem k3 : (Tryz.f8.params.all (Tryz.prog.readableRec ·)) = true := by kernel_rfl
theorem k4 : (namedTie Tryz.prog Rows.fnSqrtBelowRow.named Rows.fnSqrtBelowSpec.vars) = true := by kernel_rfl
theorem k5 : ((Rows.fnSqrtBelowRow.stops == [])) = true := by kernel_rfl
theorem k7 : ((Rows.fnSqrtBelowRow.knobs == [])) = true := by kernel_rfl
theorem k9 : ((Rows.fnSqrtBelowRow.inPlace == Tryz.prog.inPlace 8)) = true := by kernel_rfl
theorem k10 : ((Rows.fnSqrtBelowRow.unfollowed == Tryz.prog.unfollowed 8)) = true := by kernel_rfl
theorem k11 : ((Rows.fnSqrtBelowRow.recurses == Tryz.prog.recurses 8)) = true := by kernel_rfl
theorem k12 : ((Rows.fnSqrtBelowRow.named == Tryz.prog.varsNamed 8)) = true := by kernel_rfl
theorem k13 : ((Rows.fnSqrtBelowRow.maps == (Tryz.f8.params.toList ++ Rows.fnSqrtBelowSpec.plain.varTypes Tryz.prog).any (Tryz.prog.mapsRec ·))) = true := by kernel_rfl
theorem k14 : ((Rows.fnSqrtBelowRow.ifaces == (Tryz.f8.params.toList ++ Rows.fnSqrtBelowSpec.plain.varTypes Tryz.prog).any (Tryz.prog.ifacesRec ·))) = true := by kernel_rfl
theorem k15 : ((Rows.fnSqrtBelowRow.mapsOut == Tryz.prog.mapsAmong Tryz.f8.resultTypes.toList)) = true := by kernel_rfl
theorem k16 : ((Rows.fnSqrtBelowRow.loops == (Tryz.f8.params.toList ++ Rows.fnSqrtBelowSpec.plain.varTypes Tryz.prog).any (Tryz.prog.loopsFrom ·))) = true := by kernel_rfl
theorem k17 : ((Rows.fnSqrtBelowRow.wideKeys == (Tryz.f8.params.toList ++ Rows.fnSqrtBelowSpec.plain.varTypes Tryz.prog ++ Tryz.f8.resultTypes.toList).any (Tryz.prog.wideKeysFrom ·))) = true := by kernel_rfl
theorem k18 : (Rows.fnSqrtBelowSpec.vars.all (Tryz.prog.varReadable ·)) = true := by kernel_rfl
theorem k19 : (Tryz.f8.resultTypes.all (fun t => Tryz.prog.readableRec t && decide (t < Tryz.prog.types.size))) = true := by kernel_rfl
theorem k20 : ((Rows.fnSqrtBelowRow.ifacesOut == Tryz.f8.resultTypes.toList.any (Tryz.prog.ifacesRec ·))) = true := by kernel_rfl
theorem k21 : ((Rows.fnSqrtBelowRow.loopsOut == Tryz.f8.resultTypes.toList.any (Tryz.prog.loopsFrom ·))) = true := by kernel_rfl
theorem k23 : (Rows.fnSqrtBelowRow.shortTexts.isNone) = true := by kernel_rfl
theorem k28 : ((Rows.fnSqrtBelowRow.kinds == (if Rows.fnSqrtBelowRow.domain.isEmpty then [] else Tryz.f8.params.toList.map fun t => match Tryz.prog.underlying t with | some (.int k) => some k | _ => none))) = true := by kernel_rfl
theorem k29 : ((Rows.fnSqrtBelowRow.pinned == Rows.fnSqrtBelowRow.pinnedBy)) = true := by kernel_rfl
theorem k30 : ((Rows.fnSqrtBelowRow.veiled == (Tryz.f8.params.toList ++ Rows.fnSqrtBelowSpec.plain.varTypes Tryz.prog ++ Tryz.f8.resultTypes.toList).any (Tryz.prog.veiledRec ·))) = true := by kernel_rfl
theorem k31 : (Rows.fnSqrtBelowRow.veiledFits Tryz.prog Tryz.f8.params.toList (Tryz.f8.params.toList ++ Rows.fnSqrtBelowSpec.plain.varTypes Tryz.prog ++ Tryz.f8.resultTypes.toList)) = true := by kernel_rfl
end Go.Proofs.YtabggbajgpbmmaaGreatDoor.fnSqrtBelow
