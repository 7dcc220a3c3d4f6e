/- FnInto: the closed facts of its row. -/
import Derived.Test.YtcoljeafgiemkaaGreatDoorC12
namespace Go.Proofs.YtcoljeafgiemkaaGreatDoor.fnInto
open Go.ChangeShapes Go.WideShapes Go.ChangeAt Go.RowKit Go.Joins
open Go
theorem k0 : (Rows.fnIntoRow.wf (OpenSpec.ofChange Rows.fnIntoSpec)) = true := by kernel_rfl
theorem k3 : (Tryz.f6.params.all (Tryz.prog.readableRec ·)) = true := by kernel_rfl
theorem k4 : (namedTie Tryz.prog Rows.fnIntoRow.named Rows.fnIntoSpec.vars) = true := by kernel_rfl
theorem k5 : ((Rows.fnIntoRow.stops == [])) = true := by kernel_rfl
theorem k7 : ((Rows.fnIntoRow.knobs == [])) = true := by kernel_rfl
theorem k9 : ((Rows.fnIntoRow.inPlace == Tryz.prog.inPlace 6)) = true := by kernel_rfl
theorem k10 : ((Rows.fnIntoRow.unfollowed == Tryz.prog.unfollowed 6)) = true := by kernel_rfl
theorem k11 : ((Rows.fnIntoRow.recurses == Tryz.prog.recurses 6)) = true := by kernel_rfl
theorem k12 : ((Rows.fnIntoRow.named == Tryz.prog.varsNamed 6)) = true := by kernel_rfl
theorem k13 : ((Rows.fnIntoRow.maps == (Tryz.f6.params.toList ++ Rows.fnIntoSpec.plain.varTypes Tryz.prog).any (Tryz.prog.mapsRec ·))) = true := by kernel_rfl
theorem k14 : ((Rows.fnIntoRow.ifaces == (Tryz.f6.params.toList ++ Rows.fnIntoSpec.plain.varTypes Tryz.prog).any (Tryz.prog.ifacesRec ·))) = true := by kernel_rfl
theorem k15 : ((Rows.fnIntoRow.mapsOut == Tryz.prog.mapsAmong Tryz.f6.resultTypes.toList)) = true := by kernel_rfl
theorem k16 : ((Rows.fnIntoRow.loops == (Tryz.f6.params.toList ++ Rows.fnIntoSpec.plain.varTypes Tryz.prog).any (Tryz.prog.loopsFrom ·))) = true := by kernel_rfl
theorem k17 : ((Rows.fnIntoRow.wideKeys == (Tryz.f6.params.toList ++ Rows.fnIntoSpec.plain.varTypes Tryz.prog ++ Tryz.f6.resultTypes.toList).any (Tryz.prog.wideKeysFrom ·))) = true := by kernel_rfl
theorem k18 : (Rows.fnIntoSpec.vars.all (Tryz.prog.varReadable ·)) = true := by kernel_rfl
theorem k19 : (Tryz.f6.resultTypes.all (fun t => Tryz.prog.readableRec t && decide (t < Tryz.prog.types.size))) = true := by kernel_rfl
theorem k20 : ((Rows.fnIntoRow.ifacesOut == Tryz.f6.resultTypes.toList.any (Tryz.prog.ifacesRec ·))) = true := by kernel_rfl
theorem k21 : ((Rows.fnIntoRow.loopsOut == Tryz.f6.resultTypes.toList.any (Tryz.prog.loopsFrom ·))) = true := by kernel_rfl
theorem k23 : (Rows.fnIntoRow.shortTexts.isNone) = true := by kernel_rfl
theorem k28 : ((Rows.fnIntoRow.kinds == (if Rows.fnIntoRow.domain.isEmpty then [] else Tryz.f6.params.toList.map fun t => match Tryz.prog.underlying t with | some (.int k) => some k | _ => none))) = true := by kernel_rfl
theorem k29 : ((Rows.fnIntoRow.pinned == Rows.fnIntoRow.pinnedBy)) = true := by kernel_rfl
theorem k30 : ((Rows.fnIntoRow.veiled == (Tryz.f6.params.toList ++ Rows.fnIntoSpec.plain.varTypes Tryz.prog ++ Tryz.f6.resultTypes.toList).any (Tryz.prog.veiledRec ·))) = true := by kernel_rfl
theorem k31 : (Rows.fnIntoRow.veiledFits Tryz.prog Tryz.f6.params.toList (Tryz.f6.params.toList ++ Rows.fnIntoSpec.plain.varTypes Tryz.prog ++ Tryz.f6.resultTypes.toList)) = true := by kernel_rfl
end Go.Proofs.YtcoljeafgiemkaaGreatDoor.fnInto
