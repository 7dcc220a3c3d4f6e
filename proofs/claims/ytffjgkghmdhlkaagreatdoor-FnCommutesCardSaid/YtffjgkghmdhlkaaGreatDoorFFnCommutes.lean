/- FnCommutes: the closed facts of its row. -/
import Derived.Test.YtffjgkghmdhlkaaGreatDoorC2
namespace Go.Proofs.YtffjgkghmdhlkaaGreatDoor.fnCommutes
open Go.ChangeShapes Go.WideShapes Go.ChangeAt Go.RowKit Go.Joins
open Go
theorem k0 : (Rows.fnCommutesRow.wf (OpenSpec.ofChange Rows.fnCommutesSpec)) = true := by kernel_rfl
theorem k3 : (Tryz.f8.params.all (Tryz.prog.readableRec ·)) = true := by kernel_rfl
theorem k4 : (namedTie Tryz.prog Rows.fnCommutesRow.named Rows.fnCommutesSpec.vars) = true := by kernel_rfl
theorem k5 : ((Rows.fnCommutesRow.stops == [])) = true := by kernel_rfl
theorem k7 : ((Rows.fnCommutesRow.knobs == [])) = true := by kernel_rfl
theorem k9 : ((Rows.fnCommutesRow.inPlace == Tryz.prog.inPlace 8)) = true := by kernel_rfl
theorem k10 : ((Rows.fnCommutesRow.unfollowed == Tryz.prog.unfollowed 8)) = true := by kernel_rfl
theorem k11 : ((Rows.fnCommutesRow.recurses == Tryz.prog.recurses 8)) = true := by kernel_rfl
theorem k12 : ((Rows.fnCommutesRow.named == Tryz.prog.varsNamed 8)) = true := by kernel_rfl
theorem k13 : ((Rows.fnCommutesRow.maps == (Tryz.f8.params.toList ++ Rows.fnCommutesSpec.plain.varTypes Tryz.prog).any (Tryz.prog.mapsRec ·))) = true := by kernel_rfl
theorem k14 : ((Rows.fnCommutesRow.ifaces == (Tryz.f8.params.toList ++ Rows.fnCommutesSpec.plain.varTypes Tryz.prog).any (Tryz.prog.ifacesRec ·))) = true := by kernel_rfl
theorem k15 : ((Rows.fnCommutesRow.mapsOut == Tryz.prog.mapsAmong Tryz.f8.resultTypes.toList)) = true := by kernel_rfl
theorem k16 : ((Rows.fnCommutesRow.loops == (Tryz.f8.params.toList ++ Rows.fnCommutesSpec.plain.varTypes Tryz.prog).any (Tryz.prog.loopsFrom ·))) = true := by kernel_rfl
theorem k17 : ((Rows.fnCommutesRow.wideKeys == (Tryz.f8.params.toList ++ Rows.fnCommutesSpec.plain.varTypes Tryz.prog ++ Tryz.f8.resultTypes.toList).any (Tryz.prog.wideKeysFrom ·))) = true := by kernel_rfl
theorem k18 : (Rows.fnCommutesSpec.vars.all (Tryz.prog.varReadable ·)) = true := by kernel_rfl
theorem k19 : (Tryz.f8.resultTypes.all (fun t => Tryz.prog.readableRec t && decide (t < Tryz.prog.types.size))) = true := by kernel_rfl
theorem k20 : ((Rows.fnCommutesRow.ifacesOut == Tryz.f8.resultTypes.toList.any (Tryz.prog.ifacesRec ·))) = true := by kernel_rfl
theorem k21 : ((Rows.fnCommutesRow.loopsOut == Tryz.f8.resultTypes.toList.any (Tryz.prog.loopsFrom ·))) = true := by kernel_rfl
theorem k23 : (Rows.fnCommutesRow.shortTexts.isNone) = true := by kernel_rfl
theorem k28 : ((Rows.fnCommutesRow.kinds == (if Rows.fnCommutesRow.domain.isEmpty then [] else Tryz.f8.params.toList.map fun t => match Tryz.prog.underlying t with | some (.int k) => some k | _ => none))) = true := by kernel_rfl
theorem k29 : ((Rows.fnCommutesRow.pinned == Rows.fnCommutesRow.pinnedBy)) = true := by kernel_rfl
theorem k30 : ((Rows.fnCommutesRow.veiled == (Tryz.f8.params.toList ++ Rows.fnCommutesSpec.plain.varTypes Tryz.prog ++ Tryz.f8.resultTypes.toList).any (Tryz.prog.veiledRec ·))) = true := by kernel_rfl
theorem k31 : (Rows.fnCommutesRow.veiledFits Tryz.prog Tryz.f8.params.toList (Tryz.f8.params.toList ++ Rows.fnCommutesSpec.plain.varTypes Tryz.prog ++ Tryz.f8.resultTypes.toList)) = true := by kernel_rfl
end Go.Proofs.YtffjgkghmdhlkaaGreatDoor.fnCommutes
