/- FnSubnormal: the closed facts of its row. -/
import Derived.Test.YtffjgkghmdhlkaaGreatDoorC2
namespace Go.Proofs.YtffjgkghmdhlkaaGreatDoor.fnSubnormal
open Go.ChangeShapes Go.WideShapes Go.ChangeAt Go.RowKit Go.Joins
open Go
theorem k0 : (Rows.fnSubnormalRow.wf (OpenSpec.ofChange Rows.fnSubnormalSpec)) = true := by kernel_rfl
theorem k3 : (Tryz.f4.params.all (Tryz.prog.readableRec ·)) = true := by kernel_rfl
theorem k4 : (namedTie Tryz.prog Rows.fnSubnormalRow.named Rows.fnSubnormalSpec.vars) = true := by kernel_rfl
theorem k5 : ((Rows.fnSubnormalRow.stops == [])) = true := by kernel_rfl
theorem k7 : ((Rows.fnSubnormalRow.knobs == [])) = true := by kernel_rfl
theorem k9 : ((Rows.fnSubnormalRow.inPlace == Tryz.prog.inPlace 4)) = true := by kernel_rfl
theorem k10 : ((Rows.fnSubnormalRow.unfollowed == Tryz.prog.unfollowed 4)) = true := by kernel_rfl
theorem k11 : ((Rows.fnSubnormalRow.recurses == Tryz.prog.recurses 4)) = true := by kernel_rfl
theorem k12 : ((Rows.fnSubnormalRow.named == Tryz.prog.varsNamed 4)) = true := by kernel_rfl
theorem k13 : ((Rows.fnSubnormalRow.maps == (Tryz.f4.params.toList ++ Rows.fnSubnormalSpec.plain.varTypes Tryz.prog).any (Tryz.prog.mapsRec ·))) = true := by kernel_rfl
theorem k14 : ((Rows.fnSubnormalRow.ifaces == (Tryz.f4.params.toList ++ Rows.fnSubnormalSpec.plain.varTypes Tryz.prog).any (Tryz.prog.ifacesRec ·))) = true := by kernel_rfl
theorem k15 : ((Rows.fnSubnormalRow.mapsOut == Tryz.prog.mapsAmong Tryz.f4.resultTypes.toList)) = true := by kernel_rfl
theorem k16 : ((Rows.fnSubnormalRow.loops == (Tryz.f4.params.toList ++ Rows.fnSubnormalSpec.plain.varTypes Tryz.prog).any (Tryz.prog.loopsFrom ·))) = true := by kernel_rfl
theorem k17 : ((Rows.fnSubnormalRow.wideKeys == (Tryz.f4.params.toList ++ Rows.fnSubnormalSpec.plain.varTypes Tryz.prog ++ Tryz.f4.resultTypes.toList).any (Tryz.prog.wideKeysFrom ·))) = true := by kernel_rfl
theorem k18 : (Rows.fnSubnormalSpec.vars.all (Tryz.prog.varReadable ·)) = true := by kernel_rfl
theorem k19 : (Tryz.f4.resultTypes.all (fun t => Tryz.prog.readableRec t && decide (t < Tryz.prog.types.size))) = true := by kernel_rfl
theorem k20 : ((Rows.fnSubnormalRow.ifacesOut == Tryz.f4.resultTypes.toList.any (Tryz.prog.ifacesRec ·))) = true := by kernel_rfl
theorem k21 : ((Rows.fnSubnormalRow.loopsOut == Tryz.f4.resultTypes.toList.any (Tryz.prog.loopsFrom ·))) = true := by kernel_rfl
theorem k23 : (Rows.fnSubnormalRow.shortTexts.isNone) = true := by kernel_rfl
theorem k28 : ((Rows.fnSubnormalRow.kinds == (if Rows.fnSubnormalRow.domain.isEmpty then [] else Tryz.f4.params.toList.map fun t => match Tryz.prog.underlying t with | some (.int k) => some k | _ => none))) = true := by kernel_rfl
theorem k29 : ((Rows.fnSubnormalRow.pinned == Rows.fnSubnormalRow.pinnedBy)) = true := by kernel_rfl
theorem k30 : ((Rows.fnSubnormalRow.veiled == (Tryz.f4.params.toList ++ Rows.fnSubnormalSpec.plain.varTypes Tryz.prog ++ Tryz.f4.resultTypes.toList).any (Tryz.prog.veiledRec ·))) = true := by kernel_rfl
theorem k31 : (Rows.fnSubnormalRow.veiledFits Tryz.prog Tryz.f4.params.toList (Tryz.f4.params.toList ++ Rows.fnSubnormalSpec.plain.varTypes Tryz.prog ++ Tryz.f4.resultTypes.toList)) = true := by kernel_rfl
end Go.Proofs.YtffjgkghmdhlkaaGreatDoor.fnSubnormal
