/- FnOverflow: the closed facts of its row. -/
import Derived.Test.YtffjgkghmdhlkaaGreatDoorC2
namespace Go.Proofs.YtffjgkghmdhlkaaGreatDoor.fnOverflow
open Go.ChangeShapes Go.WideShapes Go.ChangeAt Go.RowKit Go.Joins
open Go
theorem k0 : (Rows.fnOverflowRow.wf (OpenSpec.ofChange Rows.fnOverflowSpec)) = true := by kernel_rfl
theorem k3 : (Tryz.f3.params.all (Tryz.prog.readableRec ·)) = true := by kernel_rfl
theorem k4 : (namedTie Tryz.prog Rows.fnOverflowRow.named Rows.fnOverflowSpec.vars) = true := by kernel_rfl
theorem k5 : ((Rows.fnOverflowRow.stops == [])) = true := by kernel_rfl
theorem k7 : ((Rows.fnOverflowRow.knobs == [])) = true := by kernel_rfl
theorem k9 : ((Rows.fnOverflowRow.inPlace == Tryz.prog.inPlace 3)) = true := by kernel_rfl
theorem k10 : ((Rows.fnOverflowRow.unfollowed == Tryz.prog.unfollowed 3)) = true := by kernel_rfl
theorem k11 : ((Rows.fnOverflowRow.recurses == Tryz.prog.recurses 3)) = true := by kernel_rfl
theorem k12 : ((Rows.fnOverflowRow.named == Tryz.prog.varsNamed 3)) = true := by kernel_rfl
theorem k13 : ((Rows.fnOverflowRow.maps == (Tryz.f3.params.toList ++ Rows.fnOverflowSpec.plain.varTypes Tryz.prog).any (Tryz.prog.mapsRec ·))) = true := by kernel_rfl
theorem k14 : ((Rows.fnOverflowRow.ifaces == (Tryz.f3.params.toList ++ Rows.fnOverflowSpec.plain.varTypes Tryz.prog).any (Tryz.prog.ifacesRec ·))) = true := by kernel_rfl
theorem k15 : ((Rows.fnOverflowRow.mapsOut == Tryz.prog.mapsAmong Tryz.f3.resultTypes.toList)) = true := by kernel_rfl
theorem k16 : ((Rows.fnOverflowRow.loops == (Tryz.f3.params.toList ++ Rows.fnOverflowSpec.plain.varTypes Tryz.prog).any (Tryz.prog.loopsFrom ·))) = true := by kernel_rfl
theorem k17 : ((Rows.fnOverflowRow.wideKeys == (Tryz.f3.params.toList ++ Rows.fnOverflowSpec.plain.varTypes Tryz.prog ++ Tryz.f3.resultTypes.toList).any (Tryz.prog.wideKeysFrom ·))) = true := by kernel_rfl
theorem k18 : (Rows.fnOverflowSpec.vars.all (Tryz.prog.varReadable ·)) = true := by kernel_rfl
theorem k19 : (Tryz.f3.resultTypes.all (fun t => Tryz.prog.readableRec t && decide (t < Tryz.prog.types.size))) = true := by kernel_rfl
theorem k20 : ((Rows.fnOverflowRow.ifacesOut == Tryz.f3.resultTypes.toList.any (Tryz.prog.ifacesRec ·))) = true := by kernel_rfl
theorem k21 : ((Rows.fnOverflowRow.loopsOut == Tryz.f3.resultTypes.toList.any (Tryz.prog.loopsFrom ·))) = true := by kernel_rfl
theorem k23 : (Rows.fnOverflowRow.shortTexts.isNone) = true := by kernel_rfl
theorem k28 : ((Rows.fnOverflowRow.kinds == (if Rows.fnOverflowRow.domain.isEmpty then [] else Tryz.f3.params.toList.map fun t => match Tryz.prog.underlying t with | some (.int k) => some k | _ => none))) = true := by kernel_rfl
theorem k29 : ((Rows.fnOverflowRow.pinned == Rows.fnOverflowRow.pinnedBy)) = true := by kernel_rfl
theorem k30 : ((Rows.fnOverflowRow.veiled == (Tryz.f3.params.toList ++ Rows.fnOverflowSpec.plain.varTypes Tryz.prog ++ Tryz.f3.resultTypes.toList).any (Tryz.prog.veiledRec ·))) = true := by kernel_rfl
theorem k31 : (Rows.fnOverflowRow.veiledFits Tryz.prog Tryz.f3.params.toList (Tryz.f3.params.toList ++ Rows.fnOverflowSpec.plain.varTypes Tryz.prog ++ Tryz.f3.resultTypes.toList)) = true := by kernel_rfl
end Go.Proofs.YtffjgkghmdhlkaaGreatDoor.fnOverflow
