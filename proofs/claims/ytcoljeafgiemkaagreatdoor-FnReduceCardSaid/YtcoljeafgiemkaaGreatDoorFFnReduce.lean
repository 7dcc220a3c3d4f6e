/- FnReduce: the closed facts of its row. -/
import Derived.Test.YtcoljeafgiemkaaGreatDoorC12
namespace Go.Proofs.YtcoljeafgiemkaaGreatDoor.fnReduce
open Go.ChangeShapes Go.WideShapes Go.ChangeAt Go.RowKit Go.Joins
open Go
theorem k0 : (Rows.fnReduceRow.wf (OpenSpec.ofChange Rows.fnReduceSpec)) = true := by kernel_rfl
theorem k3 : (Tryz.f5.params.all (Tryz.prog.readableRec ·)) = true := by kernel_rfl
theorem k4 : (namedTie Tryz.prog Rows.fnReduceRow.named Rows.fnReduceSpec.vars) = true := by kernel_rfl
theorem k5 : ((Rows.fnReduceRow.stops == [])) = true := by kernel_rfl
theorem k7 : ((Rows.fnReduceRow.knobs == [])) = true := by kernel_rfl
theorem k9 : ((Rows.fnReduceRow.inPlace == Tryz.prog.inPlace 5)) = true := by kernel_rfl
theorem k10 : ((Rows.fnReduceRow.unfollowed == Tryz.prog.unfollowed 5)) = true := by kernel_rfl
theorem k11 : ((Rows.fnReduceRow.recurses == Tryz.prog.recurses 5)) = true := by kernel_rfl
theorem k12 : ((Rows.fnReduceRow.named == Tryz.prog.varsNamed 5)) = true := by kernel_rfl
theorem k13 : ((Rows.fnReduceRow.maps == (Tryz.f5.params.toList ++ Rows.fnReduceSpec.plain.varTypes Tryz.prog).any (Tryz.prog.mapsRec ·))) = true := by kernel_rfl
theorem k14 : ((Rows.fnReduceRow.ifaces == (Tryz.f5.params.toList ++ Rows.fnReduceSpec.plain.varTypes Tryz.prog).any (Tryz.prog.ifacesRec ·))) = true := by kernel_rfl
theorem k15 : ((Rows.fnReduceRow.mapsOut == Tryz.prog.mapsAmong Tryz.f5.resultTypes.toList)) = true := by kernel_rfl
theorem k16 : ((Rows.fnReduceRow.loops == (Tryz.f5.params.toList ++ Rows.fnReduceSpec.plain.varTypes Tryz.prog).any (Tryz.prog.loopsFrom ·))) = true := by kernel_rfl
theorem k17 : ((Rows.fnReduceRow.wideKeys == (Tryz.f5.params.toList ++ Rows.fnReduceSpec.plain.varTypes Tryz.prog ++ Tryz.f5.resultTypes.toList).any (Tryz.prog.wideKeysFrom ·))) = true := by kernel_rfl
theorem k18 : (Rows.fnReduceSpec.vars.all (Tryz.prog.varReadable ·)) = true := by kernel_rfl
theorem k19 : (Tryz.f5.resultTypes.all (fun t => Tryz.prog.readableRec t && decide (t < Tryz.prog.types.size))) = true := by kernel_rfl
theorem k20 : ((Rows.fnReduceRow.ifacesOut == Tryz.f5.resultTypes.toList.any (Tryz.prog.ifacesRec ·))) = true := by kernel_rfl
theorem k21 : ((Rows.fnReduceRow.loopsOut == Tryz.f5.resultTypes.toList.any (Tryz.prog.loopsFrom ·))) = true := by kernel_rfl
theorem k23 : (Rows.fnReduceRow.shortTexts.isNone) = true := by kernel_rfl
theorem k28 : ((Rows.fnReduceRow.kinds == (if Rows.fnReduceRow.domain.isEmpty then [] else Tryz.f5.params.toList.map fun t => match Tryz.prog.underlying t with | some (.int k) => some k | _ => none))) = true := by kernel_rfl
theorem k29 : ((Rows.fnReduceRow.pinned == Rows.fnReduceRow.pinnedBy)) = true := by kernel_rfl
theorem k30 : ((Rows.fnReduceRow.veiled == (Tryz.f5.params.toList ++ Rows.fnReduceSpec.plain.varTypes Tryz.prog ++ Tryz.f5.resultTypes.toList).any (Tryz.prog.veiledRec ·))) = true := by kernel_rfl
theorem k31 : (Rows.fnReduceRow.veiledFits Tryz.prog Tryz.f5.params.toList (Tryz.f5.params.toList ++ Rows.fnReduceSpec.plain.varTypes Tryz.prog ++ Tryz.f5.resultTypes.toList)) = true := by kernel_rfl
end Go.Proofs.YtcoljeafgiemkaaGreatDoor.fnReduce
