/- FnQuo: the closed facts of its row. -/
import Derived.Test.YtffjgkghmdhlkaaGreatDoorC2
namespace Go.Proofs.YtffjgkghmdhlkaaGreatDoor.fnQuo
open Go.ChangeShapes Go.WideShapes Go.ChangeAt Go.RowKit Go.Joins
open Go
theorem k0 : (Rows.fnQuoRow.wf (OpenSpec.ofChange Rows.fnQuoSpec)) = true := by kernel_rfl
theorem k3 : (Tryz.f6.params.all (Tryz.prog.readableRec ·)) = true := by kernel_rfl
theorem k4 : (namedTie Tryz.prog Rows.fnQuoRow.named Rows.fnQuoSpec.vars) = true := by kernel_rfl
theorem k5 : ((Rows.fnQuoRow.stops == [])) = true := by kernel_rfl
theorem k7 : ((Rows.fnQuoRow.knobs == [])) = true := by kernel_rfl
theorem k9 : ((Rows.fnQuoRow.inPlace == Tryz.prog.inPlace 6)) = true := by kernel_rfl
theorem k10 : ((Rows.fnQuoRow.unfollowed == Tryz.prog.unfollowed 6)) = true := by kernel_rfl
theorem k11 : ((Rows.fnQuoRow.recurses == Tryz.prog.recurses 6)) = true := by kernel_rfl
theorem k12 : ((Rows.fnQuoRow.named == Tryz.prog.varsNamed 6)) = true := by kernel_rfl
theorem k13 : ((Rows.fnQuoRow.maps == (Tryz.f6.params.toList ++ Rows.fnQuoSpec.plain.varTypes Tryz.prog).any (Tryz.prog.mapsRec ·))) = true := by kernel_rfl
theorem k14 : ((Rows.fnQuoRow.ifaces == (Tryz.f6.params.toList ++ Rows.fnQuoSpec.plain.varTypes Tryz.prog).any (Tryz.prog.ifacesRec ·))) = true := by kernel_rfl
theorem k15 : ((Rows.fnQuoRow.mapsOut == Tryz.prog.mapsAmong Tryz.f6.resultTypes.toList)) = true := by kernel_rfl
theorem k16 : ((Rows.fnQuoRow.loops == (Tryz.f6.params.toList ++ Rows.fnQuoSpec.plain.varTypes Tryz.prog).any (Tryz.prog.loopsFrom ·))) = true := by kernel_rfl
theorem k17 : ((Rows.fnQuoRow.wideKeys == (Tryz.f6.params.toList ++ Rows.fnQuoSpec.plain.varTypes Tryz.prog ++ Tryz.f6.resultTypes.toList).any (Tryz.prog.wideKeysFrom ·))) = true := by kernel_rfl
theorem k18 : (Rows.fnQuoSpec.vars.all (Tryz.prog.varReadable ·)) = true := by kernel_rfl
theorem k19 : (Tryz.f6.resultTypes.all (fun t => Tryz.prog.readableRec t && decide (t < Tryz.prog.types.size))) = true := by kernel_rfl
theorem k20 : ((Rows.fnQuoRow.ifacesOut == Tryz.f6.resultTypes.toList.any (Tryz.prog.ifacesRec ·))) = true := by kernel_rfl
theorem k21 : ((Rows.fnQuoRow.loopsOut == Tryz.f6.resultTypes.toList.any (Tryz.prog.loopsFrom ·))) = true := by kernel_rfl
theorem k23 : (Rows.fnQuoRow.shortTexts.isNone) = true := by kernel_rfl
theorem k28 : ((Rows.fnQuoRow.kinds == (if Rows.fnQuoRow.domain.isEmpty then [] else Tryz.f6.params.toList.map fun t => match Tryz.prog.underlying t with | some (.int k) => some k | _ => none))) = true := by kernel_rfl
theorem k29 : ((Rows.fnQuoRow.pinned == Rows.fnQuoRow.pinnedBy)) = true := by kernel_rfl
theorem k30 : ((Rows.fnQuoRow.veiled == (Tryz.f6.params.toList ++ Rows.fnQuoSpec.plain.varTypes Tryz.prog ++ Tryz.f6.resultTypes.toList).any (Tryz.prog.veiledRec ·))) = true := by kernel_rfl
theorem k31 : (Rows.fnQuoRow.veiledFits Tryz.prog Tryz.f6.params.toList (Tryz.f6.params.toList ++ Rows.fnQuoSpec.plain.varTypes Tryz.prog ++ Tryz.f6.resultTypes.toList)) = true := by kernel_rfl
end Go.Proofs.YtffjgkghmdhlkaaGreatDoor.fnQuo
