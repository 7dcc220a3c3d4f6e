/- FnRem: the closed facts of its row. -/
import Derived.Test.YtffjgkghmdhlkaaGreatDoorC2
namespace Go.Proofs.YtffjgkghmdhlkaaGreatDoor.fnRem
open Go.ChangeShapes Go.WideShapes Go.ChangeAt Go.RowKit Go.Joins
open Go
theorem k0 : (Rows.fnRemRow.wf (OpenSpec.ofChange Rows.fnRemSpec)) = true := by kernel_rfl
theorem k3 : (Tryz.f5.params.all (Tryz.prog.readableRec ·)) = true := by kernel_rfl
theorem k4 : (namedTie Tryz.prog Rows.fnRemRow.named Rows.fnRemSpec.vars) = true := by kernel_rfl
theorem k5 : ((Rows.fnRemRow.stops == [])) = true := by kernel_rfl
theorem k7 : ((Rows.fnRemRow.knobs == [])) = true := by kernel_rfl
theorem k9 : ((Rows.fnRemRow.inPlace == Tryz.prog.inPlace 5)) = true := by kernel_rfl
theorem k10 : ((Rows.fnRemRow.unfollowed == Tryz.prog.unfollowed 5)) = true := by kernel_rfl
theorem k11 : ((Rows.fnRemRow.recurses == Tryz.prog.recurses 5)) = true := by kernel_rfl
theorem k12 : ((Rows.fnRemRow.named == Tryz.prog.varsNamed 5)) = true := by kernel_rfl
theorem k13 : ((Rows.fnRemRow.maps == (Tryz.f5.params.toList ++ Rows.fnRemSpec.plain.varTypes Tryz.prog).any (Tryz.prog.mapsRec ·))) = true := by kernel_rfl
theorem k14 : ((Rows.fnRemRow.ifaces == (Tryz.f5.params.toList ++ Rows.fnRemSpec.plain.varTypes Tryz.prog).any (Tryz.prog.ifacesRec ·))) = true := by kernel_rfl
theorem k15 : ((Rows.fnRemRow.mapsOut == Tryz.prog.mapsAmong Tryz.f5.resultTypes.toList)) = true := by kernel_rfl
theorem k16 : ((Rows.fnRemRow.loops == (Tryz.f5.params.toList ++ Rows.fnRemSpec.plain.varTypes Tryz.prog).any (Tryz.prog.loopsFrom ·))) = true := by kernel_rfl
theorem k17 : ((Rows.fnRemRow.wideKeys == (Tryz.f5.params.toList ++ Rows.fnRemSpec.plain.varTypes Tryz.prog ++ Tryz.f5.resultTypes.toList).any (Tryz.prog.wideKeysFrom ·))) = true := by kernel_rfl
theorem k18 : (Rows.fnRemSpec.vars.all (Tryz.prog.varReadable ·)) = true := by kernel_rfl
theorem k19 : (Tryz.f5.resultTypes.all (fun t => Tryz.prog.readableRec t && decide (t < Tryz.prog.types.size))) = true := by kernel_rfl
theorem k20 : ((Rows.fnRemRow.ifacesOut == Tryz.f5.resultTypes.toList.any (Tryz.prog.ifacesRec ·))) = true := by kernel_rfl
theorem k21 : ((Rows.fnRemRow.loopsOut == Tryz.f5.resultTypes.toList.any (Tryz.prog.loopsFrom ·))) = true := by kernel_rfl
theorem k23 : (Rows.fnRemRow.shortTexts.isNone) = true := by kernel_rfl
theorem k28 : ((Rows.fnRemRow.kinds == (if Rows.fnRemRow.domain.isEmpty then [] else Tryz.f5.params.toList.map fun t => match Tryz.prog.underlying t with | some (.int k) => some k | _ => none))) = true := by kernel_rfl
theorem k29 : ((Rows.fnRemRow.pinned == Rows.fnRemRow.pinnedBy)) = true := by kernel_rfl
theorem k30 : ((Rows.fnRemRow.veiled == (Tryz.f5.params.toList ++ Rows.fnRemSpec.plain.varTypes Tryz.prog ++ Tryz.f5.resultTypes.toList).any (Tryz.prog.veiledRec ·))) = true := by kernel_rfl
theorem k31 : (Rows.fnRemRow.veiledFits Tryz.prog Tryz.f5.params.toList (Tryz.f5.params.toList ++ Rows.fnRemSpec.plain.varTypes Tryz.prog ++ Tryz.f5.resultTypes.toList)) = true := by kernel_rfl
end Go.Proofs.YtffjgkghmdhlkaaGreatDoor.fnRem
