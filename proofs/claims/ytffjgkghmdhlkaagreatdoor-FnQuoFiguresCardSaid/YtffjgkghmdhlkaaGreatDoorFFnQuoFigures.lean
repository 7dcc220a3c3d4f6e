/- FnQuoFigures: the closed facts of its row. -/
import Derived.Test.YtffjgkghmdhlkaaGreatDoorC2
namespace Go.Proofs.YtffjgkghmdhlkaaGreatDoor.fnQuoFigures
open Go.ChangeShapes Go.WideShapes Go.ChangeAt Go.RowKit Go.Joins
open Go
theorem k0 : (Rows.fnQuoFiguresRow.wf (OpenSpec.ofChange Rows.fnQuoFiguresSpec)) = true := by kernel_rfl
theorem k3 : (Tryz.f7.params.all (Tryz.prog.readableRec ·)) = true := by kernel_rfl
theorem k4 : (namedTie Tryz.prog Rows.fnQuoFiguresRow.named Rows.fnQuoFiguresSpec.vars) = true := by kernel_rfl
theorem k5 : ((Rows.fnQuoFiguresRow.stops == [])) = true := by kernel_rfl
theorem k7 : ((Rows.fnQuoFiguresRow.knobs == [])) = true := by kernel_rfl
theorem k9 : ((Rows.fnQuoFiguresRow.inPlace == Tryz.prog.inPlace 7)) = true := by kernel_rfl
theorem k10 : ((Rows.fnQuoFiguresRow.unfollowed == Tryz.prog.unfollowed 7)) = true := by kernel_rfl
theorem k11 : ((Rows.fnQuoFiguresRow.recurses == Tryz.prog.recurses 7)) = true := by kernel_rfl
theorem k12 : ((Rows.fnQuoFiguresRow.named == Tryz.prog.varsNamed 7)) = true := by kernel_rfl
theorem k13 : ((Rows.fnQuoFiguresRow.maps == (Tryz.f7.params.toList ++ Rows.fnQuoFiguresSpec.plain.varTypes Tryz.prog).any (Tryz.prog.mapsRec ·))) = true := by kernel_rfl
theorem k14 : ((Rows.fnQuoFiguresRow.ifaces == (Tryz.f7.params.toList ++ Rows.fnQuoFiguresSpec.plain.varTypes Tryz.prog).any (Tryz.prog.ifacesRec ·))) = true := by kernel_rfl
theorem k15 : ((Rows.fnQuoFiguresRow.mapsOut == Tryz.prog.mapsAmong Tryz.f7.resultTypes.toList)) = true := by kernel_rfl
theorem k16 : ((Rows.fnQuoFiguresRow.loops == (Tryz.f7.params.toList ++ Rows.fnQuoFiguresSpec.plain.varTypes Tryz.prog).any (Tryz.prog.loopsFrom ·))) = true := by kernel_rfl
theorem k17 : ((Rows.fnQuoFiguresRow.wideKeys == (Tryz.f7.params.toList ++ Rows.fnQuoFiguresSpec.plain.varTypes Tryz.prog ++ Tryz.f7.resultTypes.toList).any (Tryz.prog.wideKeysFrom ·))) = true := by kernel_rfl
theorem k18 : (Rows.fnQuoFiguresSpec.vars.all (Tryz.prog.varReadable ·)) = true := by kernel_rfl
theorem k19 : (Tryz.f7.resultTypes.all (fun t => Tryz.prog.readableRec t && decide (t < Tryz.prog.types.size))) = true := by kernel_rfl
theorem k20 : ((Rows.fnQuoFiguresRow.ifacesOut == Tryz.f7.resultTypes.toList.any (Tryz.prog.ifacesRec ·))) = true := by kernel_rfl
theorem k21 : ((Rows.fnQuoFiguresRow.loopsOut == Tryz.f7.resultTypes.toList.any (Tryz.prog.loopsFrom ·))) = true := by kernel_rfl
theorem k23 : (Rows.fnQuoFiguresRow.shortTexts.isNone) = true := by kernel_rfl
theorem k28 : ((Rows.fnQuoFiguresRow.kinds == (if Rows.fnQuoFiguresRow.domain.isEmpty then [] else Tryz.f7.params.toList.map fun t => match Tryz.prog.underlying t with | some (.int k) => some k | _ => none))) = true := by kernel_rfl
theorem k29 : ((Rows.fnQuoFiguresRow.pinned == Rows.fnQuoFiguresRow.pinnedBy)) = true := by kernel_rfl
theorem k30 : ((Rows.fnQuoFiguresRow.veiled == (Tryz.f7.params.toList ++ Rows.fnQuoFiguresSpec.plain.varTypes Tryz.prog ++ Tryz.f7.resultTypes.toList).any (Tryz.prog.veiledRec ·))) = true := by kernel_rfl
theorem k31 : (Rows.fnQuoFiguresRow.veiledFits Tryz.prog Tryz.f7.params.toList (Tryz.f7.params.toList ++ Rows.fnQuoFiguresSpec.plain.varTypes Tryz.prog ++ Tryz.f7.resultTypes.toList)) = true := by kernel_rfl
end Go.Proofs.YtffjgkghmdhlkaaGreatDoor.fnQuoFigures
