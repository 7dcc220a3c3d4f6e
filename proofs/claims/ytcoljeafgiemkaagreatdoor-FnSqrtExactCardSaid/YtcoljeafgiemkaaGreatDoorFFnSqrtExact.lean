/- FnSqrtExact: the closed facts of its row. -/
import Derived.Test.YtcoljeafgiemkaaGreatDoorC12
namespace Go.Proofs.YtcoljeafgiemkaaGreatDoor.fnSqrtExact
open Go.ChangeShapes Go.WideShapes Go.ChangeAt Go.RowKit Go.Joins
open Go
theorem k0 : (Rows.fnSqrtExactRow.wf (OpenSpec.ofChange Rows.fnSqrtExactSpec)) = true := by kernel_rfl
theorem k3 : (Tryz.f8.params.all (Tryz.prog.readableRec ·)) = true := by kernel_rfl
theorem k4 : (namedTie Tryz.prog Rows.fnSqrtExactRow.named Rows.fnSqrtExactSpec.vars) = true := by kernel_rfl
theorem k5 : ((Rows.fnSqrtExactRow.stops == [])) = true := by kernel_rfl
theorem k7 : ((Rows.fnSqrtExactRow.knobs == [])) = true := by kernel_rfl
theorem k9 : ((Rows.fnSqrtExactRow.inPlace == Tryz.prog.inPlace 8)) = true := by kernel_rfl
theorem k10 : ((Rows.fnSqrtExactRow.unfollowed == Tryz.prog.unfollowed 8)) = true := by kernel_rfl
theorem k11 : ((Rows.fnSqrtExactRow.recurses == Tryz.prog.recurses 8)) = true := by kernel_rfl
theorem k12 : ((Rows.fnSqrtExactRow.named == Tryz.prog.varsNamed 8)) = true := by kernel_rfl
theorem k13 : ((Rows.fnSqrtExactRow.maps == (Tryz.f8.params.toList ++ Rows.fnSqrtExactSpec.plain.varTypes Tryz.prog).any (Tryz.prog.mapsRec ·))) = true := by kernel_rfl
theorem k14 : ((Rows.fnSqrtExactRow.ifaces == (Tryz.f8.params.toList ++ Rows.fnSqrtExactSpec.plain.varTypes Tryz.prog).any (Tryz.prog.ifacesRec ·))) = true := by kernel_rfl
theorem k15 : ((Rows.fnSqrtExactRow.mapsOut == Tryz.prog.mapsAmong Tryz.f8.resultTypes.toList)) = true := by kernel_rfl
theorem k16 : ((Rows.fnSqrtExactRow.loops == (Tryz.f8.params.toList ++ Rows.fnSqrtExactSpec.plain.varTypes Tryz.prog).any (Tryz.prog.loopsFrom ·))) = true := by kernel_rfl
theorem k17 : ((Rows.fnSqrtExactRow.wideKeys == (Tryz.f8.params.toList ++ Rows.fnSqrtExactSpec.plain.varTypes Tryz.prog ++ Tryz.f8.resultTypes.toList).any (Tryz.prog.wideKeysFrom ·))) = true := by kernel_rfl
theorem k18 : (Rows.fnSqrtExactSpec.vars.all (Tryz.prog.varReadable ·)) = true := by kernel_rfl
theorem k19 : (Tryz.f8.resultTypes.all (fun t => Tryz.prog.readableRec t && decide (t < Tryz.prog.types.size))) = true := by kernel_rfl
theorem k20 : ((Rows.fnSqrtExactRow.ifacesOut == Tryz.f8.resultTypes.toList.any (Tryz.prog.ifacesRec ·))) = true := by kernel_rfl
theorem k21 : ((Rows.fnSqrtExactRow.loopsOut == Tryz.f8.resultTypes.toList.any (Tryz.prog.loopsFrom ·))) = true := by kernel_rfl
theorem k23 : (Rows.fnSqrtExactRow.shortTexts.isNone) = true := by kernel_rfl
theorem k28 : ((Rows.fnSqrtExactRow.kinds == (if Rows.fnSqrtExactRow.domain.isEmpty then [] else Tryz.f8.params.toList.map fun t => match Tryz.prog.underlying t with | some (.int k) => some k | _ => none))) = true := by kernel_rfl
theorem k29 : ((Rows.fnSqrtExactRow.pinned == Rows.fnSqrtExactRow.pinnedBy)) = true := by kernel_rfl
theorem k30 : ((Rows.fnSqrtExactRow.veiled == (Tryz.f8.params.toList ++ Rows.fnSqrtExactSpec.plain.varTypes Tryz.prog ++ Tryz.f8.resultTypes.toList).any (Tryz.prog.veiledRec ·))) = true := by kernel_rfl
theorem k31 : (Rows.fnSqrtExactRow.veiledFits Tryz.prog Tryz.f8.params.toList (Tryz.f8.params.toList ++ Rows.fnSqrtExactSpec.plain.varTypes Tryz.prog ++ Tryz.f8.resultTypes.toList)) = true := by kernel_rfl
end Go.Proofs.YtcoljeafgiemkaaGreatDoor.fnSqrtExact
