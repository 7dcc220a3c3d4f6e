/- FnSub: the closed facts of its row. -/
import Derived.Test.YtlnillnngckegaaGreatDoorM48
namespace Go.Proofs.YtlnillnngckegaaGreatDoor.fnSub
open Go.ChangeShapes Go.WideShapes Go.ChangeAt Go.RowKit Go.Joins
open Go
theorem k0 : (Rows.fnSubRow.wf (OpenSpec.ofChange Rows.fnSubSpec)) = true := by kernel_rfl
theorem k3 : (Tryz.f8.params.all (Tryz.prog.readableRec ·)) = true := by kernel_rfl
theorem k4 : (namedTie Tryz.prog Rows.fnSubRow.named Rows.fnSubSpec.vars) = true := by kernel_rfl
theorem k5 : ((Rows.fnSubRow.stops == [])) = true := by kernel_rfl
theorem k7 : ((Rows.fnSubRow.knobs == [])) = true := by kernel_rfl
theorem k9 : ((Rows.fnSubRow.inPlace == Tryz.prog.inPlace 8)) = true := by kernel_rfl
theorem k10 : ((Rows.fnSubRow.unfollowed == Tryz.prog.unfollowed 8)) = true := by kernel_rfl
theorem k11 : ((Rows.fnSubRow.recurses == Tryz.prog.recurses 8)) = true := by kernel_rfl
theorem k12 : ((Rows.fnSubRow.named == Tryz.prog.varsNamed 8)) = true := by kernel_rfl
theorem k13 : ((Rows.fnSubRow.maps == (Tryz.f8.params.toList ++ Rows.fnSubSpec.plain.varTypes Tryz.prog).any (Tryz.prog.mapsRec ·))) = true := by kernel_rfl
theorem k14 : ((Rows.fnSubRow.ifaces == (Tryz.f8.params.toList ++ Rows.fnSubSpec.plain.varTypes Tryz.prog).any (Tryz.prog.ifacesRec ·))) = true := by kernel_rfl
theorem k15 : ((Rows.fnSubRow.mapsOut == Tryz.prog.mapsAmong Tryz.f8.resultTypes.toList)) = true := by kernel_rfl
theorem k16 : ((Rows.fnSubRow.loops == (Tryz.f8.params.toList ++ Rows.fnSubSpec.plain.varTypes Tryz.prog).any (Tryz.prog.loopsFrom ·))) = true := by kernel_rfl
theorem k17 : ((Rows.fnSubRow.wideKeys == (Tryz.f8.params.toList ++ Rows.fnSubSpec.plain.varTypes Tryz.prog ++ Tryz.f8.resultTypes.toList).any (Tryz.prog.wideKeysFrom ·))) = true := by kernel_rfl
theorem k18 : (Rows.fnSubSpec.vars.all (Tryz.prog.varReadable ·)) = true := by kernel_rfl
theorem k19 : (Tryz.f8.resultTypes.all (fun t => Tryz.prog.readableRec t && decide (t < Tryz.prog.types.size))) = true := by kernel_rfl
theorem k20 : ((Rows.fnSubRow.ifacesOut == Tryz.f8.resultTypes.toList.any (Tryz.prog.ifacesRec ·))) = true := by kernel_rfl
theorem k21 : ((Rows.fnSubRow.loopsOut == Tryz.f8.resultTypes.toList.any (Tryz.prog.loopsFrom ·))) = true := by kernel_rfl
theorem k23 : (Rows.fnSubRow.shortTexts.isNone) = true := by kernel_rfl
theorem k28 : ((Rows.fnSubRow.kinds == (if Rows.fnSubRow.domain.isEmpty then [] else Tryz.f8.params.toList.map fun t => match Tryz.prog.underlying t with | some (.int k) => some k | _ => none))) = true := by kernel_rfl
theorem k29 : ((Rows.fnSubRow.pinned == Rows.fnSubRow.pinnedBy)) = true := by kernel_rfl
theorem k30 : ((Rows.fnSubRow.veiled == (Tryz.f8.params.toList ++ Rows.fnSubSpec.plain.varTypes Tryz.prog ++ Tryz.f8.resultTypes.toList).any (Tryz.prog.veiledRec ·))) = true := by kernel_rfl
theorem k31 : (Rows.fnSubRow.veiledFits Tryz.prog Tryz.f8.params.toList (Tryz.f8.params.toList ++ Rows.fnSubSpec.plain.varTypes Tryz.prog ++ Tryz.f8.resultTypes.toList)) = true := by kernel_rfl
end Go.Proofs.YtlnillnngckegaaGreatDoor.fnSub
