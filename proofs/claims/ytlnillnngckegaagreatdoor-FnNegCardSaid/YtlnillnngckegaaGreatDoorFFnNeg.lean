/- FnNeg: the closed facts of its row. -/
import Derived.Test.YtlnillnngckegaaGreatDoorM48
namespace Go.Proofs.YtlnillnngckegaaGreatDoor.fnNeg
open Go.ChangeShapes Go.WideShapes Go.ChangeAt Go.RowKit Go.Joins
open Go
theorem k0 : (Rows.fnNegRow.wf (OpenSpec.ofChange Rows.fnNegSpec)) = true := by kernel_rfl
theorem k3 : (Tryz.f5.params.all (Tryz.prog.readableRec ·)) = true := by kernel_rfl
theorem k4 : (namedTie Tryz.prog Rows.fnNegRow.named Rows.fnNegSpec.vars) = true := by kernel_rfl
theorem k5 : ((Rows.fnNegRow.stops == [])) = true := by kernel_rfl
theorem k7 : ((Rows.fnNegRow.knobs == [])) = true := by kernel_rfl
theorem k9 : ((Rows.fnNegRow.inPlace == Tryz.prog.inPlace 5)) = true := by kernel_rfl
theorem k10 : ((Rows.fnNegRow.unfollowed == Tryz.prog.unfollowed 5)) = true := by kernel_rfl
theorem k11 : ((Rows.fnNegRow.recurses == Tryz.prog.recurses 5)) = true := by kernel_rfl
theorem k12 : ((Rows.fnNegRow.named == Tryz.prog.varsNamed 5)) = true := by kernel_rfl
theorem k13 : ((Rows.fnNegRow.maps == (Tryz.f5.params.toList ++ Rows.fnNegSpec.plain.varTypes Tryz.prog).any (Tryz.prog.mapsRec ·))) = true := by kernel_rfl
theorem k14 : ((Rows.fnNegRow.ifaces == (Tryz.f5.params.toList ++ Rows.fnNegSpec.plain.varTypes Tryz.prog).any (Tryz.prog.ifacesRec ·))) = true := by kernel_rfl
theorem k15 : ((Rows.fnNegRow.mapsOut == Tryz.prog.mapsAmong Tryz.f5.resultTypes.toList)) = true := by kernel_rfl
theorem k16 : ((Rows.fnNegRow.loops == (Tryz.f5.params.toList ++ Rows.fnNegSpec.plain.varTypes Tryz.prog).any (Tryz.prog.loopsFrom ·))) = true := by kernel_rfl
theorem k17 : ((Rows.fnNegRow.wideKeys == (Tryz.f5.params.toList ++ Rows.fnNegSpec.plain.varTypes Tryz.prog ++ Tryz.f5.resultTypes.toList).any (Tryz.prog.wideKeysFrom ·))) = true := by kernel_rfl
theorem k18 : (Rows.fnNegSpec.vars.all (Tryz.prog.varReadable ·)) = true := by kernel_rfl
theorem k19 : (Tryz.f5.resultTypes.all (fun t => Tryz.prog.readableRec t && decide (t < Tryz.prog.types.size))) = true := by kernel_rfl
theorem k20 : ((Rows.fnNegRow.ifacesOut == Tryz.f5.resultTypes.toList.any (Tryz.prog.ifacesRec ·))) = true := by kernel_rfl
theorem k21 : ((Rows.fnNegRow.loopsOut == Tryz.f5.resultTypes.toList.any (Tryz.prog.loopsFrom ·))) = true := by kernel_rfl
theorem k23 : (Rows.fnNegRow.shortTexts.isNone) = true := by kernel_rfl
theorem k28 : ((Rows.fnNegRow.kinds == (if Rows.fnNegRow.domain.isEmpty then [] else Tryz.f5.params.toList.map fun t => match Tryz.prog.underlying t with | some (.int k) => some k | _ => none))) = true := by kernel_rfl
theorem k29 : ((Rows.fnNegRow.pinned == Rows.fnNegRow.pinnedBy)) = true := by kernel_rfl
theorem k30 : ((Rows.fnNegRow.veiled == (Tryz.f5.params.toList ++ Rows.fnNegSpec.plain.varTypes Tryz.prog ++ Tryz.f5.resultTypes.toList).any (Tryz.prog.veiledRec ·))) = true := by kernel_rfl
theorem k31 : (Rows.fnNegRow.veiledFits Tryz.prog Tryz.f5.params.toList (Tryz.f5.params.toList ++ Rows.fnNegSpec.plain.varTypes Tryz.prog ++ Tryz.f5.resultTypes.toList)) = true := by kernel_rfl
end Go.Proofs.YtlnillnngckegaaGreatDoor.fnNeg
