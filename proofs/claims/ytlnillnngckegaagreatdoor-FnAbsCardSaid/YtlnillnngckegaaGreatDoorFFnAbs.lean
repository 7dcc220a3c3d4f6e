/- FnAbs: the closed facts of its row. -/
import Derived.Test.YtlnillnngckegaaGreatDoorM48
namespace Go.Proofs.YtlnillnngckegaaGreatDoor.fnAbs
open Go.ChangeShapes Go.WideShapes Go.ChangeAt Go.RowKit Go.Joins
open Go
theorem k0 : (Rows.fnAbsRow.wf (OpenSpec.ofChange Rows.fnAbsSpec)) = true := by kernel_rfl
theorem k3 : (Tryz.f4.params.all (Tryz.prog.readableRec ·)) = true := by kernel_rfl
theorem k4 : (namedTie Tryz.prog Rows.fnAbsRow.named Rows.fnAbsSpec.vars) = true := by kernel_rfl
theorem k5 : ((Rows.fnAbsRow.stops == [])) = true := by kernel_rfl
theorem k7 : ((Rows.fnAbsRow.knobs == [])) = true := by kernel_rfl
theorem k9 : ((Rows.fnAbsRow.inPlace == Tryz.prog.inPlace 4)) = true := by kernel_rfl
theorem k10 : ((Rows.fnAbsRow.unfollowed == Tryz.prog.unfollowed 4)) = true := by kernel_rfl
theorem k11 : ((Rows.fnAbsRow.recurses == Tryz.prog.recurses 4)) = true := by kernel_rfl
theorem k12 : ((Rows.fnAbsRow.named == Tryz.prog.varsNamed 4)) = true := by kernel_rfl
theorem k13 : ((Rows.fnAbsRow.maps == (Tryz.f4.params.toList ++ Rows.fnAbsSpec.plain.varTypes Tryz.prog).any (Tryz.prog.mapsRec ·))) = true := by kernel_rfl
theorem k14 : ((Rows.fnAbsRow.ifaces == (Tryz.f4.params.toList ++ Rows.fnAbsSpec.plain.varTypes Tryz.prog).any (Tryz.prog.ifacesRec ·))) = true := by kernel_rfl
theorem k15 : ((Rows.fnAbsRow.mapsOut == Tryz.prog.mapsAmong Tryz.f4.resultTypes.toList)) = true := by kernel_rfl
theorem k16 : ((Rows.fnAbsRow.loops == (Tryz.f4.params.toList ++ Rows.fnAbsSpec.plain.varTypes Tryz.prog).any (Tryz.prog.loopsFrom ·))) = true := by kernel_rfl
theorem k17 : ((Rows.fnAbsRow.wideKeys == (Tryz.f4.params.toList ++ Rows.fnAbsSpec.plain.varTypes Tryz.prog ++ Tryz.f4.resultTypes.toList).any (Tryz.prog.wideKeysFrom ·))) = true := by kernel_rfl
theorem k18 : (Rows.fnAbsSpec.vars.all (Tryz.prog.varReadable ·)) = true := by kernel_rfl
theorem k19 : (Tryz.f4.resultTypes.all (fun t => Tryz.prog.readableRec t && decide (t < Tryz.prog.types.size))) = true := by kernel_rfl
theorem k20 : ((Rows.fnAbsRow.ifacesOut == Tryz.f4.resultTypes.toList.any (Tryz.prog.ifacesRec ·))) = true := by kernel_rfl
theorem k21 : ((Rows.fnAbsRow.loopsOut == Tryz.f4.resultTypes.toList.any (Tryz.prog.loopsFrom ·))) = true := by kernel_rfl
theorem k23 : (Rows.fnAbsRow.shortTexts.isNone) = true := by kernel_rfl
theorem k28 : ((Rows.fnAbsRow.kinds == (if Rows.fnAbsRow.domain.isEmpty then [] else Tryz.f4.params.toList.map fun t => match Tryz.prog.underlying t with | some (.int k) => some k | _ => none))) = true := by kernel_rfl
theorem k29 : ((Rows.fnAbsRow.pinned == Rows.fnAbsRow.pinnedBy)) = true := by kernel_rfl
theorem k30 : ((Rows.fnAbsRow.veiled == (Tryz.f4.params.toList ++ Rows.fnAbsSpec.plain.varTypes Tryz.prog ++ Tryz.f4.resultTypes.toList).any (Tryz.prog.veiledRec ·))) = true := by kernel_rfl
theorem k31 : (Rows.fnAbsRow.veiledFits Tryz.prog Tryz.f4.params.toList (Tryz.f4.params.toList ++ Rows.fnAbsSpec.plain.varTypes Tryz.prog ++ Tryz.f4.resultTypes.toList)) = true := by kernel_rfl
end Go.Proofs.YtlnillnngckegaaGreatDoor.fnAbs
