/- FnAdd: the closed facts of its row. -/
import Derived.Test.YtlnillnngckegaaGreatDoorM48
namespace Go.Proofs.YtlnillnngckegaaGreatDoor.fnAdd
open Go.ChangeShapes Go.WideShapes Go.ChangeAt Go.RowKit Go.Joins
open Go
theorem k0 : (Rows.fnAddRow.wf (OpenSpec.ofChange Rows.fnAddSpec)) = true := by kernel_rfl
theorem k3 : (Tryz.f7.params.all (Tryz.prog.readableRec ·)) = true := by kernel_rfl
theorem k4 : (namedTie Tryz.prog Rows.fnAddRow.named Rows.fnAddSpec.vars) = true := by kernel_rfl
theorem k5 : ((Rows.fnAddRow.stops == [])) = true := by kernel_rfl
theorem k7 : ((Rows.fnAddRow.knobs == [])) = true := by kernel_rfl
theorem k9 : ((Rows.fnAddRow.inPlace == Tryz.prog.inPlace 7)) = true := by kernel_rfl
theorem k10 : ((Rows.fnAddRow.unfollowed == Tryz.prog.unfollowed 7)) = true := by kernel_rfl
theorem k11 : ((Rows.fnAddRow.recurses == Tryz.prog.recurses 7)) = true := by kernel_rfl
theorem k12 : ((Rows.fnAddRow.named == Tryz.prog.varsNamed 7)) = true := by kernel_rfl
theorem k13 : ((Rows.fnAddRow.maps == (Tryz.f7.params.toList ++ Rows.fnAddSpec.plain.varTypes Tryz.prog).any (Tryz.prog.mapsRec ·))) = true := by kernel_rfl
theorem k14 : ((Rows.fnAddRow.ifaces == (Tryz.f7.params.toList ++ Rows.fnAddSpec.plain.varTypes Tryz.prog).any (Tryz.prog.ifacesRec ·))) = true := by kernel_rfl
theorem k15 : ((Rows.fnAddRow.mapsOut == Tryz.prog.mapsAmong Tryz.f7.resultTypes.toList)) = true := by kernel_rfl
theorem k16 : ((Rows.fnAddRow.loops == (Tryz.f7.params.toList ++ Rows.fnAddSpec.plain.varTypes Tryz.prog).any (Tryz.prog.loopsFrom ·))) = true := by kernel_rfl
theorem k17 : ((Rows.fnAddRow.wideKeys == (Tryz.f7.params.toList ++ Rows.fnAddSpec.plain.varTypes Tryz.prog ++ Tryz.f7.resultTypes.toList).any (Tryz.prog.wideKeysFrom ·))) = true := by kernel_rfl
theorem k18 : (Rows.fnAddSpec.vars.all (Tryz.prog.varReadable ·)) = true := by kernel_rfl
theorem k19 : (Tryz.f7.resultTypes.all (fun t => Tryz.prog.readableRec t && decide (t < Tryz.prog.types.size))) = true := by kernel_rfl
theorem k20 : ((Rows.fnAddRow.ifacesOut == Tryz.f7.resultTypes.toList.any (Tryz.prog.ifacesRec ·))) = true := by kernel_rfl
theorem k21 : ((Rows.fnAddRow.loopsOut == Tryz.f7.resultTypes.toList.any (Tryz.prog.loopsFrom ·))) = true := by kernel_rfl
theorem k23 : (Rows.fnAddRow.shortTexts.isNone) = true := by kernel_rfl
theorem k28 : ((Rows.fnAddRow.kinds == (if Rows.fnAddRow.domain.isEmpty then [] else Tryz.f7.params.toList.map fun t => match Tryz.prog.underlying t with | some (.int k) => some k | _ => none))) = true := by kernel_rfl
theorem k29 : ((Rows.fnAddRow.pinned == Rows.fnAddRow.pinnedBy)) = true := by kernel_rfl
theorem k30 : ((Rows.fnAddRow.veiled == (Tryz.f7.params.toList ++ Rows.fnAddSpec.plain.varTypes Tryz.prog ++ Tryz.f7.resultTypes.toList).any (Tryz.prog.veiledRec ·))) = true := by kernel_rfl
theorem k31 : (Rows.fnAddRow.veiledFits Tryz.prog Tryz.f7.params.toList (Tryz.f7.params.toList ++ Rows.fnAddSpec.plain.varTypes Tryz.prog ++ Tryz.f7.resultTypes.toList)) = true := by kernel_rfl
end Go.Proofs.YtlnillnngckegaaGreatDoor.fnAdd
