/- FnRound: the closed facts of its row. -/
import Derived.Test.YtlnillnngckegaaGreatDoorM48
namespace Go.Proofs.YtlnillnngckegaaGreatDoor.fnRound
open Go.ChangeShapes Go.WideShapes Go.ChangeAt Go.RowKit Go.Joins
open Go
theorem k0 : (Rows.fnRoundRow.wf (OpenSpec.ofChange Rows.fnRoundSpec)) = true := by kernel_rfl
theorem k3 : (Tryz.f3.params.all (Tryz.prog.readableRec ·)) = true := by kernel_rfl
theorem k4 : (namedTie Tryz.prog Rows.fnRoundRow.named Rows.fnRoundSpec.vars) = true := by kernel_rfl
theorem k5 : ((Rows.fnRoundRow.stops == [])) = true := by kernel_rfl
theorem k7 : ((Rows.fnRoundRow.knobs == [])) = true := by kernel_rfl
theorem k9 : ((Rows.fnRoundRow.inPlace == Tryz.prog.inPlace 3)) = true := by kernel_rfl
theorem k10 : ((Rows.fnRoundRow.unfollowed == Tryz.prog.unfollowed 3)) = true := by kernel_rfl
theorem k11 : ((Rows.fnRoundRow.recurses == Tryz.prog.recurses 3)) = true := by kernel_rfl
theorem k12 : ((Rows.fnRoundRow.named == Tryz.prog.varsNamed 3)) = true := by kernel_rfl
theorem k13 : ((Rows.fnRoundRow.maps == (Tryz.f3.params.toList ++ Rows.fnRoundSpec.plain.varTypes Tryz.prog).any (Tryz.prog.mapsRec ·))) = true := by kernel_rfl
theorem k14 : ((Rows.fnRoundRow.ifaces == (Tryz.f3.params.toList ++ Rows.fnRoundSpec.plain.varTypes Tryz.prog).any (Tryz.prog.ifacesRec ·))) = true := by kernel_rfl
theorem k15 : ((Rows.fnRoundRow.mapsOut == Tryz.prog.mapsAmong Tryz.f3.resultTypes.toList)) = true := by kernel_rfl
theorem k16 : ((Rows.fnRoundRow.loops == (Tryz.f3.params.toList ++ Rows.fnRoundSpec.plain.varTypes Tryz.prog).any (Tryz.prog.loopsFrom ·))) = true := by kernel_rfl
theorem k17 : ((Rows.fnRoundRow.wideKeys == (Tryz.f3.params.toList ++ Rows.fnRoundSpec.plain.varTypes Tryz.prog ++ Tryz.f3.resultTypes.toList).any (Tryz.prog.wideKeysFrom ·))) = true := by kernel_rfl
theorem k18 : (Rows.fnRoundSpec.vars.all (Tryz.prog.varReadable ·)) = true := by kernel_rfl
theorem k19 : (Tryz.f3.resultTypes.all (fun t => Tryz.prog.readableRec t && decide (t < Tryz.prog.types.size))) = true := by kernel_rfl
theorem k20 : ((Rows.fnRoundRow.ifacesOut == Tryz.f3.resultTypes.toList.any (Tryz.prog.ifacesRec ·))) = true := by kernel_rfl
theorem k21 : ((Rows.fnRoundRow.loopsOut == Tryz.f3.resultTypes.toList.any (Tryz.prog.loopsFrom ·))) = true := by kernel_rfl
theorem k23 : (Rows.fnRoundRow.shortTexts.isNone) = true := by kernel_rfl
theorem k28 : ((Rows.fnRoundRow.kinds == (if Rows.fnRoundRow.domain.isEmpty then [] else Tryz.f3.params.toList.map fun t => match Tryz.prog.underlying t with | some (.int k) => some k | _ => none))) = true := by kernel_rfl
theorem k29 : ((Rows.fnRoundRow.pinned == Rows.fnRoundRow.pinnedBy)) = true := by kernel_rfl
theorem k30 : ((Rows.fnRoundRow.veiled == (Tryz.f3.params.toList ++ Rows.fnRoundSpec.plain.varTypes Tryz.prog ++ Tryz.f3.resultTypes.toList).any (Tryz.prog.veiledRec ·))) = true := by kernel_rfl
theorem k31 : (Rows.fnRoundRow.veiledFits Tryz.prog Tryz.f3.params.toList (Tryz.f3.params.toList ++ Rows.fnRoundSpec.plain.varTypes Tryz.prog ++ Tryz.f3.resultTypes.toList)) = true := by kernel_rfl
end Go.Proofs.YtlnillnngckegaaGreatDoor.fnRound
