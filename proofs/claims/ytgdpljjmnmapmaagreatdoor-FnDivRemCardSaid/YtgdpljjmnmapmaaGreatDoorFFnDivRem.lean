/- FnDivRem: the closed facts of its row. -/
import Derived.Test.YtgdpljjmnmapmaaGreatDoorC2
namespace Go.Proofs.YtgdpljjmnmapmaaGreatDoor.fnDivRem
open Go.ChangeShapes Go.WideShapes Go.ChangeAt Go.RowKit Go.Joins
open Go
theorem k0 : (Rows.fnDivRemRow.wf (OpenSpec.ofChange Rows.fnDivRemSpec)) = true := by kernel_rfl
theorem k3 : (Tryz.f6.params.all (Tryz.prog.readableRec ·)) = true := by kernel_rfl
theorem k4 : (namedTie Tryz.prog Rows.fnDivRemRow.named Rows.fnDivRemSpec.vars) = true := by kernel_rfl
theorem k5 : ((Rows.fnDivRemRow.stops == [])) = true := by kernel_rfl
theorem k7 : ((Rows.fnDivRemRow.knobs == [])) = true := by kernel_rfl
theorem k9 : ((Rows.fnDivRemRow.inPlace == Tryz.prog.inPlace 6)) = true := by kernel_rfl
theorem k10 : ((Rows.fnDivRemRow.unfollowed == Tryz.prog.unfollowed 6)) = true := by kernel_rfl
theorem k11 : ((Rows.fnDivRemRow.recurses == Tryz.prog.recurses 6)) = true := by kernel_rfl
theorem k12 : ((Rows.fnDivRemRow.named == Tryz.prog.varsNamed 6)) = true := by kernel_rfl
theorem k13 : ((Rows.fnDivRemRow.maps == (Tryz.f6.params.toList ++ Rows.fnDivRemSpec.plain.varTypes Tryz.prog).any (Tryz.prog.mapsRec ·))) = true := by kernel_rfl
theorem k14 : ((Rows.fnDivRemRow.ifaces == (Tryz.f6.params.toList ++ Rows.fnDivRemSpec.plain.varTypes Tryz.prog).any (Tryz.prog.ifacesRec ·))) = true := by kernel_rfl
theorem k15 : ((Rows.fnDivRemRow.mapsOut == Tryz.prog.mapsAmong Tryz.f6.resultTypes.toList)) = true := by kernel_rfl
theorem k16 : ((Rows.fnDivRemRow.loops == (Tryz.f6.params.toList ++ Rows.fnDivRemSpec.plain.varTypes Tryz.prog).any (Tryz.prog.loopsFrom ·))) = true := by kernel_rfl
theorem k17 : ((Rows.fnDivRemRow.wideKeys == (Tryz.f6.params.toList ++ Rows.fnDivRemSpec.plain.varTypes Tryz.prog ++ Tryz.f6.resultTypes.toList).any (Tryz.prog.wideKeysFrom ·))) = true := by kernel_rfl
theorem k18 : (Rows.fnDivRemSpec.vars.all (Tryz.prog.varReadable ·)) = true := by kernel_rfl
theorem k19 : (Tryz.f6.resultTypes.all (fun t => Tryz.prog.readableRec t && decide (t < Tryz.prog.types.size))) = true := by kernel_rfl
theorem k20 : ((Rows.fnDivRemRow.ifacesOut == Tryz.f6.resultTypes.toList.any (Tryz.prog.ifacesRec ·))) = true := by kernel_rfl
theorem k21 : ((Rows.fnDivRemRow.loopsOut == Tryz.f6.resultTypes.toList.any (Tryz.prog.loopsFrom ·))) = true := by kernel_rfl
theorem k23 : (Rows.fnDivRemRow.shortTexts.isNone) = true := by kernel_rfl
theorem k28 : ((Rows.fnDivRemRow.kinds == (if Rows.fnDivRemRow.domain.isEmpty then [] else Tryz.f6.params.toList.map fun t => match Tryz.prog.underlying t with | some (.int k) => some k | _ => none))) = true := by kernel_rfl
theorem k29 : ((Rows.fnDivRemRow.pinned == Rows.fnDivRemRow.pinnedBy)) = true := by kernel_rfl
theorem k30 : ((Rows.fnDivRemRow.veiled == (Tryz.f6.params.toList ++ Rows.fnDivRemSpec.plain.varTypes Tryz.prog ++ Tryz.f6.resultTypes.toList).any (Tryz.prog.veiledRec ·))) = true := by kernel_rfl
theorem k31 : (Rows.fnDivRemRow.veiledFits Tryz.prog Tryz.f6.params.toList (Tryz.f6.params.toList ++ Rows.fnDivRemSpec.plain.varTypes Tryz.prog ++ Tryz.f6.resultTypes.toList)) = true := by kernel_rfl
end Go.Proofs.YtgdpljjmnmapmaaGreatDoor.fnDivRem
