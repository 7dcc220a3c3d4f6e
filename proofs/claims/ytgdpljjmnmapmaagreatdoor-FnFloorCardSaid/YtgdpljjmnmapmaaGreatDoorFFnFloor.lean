/- FnFloor: the closed facts of its row. -/
import Derived.Test.YtgdpljjmnmapmaaGreatDoorC2
namespace Go.Proofs.YtgdpljjmnmapmaaGreatDoor.fnFloor
open Go.ChangeShapes Go.WideShapes Go.ChangeAt Go.RowKit Go.Joins
open Go
theorem k0 : (Rows.fnFloorRow.wf (OpenSpec.ofChange Rows.fnFloorSpec)) = true := by kernel_rfl
theorem k3 : (Tryz.f4.params.all (Tryz.prog.readableRec ·)) = true := by kernel_rfl
theorem k4 : (namedTie Tryz.prog Rows.fnFloorRow.named Rows.fnFloorSpec.vars) = true := by kernel_rfl
theorem k5 : ((Rows.fnFloorRow.stops == [])) = true := by kernel_rfl
theorem k7 : ((Rows.fnFloorRow.knobs == [])) = true := by kernel_rfl
theorem k9 : ((Rows.fnFloorRow.inPlace == Tryz.prog.inPlace 4)) = true := by kernel_rfl
theorem k10 : ((Rows.fnFloorRow.unfollowed == Tryz.prog.unfollowed 4)) = true := by kernel_rfl
theorem k11 : ((Rows.fnFloorRow.recurses == Tryz.prog.recurses 4)) = true := by kernel_rfl
theorem k12 : ((Rows.fnFloorRow.named == Tryz.prog.varsNamed 4)) = true := by kernel_rfl
theorem k13 : ((Rows.fnFloorRow.maps == (Tryz.f4.params.toList ++ Rows.fnFloorSpec.plain.varTypes Tryz.prog).any (Tryz.prog.mapsRec ·))) = true := by kernel_rfl
theorem k14 : ((Rows.fnFloorRow.ifaces == (Tryz.f4.params.toList ++ Rows.fnFloorSpec.plain.varTypes Tryz.prog).any (Tryz.prog.ifacesRec ·))) = true := by kernel_rfl
theorem k15 : ((Rows.fnFloorRow.mapsOut == Tryz.prog.mapsAmong Tryz.f4.resultTypes.toList)) = true := by kernel_rfl
theorem k16 : ((Rows.fnFloorRow.loops == (Tryz.f4.params.toList ++ Rows.fnFloorSpec.plain.varTypes Tryz.prog).any (Tryz.prog.loopsFrom ·))) = true := by kernel_rfl
theorem k17 : ((Rows.fnFloorRow.wideKeys == (Tryz.f4.params.toList ++ Rows.fnFloorSpec.plain.varTypes Tryz.prog ++ Tryz.f4.resultTypes.toList).any (Tryz.prog.wideKeysFrom ·))) = true := by kernel_rfl
theorem k18 : (Rows.fnFloorSpec.vars.all (Tryz.prog.varReadable ·)) = true := by kernel_rfl
theorem k19 : (Tryz.f4.resultTypes.all (fun t => Tryz.prog.readableRec t && decide (t < Tryz.prog.types.size))) = true := by kernel_rfl
theorem k20 : ((Rows.fnFloorRow.ifacesOut == Tryz.f4.resultTypes.toList.any (Tryz.prog.ifacesRec ·))) = true := by kernel_rfl
theorem k21 : ((Rows.fnFloorRow.loopsOut == Tryz.f4.resultTypes.toList.any (Tryz.prog.loopsFrom ·))) = true := by kernel_rfl
theorem k23 : (Rows.fnFloorRow.shortTexts.isNone) = true := by kernel_rfl
theorem k28 : ((Rows.fnFloorRow.kinds == (if Rows.fnFloorRow.domain.isEmpty then [] else Tryz.f4.params.toList.map fun t => match Tryz.prog.underlying t with | some (.int k) => some k | _ => none))) = true := by kernel_rfl
theorem k29 : ((Rows.fnFloorRow.pinned == Rows.fnFloorRow.pinnedBy)) = true := by kernel_rfl
theorem k30 : ((Rows.fnFloorRow.veiled == (Tryz.f4.params.toList ++ Rows.fnFloorSpec.plain.varTypes Tryz.prog ++ Tryz.f4.resultTypes.toList).any (Tryz.prog.veiledRec ·))) = true := by kernel_rfl
theorem k31 : (Rows.fnFloorRow.veiledFits Tryz.prog Tryz.f4.params.toList (Tryz.f4.params.toList ++ Rows.fnFloorSpec.plain.varTypes Tryz.prog ++ Tryz.f4.resultTypes.toList)) = true := by kernel_rfl
end Go.Proofs.YtgdpljjmnmapmaaGreatDoor.fnFloor
