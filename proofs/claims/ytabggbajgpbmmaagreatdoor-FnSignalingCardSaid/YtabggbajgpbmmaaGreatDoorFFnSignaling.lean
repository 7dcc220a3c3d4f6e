/- FnSignaling: the closed facts of its row. -/
import Derived.Test.YtabggbajgpbmmaaGreatDoorC2
namespace Go.Proofs.YtabggbajgpbmmaaGreatDoor.fnSignaling
open Go.ChangeShapes Go.WideShapes Go.ChangeAt Go.RowKit Go.Joins
open Go
theorem k0 : (Rows.fnSignalingRow.wf (OpenSpec.ofChange Rows.fnSignalingSpec)) = true := by kernel_rfl
theorem k3 : (Tryz.f7.params.all (Tryz.prog.readableRec ·)) = true := by kernel_rfl
theorem k4 : (namedTie Tryz.prog Rows.fnSignalingRow.named Rows.fnSignalingSpec.vars) = true := by kernel_rfl
theorem k5 : ((Rows.fnSignalingRow.stops == [])) = true := by kernel_rfl
theorem k7 : ((Rows.fnSignalingRow.knobs == [])) = true := by kernel_rfl
theorem k9 : ((Rows.fnSignalingRow.inPlace == Tryz.prog.inPlace 7)) = true := by kernel_rfl
theorem k10 : ((Rows.fnSignalingRow.unfollowed == Tryz.prog.unfollowed 7)) = true := by kernel_rfl
theorem k11 : ((Rows.fnSignalingRow.recurses == Tryz.prog.recurses 7)) = true := by kernel_rfl
theorem k12 : ((Rows.fnSignalingRow.named == Tryz.prog.varsNamed 7)) = true := by kernel_rfl
theorem k13 : ((Rows.fnSignalingRow.maps == (Tryz.f7.params.toList ++ Rows.fnSignalingSpec.plain.varTypes Tryz.prog).any (Tryz.prog.mapsRec ·))) = true := by kernel_rfl
theorem k14 : ((Rows.fnSignalingRow.ifaces == (Tryz.f7.params.toList ++ Rows.fnSignalingSpec.plain.varTypes Tryz.prog).any (Tryz.prog.ifacesRec ·))) = true := by kernel_rfl
theorem k15 : ((Rows.fnSignalingRow.mapsOut == Tryz.prog.mapsAmong Tryz.f7.resultTypes.toList)) = true := by kernel_rfl
theorem k16 : ((Rows.fnSignalingRow.loops == (Tryz.f7.params.toList ++ Rows.fnSignalingSpec.plain.varTypes Tryz.prog).any (Tryz.prog.loopsFrom ·))) = true := by kernel_rfl
theorem k17 : ((Rows.fnSignalingRow.wideKeys == (Tryz.f7.params.toList ++ Rows.fnSignalingSpec.plain.varTypes Tryz.prog ++ Tryz.f7.resultTypes.toList).any (Tryz.prog.wideKeysFrom ·))) = true := by kernel_rfl
theorem k18 : (Rows.fnSignalingSpec.vars.all (Tryz.prog.varReadable ·)) = true := by kernel_rfl
theorem k19 : (Tryz.f7.resultTypes.all (fun t => Tryz.prog.readableRec t && decide (t < Tryz.prog.types.size))) = true := by kernel_rfl
theorem k20 : ((Rows.fnSignalingRow.ifacesOut == Tryz.f7.resultTypes.toList.any (Tryz.prog.ifacesRec ·))) = true := by kernel_rfl
theorem k21 : ((Rows.fnSignalingRow.loopsOut == Tryz.f7.resultTypes.toList.any (Tryz.prog.loopsFrom ·))) = true := by kernel_rfl
theorem k23 : (Rows.fnSignalingRow.shortTexts.isNone) = true := by kernel_rfl
theorem k28 : ((Rows.fnSignalingRow.kinds == (if Rows.fnSignalingRow.domain.isEmpty then [] else Tryz.f7.params.toList.map fun t => match Tryz.prog.underlying t with | some (.int k) => some k | _ => none))) = true := by kernel_rfl
theorem k29 : ((Rows.fnSignalingRow.pinned == Rows.fnSignalingRow.pinnedBy)) = true := by kernel_rfl
theorem k30 : ((Rows.fnSignalingRow.veiled == (Tryz.f7.params.toList ++ Rows.fnSignalingSpec.plain.varTypes Tryz.prog ++ Tryz.f7.resultTypes.toList).any (Tryz.prog.veiledRec ·))) = true := by kernel_rfl
theorem k31 : (Rows.fnSignalingRow.veiledFits Tryz.prog Tryz.f7.params.toList (Tryz.f7.params.toList ++ Rows.fnSignalingSpec.plain.varTypes Tryz.prog ++ Tryz.f7.resultTypes.toList)) = true := by kernel_rfl
end Go.Proofs.YtabggbajgpbmmaaGreatDoor.fnSignaling
