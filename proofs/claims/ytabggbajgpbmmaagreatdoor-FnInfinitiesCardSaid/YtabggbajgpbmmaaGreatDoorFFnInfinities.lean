/- FnInfinities: the closed facts of its row. -/
import Derived.Test.YtabggbajgpbmmaaGreatDoorC2
namespace Go.Proofs.YtabggbajgpbmmaaGreatDoor.fnInfinities
open Go.ChangeShapes Go.WideShapes Go.ChangeAt Go.RowKit Go.Joins
open Go
theorem k0 : (Rows.fnInfinitiesRow.wf (OpenSpec.ofChange Rows.fnInfinitiesSpec)) = true := by kernel_rfl
theorem k3 : (Tryz.f5.params.all (Tryz.prog.readableRec ·)) = true := by kernel_rfl
theorem k4 : (namedTie Tryz.prog Rows.fnInfinitiesRow.named Rows.fnInfinitiesSpec.vars) = true := by kernel_rfl
theorem k5 : ((Rows.fnInfinitiesRow.stops == [])) = true := by kernel_rfl
theorem k7 : ((Rows.fnInfinitiesRow.knobs == [])) = true := by kernel_rfl
theorem k9 : ((Rows.fnInfinitiesRow.inPlace == Tryz.prog.inPlace 5)) = true := by kernel_rfl
theorem k10 : ((Rows.fnInfinitiesRow.unfollowed == Tryz.prog.unfollowed 5)) = true := by kernel_rfl
theorem k11 : ((Rows.fnInfinitiesRow.recurses == Tryz.prog.recurses 5)) = true := by kernel_rfl
theorem k12 : ((Rows.fnInfinitiesRow.named == Tryz.prog.varsNamed 5)) = true := by kernel_rfl
theorem k13 : ((Rows.fnInfinitiesRow.maps == (Tryz.f5.params.toList ++ Rows.fnInfinitiesSpec.plain.varTypes Tryz.prog).any (Tryz.prog.mapsRec ·))) = true := by kernel_rfl
theorem k14 : ((Rows.fnInfinitiesRow.ifaces == (Tryz.f5.params.toList ++ Rows.fnInfinitiesSpec.plain.varTypes Tryz.prog).any (Tryz.prog.ifacesRec ·))) = true := by kernel_rfl
theorem k15 : ((Rows.fnInfinitiesRow.mapsOut == Tryz.prog.mapsAmong Tryz.f5.resultTypes.toList)) = true := by kernel_rfl
theorem k16 : ((Rows.fnInfinitiesRow.loops == (Tryz.f5.params.toList ++ Rows.fnInfinitiesSpec.plain.varTypes Tryz.prog).any (Tryz.prog.loopsFrom ·))) = true := by kernel_rfl
theorem k17 : ((Rows.fnInfinitiesRow.wideKeys == (Tryz.f5.params.toList ++ Rows.fnInfinitiesSpec.plain.varTypes Tryz.prog ++ Tryz.f5.resultTypes.toList).any (Tryz.prog.wideKeysFrom ·))) = true := by kernel_rfl
theorem k18 : (Rows.fnInfinitiesSpec.vars.all (Tryz.prog.varReadable ·)) = true := by kernel_rfl
theorem k19 : (Tryz.f5.resultTypes.all (fun t => Tryz.prog.readableRec t && decide (t < Tryz.prog.types.size))) = true := by kernel_rfl
theorem k20 : ((Rows.fnInfinitiesRow.ifacesOut == Tryz.f5.resultTypes.toList.any (Tryz.prog.ifacesRec ·))) = true := by kernel_rfl
theorem k21 : ((Rows.fnInfinitiesRow.loopsOut == Tryz.f5.resultTypes.toList.any (Tryz.prog.loopsFrom ·))) = true := by kernel_rfl
theorem k23 : (Rows.fnInfinitiesRow.shortTexts.isNone) = true := by kernel_rfl
theorem k28 : ((Rows.fnInfinitiesRow.kinds == (if Rows.fnInfinitiesRow.domain.isEmpty then [] else Tryz.f5.params.toList.map fun t => match Tryz.prog.underlying t with | some (.int k) => some k | _ => none))) = true := by kernel_rfl
theorem k29 : ((Rows.fnInfinitiesRow.pinned == Rows.fnInfinitiesRow.pinnedBy)) = true := by kernel_rfl
theorem k30 : ((Rows.fnInfinitiesRow.veiled == (Tryz.f5.params.toList ++ Rows.fnInfinitiesSpec.plain.varTypes Tryz.prog ++ Tryz.f5.resultTypes.toList).any (Tryz.prog.veiledRec ·))) = true := by kernel_rfl
theorem k31 : (Rows.fnInfinitiesRow.veiledFits Tryz.prog Tryz.f5.params.toList (Tryz.f5.params.toList ++ Rows.fnInfinitiesSpec.plain.varTypes Tryz.prog ++ Tryz.f5.resultTypes.toList)) = true := by kernel_rfl
end Go.Proofs.YtabggbajgpbmmaaGreatDoor.fnInfinities
