/- FnInfinite: the closed facts of its row. -/
import Derived.Test.YtabggbajgpbmmaaGreatDoorC2
namespace Go.Proofs.YtabggbajgpbmmaaGreatDoor.fnInfinite
open Go.ChangeShapes Go.WideShapes Go.ChangeAt Go.RowKit Go.Joins
open Go
theorem k0 : (Rows.fnInfiniteRow.wf (OpenSpec.ofChange Rows.fnInfiniteSpec)) = true := by kernel_rfl
theorem k3 : (Tryz.f4.params.all (Tryz.prog.readableRec ·)) = true := by kernel_rfl
theorem k4 : (namedTie Tryz.prog Rows.fnInfiniteRow.named Rows.fnInfiniteSpec.vars) = true := by kernel_rfl
theorem k5 : ((Rows.fnInfiniteRow.stops == [])) = true := by kernel_rfl
theorem k7 : ((Rows.fnInfiniteRow.knobs == [])) = true := by kernel_rfl
theorem k9 : ((Rows.fnInfiniteRow.inPlace == Tryz.prog.inPlace 4)) = true := by kernel_rfl
theorem k10 : ((Rows.fnInfiniteRow.unfollowed == Tryz.prog.unfollowed 4)) = true := by kernel_rfl
theorem k11 : ((Rows.fnInfiniteRow.recurses == Tryz.prog.recurses 4)) = true := by kernel_rfl
theorem k12 : ((Rows.fnInfiniteRow.named == Tryz.prog.varsNamed 4)) = true := by kernel_rfl
theorem k13 : ((Rows.fnInfiniteRow.maps == (Tryz.f4.params.toList ++ Rows.fnInfiniteSpec.plain.varTypes Tryz.prog).any (Tryz.prog.mapsRec ·))) = true := by kernel_rfl
theorem k14 : ((Rows.fnInfiniteRow.ifaces == (Tryz.f4.params.toList ++ Rows.fnInfiniteSpec.plain.varTypes Tryz.prog).any (Tryz.prog.ifacesRec ·))) = true := by kernel_rfl
theorem k15 : ((Rows.fnInfiniteRow.mapsOut == Tryz.prog.mapsAmong Tryz.f4.resultTypes.toList)) = true := by kernel_rfl
theorem k16 : ((Rows.fnInfiniteRow.loops == (Tryz.f4.params.toList ++ Rows.fnInfiniteSpec.plain.varTypes Tryz.prog).any (Tryz.prog.loopsFrom ·))) = true := by kernel_rfl
theorem k17 : ((Rows.fnInfiniteRow.wideKeys == (Tryz.f4.params.toList ++ Rows.fnInfiniteSpec.plain.varTypes Tryz.prog ++ Tryz.f4.resultTypes.toList).any (Tryz.prog.wideKeysFrom ·))) = true := by kernel_rfl
theorem k18 : (Rows.fnInfiniteSpec.vars.all (Tryz.prog.varReadable ·)) = true := by kernel_rfl
theorem k19 : (Tryz.f4.resultTypes.all (fun t => Tryz.prog.readableRec t && decide (t < Tryz.prog.types.size))) = true := by kernel_rfl
theorem k20 : ((Rows.fnInfiniteRow.ifacesOut == Tryz.f4.resultTypes.toList.any (Tryz.prog.ifacesRec ·))) = true := by kernel_rfl
theorem k21 : ((Rows.fnInfiniteRow.loopsOut == Tryz.f4.resultTypes.toList.any (Tryz.prog.loopsFrom ·))) = true := by kernel_rfl
theorem k23 : (Rows.fnInfiniteRow.shortTexts.isNone) = true := by kernel_rfl
theorem k28 : ((Rows.fnInfiniteRow.kinds == (if Rows.fnInfiniteRow.domain.isEmpty then [] else Tryz.f4.params.toList.map fun t => match Tryz.prog.underlying t with | some (.int k) => some k | _ => none))) = true := by kernel_rfl
theorem k29 : ((Rows.fnInfiniteRow.pinned == Rows.fnInfiniteRow.pinnedBy)) = true := by kernel_rfl
theorem k30 : ((Rows.fnInfiniteRow.veiled == (Tryz.f4.params.toList ++ Rows.fnInfiniteSpec.plain.varTypes Tryz.prog ++ Tryz.f4.resultTypes.toList).any (Tryz.prog.veiledRec ·))) = true := by kernel_rfl
theorem k31 : (Rows.fnInfiniteRow.veiledFits Tryz.prog Tryz.f4.params.toList (Tryz.f4.params.toList ++ Rows.fnInfiniteSpec.plain.varTypes Tryz.prog ++ Tryz.f4.resultTypes.toList)) = true := by kernel_rfl
end Go.Proofs.YtabggbajgpbmmaaGreatDoor.fnInfinite
