/- FnIntegral: the closed facts of its row. -/
import Derived.Test.YtcoljeafgiemkaaGreatDoorC12
namespace Go.Proofs.YtcoljeafgiemkaaGreatDoor.fnIntegral
open Go.ChangeShapes Go.WideShapes Go.ChangeAt Go.RowKit Go.Joins
open Go
theorem k0 : (Rows.fnIntegralRow.wf (OpenSpec.ofChange Rows.fnIntegralSpec)) = true := by kernel_rfl
theorem k3 : (Tryz.f4.params.all (Tryz.prog.readableRec ·)) = true := by kernel_rfl
theorem k4 : (namedTie Tryz.prog Rows.fnIntegralRow.named Rows.fnIntegralSpec.vars) = true := by kernel_rfl
theorem k5 : ((Rows.fnIntegralRow.stops == [])) = true := by kernel_rfl
theorem k7 : ((Rows.fnIntegralRow.knobs == [])) = true := by kernel_rfl
theorem k9 : ((Rows.fnIntegralRow.inPlace == Tryz.prog.inPlace 4)) = true := by kernel_rfl
theorem k10 : ((Rows.fnIntegralRow.unfollowed == Tryz.prog.unfollowed 4)) = true := by kernel_rfl
theorem k11 : ((Rows.fnIntegralRow.recurses == Tryz.prog.recurses 4)) = true := by kernel_rfl
theorem k12 : ((Rows.fnIntegralRow.named == Tryz.prog.varsNamed 4)) = true := by kernel_rfl
theorem k13 : ((Rows.fnIntegralRow.maps == (Tryz.f4.params.toList ++ Rows.fnIntegralSpec.plain.varTypes Tryz.prog).any (Tryz.prog.mapsRec ·))) = true := by kernel_rfl
theorem k14 : ((Rows.fnIntegralRow.ifaces == (Tryz.f4.params.toList ++ Rows.fnIntegralSpec.plain.varTypes Tryz.prog).any (Tryz.prog.ifacesRec ·))) = true := by kernel_rfl
theorem k15 : ((Rows.fnIntegralRow.mapsOut == Tryz.prog.mapsAmong Tryz.f4.resultTypes.toList)) = true := by kernel_rfl
theorem k16 : ((Rows.fnIntegralRow.loops == (Tryz.f4.params.toList ++ Rows.fnIntegralSpec.plain.varTypes Tryz.prog).any (Tryz.prog.loopsFrom ·))) = true := by kernel_rfl
theorem k17 : ((Rows.fnIntegralRow.wideKeys == (Tryz.f4.params.toList ++ Rows.fnIntegralSpec.plain.varTypes Tryz.prog ++ Tryz.f4.resultTypes.toList).any (Tryz.prog.wideKeysFrom ·))) = true := by kernel_rfl
theorem k18 : (Rows.fnIntegralSpec.vars.all (Tryz.prog.varReadable ·)) = true := by kernel_rfl
theorem k19 : (Tryz.f4.resultTypes.all (fun t => Tryz.prog.readableRec t && decide (t < Tryz.prog.types.size))) = true := by kernel_rfl
theorem k20 : ((Rows.fnIntegralRow.ifacesOut == Tryz.f4.resultTypes.toList.any (Tryz.prog.ifacesRec ·))) = true := by kernel_rfl
theorem k21 : ((Rows.fnIntegralRow.loopsOut == Tryz.f4.resultTypes.toList.any (Tryz.prog.loopsFrom ·))) = true := by kernel_rfl
theorem k23 : (Rows.fnIntegralRow.shortTexts.isNone) = true := by kernel_rfl
theorem k28 : ((Rows.fnIntegralRow.kinds == (if Rows.fnIntegralRow.domain.isEmpty then [] else Tryz.f4.params.toList.map fun t => match Tryz.prog.underlying t with | some (.int k) => some k | _ => none))) = true := by kernel_rfl
theorem k29 : ((Rows.fnIntegralRow.pinned == Rows.fnIntegralRow.pinnedBy)) = true := by kernel_rfl
theorem k30 : ((Rows.fnIntegralRow.veiled == (Tryz.f4.params.toList ++ Rows.fnIntegralSpec.plain.varTypes Tryz.prog ++ Tryz.f4.resultTypes.toList).any (Tryz.prog.veiledRec ·))) = true := by kernel_rfl
theorem k31 : (Rows.fnIntegralRow.veiledFits Tryz.prog Tryz.f4.params.toList (Tryz.f4.params.toList ++ Rows.fnIntegralSpec.plain.varTypes Tryz.prog ++ Tryz.f4.resultTypes.toList)) = true := by kernel_rfl
end Go.Proofs.YtcoljeafgiemkaaGreatDoor.fnIntegral
