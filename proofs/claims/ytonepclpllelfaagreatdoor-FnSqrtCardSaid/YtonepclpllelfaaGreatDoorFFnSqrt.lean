/- FnSqrt: the closed facts of its row. -/
import Derived.Test.YtonepclpllelfaaGreatDoorC12
namespace Go.Proofs.YtonepclpllelfaaGreatDoor.fnSqrt
open Go.ChangeShapes Go.WideShapes Go.ChangeAt Go.RowKit Go.Joins
open Go
theorem k0 : (Rows.fnSqrtRow.wf (OpenSpec.ofChange Rows.fnSqrtSpec)) = true := by kernel_rfl
theorem k3 : (Tryz.f3.params.all (Tryz.prog.readableRec ·)) = true := by kernel_rfl
theorem k4 : (namedTie Tryz.prog Rows.fnSqrtRow.named Rows.fnSqrtSpec.vars) = true := by kernel_rfl
theorem k5 : ((Rows.fnSqrtRow.stops == [])) = true := by kernel_rfl
theorem k7 : ((Rows.fnSqrtRow.knobs == [])) = true := by kernel_rfl
theorem k9 : ((Rows.fnSqrtRow.inPlace == Tryz.prog.inPlace 3)) = true := by kernel_rfl
theorem k10 : ((Rows.fnSqrtRow.unfollowed == Tryz.prog.unfollowed 3)) = true := by kernel_rfl
theorem k11 : ((Rows.fnSqrtRow.recurses == Tryz.prog.recurses 3)) = true := by kernel_rfl
theorem k12 : ((Rows.fnSqrtRow.named == Tryz.prog.varsNamed 3)) = true := by kernel_rfl
theorem k13 : ((Rows.fnSqrtRow.maps == (Tryz.f3.params.toList ++ Rows.fnSqrtSpec.plain.varTypes Tryz.prog).any (Tryz.prog.mapsRec ·))) = true := by kernel_rfl
theorem k14 : ((Rows.fnSqrtRow.ifaces == (Tryz.f3.params.toList ++ Rows.fnSqrtSpec.plain.varTypes Tryz.prog).any (Tryz.prog.ifacesRec ·))) = true := by kernel_rfl
theorem k15 : ((Rows.fnSqrtRow.mapsOut == Tryz.prog.mapsAmong Tryz.f3.resultTypes.toList)) = true := by kernel_rfl
theorem k16 : ((Rows.fnSqrtRow.loops == (Tryz.f3.params.toList ++ Rows.fnSqrtSpec.plain.varTypes Tryz.prog).any (Tryz.prog.loopsFrom ·))) = true := by kernel_rfl
theorem k17 : ((Rows.fnSqrtRow.wideKeys == (Tryz.f3.params.toList ++ Rows.fnSqrtSpec.plain.varTypes Tryz.prog ++ Tryz.f3.resultTypes.toList).any (Tryz.prog.wideKeysFrom ·))) = true := by kernel_rfl
theorem k18 : (Rows.fnSqrtSpec.vars.all (Tryz.prog.varReadable ·)) = true := by kernel_rfl
theorem k19 : (Tryz.f3.resultTypes.all (fun t => Tryz.prog.readableRec t && decide (t < Tryz.prog.types.size))) = true := by kernel_rfl
theorem k20 : ((Rows.fnSqrtRow.ifacesOut == Tryz.f3.resultTypes.toList.any (Tryz.prog.ifacesRec ·))) = true := by kernel_rfl
theorem k21 : ((Rows.fnSqrtRow.loopsOut == Tryz.f3.resultTypes.toList.any (Tryz.prog.loopsFrom ·))) = true := by kernel_rfl
theorem k23 : (Rows.fnSqrtRow.shortTexts.isNone) = true := by kernel_rfl
theorem k28 : ((Rows.fnSqrtRow.kinds == (if Rows.fnSqrtRow.domain.isEmpty then [] else Tryz.f3.params.toList.map fun t => match Tryz.prog.underlying t with | some (.int k) => some k | _ => none))) = true := by kernel_rfl
theorem k29 : ((Rows.fnSqrtRow.pinned == Rows.fnSqrtRow.pinnedBy)) = true := by kernel_rfl
theorem k30 : ((Rows.fnSqrtRow.veiled == (Tryz.f3.params.toList ++ Rows.fnSqrtSpec.plain.varTypes Tryz.prog ++ Tryz.f3.resultTypes.toList).any (Tryz.prog.veiledRec ·))) = true := by kernel_rfl
theorem k31 : (Rows.fnSqrtRow.veiledFits Tryz.prog Tryz.f3.params.toList (Tryz.f3.params.toList ++ Rows.fnSqrtSpec.plain.varTypes Tryz.prog ++ Tryz.f3.resultTypes.toList)) = true := by kernel_rfl
end Go.Proofs.YtonepclpllelfaaGreatDoor.fnSqrt
