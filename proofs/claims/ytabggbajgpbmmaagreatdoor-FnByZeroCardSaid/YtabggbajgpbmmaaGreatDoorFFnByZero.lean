/- FnByZero: the closed facts of its row. -/
import Derived.Test.YtabggbajgpbmmaaGreatDoorC2
namespace Go.Proofs.YtabggbajgpbmmaaGreatDoor.fnByZero
open Go.ChangeShapes Go.WideShapes Go.ChangeAt Go.RowKit Go.Joins
open Go
theorem k0 : (Rows.fnByZeroRow.wf (OpenSpec.ofChange Rows.fnByZeroSpec)) = true := by kernel_rfl
theorem k3 : (Tryz.f3.params.all (Tryz.prog.readableRec ·)) = true := by kernel_rfl
theorem k4 : (namedTie Tryz.prog Rows.fnByZeroRow.named Rows.fnByZeroSpec.vars) = true := by kernel_rfl
theorem k5 : ((Rows.fnByZeroRow.stops == [])) = true := by kernel_rfl
theorem k7 : ((Rows.fnByZeroRow.knobs == [])) = true := by kernel_rfl
theorem k9 : ((Rows.fnByZeroRow.inPlace == Tryz.prog.inPlace 3)) = true := by kernel_rfl
theorem k10 : ((Rows.fnByZeroRow.unfollowed == Tryz.prog.unfollowed 3)) = true := by kernel_rfl
theorem k11 : ((Rows.fnByZeroRow.recurses == Tryz.prog.recurses 3)) = true := by kernel_rfl
theorem k12 : ((Rows.fnByZeroRow.named == Tryz.prog.varsNamed 3)) = true := by kernel_rfl
theorem k13 : ((Rows.fnByZeroRow.maps == (Tryz.f3.params.toList ++ Rows.fnByZeroSpec.plain.varTypes Tryz.prog).any (Tryz.prog.mapsRec ·))) = true := by kernel_rfl
theorem k14 : ((Rows.fnByZeroRow.ifaces == (Tryz.f3.params.toList ++ Rows.fnByZeroSpec.plain.varTypes Tryz.prog).any (Tryz.prog.ifacesRec ·))) = true := by kernel_rfl
theorem k15 : ((Rows.fnByZeroRow.mapsOut == Tryz.prog.mapsAmong Tryz.f3.resultTypes.toList)) = true := by kernel_rfl
theorem k16 : ((Rows.fnByZeroRow.loops == (Tryz.f3.params.toList ++ Rows.fnByZeroSpec.plain.varTypes Tryz.prog).any (Tryz.prog.loopsFrom ·))) = true := by kernel_rfl
theorem k17 : ((Rows.fnByZeroRow.wideKeys == (Tryz.f3.params.toList ++ Rows.fnByZeroSpec.plain.varTypes Tryz.prog ++ Tryz.f3.resultTypes.toList).any (Tryz.prog.wideKeysFrom ·))) = true := by kernel_rfl
theorem k18 : (Rows.fnByZeroSpec.vars.all (Tryz.prog.varReadable ·)) = true := by kernel_rfl
theorem k19 : (Tryz.f3.resultTypes.all (fun t => Tryz.prog.readableRec t && decide (t < Tryz.prog.types.size))) = true := by kernel_rfl
theorem k20 : ((Rows.fnByZeroRow.ifacesOut == Tryz.f3.resultTypes.toList.any (Tryz.prog.ifacesRec ·))) = true := by kernel_rfl
theorem k21 : ((Rows.fnByZeroRow.loopsOut == Tryz.f3.resultTypes.toList.any (Tryz.prog.loopsFrom ·))) = true := by kernel_rfl
theorem k23 : (Rows.fnByZeroRow.shortTexts.isNone) = true := by kernel_rfl
theorem k28 : ((Rows.fnByZeroRow.kinds == (if Rows.fnByZeroRow.domain.isEmpty then [] else Tryz.f3.params.toList.map fun t => match Tryz.prog.underlying t with | some (.int k) => some k | _ => none))) = true := by kernel_rfl
theorem k29 : ((Rows.fnByZeroRow.pinned == Rows.fnByZeroRow.pinnedBy)) = true := by kernel_rfl
theorem k30 : ((Rows.fnByZeroRow.veiled == (Tryz.f3.params.toList ++ Rows.fnByZeroSpec.plain.varTypes Tryz.prog ++ Tryz.f3.resultTypes.toList).any (Tryz.prog.veiledRec ·))) = true := by kernel_rfl
theorem k31 : (Rows.fnByZeroRow.veiledFits Tryz.prog Tryz.f3.params.toList (Tryz.f3.params.toList ++ Rows.fnByZeroSpec.plain.varTypes Tryz.prog ++ Tryz.f3.resultTypes.toList)) = true := by kernel_rfl
end Go.Proofs.YtabggbajgpbmmaaGreatDoor.fnByZero
