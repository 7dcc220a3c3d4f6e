/- FnSqrtSquare: the closed facts of its row. -/
import Derived.Test.YtcoljeafgiemkaaGreatDoorC12
namespace Go.Proofs.YtcoljeafgiemkaaGreatDoor.fnSqrtSquare
open Go.ChangeShapes Go.WideShapes Go.ChangeAt Go.RowKit Go.Joins
open Go
theorem k0 : (Rows.fnSqrtSquareRow.wf (OpenSpec.ofChange Rows.fnSqrtSquareSpec)) = true := by kernel_rfl
theorem k3 : (Tryz.f9.params.all (Tryz.prog.readableRec ·)) = true := by kernel_rfl
theorem k4 : (namedTie Tryz.prog Rows.fnSqrtSquareRow.named Rows.fnSqrtSquareSpec.vars) = true := by kernel_rfl
theorem k5 : ((Rows.fnSqrtSquareRow.stops == [])) = true := by kernel_rfl
theorem k7 : ((Rows.fnSqrtSquareRow.knobs == [])) = true := by kernel_rfl
theorem k9 : ((Rows.fnSqrtSquareRow.inPlace == Tryz.prog.inPlace 9)) = true := by kernel_rfl
theorem k10 : ((Rows.fnSqrtSquareRow.unfollowed == Tryz.prog.unfollowed 9)) = true := by kernel_rfl
theorem k11 : ((Rows.fnSqrtSquareRow.recurses == Tryz.prog.recurses 9)) = true := by kernel_rfl
theorem k12 : ((Rows.fnSqrtSquareRow.named == Tryz.prog.varsNamed 9)) = true := by kernel_rfl
theorem k13 : ((Rows.fnSqrtSquareRow.maps == (Tryz.f9.params.toList ++ Rows.fnSqrtSquareSpec.plain.varTypes Tryz.prog).any (Tryz.prog.mapsRec ·))) = true := by kernel_rfl
theorem k14 : ((Rows.fnSqrtSquareRow.ifaces == (Tryz.f9.params.toList ++ Rows.fnSqrtSquareSpec.plain.varTypes Tryz.prog).any (Tryz.prog.ifacesRec ·))) = true := by kernel_rfl
theorem k15 : ((Rows.fnSqrtSquareRow.mapsOut == Tryz.prog.mapsAmong Tryz.f9.resultTypes.toList)) = true := by kernel_rfl
theorem k16 : ((Rows.fnSqrtSquareRow.loops == (Tryz.f9.params.toList ++ Rows.fnSqrtSquareSpec.plain.varTypes Tryz.prog).any (Tryz.prog.loopsFrom ·))) = true := by kernel_rfl
theorem k17 : ((Rows.fnSqrtSquareRow.wideKeys == (Tryz.f9.params.toList ++ Rows.fnSqrtSquareSpec.plain.varTypes Tryz.prog ++ Tryz.f9.resultTypes.toList).any (Tryz.prog.wideKeysFrom ·))) = true := by kernel_rfl
theorem k18 : (Rows.fnSqrtSquareSpec.vars.all (Tryz.prog.varReadable ·)) = true := by kernel_rfl
theorem k19 : (Tryz.f9.resultTypes.all (fun t => Tryz.prog.readableRec t && decide (t < Tryz.prog.types.size))) = true := by kernel_rfl
theorem k20 : ((Rows.fnSqrtSquareRow.ifacesOut == Tryz.f9.resultTypes.toList.any (Tryz.prog.ifacesRec ·))) = true := by kernel_rfl
theorem k21 : ((Rows.fnSqrtSquareRow.loopsOut == Tryz.f9.resultTypes.toList.any (Tryz.prog.loopsFrom ·))) = true := by kernel_rfl
theorem k23 : (Rows.fnSqrtSquareRow.shortTexts.isNone) = true := by kernel_rfl
theorem k28 : ((Rows.fnSqrtSquareRow.kinds == (if Rows.fnSqrtSquareRow.domain.isEmpty then [] else Tryz.f9.params.toList.map fun t => match Tryz.prog.underlying t with | some (.int k) => some k | _ => none))) = true := by kernel_rfl
theorem k29 : ((Rows.fnSqrtSquareRow.pinned == Rows.fnSqrtSquareRow.pinnedBy)) = true := by kernel_rfl
theorem k30 : ((Rows.fnSqrtSquareRow.veiled == (Tryz.f9.params.toList ++ Rows.fnSqrtSquareSpec.plain.varTypes Tryz.prog ++ Tryz.f9.resultTypes.toList).any (Tryz.prog.veiledRec ·))) = true := by kernel_rfl
theorem k31 : (Rows.fnSqrtSquareRow.veiledFits Tryz.prog Tryz.f9.params.toList (Tryz.f9.params.toList ++ Rows.fnSqrtSquareSpec.plain.varTypes Tryz.prog ++ Tryz.f9.resultTypes.toList)) = true := by kernel_rfl
end Go.Proofs.YtcoljeafgiemkaaGreatDoor.fnSqrtSquare
