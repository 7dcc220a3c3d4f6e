/- FnCeil: the closed facts of its row. -/
import Derived.Test.YtgdpljjmnmapmaaGreatDoorC2
namespace Go.Proofs.YtgdpljjmnmapmaaGreatDoor.fnCeil
open Go.ChangeShapes Go.WideShapes Go.ChangeAt Go.RowKit Go.Joins
open Go
theorem k0 : (Rows.fnCeilRow.wf (OpenSpec.ofChange Rows.fnCeilSpec)) = true := by kernel_rfl
theorem k3 : (Tryz.f3.params.all (Tryz.prog.readableRec ·)) = true := by kernel_rfl
theorem k4 : (namedTie Tryz.prog Rows.fnCeilRow.named Rows.fnCeilSpec.vars) = true := by kernel_rfl
theorem k5 : ((Rows.fnCeilRow.stops == [])) = true := by kernel_rfl
theorem k7 : ((Rows.fnCeilRow.knobs == [])) = true := by kernel_rfl
theorem k9 : ((Rows.fnCeilRow.inPlace == Tryz.prog.inPlace 3)) = true := by kernel_rfl
theorem k10 : ((Rows.fnCeilRow.unfollowed == Tryz.prog.unfollowed 3)) = true := by kernel_rfl
theorem k11 : ((Rows.fnCeilRow.recurses == Tryz.prog.recurses 3)) = true := by kernel_rfl
theorem k12 : ((Rows.fnCeilRow.named == Tryz.prog.varsNamed 3)) = true := by kernel_rfl
theorem k13 : ((Rows.fnCeilRow.maps == (Tryz.f3.params.toList ++ Rows.fnCeilSpec.plain.varTypes Tryz.prog).any (Tryz.prog.mapsRec ·))) = true := by kernel_rfl
theorem k14 : ((Rows.fnCeilRow.ifaces == (Tryz.f3.params.toList ++ Rows.fnCeilSpec.plain.varTypes Tryz.prog).any (Tryz.prog.ifacesRec ·))) = true := by kernel_rfl
theorem k15 : ((Rows.fnCeilRow.mapsOut == Tryz.prog.mapsAmong Tryz.f3.resultTypes.toList)) = true := by kernel_rfl
theorem k16 : ((Rows.fnCeilRow.loops == (Tryz.f3.params.toList ++ Rows.fnCeilSpec.plain.varTypes Tryz.prog).any (Tryz.prog.loopsFrom ·))) = true := by kernel_rfl
theorem k17 : ((Rows.fnCeilRow.wideKeys == (Tryz.f3.params.toList ++ Rows.fnCeilSpec.plain.varTypes Tryz.prog ++ Tryz.f3.resultTypes.toList).any (Tryz.prog.wideKeysFrom ·))) = true := by kernel_rfl
theorem k18 : (Rows.fnCeilSpec.vars.all (Tryz.prog.varReadable ·)) = true := by kernel_rfl
theorem k19 : (Tryz.f3.resultTypes.all (fun t => Tryz.prog.readableRec t && decide (t < Tryz.prog.types.size))) = true := by kernel_rfl
theorem k20 : ((Rows.fnCeilRow.ifacesOut == Tryz.f3.resultTypes.toList.any (Tryz.prog.ifacesRec ·))) = true := by kernel_rfl
theorem k21 : ((Rows.fnCeilRow.loopsOut == Tryz.f3.resultTypes.toList.any (Tryz.prog.loopsFrom ·))) = true := by kernel_rfl
theorem k23 : (Rows.fnCeilRow.shortTexts.isNone) = true := by kernel_rfl
theorem k28 : ((Rows.fnCeilRow.kinds == (if Rows.fnCeilRow.domain.isEmpty then [] else Tryz.f3.params.toList.map fun t => match Tryz.prog.underlying t with | some (.int k) => some k | _ => none))) = true := by kernel_rfl
theorem k29 : ((Rows.fnCeilRow.pinned == Rows.fnCeilRow.pinnedBy)) = true := by kernel_rfl
theorem k30 : ((Rows.fnCeilRow.veiled == (Tryz.f3.params.toList ++ Rows.fnCeilSpec.plain.varTypes Tryz.prog ++ Tryz.f3.resultTypes.toList).any (Tryz.prog.veiledRec ·))) = true := by kernel_rfl
theorem k31 : (Rows.fnCeilRow.veiledFits Tryz.prog Tryz.f3.params.toList (Tryz.f3.params.toList ++ Rows.fnCeilSpec.plain.varTypes Tryz.prog ++ Tryz.f3.resultTypes.toList)) = true := by kernel_rfl
end Go.Proofs.YtgdpljjmnmapmaaGreatDoor.fnCeil
