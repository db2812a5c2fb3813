/- The closed facts of the row of FnRoadDual, one by one (printed by a program). -/
import Derived.Test.YtehlmjecbljafaaGreatDoorCards
import Derived.JoinedCond
import Derived.KernelRfl
namespace Go.Proofs.YtehlmjecbljafaaGreatDoor
open Go
theorem jfDual1 : (Rows.fnRoadDualRow.wf (OpenSpec.ofChange ((OpenSpec.ofChange Rows.fnRoadDualSpec).bare))) = true := by kernel_rfl
theorem jfDual2 : (laidOutB Tryz.prog) = true := by kernel_rfl
theorem jfDual3 : (mapsRowed Tryz.prog) = true := by kernel_rfl
theorem jfDual4 : (Tryz.f4.params.all (Tryz.prog.readableRec ·)) = true := by kernel_rfl
theorem jfDual5 : (namedTie Tryz.prog Rows.fnRoadDualRow.named ((OpenSpec.ofChange Rows.fnRoadDualSpec).bare).vars) = true := by kernel_rfl
theorem jfDual6 : ((Rows.fnRoadDualRow.stops == [])) = true := by kernel_rfl
theorem jfDual7 : ((Tryz.prog.stops == [])) = true := by kernel_rfl
theorem jfDual8 : ((Rows.fnRoadDualRow.knobs == [])) = true := by kernel_rfl
theorem jfDual9 : ((Tryz.prog.stopKnobs == [])) = true := by kernel_rfl
theorem jfDual10 : ((Rows.fnRoadDualRow.inPlace == Tryz.prog.inPlace 4)) = true := by kernel_rfl
theorem jfDual11 : ((Rows.fnRoadDualRow.unfollowed == Tryz.prog.unfollowed 4)) = true := by kernel_rfl
theorem jfDual12 : ((Rows.fnRoadDualRow.recurses == Tryz.prog.recurses 4)) = true := by kernel_rfl
theorem jfDual13 : ((Rows.fnRoadDualRow.named == Tryz.prog.varsNamed 4)) = true := by kernel_rfl
theorem jfDual14 : ((Rows.fnRoadDualRow.maps == (Tryz.f4.params.toList ++ ((OpenSpec.ofChange Rows.fnRoadDualSpec).bare).plain.varTypes Tryz.prog).any (Tryz.prog.mapsRec ·))) = true := by kernel_rfl
theorem jfDual15 : ((Rows.fnRoadDualRow.ifaces == (Tryz.f4.params.toList ++ ((OpenSpec.ofChange Rows.fnRoadDualSpec).bare).plain.varTypes Tryz.prog).any (Tryz.prog.ifacesRec ·))) = true := by kernel_rfl
theorem jfDual16 : ((Rows.fnRoadDualRow.mapsOut == Tryz.prog.mapsAmong Tryz.f4.resultTypes.toList)) = true := by kernel_rfl
theorem jfDual17 : ((Rows.fnRoadDualRow.loops == (Tryz.f4.params.toList ++ ((OpenSpec.ofChange Rows.fnRoadDualSpec).bare).plain.varTypes Tryz.prog).any (Tryz.prog.loopsFrom ·))) = true := by kernel_rfl
theorem jfDual18 : ((Rows.fnRoadDualRow.wideKeys == (Tryz.f4.params.toList ++ ((OpenSpec.ofChange Rows.fnRoadDualSpec).bare).plain.varTypes Tryz.prog ++ Tryz.f4.resultTypes.toList).any (Tryz.prog.wideKeysFrom ·))) = true := by kernel_rfl
theorem jfDual19 : (((OpenSpec.ofChange Rows.fnRoadDualSpec).bare).vars.all (Tryz.prog.varReadable ·)) = true := by kernel_rfl
theorem jfDual20 : (Tryz.f4.resultTypes.all (fun t => Tryz.prog.readableRec t && decide (t < Tryz.prog.types.size))) = true := by kernel_rfl
theorem jfDual21 : ((Rows.fnRoadDualRow.ifacesOut == Tryz.f4.resultTypes.toList.any (Tryz.prog.ifacesRec ·))) = true := by kernel_rfl
theorem jfDual22 : ((Rows.fnRoadDualRow.loopsOut == Tryz.f4.resultTypes.toList.any (Tryz.prog.loopsFrom ·))) = true := by kernel_rfl
theorem jfDual23 : ((Rows.fnRoadDualRow.plainKeys == Tryz.prog.plainKeys)) = true := by kernel_rfl
theorem jfDual24 : (Rows.fnRoadDualRow.shortTexts.isNone) = true := by kernel_rfl
theorem jfDual25 : (Tryz.prog.stopsHeard) = true := by kernel_rfl
theorem jfDual26 : (Tryz.prog.mayEnter) = true := by kernel_rfl
theorem jfDual27 : ((Rows.fnRoadDualRow.lifted == Tryz.prog.liftsFinal)) = true := by kernel_rfl
theorem jfDual28 : ((Tryz.prog.make == some Rows.fnRoadDualRow.make)) = true := by kernel_rfl
theorem jfDual29 : ((Rows.fnRoadDualRow.kinds == (if Rows.fnRoadDualRow.domain.isEmpty then [] else Tryz.f4.params.toList.map fun t => match Tryz.prog.underlying t with | some (.int k) => some k | _ => none))) = true := by kernel_rfl
theorem jfDual30 : ((Rows.fnRoadDualRow.pinned == Rows.fnRoadDualRow.pinnedBy)) = true := by kernel_rfl
theorem jfDual31 : ((Rows.fnRoadDualRow.veiled == (Tryz.f4.params.toList ++ ((OpenSpec.ofChange Rows.fnRoadDualSpec).bare).plain.varTypes Tryz.prog ++ Tryz.f4.resultTypes.toList).any (Tryz.prog.veiledRec ·))) = true := by kernel_rfl
theorem jfDual32 : (Rows.fnRoadDualRow.veiledFits Tryz.prog Tryz.f4.params.toList (Tryz.f4.params.toList ++ ((OpenSpec.ofChange Rows.fnRoadDualSpec).bare).plain.varTypes Tryz.prog ++ Tryz.f4.resultTypes.toList)) = true := by kernel_rfl
end Go.Proofs.YtehlmjecbljafaaGreatDoor
