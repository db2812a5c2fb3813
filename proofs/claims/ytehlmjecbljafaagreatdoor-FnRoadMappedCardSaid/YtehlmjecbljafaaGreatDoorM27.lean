/- The closed facts of the row of FnRoadMapped, one by one (printed by a program). -/
import Derived.Test.YtehlmjecbljafaaGreatDoorCards
import Derived.JoinedCond
import Derived.KernelRfl
namespace Go.Proofs.YtehlmjecbljafaaGreatDoor
open Go
theorem jfMapped1 : (Rows.fnRoadMappedRow.wf (OpenSpec.ofChange ((OpenSpec.ofChange Rows.fnRoadMappedSpec).bare))) = true := by kernel_rfl
theorem jfMapped2 : (laidOutB Tryz.prog) = true := by kernel_rfl
theorem jfMapped3 : (mapsRowed Tryz.prog) = true := by kernel_rfl
theorem jfMapped4 : (Tryz.f3.params.all (Tryz.prog.readableRec ·)) = true := by kernel_rfl
theorem jfMapped5 : (namedTie Tryz.prog Rows.fnRoadMappedRow.named ((OpenSpec.ofChange Rows.fnRoadMappedSpec).bare).vars) = true := by kernel_rfl
theorem jfMapped6 : ((Rows.fnRoadMappedRow.stops == [])) = true := by kernel_rfl
theorem jfMapped7 : ((Tryz.prog.stops == [])) = true := by kernel_rfl
theorem jfMapped8 : ((Rows.fnRoadMappedRow.knobs == [])) = true := by kernel_rfl
theorem jfMapped9 : ((Tryz.prog.stopKnobs == [])) = true := by kernel_rfl
theorem jfMapped10 : ((Rows.fnRoadMappedRow.inPlace == Tryz.prog.inPlace 3)) = true := by kernel_rfl
theorem jfMapped11 : ((Rows.fnRoadMappedRow.unfollowed == Tryz.prog.unfollowed 3)) = true := by kernel_rfl
theorem jfMapped12 : ((Rows.fnRoadMappedRow.recurses == Tryz.prog.recurses 3)) = true := by kernel_rfl
theorem jfMapped13 : ((Rows.fnRoadMappedRow.named == Tryz.prog.varsNamed 3)) = true := by kernel_rfl
theorem jfMapped14 : ((Rows.fnRoadMappedRow.maps == (Tryz.f3.params.toList ++ ((OpenSpec.ofChange Rows.fnRoadMappedSpec).bare).plain.varTypes Tryz.prog).any (Tryz.prog.mapsRec ·))) = true := by kernel_rfl
theorem jfMapped15 : ((Rows.fnRoadMappedRow.ifaces == (Tryz.f3.params.toList ++ ((OpenSpec.ofChange Rows.fnRoadMappedSpec).bare).plain.varTypes Tryz.prog).any (Tryz.prog.ifacesRec ·))) = true := by kernel_rfl
theorem jfMapped16 : ((Rows.fnRoadMappedRow.mapsOut == Tryz.prog.mapsAmong Tryz.f3.resultTypes.toList)) = true := by kernel_rfl
theorem jfMapped17 : ((Rows.fnRoadMappedRow.loops == (Tryz.f3.params.toList ++ ((OpenSpec.ofChange Rows.fnRoadMappedSpec).bare).plain.varTypes Tryz.prog).any (Tryz.prog.loopsFrom ·))) = true := by kernel_rfl
theorem jfMapped18 : ((Rows.fnRoadMappedRow.wideKeys == (Tryz.f3.params.toList ++ ((OpenSpec.ofChange Rows.fnRoadMappedSpec).bare).plain.varTypes Tryz.prog ++ Tryz.f3.resultTypes.toList).any (Tryz.prog.wideKeysFrom ·))) = true := by kernel_rfl
theorem jfMapped19 : (((OpenSpec.ofChange Rows.fnRoadMappedSpec).bare).vars.all (Tryz.prog.varReadable ·)) = true := by kernel_rfl
theorem jfMapped20 : (Tryz.f3.resultTypes.all (fun t => Tryz.prog.readableRec t && decide (t < Tryz.prog.types.size))) = true := by kernel_rfl
theorem jfMapped21 : ((Rows.fnRoadMappedRow.ifacesOut == Tryz.f3.resultTypes.toList.any (Tryz.prog.ifacesRec ·))) = true := by kernel_rfl
theorem jfMapped22 : ((Rows.fnRoadMappedRow.loopsOut == Tryz.f3.resultTypes.toList.any (Tryz.prog.loopsFrom ·))) = true := by kernel_rfl
theorem jfMapped23 : ((Rows.fnRoadMappedRow.plainKeys == Tryz.prog.plainKeys)) = true := by kernel_rfl
theorem jfMapped24 : (Rows.fnRoadMappedRow.shortTexts.isNone) = true := by kernel_rfl
theorem jfMapped25 : (Tryz.prog.stopsHeard) = true := by kernel_rfl
theorem jfMapped26 : (Tryz.prog.mayEnter) = true := by kernel_rfl
theorem jfMapped27 : ((Rows.fnRoadMappedRow.lifted == Tryz.prog.liftsFinal)) = true := by kernel_rfl
theorem jfMapped28 : ((Tryz.prog.make == some Rows.fnRoadMappedRow.make)) = true := by kernel_rfl
theorem jfMapped29 : ((Rows.fnRoadMappedRow.kinds == (if Rows.fnRoadMappedRow.domain.isEmpty then [] else Tryz.f3.params.toList.map fun t => match Tryz.prog.underlying t with | some (.int k) => some k | _ => none))) = true := by kernel_rfl
theorem jfMapped30 : ((Rows.fnRoadMappedRow.pinned == Rows.fnRoadMappedRow.pinnedBy)) = true := by kernel_rfl
theorem jfMapped31 : ((Rows.fnRoadMappedRow.veiled == (Tryz.f3.params.toList ++ ((OpenSpec.ofChange Rows.fnRoadMappedSpec).bare).plain.varTypes Tryz.prog ++ Tryz.f3.resultTypes.toList).any (Tryz.prog.veiledRec ·))) = true := by kernel_rfl
theorem jfMapped32 : (Rows.fnRoadMappedRow.veiledFits Tryz.prog Tryz.f3.params.toList (Tryz.f3.params.toList ++ ((OpenSpec.ofChange Rows.fnRoadMappedSpec).bare).plain.varTypes Tryz.prog ++ Tryz.f3.resultTypes.toList)) = true := by kernel_rfl
end Go.Proofs.YtehlmjecbljafaaGreatDoor
