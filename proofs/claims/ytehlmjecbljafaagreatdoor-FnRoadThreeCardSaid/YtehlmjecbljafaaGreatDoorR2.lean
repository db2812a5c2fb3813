/- The closed facts of the row of FnRoadThree, one by one (printed by a program). -/
import Derived.Test.YtehlmjecbljafaaGreatDoorCards
import Derived.JoinedCond
import Derived.KernelRfl
namespace Go.Proofs.YtehlmjecbljafaaGreatDoor
open Go
theorem jfThree1 : (Rows.fnRoadThreeRow.wf (OpenSpec.ofChange ((OpenSpec.ofChange Rows.fnRoadThreeSpec).bare))) = true := by kernel_rfl
theorem jfThree2 : (laidOutB Tryz.prog) = true := by kernel_rfl
theorem jfThree3 : (mapsRowed Tryz.prog) = true := by kernel_rfl
theorem jfThree4 : (Tryz.f5.params.all (Tryz.prog.readableRec ·)) = true := by kernel_rfl
theorem jfThree5 : (namedTie Tryz.prog Rows.fnRoadThreeRow.named ((OpenSpec.ofChange Rows.fnRoadThreeSpec).bare).vars) = true := by kernel_rfl
theorem jfThree6 : ((Rows.fnRoadThreeRow.stops == [])) = true := by kernel_rfl
theorem jfThree7 : ((Tryz.prog.stops == [])) = true := by kernel_rfl
theorem jfThree8 : ((Rows.fnRoadThreeRow.knobs == [])) = true := by kernel_rfl
theorem jfThree9 : ((Tryz.prog.stopKnobs == [])) = true := by kernel_rfl
theorem jfThree10 : ((Rows.fnRoadThreeRow.inPlace == Tryz.prog.inPlace 5)) = true := by kernel_rfl
theorem jfThree11 : ((Rows.fnRoadThreeRow.unfollowed == Tryz.prog.unfollowed 5)) = true := by kernel_rfl
theorem jfThree12 : ((Rows.fnRoadThreeRow.recurses == Tryz.prog.recurses 5)) = true := by kernel_rfl
theorem jfThree13 : ((Rows.fnRoadThreeRow.named == Tryz.prog.varsNamed 5)) = true := by kernel_rfl
theorem jfThree14 : ((Rows.fnRoadThreeRow.maps == (Tryz.f5.params.toList ++ ((OpenSpec.ofChange Rows.fnRoadThreeSpec).bare).plain.varTypes Tryz.prog).any (Tryz.prog.mapsRec ·))) = true := by kernel_rfl
theorem jfThree15 : ((Rows.fnRoadThreeRow.ifaces == (Tryz.f5.params.toList ++ ((OpenSpec.ofChange Rows.fnRoadThreeSpec).bare).plain.varTypes Tryz.prog).any (Tryz.prog.ifacesRec ·))) = true := by kernel_rfl
theorem jfThree16 : ((Rows.fnRoadThreeRow.mapsOut == Tryz.prog.mapsAmong Tryz.f5.resultTypes.toList)) = true := by kernel_rfl
theorem jfThree17 : ((Rows.fnRoadThreeRow.loops == (Tryz.f5.params.toList ++ ((OpenSpec.ofChange Rows.fnRoadThreeSpec).bare).plain.varTypes Tryz.prog).any (Tryz.prog.loopsFrom ·))) = true := by kernel_rfl
theorem jfThree18 : ((Rows.fnRoadThreeRow.wideKeys == (Tryz.f5.params.toList ++ ((OpenSpec.ofChange Rows.fnRoadThreeSpec).bare).plain.varTypes Tryz.prog ++ Tryz.f5.resultTypes.toList).any (Tryz.prog.wideKeysFrom ·))) = true := by kernel_rfl
theorem jfThree19 : (((OpenSpec.ofChange Rows.fnRoadThreeSpec).bare).vars.all (Tryz.prog.varReadable ·)) = true := by kernel_rfl
theorem jfThree20 : (Tryz.f5.resultTypes.all (fun t => Tryz.prog.readableRec t && decide (t < Tryz.prog.types.size))) = true := by kernel_rfl
theorem jfThree21 : ((Rows.fnRoadThreeRow.ifacesOut == Tryz.f5.resultTypes.toList.any (Tryz.prog.ifacesRec ·))) = true := by kernel_rfl
theorem jfThree22 : ((Rows.fnRoadThreeRow.loopsOut == Tryz.f5.resultTypes.toList.any (Tryz.prog.loopsFrom ·))) = true := by kernel_rfl
theorem jfThree23 : ((Rows.fnRoadThreeRow.plainKeys == Tryz.prog.plainKeys)) = true := by kernel_rfl
theorem jfThree24 : (Rows.fnRoadThreeRow.shortTexts.isNone) = true := by kernel_rfl
theorem jfThree25 : (Tryz.prog.stopsHeard) = true := by kernel_rfl
theorem jfThree26 : (Tryz.prog.mayEnter) = true := by kernel_rfl
theorem jfThree27 : ((Rows.fnRoadThreeRow.lifted == Tryz.prog.liftsFinal)) = true := by kernel_rfl
theorem jfThree28 : ((Tryz.prog.make == some Rows.fnRoadThreeRow.make)) = true := by kernel_rfl
theorem jfThree29 : ((Rows.fnRoadThreeRow.kinds == (if Rows.fnRoadThreeRow.domain.isEmpty then [] else Tryz.f5.params.toList.map fun t => match Tryz.prog.underlying t with | some (.int k) => some k | _ => none))) = true := by kernel_rfl
theorem jfThree30 : ((Rows.fnRoadThreeRow.pinned == Rows.fnRoadThreeRow.pinnedBy)) = true := by kernel_rfl
theorem jfThree31 : ((Rows.fnRoadThreeRow.veiled == (Tryz.f5.params.toList ++ ((OpenSpec.ofChange Rows.fnRoadThreeSpec).bare).plain.varTypes Tryz.prog ++ Tryz.f5.resultTypes.toList).any (Tryz.prog.veiledRec ·))) = true := by kernel_rfl
theorem jfThree32 : (Rows.fnRoadThreeRow.veiledFits Tryz.prog Tryz.f5.params.toList (Tryz.f5.params.toList ++ ((OpenSpec.ofChange Rows.fnRoadThreeSpec).bare).plain.varTypes Tryz.prog ++ Tryz.f5.resultTypes.toList)) = true := by kernel_rfl
end Go.Proofs.YtehlmjecbljafaaGreatDoor
