/- The closed facts of the row of FnRoadDual, joined. -/
import Derived.Test.YtehlmjecbljafaaGreatDoorQ2
namespace Go.Proofs.YtehlmjecbljafaaGreatDoor
open Go
theorem fnameDual : Tryz.prog.funcNamed "pub-tokenroad/laws.FnRoadDual" = some 4 := by kernel_rfl
theorem instDual : Tryz.f4.isInstance Tryz.prog Rows.fnRoadDualRow.origin Rows.fnRoadDualRow.targs := of_decide_eq_true (by kernel_rfl)
theorem wrapDual : Tryz.f4.isWrapper Tryz.prog Rows.fnRoadDualRow.wrapper Rows.fnRoadDualRow.mainSum := by
  unfold Func.isWrapper
  first | (rw [if_pos (by decide +kernel)]; kernel_rfl) | (rw [if_neg (by decide +kernel)]; exact ⟨rfl, rfl⟩)
set_option maxRecDepth 100000 in
theorem joinedDual : joinedFacts Tryz.prog 4 Tryz.f4 (OpenSpec.ofChange Rows.fnRoadDualSpec).bare Rows.fnRoadDualRow = true := by
  unfold joinedFacts
  rw [jfDual1, jfDual2, jfDual3, jfDual4, jfDual5, jfDual6, jfDual7, jfDual8, jfDual9, jfDual10, jfDual11, jfDual12, jfDual13, jfDual14, jfDual15, jfDual16, jfDual17, jfDual18, jfDual19, jfDual20, jfDual21, jfDual22, jfDual23, jfDual24, jfDual25, jfDual26, jfDual27, jfDual28, jfDual30, jfDual31, jfDual32]
  simp only [Bool.true_and, Bool.and_true]
  exact jfDual29
end Go.Proofs.YtehlmjecbljafaaGreatDoor
