/- The closed facts of the row of FnRoadThree, joined. -/
import Derived.Test.YtehlmjecbljafaaGreatDoorR2
namespace Go.Proofs.YtehlmjecbljafaaGreatDoor
open Go
theorem fnameThree : Tryz.prog.funcNamed "pub-tokenroad/laws.FnRoadThree" = some 5 := by kernel_rfl
theorem instThree : Tryz.f5.isInstance Tryz.prog Rows.fnRoadThreeRow.origin Rows.fnRoadThreeRow.targs := of_decide_eq_true (by kernel_rfl)
theorem wrapThree : Tryz.f5.isWrapper Tryz.prog Rows.fnRoadThreeRow.wrapper Rows.fnRoadThreeRow.mainSum := by
 unfold Func.isWrapper
 first | (rw [if_pos (by decide +kernel)]; kernel_rfl) | (rw [if_neg (by decide +kernel)]; exact ⟨rfl, rfl⟩)
set_option maxRecDepth 100000 in
theorem joinedThree : joinedFacts Tryz.prog 5 Tryz.f5 (OpenSpec.ofChange Rows.fnRoadThreeSpec).bare Rows.fnRoadThreeRow = true := by
 unfold joinedFacts
 rw [jfThree1, jfThree2, jfThree3, jfThree4, jfThree5, jfThree6, jfThree7, jfThree8, jfThree9, jfThree10, jfThree11, jfThree12, jfThree13, jfThree14, jfThree15, jfThree16, jfThree17, jfThree18, jfThree19, jfThree20, jfThree21, jfThree22, jfThree23, jfThree24, jfThree25, jfThree26, jfThree27, jfThree28, jfThree30, jfThree31, jfThree32]
 simp only [Bool.true_and, Bool.and_true]
 exact jfThree29
end Go.Proofs.YtehlmjecbljafaaGreatDoor
