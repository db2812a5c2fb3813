/- The closed facts of the row of FnRoadMapped, joined. -/
import Derived.Test.YtehlmjecbljafaaGreatDoorM27
namespace Go.Proofs.YtehlmjecbljafaaGreatDoor
open Go
theorem fnameMapped : Tryz.prog.funcNamed "pub-tokenroad/laws.FnRoadMapped" = some 3 := by kernel_rfl
theorem instMapped : Tryz.f3.isInstance Tryz.prog Rows.fnRoadMappedRow.origin Rows.fnRoadMappedRow.targs := of_decide_eq_true (by kernel_rfl)
theorem wrapMapped : Tryz.f3.isWrapper Tryz.prog Rows.fnRoadMappedRow.wrapper Rows.fnRoadMappedRow.mainSum := by
  unfold Func.isWrapper
  first | (rw [if_pos (by decide +kernel)]; kernel_rfl) | (rw [if_neg (by decide +kernel)]; exact ⟨rfl, rfl⟩)
set_option maxRecDepth 100000 in
--theorem bandMapped {a b : Bool} (h : a = true) (k : b = true) : (a && b) = true := by rw [h, k]; rfl
theorem joinedMapped : joinedFacts Tryz.prog 3 Tryz.f3 (OpenSpec.ofChange Rows.fnRoadMappedSpec).bare Rows.fnRoadMappedRow = true := by
  unfold joinedFacts
  rw [jfMapped1, jfMapped2, jfMapped3, jfMapped4, jfMapped5, jfMapped6, jfMapped7, jfMapped8, jfMapped9, jfMapped10, jfMapped11, jfMapped12, jfMapped13, jfMapped14, jfMapped15, jfMapped16, jfMapped17, jfMapped18, jfMapped19, jfMapped20, jfMapped21, jfMapped22, jfMapped23, jfMapped24, jfMapped25, jfMapped26, jfMapped27, jfMapped28, jfMapped30, jfMapped31, jfMapped32]
  simp only [Bool.true_and, Bool.and_true]
  exact jfMapped29
--bandMapped (bandMapped (bandMapped (bandMapped (bandMapped (bandMapped (bandMapped (bandMapped (bandMapped (bandMapped (bandMapped (bandMapped (bandMapped (bandMapped (bandMapped (bandMapped (bandMapped (bandMapped (bandMapped (bandMapped (bandMapped (bandMapped (bandMapped (bandMapped (bandMapped (bandMapped (bandMapped (bandMapped (bandMapped (bandMapped (bandMapped (jfMapped1) jfMapped2) jfMapped3) jfMapped4) jfMapped5) jfMapped6) jfMapped7) jfMapped8) jfMapped9) jfMapped10) jfMapped11) jfMapped12) jfMapped13) jfMapped14) jfMapped15) jfMapped16) jfMapped17) jfMapped18) jfMapped19) jfMapped20) jfMapped21) jfMapped22) jfMapped23) jfMapped24) jfMapped25) jfMapped26) jfMapped27) jfMapped28) jfMapped29) jfMapped30) jfMapped31) jfMapped32
end Go.Proofs.YtehlmjecbljafaaGreatDoor
