/- A drawn region's check of a pointer. -/
import Derived.Test.YtehlmjecbljafaaGreatDoorM8
namespace Go.Proofs.YtehlmjecbljafaaGreatDoor
open Go Go.RowKit
theorem wpCL_n {P : Program} {l : List Oper} {Q : Exit → Act → World → Prop} {C : World → Prop} {rd : Nat → Bool} {i : Nat} {rest : List Oper} {o o2 : Oper} {a : Act} {w : World} {x : Operand} {ad : Addr}
    (hop : o.op = .nilCheck x) (hx : a.eval x = .pointer (some ad)) (hr : rd i = true) (hw : Region.wanted o (yielded l.toArray a.tmps) = true)
    (h : wpCL P l rd C Q (i + 1) (o2 :: rest) (a.put o.dst (.pointer (some ad))) w) : wpCL P l rd C Q i (o :: o2 :: rest) a w := fun hd => by
  obtain ⟨h1, h2⟩ := drop_at hd
  simp only [List.length_cons, List.range'_succ]
  refine wpC_rd h1 hr fun K hK => ?_
  rw [if_pos hw]
  refine ⟨_, fun w' _ => ?_, hK _ (by simpa [List.range'_succ] using h h2)⟩
  unfold execOp
  simp [hop, hx]
end Go.Proofs.YtehlmjecbljafaaGreatDoor
