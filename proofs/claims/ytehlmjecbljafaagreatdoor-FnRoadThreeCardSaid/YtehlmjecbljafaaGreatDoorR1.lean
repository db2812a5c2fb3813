/- The law FnRoadThree: a world for the witness. -/
import Derived.Test.YtehlmjecbljafaaGreatDoorCards
import Derived.Test.YtehlmjecbljafaaGreatDoorTie
import Derived.WalkKit
import Derived.ProofKit
import Derived.OpenShut
import Derived.Deep.DeepHandedRow
namespace Go.Proofs.YtehlmjecbljafaaGreatDoor
open Go Go.ChangeShapes Go.WideShapes Go.ChangeAt Go.RowKit
theorem ownK : ownKnob Tryz.prog.godebug = none := by kernel_rfl
theorem laidOutK : laidOutB Tryz.prog = true := by kernel_rfl
noncomputable def lowK : Nat := (World.holding Tryz.prog default ⟨#[], #[], []⟩).heap.size
/-- A world for the witness: the settled one, the variables holding what their initialisers lay. -/
noncomputable def laidWorld (os : Os) : World :=
 let w0 := World.holding Tryz.prog os ⟨#[.cells #[.string ⟨#[103, 115, 108, 58, 32, 105, 110, 118, 97, 108, 105, 100, 32, 115, 117, 98, 106, 101, 99, 116]⟩] 390, .cells #[.string ⟨#[103, 115, 108, 58, 32, 110, 111, 32, 109, 97, 116, 99, 104, 101, 115, 32, 102, 111, 117, 110, 100]⟩] 390, .cells #[.string ⟨#[115, 117, 98, 108, 105, 115, 116, 58, 32, 105, 110, 118, 97, 108, 105, 100, 32, 115, 117, 98, 106, 101, 99, 116]⟩] 390, .cells #[.string ⟨#[115, 117, 98, 108, 105, 115, 116, 58, 32, 110, 111, 32, 109, 97, 116, 99, 104, 101, 115, 32, 102, 111, 117, 110, 100]⟩] 390], #[], []⟩
 { w0 with heap := ((((w0.heap.modify 2 fun
   | .cells _ t frozen => .cells #[.iface 366 (.pointer (some ⟨lowK + 0, 0, none⟩))] t frozen
   | o => o).modify 3 fun
   | .cells _ t frozen => .cells #[.iface 366 (.pointer (some ⟨lowK + 1, 0, none⟩))] t frozen
   | o => o).modify 4 fun
   | .cells _ t frozen => .cells #[.iface 366 (.pointer (some ⟨lowK + 2, 0, none⟩))] t frozen
   | o => o).modify 5 fun
   | .cells _ t frozen => .cells #[.iface 366 (.pointer (some ⟨lowK + 3, 0, none⟩))] t frozen
   | o => o) }
set_option maxRecDepth 100000 in
theorem laid_met (os : Os) (args : Array Value) : laidMet Tryz.prog Rows.fnRoadThreeRow.laid ((laidWorld os).forCall (fun _ _ => 0) ⟨#[], args, []⟩).memory :=
 laidMet_of_run' 8 (by kernel_rfl) (by kernel_rfl)
end Go.Proofs.YtehlmjecbljafaaGreatDoor
