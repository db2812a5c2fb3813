/- A region that draws its order, whose operations read old memory and whose calls make new memory alone and hand back plain values: one walk in the order of the text. -/
import Derived.Test.YtehlmjecbljafaaGreatDoorM3
import Derived.BigQuiet
import Derived.Deep.QuietTactic
namespace Go.Proofs.YtehlmjecbljafaaGreatDoor
open Go Go.RowKit
/-- A later world, in which what was in w is as it was. -/
structure SubW (w : World) where
  val : World
  bel : Below w.heap.size w val
instance {w : World} : Nonempty (SubW w) := ⟨⟨w, Below.refl _ _⟩⟩
theorem SubW.cell {w : World} {a : Addr} {v : Value} (c : w.cell? a = some v) (x : SubW w) : x.val.cell? a = some v := cell_bel c x.bel
theorem wp_region_sub {P : Program} {id : Nat} {Q : Exit → Act → World → Prop} {a : Act} {w : World} {l : List Oper} (hm : P.follows .mixedOrders = true) (hB : Region.lexB .any l.toArray = true)
    (h : wpQuiet P l.toArray (fun w' => ∃ x : SubW w, w' = x.val) (fun a' => ∀ w', (∃ x : SubW w, w' = x.val) → Q .normal a' w') l a) : (Code.region id l.toArray true).wp P Q a w :=
  wp_region_quiet (C := fun w' => ∃ x : SubW w, w' = x.val) hm hB ⟨⟨{ w with drawn := w.drawn + 1 }, ⟨rfl, rfl, rfl, Nat.le_refl _, fun _ _ => rfl⟩⟩, rfl⟩ (by simpa using h)
theorem sub_calls {P : Program} {f : FuncId} {args : Array Value} {w : World} {v : Value} (x : SubW w) (h : Calls P f args x.val fun e w'' => e = .returned v ∧ Below x.val.heap.size x.val w'') :
    Calls P f args x.val fun e w'' => e = .returned v ∧ ∃ y : SubW w, w'' = y.val := h.mono fun _ w'' ⟨he, hb⟩ => ⟨he, ⟨w'', below_up x.bel x.bel.size hb⟩, rfl⟩
theorem Sl.len {w : World} {sz n : Nat} {v : Value} {xs : List Value} (h : Sl w sz v n xs) : n ≤ 9223372036854775807 := by
  obtain ⟨-, a, cap, -, h2, h3, -⟩ := h
  unfold maxLen at h3
  omega
end Go.Proofs.YtehlmjecbljafaaGreatDoor
