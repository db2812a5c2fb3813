/- The tree's filters: cut into parts. -/
import Derived.Test.YtehlmjecbljafaaGreatDoorR7
import Derived.Test.YtehlmjecbljafaaGreatDoorR8
namespace Go.Proofs.YtehlmjecbljafaaGreatDoor
open Go Go.RowKit
theorem et141 : ET Tryz.prog 141 94 1 24 (.slice none 0 0) := ⟨Tryz.underlying141, by kernel_rfl, rfl, by decide, by decide⟩
theorem Own.cast {w : World} {B sz n n' : Nat} {v : Value} {xs : List Value} (h : Own w B sz v n xs) (e : n = n') : Own w B sz v n' xs := e ▸ h
theorem drop_cons {f : List UInt8} {i : Nat} {c : UInt8} (h : f[i]? = some c) : f.drop i = c :: f.drop (i + 1) := by
 obtain ⟨h1, h2⟩ := List.getElem?_eq_some_iff.1 h
 rw [List.drop_eq_getElem_cons h1, h2]
theorem take_snoc {f : List UInt8} {i st : Nat} {c : UInt8} (h : f[i]? = some c) (hs : st ≤ i) : (f.take (i + 1)).drop st = (f.take i).drop st ++ [c] := by
 have hi := (List.getElem?_eq_some_iff.1 h).1
 rw [List.take_add_one, h, List.drop_append_of_le_length (by rw [List.length_take]; omega)]; rfl
theorem take_drop_self (f : List UInt8) (i : Nat) : (f.take i).drop i = [] := List.drop_of_length_le (by rw [List.length_take]; omega)
end Go.Proofs.YtehlmjecbljafaaGreatDoor
