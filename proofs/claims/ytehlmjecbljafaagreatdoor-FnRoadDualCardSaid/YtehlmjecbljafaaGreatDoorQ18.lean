/- The list of interest: is there interest. -/
import Derived.Test.YtehlmjecbljafaaGreatDoorQ6
import Derived.Test.YtehlmjecbljafaaGreatDoorQ17
namespace Go.Proofs.YtehlmjecbljafaaGreatDoor
open Go Go.RowKit
/-- Interest in tokens below a path. -/
def hasT (T : Trie) : Path → Path → Prop
  | _, [] => False
  | p, t :: r => T.N (p ++ [[62]]) ∨ (T.N (p ++ [[42]]) ∧ if r = [] then 0 < T.V (p ++ [[42]]) else hasT T (p ++ [[42]]) r) ∨ (T.N (p ++ [t]) ∧ if r = [] then 0 < T.V (p ++ [t]) else hasT T (p ++ [t]) r)
theorem Sl.dropV {w : World} {b o n c : Nat} {xs : List Value} (h : Sl w 1 (.slice (some ⟨b, o, none⟩) n c) n xs) {j : Nat} (hj : j ≤ n) : Sl w 1 (.slice (some ⟨b, o + j, none⟩) (n - j) (c - j)) (n - j) (xs.drop j) := by
  obtain ⟨h1, a, cap, e, h2, h3, h4⟩ := h
  cases e
  refine ⟨by rw [List.length_drop]; omega, _, _, rfl, by omega, by omega, fun h0 => ⟨b, o + j, rfl, fun i x hx => ?_⟩⟩
  rw [List.getElem?_drop] at hx
  obtain ⟨b', o', e, hc⟩ := h4 (by have := (List.getElem?_eq_some_iff.1 hx).1; omega)
  cases e
  rw [Nat.add_assoc]; exact hc _ x hx
theorem Sl.dropIf {w : World} {b o n c : Nat} {xs : List Value} (h : Sl w 1 (.slice (some ⟨b, o, none⟩) n c) n xs) {j : Nat} (hj : j ≤ n) :
    Sl w 1 (.slice (if c = j then some ⟨b, o, none⟩ else some ⟨b, o + j, none⟩) (n - j) (c - j)) (n - j) (xs.drop j) := by
  split
  · rename_i e
    obtain ⟨h1, a, cap, e', h2, h3, h4⟩ := h
    cases e'
    have hx : xs.drop j = [] := List.drop_of_length_le (by omega)
    rw [hx]
    exact ⟨by simp; omega, _, _, rfl, by omega, by omega, fun h => absurd h (Nat.lt_irrefl _)⟩
  · exact h.dropV hj
/-- Where the search stands behind k tokens. -/
structure HasSt (T : Trie) (p P : Path) (k : Nat) : Prop where
  mid : k < P.length → (hasT T p P ↔ (T.N (p ++ P.take k) ∧ hasT T (p ++ P.take k) (P.drop k)))
  fin : ∀ j, k = j + 1 → k = P.length → (hasT T p P ↔ (T.N (p ++ P.take j ++ [[42]]) ∧ 0 < T.V (p ++ P.take j ++ [[42]])) ∨ (T.N (p ++ P.take k) ∧ 0 < T.V (p ++ P.take k)))
theorem HasSt.start {T : Trie} {p P : Path} (hp : T.N p) : HasSt T p P 0 := ⟨fun _ => by simp [hp], fun j h => by omega⟩
theorem HasSt.step {T : Trie} {p P : Path} {k : Nat} {t : List UInt8} (h : HasSt T p P k) (ht : P[k]? = some t) (hN : T.N (p ++ P.take k)) (h62 : ¬ T.N (p ++ P.take k ++ [[62]])) (h42 : ¬ (T.N (p ++ P.take k ++ [[42]]) ∧ hasT T (p ++ P.take k ++ [[42]]) (P.drop (k + 1)))) : HasSt T p P (k + 1) := by
  have hk := (List.getElem?_eq_some_iff.1 ht).1
  have e1 : P.drop k = t :: P.drop (k + 1) := by rw [List.drop_eq_getElem_cons hk, (List.getElem?_eq_some_iff.1 ht).2]
  have e2 : p ++ P.take (k + 1) = p ++ P.take k ++ [t] := by rw [List.take_add_one, ht, List.append_assoc]; rfl
  have hm := h.mid hk
  rw [e1, hasT] at hm
  refine ⟨fun hlt => ?_, fun j hj hl => ?_⟩
  · have hr : P.drop (k + 1) ≠ [] := fun e => by have := congrArg List.length e; simp at this; omega
    rw [hm, if_neg hr, if_neg hr, e2]
    constructor
    · rintro ⟨-, h | h | h⟩
      · exact absurd h h62
      · exact absurd h h42
      · exact h
    · exact fun h => ⟨hN, .inr (.inr h)⟩
  · obtain rfl : j = k := by omega
    have hr : P.drop (j + 1) = [] := List.drop_of_length_le (by omega)
    rw [hm, if_pos hr, if_pos hr, e2]
    constructor
    · rintro ⟨-, h | h | h⟩
      · exact absurd h h62
      · exact .inl h
      · exact .inr h
    · exact fun h => ⟨hN, .inr h⟩
end Go.Proofs.YtehlmjecbljafaaGreatDoor
