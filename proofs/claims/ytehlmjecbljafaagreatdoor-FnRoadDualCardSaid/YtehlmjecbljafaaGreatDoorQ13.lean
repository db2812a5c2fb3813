/- The tree's filters: cut into parts. -/
import Derived.Test.YtehlmjecbljafaaGreatDoorQ8
import Derived.Test.YtehlmjecbljafaaGreatDoorQ11
namespace Go.Proofs.YtehlmjecbljafaaGreatDoor
open Go Go.RowKit
/-- Values that read as parts. -/
def PartsV (w : World) (us : List Value) (ps : List (List UInt8)) : Prop := us.length = ps.length ∧ ∀ (j : Nat) (u : Value) (p : List UInt8), us[j]? = some u → ps[j]? = some p → Sl w 1 u p.length (u8s p)
theorem PartsV.nil (w : World) : PartsV w [] [] := ⟨rfl, fun j u p h => by simp at h⟩
theorem PartsV.snoc {w : World} {us : List Value} {ps : List (List UInt8)} (h : PartsV w us ps) {u : Value} {p : List UInt8} (hu : Sl w 1 u p.length (u8s p)) : PartsV w (us ++ [u]) (ps ++ [p]) := by
  refine ⟨by simp [h.1], fun j x q hx hq => ?_⟩
  rcases Nat.lt_or_ge j us.length with hj | hj
  · rw [List.getElem?_append_left hj] at hx
    rw [List.getElem?_append_left (by rw [← h.1]; exact hj)] at hq
    exact h.2 j x q hx hq
  · rw [List.getElem?_append_right hj] at hx
    rw [List.getElem?_append_right (by rw [← h.1]; exact hj), ← h.1] at hq
    have hz : j - us.length = 0 := by
      have := (List.getElem?_eq_some_iff.1 hx).1
      simp at this; omega
    rw [hz] at hx hq
    simp at hx hq
    subst hx hq; exact hu
theorem PartsV.keep {w w' : World} {us : List Value} {ps : List (List UInt8)} (h : PartsV w us ps) (hb : Below w.heap.size w w') : PartsV w' us ps := ⟨h.1, fun j u p h1 h2 => (h.2 j u p h1 h2).keep hb⟩
theorem et141 : ET Tryz.prog 141 94 1 24 (.slice none 0 0) := ⟨Tryz.underlying141, by kernel_rfl, rfl, by decide, by decide⟩
theorem Own.cast {w : World} {B sz n n' : Nat} {v : Value} {xs : List Value} (h : Own w B sz v n xs) (e : n = n') : Own w B sz v n' xs := e ▸ h
/-- Where the cutting stands at place i; st: where the run began. -/
structure CutSt (w0 : World) (f : List UInt8) (i st : Nat) (us : List Value) : Prop where
  le : st ≤ i ∧ i ≤ f.length
  cut : ∃ ps, PartsV w0 us ps ∧ ps ++ gB ((f.take i).drop st) (f.drop i) = gB [] f
  wild : ∀ c, f[i]? = some c → c = 42 ∨ c = 62 → st = i
  head : st < f.length → f[st]? ≠ some 46
theorem drop_cons {f : List UInt8} {i : Nat} {c : UInt8} (h : f[i]? = some c) : f.drop i = c :: f.drop (i + 1) := by
  obtain ⟨h1, h2⟩ := List.getElem?_eq_some_iff.1 h
  rw [List.drop_eq_getElem_cons h1, h2]
theorem take_snoc {f : List UInt8} {i st : Nat} {c : UInt8} (h : f[i]? = some c) (hs : st ≤ i) : (f.take (i + 1)).drop st = (f.take i).drop st ++ [c] := by
  have hi := (List.getElem?_eq_some_iff.1 h).1
  rw [List.take_add_one, h, List.drop_append_of_le_length (by rw [List.length_take]; omega)]; rfl
theorem take_drop_self (f : List UInt8) (i : Nat) : (f.take i).drop i = [] := List.drop_of_length_le (by rw [List.length_take]; omega)
/-- A plain byte. -/
theorem CutSt.plain {w0 : World} {f : List UInt8} {i st : Nat} {us : List Value} (h : CutSt w0 f i st us) (hW : WildB f) {c : UInt8} (hc : f[i]? = some c) (h46 : c ≠ 46) (h42 : c ≠ 42) (h62 : c ≠ 62) : CutSt w0 f (i + 1) st us := by
  have hi := (List.getElem?_eq_some_iff.1 hc).1
  obtain ⟨ps, h1, h2⟩ := h.cut
  refine ⟨⟨by have := h.le.1; omega, hi⟩, ⟨ps, h1, ?_⟩, fun d hd hw => ?_, h.head⟩
  · rw [drop_cons hc, gB, if_neg (fun h => h46 h.1), if_neg (fun h => h46 h.1), if_neg h42, if_neg h62] at h2
    rw [take_snoc hc h.le.1]; exact h2
  · rcases (hW.alone (i + 1) d hd hw).1 with h3 | h3
    · omega
    · rw [Nat.add_sub_cancel, hc] at h3; exact absurd (Option.some.inj h3) h46
/-- A point ahead of a plain byte. -/
theorem CutSt.dot {w0 : World} {f : List UInt8} {i st : Nat} {us : List Value} (h : CutSt w0 f i st us) {d : UInt8} (hc : f[i]? = some 46) (hd : f[i + 1]? = some d) (h42 : d ≠ 42) (h62 : d ≠ 62) : CutSt w0 f (i + 1) st us := by
  have hi := (List.getElem?_eq_some_iff.1 hc).1
  obtain ⟨ps, h1, h2⟩ := h.cut
  refine ⟨⟨by have := h.le.1; omega, hi⟩, ⟨ps, h1, ?_⟩, fun e he hw => ?_, h.head⟩
  · have hh : (f.drop (i + 1)).head? = some d := by rw [drop_cons hd]; rfl
    rw [drop_cons hc, gB, hh, if_neg (fun h => h42 (Option.some.inj h.2)), if_neg (fun h => h62 (Option.some.inj h.2)), if_neg (by decide), if_neg (by decide)] at h2
    rw [take_snoc hc h.le.1]; exact h2
  · rw [hd] at he; cases he; rcases hw with e | e
    · exact absurd e h42
    · exact absurd e h62
/-- A point ahead of a star. -/
theorem CutSt.star {w0 : World} {f : List UInt8} {i st : Nat} {us : List Value} (h : CutSt w0 f i st us) (hW : WildB f) (hc : f[i]? = some 46) (hd : f[i + 1]? = some 42) {u v : Value}
    (hu : Sl w0 1 u ((f.take (i + 1)).drop st).length (u8s ((f.take (i + 1)).drop st))) (hv : Sl w0 1 v 1 (u8s [42])) :
    (f.length = i + 2 → CutSt w0 f (i + 2) (i + 2) (us ++ [u] ++ [v])) ∧ (f.length ≠ i + 2 → CutSt w0 f (i + 3) (i + 3) (us ++ [u] ++ [v])) := by
  have hi := (List.getElem?_eq_some_iff.1 hd).1
  obtain ⟨ps, h1, h2⟩ := h.cut
  have hh : (f.drop (i + 1)).head? = some 42 := by rw [drop_cons hd]; rfl
  rw [drop_cons hc, gB, hh, if_pos ⟨rfl, rfl⟩, ← take_snoc hc h.le.1] at h2
  have hP := (h1.snoc hu).snoc (p := [42]) hv
  have h2' : ∀ x, x = f.drop (i + 3) → (ps ++ [(f.take (i + 1)).drop st] ++ [[42]]) ++ gB [] x = gB [] f := by
    intro x hx
    rw [← h2, hx, List.drop_drop, show i + 1 + 2 = i + 3 by omega]; simp
  refine ⟨fun hl => ⟨⟨Nat.le_refl _, by omega⟩, ⟨_, hP, ?_⟩, fun _ _ _ => rfl, fun h => by omega⟩, fun hl => ⟨⟨Nat.le_refl _, ?_⟩, ⟨_, hP, ?_⟩, fun _ _ _ => rfl, fun h => ?_⟩⟩
  · rw [take_drop_self, h2' _ (by rw [List.drop_of_length_le (by omega), List.drop_of_length_le (by omega)])]
  · omega
  · rw [take_drop_self, h2' _ rfl]
  · rcases (hW.alone (i + 1) 42 hd (.inl rfl)).2 with h3 | h3
    · omega
    · obtain ⟨c, hc1, hc2⟩ := hW.dot (i + 2) h3
      rw [hc1]; intro e; exact hc2 (Option.some.inj e)
theorem CutSt.rest {w0 : World} {f : List UInt8} {i st : Nat} {us : List Value} (h : CutSt w0 f i st us) (hW : WildB f) (hc : f[i]? = some 46) (hd : f[i + 1]? = some 62) {u v : Value}
    (hu : Sl w0 1 u ((f.take (i + 1)).drop st).length (u8s ((f.take (i + 1)).drop st))) (hv : Sl w0 1 v 1 (u8s [62])) : CutSt w0 f (i + 2) (i + 2) (us ++ [u] ++ [v]) := by
  have hi := hW.last (i + 1) hd
  obtain ⟨ps, h1, h2⟩ := h.cut
  have hh : (f.drop (i + 1)).head? = some 62 := by rw [drop_cons hd]; rfl
  rw [drop_cons hc, gB, hh, if_neg (by rintro ⟨-, h⟩; simp at h), if_pos ⟨rfl, rfl⟩, ← take_snoc hc h.le.1] at h2
  have hP := (h1.snoc hu).snoc (p := [62]) hv
  refine ⟨⟨Nat.le_refl _, by omega⟩, ⟨_, hP, ?_⟩, fun _ _ _ => rfl, fun h => by omega⟩
  rw [take_drop_self, show f.drop (i + 2) = [] from List.drop_of_length_le (by omega), ← h2]
  simp [gB]
/-- A star at a run's beginning. -/
theorem CutSt.star0 {w0 : World} {f : List UInt8} {i : Nat} {us : List Value} (h : CutSt w0 f i i us) (hW : WildB f) (hc : f[i]? = some 42) {v : Value} (hv : Sl w0 1 v 1 (u8s [42])) :
    (f.length = i + 1 → CutSt w0 f (i + 1) (i + 1) (us ++ [v])) ∧ (f.length ≠ i + 1 → CutSt w0 f (i + 2) (i + 2) (us ++ [v])) := by
  have hi := (List.getElem?_eq_some_iff.1 hc).1
  obtain ⟨ps, h1, h2⟩ := h.cut
  rw [drop_cons hc, take_drop_self, gB, if_neg (by simp), if_neg (by simp), if_pos rfl] at h2
  have hP := h1.snoc (p := [42]) hv
  have h2' : ∀ x, x = f.drop (i + 2) → (ps ++ [[42]]) ++ gB [] x = gB [] f := by
    intro x hx
    rw [← h2, hx, List.drop_drop]; simp
  refine ⟨fun hl => ⟨⟨Nat.le_refl _, by omega⟩, ⟨_, hP, ?_⟩, fun _ _ _ => rfl, fun h => by omega⟩, fun hl => ?_⟩
  · rw [take_drop_self, h2' _ (by rw [List.drop_of_length_le (by omega), List.drop_of_length_le (by omega)])]
  · rcases (hW.alone i 42 hc (.inl rfl)).2 with h3 | h3
    · omega
    · obtain ⟨c, hc1, hc2⟩ := hW.dot (i + 1) h3
      have := (List.getElem?_eq_some_iff.1 hc1).1
      refine ⟨⟨Nat.le_refl _, by omega⟩, ⟨_, hP, by rw [take_drop_self, h2' _ rfl]⟩, fun _ _ _ => rfl, fun h => ?_⟩
      rw [hc1]; intro e; exact hc2 (Option.some.inj e)
theorem CutSt.rest0 {w0 : World} {f : List UInt8} {i : Nat} {us : List Value} (h : CutSt w0 f i i us) (hW : WildB f) (hc : f[i]? = some 62) {v : Value} (hv : Sl w0 1 v 1 (u8s [62])) : CutSt w0 f (i + 1) (i + 1) (us ++ [v]) := by
  have hi := hW.last i hc
  obtain ⟨ps, h1, h2⟩ := h.cut
  rw [drop_cons hc, take_drop_self, gB, if_neg (by simp), if_neg (by simp), if_neg (by simp), if_pos rfl] at h2
  have hP := h1.snoc (p := [62]) hv
  refine ⟨⟨Nat.le_refl _, by omega⟩, ⟨_, hP, ?_⟩, fun _ _ _ => rfl, fun h => by omega⟩
  rw [take_drop_self, show f.drop (i + 1) = [] from List.drop_of_length_le (by omega), ← h2]
  simp [gB]
/-- The end. -/
theorem CutSt.done {w0 : World} {f : List UInt8} {st : Nat} {us : List Value} (h : CutSt w0 f f.length st us) : (st = f.length → PartsV w0 us (gB [] f)) ∧ (st < f.length → ∀ u, Sl w0 1 u ((f.take f.length).drop st).length (u8s ((f.take f.length).drop st)) → PartsV w0 (us ++ [u]) (gB [] f)) := by
  obtain ⟨ps, h1, h2⟩ := h.cut
  rw [List.drop_length, gB] at h2
  refine ⟨fun e => ?_, fun e u hu => ?_⟩
  · rw [if_pos (by rw [e]; exact take_drop_self _ _), List.append_nil] at h2
    rw [← h2]; exact h1
  · rw [if_neg (by
      intro e2
      have := congrArg List.length e2
      rw [List.length_drop, List.length_take, List.length_nil] at this
      omega)] at h2
    rw [← h2]; exact h1.snoc hu
end Go.Proofs.YtehlmjecbljafaaGreatDoor
