/- The list of interest: an insertion. -/
import Derived.Test.YtehlmjecbljafaaGreatDoorQ8
import Derived.Test.YtehlmjecbljafaaGreatDoorQ15
import Derived.WalkSpells
namespace Go.Proofs.YtehlmjecbljafaaGreatDoor
open Go Go.RowKit
theorem newLevel_abs (w : World) : Calls Tryz.prog 129 #[] w fun e w' => ∃ l m, e = .returned (.pointer (some ⟨l, 0, none⟩)) ∧ w.heap.size ≤ l ∧ w.heap.size ≤ m ∧ w'.heap[l]? = some (.cells #[.map (some m), .pointer none, .pointer none] 215 (0, 0)) ∧
    MapS w' m 0 (.pointer none) (fun _ => .pointer none) ∧ Below w.heap.size w w' := by
  refine (newLevel_any w).mono ?_
  rintro e w' ⟨rfl, rfl⟩
  have h := heap_alloc_new (w.alloc (.map #[] 0)) (.cells #[.map (some w.heap.size), .pointer none, .pointer none] 215)
  have hz : (w.alloc (.map #[] 0)).heap.size = w.heap.size + 1 := by simp
  rw [hz] at h
  exact ⟨_, w.heap.size, rfl, by omega, Nat.le_refl _, h, (MapS.made w _).keep (((Below.refl _ _).alloc (Nat.le_refl _) _).block _ (by rw [hz]; omega)), ((Below.refl _ w).alloc (Nat.le_refl _) _).alloc (by rw [hz]; omega) _⟩
theorem newNode_abs (w : World) : Calls Tryz.prog 133 #[] w fun e w' => ∃ a s, e = .returned (.pointer (some ⟨a, 0, none⟩)) ∧ w.heap.size ≤ a ∧ w.heap.size ≤ s ∧ w'.heap[a]? = some (.cells #[.pointer none, .map (some s)] 219 (0, 0)) ∧
    MapN w' s 0 0 ∧ Below w.heap.size w w' := by
  refine (newNode_any w).mono ?_
  rintro e w' ⟨rfl, rfl⟩
  have h := heap_alloc_new (w.alloc (.map #[] 0)) (.cells #[.pointer none, .map (some w.heap.size)] 219)
  have hz : (w.alloc (.map #[] 0)).heap.size = w.heap.size + 1 := by simp
  rw [hz] at h
  exact ⟨_, w.heap.size, rfl, by omega, Nat.le_refl _, h, (MapN.made w).keep (((Below.refl _ _).alloc (Nat.le_refl _) _).block _ (by rw [hz]; omega)), ((Below.refl _ w).alloc (Nat.le_refl _) _).alloc (by rw [hz]; omega) _⟩
theorem wpList_upd {P : Program} (w : World) {ops : Array Oper} {rest : List Oper} {o : Oper} {a : Act} {Q : Exit → Act → World → Prop} (hg : o.guard = none) (m x v : Operand) (t : TypeId) (hop : o.op = Op.mapUpdate t m x v) (b : Nat) (key val : Value)
    (hm : a.eval m = .map (some b)) (hx : a.eval x = key) (hv : a.eval v = val) (R : World → Prop) (hr : ∃ w', (Instr.mapUpdate t (.map (some b)) key val).run P w = .ok () w' ∧ R w') (hK : ∀ w', R w' → wpList P ops Q rest (a.put o.dst undef) w') :
    wpList P ops Q (o :: rest) a w := by
  refine wpList_plain hg fun K' hK' => ?_
  obtain ⟨w', hrun, r1⟩ := hr
  unfold Oper.wp
  simp [execOp, hop, hm, hx, hv, hrun, Result.andThen]
  exact hK' _ _ (hK w' r1)
/-- The trie behind a new path. -/
theorem grow_done {T : Trie} {F : Nat → Prop} {n : Nat} {wr w1 w2 w3 : World} {p : Path} {t : List UInt8} {l m a s : Nat} (h : TrieOK T F n wr) (hp : T.N p) (hnew : ¬ T.N (p ++ [t])) (hF : ∀ k, F k → k < wr.heap.size)
    (b1 : Below wr.heap.size wr w1) (a1 : wr.heap.size ≤ a) (s1 : wr.heap.size ≤ s) (ha : w1.heap[a]? = some (.cells #[.pointer none, .map (some s)] 219 (0, 0))) (hs : MapN w1 s 0 0)
    (o2 : Only (fun k => k = T.aL p ∨ k = T.aM p) w1 w2)
    (hlev : w2.heap[T.aL p]? = some (.cells #[.map (some (T.aM p)), if t = [42] then .pointer (some ⟨a, 0, none⟩) else T.ptr (p ++ [[42]]), if t = [62] then .pointer (some ⟨a, 0, none⟩) else T.ptr (p ++ [[62]])] 215 (0, 0)))
    (hmap : ∃ f, MapS w2 (T.aM p) (n + 1) (.pointer none) f ∧ ∀ u, u ≠ [42] → u ≠ [62] → f u = if u = t then .pointer (some ⟨a, 0, none⟩) else T.ptr (p ++ [u]))
    (b3 : Below w2.heap.size w2 w3) (l1 : w2.heap.size ≤ l) (m1 : w2.heap.size ≤ m) (hL : w3.heap[l]? = some (.cells #[.map (some m), .pointer none, .pointer none] 215 (0, 0))) (hM : MapS w3 m 0 (.pointer none) (fun _ => .pointer none)) :
    TrieOK (T.add (p ++ [t]) l m a s) (fun k => F k ∨ k = l ∨ k = m ∨ k = a ∨ k = s) (n + 1) (w3.setCell ⟨a, 0, none⟩ (.pointer (some ⟨l, 0, none⟩))) ∧ Only F wr (w3.setCell ⟨a, 0, none⟩ (.pointer (some ⟨l, 0, none⟩))) := by
  have hla := (Array.getElem?_eq_some_iff.1 ha).1
  have hls := hs.lt
  have hLp := hF _ (h.fL p hp)
  have hMp := hF _ (h.fM p hp)
  have z1 := b1.size
  have z2 := o2.size
  have z3 := b3.size
  have haL : a ≠ T.aL p := by omega
  have haM : a ≠ T.aM p := by omega
  have ha3 : w3.heap[a]? = some (.cells #[.pointer none, .map (some s)] 219 (0, 0)) := ((b3.block a (by omega)).trans (o2.block a hla (by rintro (e | e); exact haL e; exact haM e))).trans ha
  have set1 : ∀ k, k ≠ a → (w3.setCell ⟨a, 0, none⟩ (.pointer (some ⟨l, 0, none⟩))).heap[k]? = w3.heap[k]? := fun k hk => heap_setCell_other _ _ _ _ hk
  have hsa : s ≠ a := hs.ne ha
  refine ⟨h.grow hp hnew hF (by omega) (by omega) a1 s1 (by omega) ?_ ?_ ?_ ?_ ?_ ?_ ?_, ?_⟩
  · rw [set1 _ haL.symm, b3.block _ (by omega)]; exact hlev
  · obtain ⟨f, h1, h2⟩ := hmap
    exact ⟨f, h1.keep ((set1 _ haM.symm).trans (b3.block _ (by omega))), h2⟩
  · have := heap_setCell_same w3 a 0 _ 219 (.pointer (some ⟨l, 0, none⟩)) ha3
    exact this
  · exact ((hs.keep (o2.block s hls (by rintro (e | e) <;> omega))).keep ((set1 s hsa).trans (b3.block s (by omega)))).more (by omega)
  · rw [set1 _ (by omega)]; exact hL
  · exact (hM.keep (set1 m (by omega))).more (by omega)
  · intro k hk h1 h2
    have hk' := hF k hk
    rw [set1 k (by omega), b3.block k (by omega), o2.block k (by omega) (by rintro (e | e); exact h1 e; exact h2 e), b1.block k hk']
  · refine ⟨b3.os.trans (o2.os.trans b1.os), b3.tape.trans (o2.tape.trans b1.tape), b3.output.trans (o2.output.trans b1.output), by rw [size_setCell]; omega, fun k hk hf => ?_⟩
    rw [set1 k (by omega), b3.block k (by omega), o2.block k (by omega) (by rintro (e | e); exact hf (e ▸ h.fL p hp); exact hf (e ▸ h.fM p hp)), b1.block k hk]
end Go.Proofs.YtehlmjecbljafaaGreatDoor
