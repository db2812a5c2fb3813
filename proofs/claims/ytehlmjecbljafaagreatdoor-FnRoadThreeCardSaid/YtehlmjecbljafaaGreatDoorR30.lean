/- The server's list of subscriptions: what an insertion does to the tree. -/
import Derived.Test.YtehlmjecbljafaaGreatDoorR10
import Derived.Test.YtehlmjecbljafaaGreatDoorR29
namespace Go.Proofs.YtehlmjecbljafaaGreatDoor
open Go Go.RowKit
theorem strV_bs (t : ByteArray) : strV (bs t) = .string t := congrArg Value.string (mk_bs t)
theorem kids_str {T : STrie} {p : Path} {kv : List (Value × Value)} (h : T.Kids p kv) : ∀ x ∈ kv, ∃ t, x.1 = .string t := fun x hx => by
 obtain ⟨t, e, -⟩ := (h x.1 x.2).1 hx
 exact ⟨mk t, e⟩
/-- What a level's map answers. -/
theorem STrieOK.look {T : STrie} {F : Nat → Prop} {w : World} (h : STrieOK T F w) {p : Path} (hp : T.N p) (t : ByteArray) (n42 : bs t ≠ [42]) (n62 : bs t ≠ [62]) :
  (Instr.lookup 276 (.map (some (T.aM p))) (.string t) false).run Tryz.prog w = .ok (T.ptr (p ++ [bs t])) w := by
 obtain ⟨kv, h1, h2⟩ := h.map p hp
 have hk := keyAt_string (P := Tryz.prog) Tryz.underlying9 w t (kids_str h2)
 by_cases hN : T.N (p ++ [bs t])
 ·rw [STrie.ptr_yes hN]
  exact h1.look_yes Tryz.underlying276 hk ((h2 _ _).2 ⟨bs t, (strV_bs t).symm, n42, n62, hN, rfl⟩) false
 ·rw [STrie.ptr_no hN]
  refine h1.look_no Tryz.underlying276 (z276 w) hk (fun v hv => ?_) false
  obtain ⟨u, e, -, -, hu, -⟩ := (h2 _ _).1 hv
  injection e with e
  rw [e, bs_mk] at hN
  exact hN hu
/-- A kid more in a level's map. -/
theorem STrieOK.put {T : STrie} {F : Nat → Prop} {w w1 : World} (h : STrieOK T F w) {p : Path} (hp : T.N p) (t : ByteArray) (n42 : bs t ≠ [42]) (n62 : bs t ≠ [62]) (hnew : ¬ T.N (p ++ [bs t])) (e1 : w1.heap[T.aM p]? = w.heap[T.aM p]?) (a : Nat) :
  ∃ w', (Instr.mapUpdate 276 (.map (some (T.aM p))) (.string t) (.pointer (some ⟨a, 0, none⟩))).run Tryz.prog w1 = .ok () w' ∧
   (∃ kv, MapE w' (T.aM p) kv ∧ ∀ x v, (x, v) ∈ kv ↔ (∃ u, x = strV u ∧ u ≠ [42] ∧ u ≠ [62] ∧ T.N (p ++ [u]) ∧ v = .pointer (some ⟨T.aN (p ++ [u]), 0, none⟩)) ∨ (bs t ≠ [42] ∧ bs t ≠ [62] ∧ x = strV (bs t) ∧ v = .pointer (some ⟨a, 0, none⟩))) ∧ Only (· = T.aM p) w1 w' := by
 obtain ⟨kv, h1, h2⟩ := h.map p hp
 have h1 := h1.keep e1
 have hk := keyAt_string (P := Tryz.prog) Tryz.underlying9 w1 t (kids_str h2)
 obtain ⟨w', k1, k2, k3, -⟩ := h1.store Tryz.underlying276 hk (fun v hv => by
  obtain ⟨u, e, -, -, hu, -⟩ := (h2 _ _).1 hv
  injection e with e
  rw [e, bs_mk] at hnew
  exact hnew hu) (.pointer (some ⟨a, 0, none⟩))
 refine ⟨w', k1, ⟨_, k2, fun x v => ?_⟩, k3⟩
 rw [List.mem_append, List.mem_singleton, Prod.mk.injEq, h2]
 refine or_congr Iff.rfl ⟨?_, ?_⟩
 ·rintro ⟨rfl, rfl⟩; exact ⟨n42, n62, (strV_bs t).symm, rfl⟩
 ·rintro ⟨-, -, rfl, rfl⟩; exact ⟨strV_bs t, rfl⟩
/-- The trie behind a new path. -/
theorem sgrow_done {T : STrie} {F : Nat → Prop} {wr w1 w2 w3 : World} {p : Path} {t : List UInt8} {l m a s : Nat} (h : STrieOK T F wr) (hp : T.N p) (hnew : ¬ T.N (p ++ [t])) (hF : ∀ k, F k → k < wr.heap.size)
  (b1 : Below wr.heap.size wr w1) (a1 : wr.heap.size ≤ a) (s1 : wr.heap.size ≤ s) (ha : w1.heap[a]? = some (.cells #[.pointer none, .map (some s), .map none, .slice none 0 0] 287 (0, 0))) (hs : MapE w1 s [])
  (o2 : Only (fun k => k = T.aL p ∨ k = T.aM p) w1 w2)
  (hlev : w2.heap[T.aL p]? = some (.cells #[.map (some (T.aM p)), if t = [42] then .pointer (some ⟨a, 0, none⟩) else T.ptr (p ++ [[42]]), if t = [62] then .pointer (some ⟨a, 0, none⟩) else T.ptr (p ++ [[62]])] 279 (0, 0)))
  (hmap : ∃ kv, MapE w2 (T.aM p) kv ∧ ∀ x v, (x, v) ∈ kv ↔ (∃ u, x = strV u ∧ u ≠ [42] ∧ u ≠ [62] ∧ T.N (p ++ [u]) ∧ v = .pointer (some ⟨T.aN (p ++ [u]), 0, none⟩)) ∨ (t ≠ [42] ∧ t ≠ [62] ∧ x = strV t ∧ v = .pointer (some ⟨a, 0, none⟩)))
  (b3 : Below w2.heap.size w2 w3) (l1 : w2.heap.size ≤ l) (m1 : w2.heap.size ≤ m) (hL : w3.heap[l]? = some (.cells #[.map (some m), .pointer none, .pointer none] 279 (0, 0))) (hM : MapE w3 m []) :
  STrieOK (T.add (p ++ [t]) l m a s) (fun k => F k ∨ k = l ∨ k = m ∨ k = a ∨ k = s) (w3.setCell ⟨a, 0, none⟩ (.pointer (some ⟨l, 0, none⟩))) ∧ Only F wr (w3.setCell ⟨a, 0, none⟩ (.pointer (some ⟨l, 0, none⟩))) := by
 have hla := (Array.getElem?_eq_some_iff.1 ha).1
 have hls := hs.lt
 have hLp := hF _ (h.fL p hp)
 have hMp := hF _ (h.fM p hp)
 have z1 := b1.size
 have z2 := o2.size
 have z3 := b3.size
 have haL : a ≠ T.aL p := by omega
 have haM : a ≠ T.aM p := by omega
 have ha3 : w3.heap[a]? = some (.cells #[.pointer none, .map (some s), .map none, .slice none 0 0] 287 (0, 0)) := ((b3.block a (by omega)).trans (o2.block a hla (by rintro (e | e); exact haL e; exact haM e))).trans ha
 have set1 : ∀ k, k ≠ a → (w3.setCell ⟨a, 0, none⟩ (.pointer (some ⟨l, 0, none⟩))).heap[k]? = w3.heap[k]? := fun k hk => heap_setCell_other _ _ _ _ hk
 have hsa : s ≠ a := hs.ne ha
 refine ⟨h.grow hp hnew hF (by omega) (by omega) a1 s1 (by omega) ?_ ?_ ?_ ?_ ?_ ?_ ?_, ?_⟩
 ·rw [set1 _ haL.symm, b3.block _ (by omega)]; exact hlev
 ·obtain ⟨kv, h1, h2⟩ := hmap
  exact ⟨kv, h1.keep ((set1 _ haM.symm).trans (b3.block _ (by omega))), h2⟩
 ·have := heap_setCell_same w3 a 0 _ 287 (.pointer (some ⟨l, 0, none⟩)) ha3
  exact this
 ·exact (hs.keep (o2.block s hls (by rintro (e | e) <;> omega))).keep ((set1 s hsa).trans (b3.block s (by omega)))
 ·rw [set1 _ (by omega)]; exact hL
 ·exact hM.keep (set1 m (by omega))
 ·intro k hk h1 h2
  have hk' := hF k hk
  rw [set1 k (by omega), b3.block k (by omega), o2.block k (by omega) (by rintro (e | e); exact h1 e; exact h2 e), b1.block k hk']
 ·refine ⟨b3.os.trans (o2.os.trans b1.os), b3.tape.trans (o2.tape.trans b1.tape), b3.output.trans (o2.output.trans b1.output), by rw [size_setCell]; omega, fun k hk hf => ?_⟩
  rw [set1 k (by omega), b3.block k (by omega), o2.block k (by omega) (by rintro (e | e); exact hf (e ▸ h.fL p hp); exact hf (e ▸ h.fM p hp)), b1.block k hk]
/-- What an insertion has done behind k tokens. -/
structure SInsSt (T : STrie) (F : Nat → Prop) (P : Path) (w2 : World) (k : Nat) (Tk : STrie) (Fk : Nat → Prop) (wr : World) : Prop where
 ok : STrieOK Tk Fk wr
 N : ∀ q, Tk.N q ↔ T.N q ∨ q <+: P.take k
 S : ∀ q, Tk.S q = T.S q
 root : Tk.aL [] = T.aL []
 old : ∀ x, Fk x → F x ∨ w2.heap.size ≤ x
 lt : ∀ x, Fk x → x < wr.heap.size
 only : Only F w2 wr
theorem SInsSt.here {T : STrie} {F : Nat → Prop} {P : Path} {w2 : World} {k : Nat} {Tk : STrie} {Fk : Nat → Prop} {wr : World} (h : SInsSt T F P w2 k Tk Fk wr) : Tk.N (P.take k) := (h.N _).2 (.inr (List.prefix_refl _))
/-- A path that is there already. -/
theorem SInsSt.skip {T : STrie} {F : Nat → Prop} {P : Path} {w2 : World} {k : Nat} {Tk : STrie} {Fk : Nat → Prop} {wr : World} {t : List UInt8} (h : SInsSt T F P w2 k Tk Fk wr) (ht : P[k]? = some t) (hN : Tk.N (P.take k ++ [t])) :
  SInsSt T F P w2 (k + 1) Tk Fk wr :=
 { h with
  N := fun q => by
   rw [prefix_snoc ht, ← or_assoc, ← h.N]
   refine ⟨.inl, ?_⟩
   rintro (hq | rfl)
   ·exact hq
   ·exact hN }
/-- A new path. -/
theorem SInsSt.new {T : STrie} {F : Nat → Prop} {P : Path} {w2 : World} {k : Nat} {Tk : STrie} {Fk : Nat → Prop} {wr w' : World} {t : List UInt8} {l m a s : Nat} (h : SInsSt T F P w2 k Tk Fk wr) (ht : P[k]? = some t) (hV : ∀ q, T.S q ≠ [] → T.N q) (hnew : ¬ Tk.N (P.take k ++ [t]))
  (hok : STrieOK (Tk.add (P.take k ++ [t]) l m a s) (fun x => Fk x ∨ x = l ∨ x = m ∨ x = a ∨ x = s) w') (ho : Only Fk wr w') (hlt : l < w'.heap.size ∧ m < w'.heap.size ∧ a < w'.heap.size ∧ s < w'.heap.size) (hge : wr.heap.size ≤ l ∧ wr.heap.size ≤ m ∧ wr.heap.size ≤ a ∧ wr.heap.size ≤ s) :
  SInsSt T F P w2 (k + 1) (Tk.add (P.take k ++ [t]) l m a s) (fun x => Fk x ∨ x = l ∨ x = m ∨ x = a ∨ x = s) w' where
 ok := hok
 N := fun q => by
  rw [prefix_snoc ht, ← or_assoc, ← h.N]
  exact Iff.rfl
 S := fun q => by
  simp only [STrie.add]
  split
  ·rename_i e
   by_cases hq : T.S q = []
   ·exact hq.symm
   ·exact absurd ((h.N _).2 (.inl (hV q hq))) (e ▸ hnew)
  ·exact h.S q
 root := by
  simp only [STrie.add]
  rw [if_neg (fun e => snoc_ne _ _ e.symm)]
  exact h.root
 old := fun x hx => by
  have := h.only.size
  rcases hx with hx | rfl | rfl | rfl | rfl
  ·exact h.old x hx
  all_goals exact .inr (by omega)
 lt := fun x hx => by
  have := ho.size
  rcases hx with hx | rfl | rfl | rfl | rfl
  ·have := h.lt x hx; omega
  all_goals omega
 only := h.only.trans ho h.old
end Go.Proofs.YtehlmjecbljafaaGreatDoor
