/- The server's tree of levels and nodes in memory, told by the paths that are there and the subscriptions at them. The server's list of subscriptions: its small functions; what a script keeps of it. What a script keeps of a server's list: a new subscription is put among the others. -/
import Derived.Test.YtehlmjecbljafaaGreatDoorQ6
import Derived.Test.YtehlmjecbljafaaGreatDoorQ15
import Derived.Test.YtehlmjecbljafaaGreatDoorQ17
import Derived.Test.YtehlmjecbljafaaGreatDoorQ30
import Derived.Laws.LoneSync
import Derived.Deep.QuietTactic
import Derived.BigQuiet
namespace Go.Proofs.YtehlmjecbljafaaGreatDoor
open Go Go.RowKit
/-- Which paths are there, where their levels, maps, nodes and sets lie, and which subscriptions there are. -/
structure STrie where
  N : Path → Prop
  aL : Path → Nat
  aM : Path → Nat
  aN : Path → Nat
  aS : Path → Nat
  S : Path → List Nat
open Classical in
noncomputable def STrie.ptr (T : STrie) (q : Path) : Value := if T.N q then .pointer (some ⟨T.aN q, 0, none⟩) else .pointer none
theorem STrie.ptr_yes {T : STrie} {q : Path} (h : T.N q) : T.ptr q = .pointer (some ⟨T.aN q, 0, none⟩) := by unfold STrie.ptr; rw [if_pos h]
theorem STrie.ptr_no {T : STrie} {q : Path} (h : ¬ T.N q) : T.ptr q = .pointer none := by unfold STrie.ptr; rw [if_neg h]
abbrev strV (t : List UInt8) : Value := .string (mk t)
/-- The entries of a level's map: its kids. -/
def STrie.Kids (T : STrie) (p : Path) (kv : List (Value × Value)) : Prop := ∀ x v, (x, v) ∈ kv ↔ ∃ t, x = strV t ∧ t ≠ [42] ∧ t ≠ [62] ∧ T.N (p ++ [t]) ∧ v = .pointer (some ⟨T.aN (p ++ [t]), 0, none⟩)
def unitV : Value := .agg #[]
def subKV (l : List Nat) : List (Value × Value) := l.map fun b => (atBlk b, unitV)
structure STrieOK (T : STrie) (F : Nat → Prop) (w : World) : Prop where
  root : T.N []
  pref : ∀ p t, T.N (p ++ [t]) → T.N p
  lev : ∀ p, T.N p → w.heap[T.aL p]? = some (.cells #[.map (some (T.aM p)), T.ptr (p ++ [[42]]), T.ptr (p ++ [[62]])] 279 (0, 0))
  map : ∀ p, T.N p → ∃ kv, MapE w (T.aM p) kv ∧ T.Kids p kv
  nod : ∀ p t, T.N (p ++ [t]) → w.heap[T.aN (p ++ [t])]? = some (.cells #[.pointer (some ⟨T.aL (p ++ [t]), 0, none⟩), .map (some (T.aS (p ++ [t]))), .map none, .slice none 0 0] 287 (0, 0))
  sub : ∀ p t, T.N (p ++ [t]) → MapE w (T.aS (p ++ [t])) (subKV (T.S (p ++ [t])))
  injL : ∀ p q, T.N p → T.N q → T.aL p = T.aL q → p = q
  injM : ∀ p q, T.N p → T.N q → T.aM p = T.aM q → p = q
  injS : ∀ p q, T.N p → T.N q → p ≠ [] → q ≠ [] → T.aS p = T.aS q → p = q
  injMS : ∀ p q, T.N p → T.N q → q ≠ [] → T.aM p ≠ T.aS q
  fL : ∀ p, T.N p → F (T.aL p)
  fM : ∀ p, T.N p → F (T.aM p)
  fN : ∀ p t, T.N (p ++ [t]) → F (T.aN (p ++ [t]))
  fS : ∀ p t, T.N (p ++ [t]) → F (T.aS (p ++ [t]))
theorem STrieOK.keep {T : STrie} {F : Nat → Prop} {w w' : World} (h : STrieOK T F w) (hk : ∀ k, F k → w'.heap[k]? = w.heap[k]?) : STrieOK T F w' :=
  { h with
    lev := fun p hp => (hk _ (h.fL p hp)).trans (h.lev p hp)
    map := fun p hp => by obtain ⟨kv, h1, h2⟩ := h.map p hp; exact ⟨kv, h1.keep (hk _ (h.fM p hp)), h2⟩
    nod := fun p t hp => (hk _ (h.fN p t hp)).trans (h.nod p t hp)
    sub := fun p t hp => (h.sub p t hp).keep (hk _ (h.fS p t hp)) }
open Classical in
/-- One path more. -/
noncomputable def STrie.add (T : STrie) (q : Path) (l m a s : Nat) : STrie where
  N := fun x => T.N x ∨ x = q
  aL := fun x => if x = q then l else T.aL x
  aM := fun x => if x = q then m else T.aM x
  aN := fun x => if x = q then a else T.aN x
  aS := fun x => if x = q then s else T.aS x
  S := fun x => if x = q then [] else T.S x
theorem STrieOK.grow {T : STrie} {F : Nat → Prop} {w w' : World} {p : Path} {t : List UInt8} {l m a s : Nat} (h : STrieOK T F w) (hp : T.N p) (hnew : ¬ T.N (p ++ [t]))
    (hF : ∀ k, F k → k < w.heap.size) (hl : w.heap.size ≤ l) (hm : w.heap.size ≤ m) (_ha : w.heap.size ≤ a) (hs : w.heap.size ≤ s) (hms : m ≠ s)
    (hlev : w'.heap[T.aL p]? = some (.cells #[.map (some (T.aM p)), if t = [42] then .pointer (some ⟨a, 0, none⟩) else T.ptr (p ++ [[42]]), if t = [62] then .pointer (some ⟨a, 0, none⟩) else T.ptr (p ++ [[62]])] 279 (0, 0)))
    (hmap : ∃ kv, MapE w' (T.aM p) kv ∧ ∀ x v, (x, v) ∈ kv ↔ (∃ u, x = strV u ∧ u ≠ [42] ∧ u ≠ [62] ∧ T.N (p ++ [u]) ∧ v = .pointer (some ⟨T.aN (p ++ [u]), 0, none⟩)) ∨ (t ≠ [42] ∧ t ≠ [62] ∧ x = strV t ∧ v = .pointer (some ⟨a, 0, none⟩)))
    (hnod : w'.heap[a]? = some (.cells #[.pointer (some ⟨l, 0, none⟩), .map (some s), .map none, .slice none 0 0] 287 (0, 0))) (hsub : MapE w' s [])
    (hL : w'.heap[l]? = some (.cells #[.map (some m), .pointer none, .pointer none] 279 (0, 0))) (hM : MapE w' m [])
    (keep : ∀ k, F k → k ≠ T.aL p → k ≠ T.aM p → w'.heap[k]? = w.heap[k]?) :
    STrieOK (T.add (p ++ [t]) l m a s) (fun k => F k ∨ k = l ∨ k = m ∨ k = a ∨ k = s) w' := by
  have kid : ∀ u, ¬ T.N (p ++ [t] ++ [u]) := fun u hu => hnew (h.pref _ _ hu)
  have ne0 : ∀ x, T.N x → x ≠ p ++ [t] := fun x hx e => hnew (e ▸ hx)
  have ptrO : ∀ q : Path, q ≠ p ++ [t] → (T.add (p ++ [t]) l m a s).ptr q = T.ptr q := by
    intro q hq
    by_cases hN : T.N q
    · rw [STrie.ptr_yes hN, STrie.ptr_yes (T := T.add (p ++ [t]) l m a s) (.inl hN)]
      simp only [STrie.add, if_neg hq]
    · rw [STrie.ptr_no hN, STrie.ptr_no (T := T.add (p ++ [t]) l m a s) (by rintro (h | h); exact hN h; exact hq h)]
  have ptrN : (T.add (p ++ [t]) l m a s).ptr (p ++ [t]) = .pointer (some ⟨a, 0, none⟩) := by
    rw [STrie.ptr_yes (T := T.add (p ++ [t]) l m a s) (.inr rfl)]
    simp [STrie.add]
  have ptrK : ∀ u, (T.add (p ++ [t]) l m a s).ptr (p ++ [t] ++ [u]) = .pointer none := by
    intro u
    rw [ptrO _ (fun e => by have := congrArg List.length e; simp at this), STrie.ptr_no (kid u)]
  have kL : ∀ q, T.N q → q ≠ p → w'.heap[T.aL q]? = w.heap[T.aL q]? := fun q hq hne => keep _ (h.fL q hq) (fun e => hne (h.injL q p hq hp e)) (by
    obtain ⟨kv, h1, -⟩ := h.map p hp
    exact (h1.ne (h.lev q hq)).symm)
  have kM : ∀ q, T.N q → q ≠ p → w'.heap[T.aM q]? = w.heap[T.aM q]? := fun q hq hne => keep _ (h.fM q hq) (by
    obtain ⟨kv, h1, -⟩ := h.map q hq
    exact h1.ne (h.lev p hp)) (fun e => hne (h.injM q p hq hp e))
  have kN : ∀ q u, T.N (q ++ [u]) → w'.heap[T.aN (q ++ [u])]? = w.heap[T.aN (q ++ [u])]? := fun q u hq => keep _ (h.fN q u hq) (cells_ne (h.nod q u hq) (h.lev p hp) (by decide)) (by
    obtain ⟨kv, h1, -⟩ := h.map p hp
    exact (h1.ne (h.nod q u hq)).symm)
  have kS : ∀ q u, T.N (q ++ [u]) → w'.heap[T.aS (q ++ [u])]? = w.heap[T.aS (q ++ [u])]? := fun q u hq => keep _ (h.fS q u hq) ((h.sub q u hq).ne (h.lev p hp)) (fun e => h.injMS p _ hp hq (snoc_ne _ _) e.symm)
  have old : ∀ q, T.N q → (T.add (p ++ [t]) l m a s).aL q = T.aL q ∧ (T.add (p ++ [t]) l m a s).aM q = T.aM q ∧ (T.add (p ++ [t]) l m a s).aN q = T.aN q ∧ (T.add (p ++ [t]) l m a s).aS q = T.aS q ∧ (T.add (p ++ [t]) l m a s).S q = T.S q := by
    intro q hq
    simp only [STrie.add, if_neg (ne0 q hq), and_self]
  have new : (T.add (p ++ [t]) l m a s).aL (p ++ [t]) = l ∧ (T.add (p ++ [t]) l m a s).aM (p ++ [t]) = m ∧ (T.add (p ++ [t]) l m a s).aN (p ++ [t]) = a ∧ (T.add (p ++ [t]) l m a s).aS (p ++ [t]) = s ∧ (T.add (p ++ [t]) l m a s).S (p ++ [t]) = [] := by
    simp [STrie.add]
  have hpne : p ≠ p ++ [t] := fun e => by have := congrArg List.length e; simp at this
  refine ⟨.inl h.root, ?_, ?_, ?_, ?_, ?_, ?_, ?_, ?_, ?_, ?_, ?_, ?_, ?_⟩
  · rintro q u (hq | hq)
    · exact .inl (h.pref q u hq)
    · obtain ⟨rfl, rfl⟩ := snoc_inj hq; exact .inl hp
  · rintro q (hq | rfl)
    · obtain ⟨o1, o2, -⟩ := old q hq
      rw [o1, o2]
      by_cases hqp : q = p
      · subst hqp
        have e42 : (if t = [42] then Value.pointer (some ⟨a, 0, none⟩) else T.ptr (q ++ [[42]])) = (T.add (q ++ [t]) l m a s).ptr (q ++ [[42]]) := by
          by_cases ht : t = [42]
          · subst ht; rw [if_pos rfl, ptrN]
          · rw [if_neg ht, ptrO _ (fun e => ht (snoc_inj e).2.symm)]
        have e62 : (if t = [62] then Value.pointer (some ⟨a, 0, none⟩) else T.ptr (q ++ [[62]])) = (T.add (q ++ [t]) l m a s).ptr (q ++ [[62]]) := by
          by_cases ht : t = [62]
          · subst ht; rw [if_pos rfl, ptrN]
          · rw [if_neg ht, ptrO _ (fun e => ht (snoc_inj e).2.symm)]
        rw [hlev, e42, e62]
      · rw [kL q hq hqp, h.lev q hq, ptrO _ (fun e => hqp (snoc_inj e).1), ptrO _ (fun e => hqp (snoc_inj e).1)]
    · rw [new.1, new.2.1, ptrK, ptrK]; exact hL
  · rintro q (hq | rfl)
    · obtain ⟨-, o2, -⟩ := old q hq
      rw [o2]
      by_cases hqp : q = p
      · subst hqp
        obtain ⟨kv, h1, h2⟩ := hmap
        refine ⟨kv, h1, fun x v => ?_⟩
        rw [h2]
        constructor
        · rintro (⟨u, rfl, u1, u2, hu, rfl⟩ | ⟨t1, t2, rfl, rfl⟩)
          · exact ⟨u, rfl, u1, u2, .inl hu, by rw [(old _ hu).2.2.1]⟩
          · exact ⟨t, rfl, t1, t2, .inr rfl, by rw [new.2.2.1]⟩
        · rintro ⟨u, rfl, u1, u2, hu, rfl⟩
          rcases hu with hu | hu
          · exact .inl ⟨u, rfl, u1, u2, hu, by rw [(old _ hu).2.2.1]⟩
          · obtain ⟨-, rfl⟩ := snoc_inj hu
            exact .inr ⟨u1, u2, rfl, by rw [new.2.2.1]⟩
      · obtain ⟨kv, h1, h2⟩ := h.map q hq
        refine ⟨kv, h1.keep (kM q hq hqp), fun x v => ?_⟩
        rw [h2]
        constructor
        · rintro ⟨u, rfl, u1, u2, hu, rfl⟩
          exact ⟨u, rfl, u1, u2, .inl hu, by rw [(old _ hu).2.2.1]⟩
        · rintro ⟨u, rfl, u1, u2, hu, rfl⟩
          rcases hu with hu | hu
          · exact ⟨u, rfl, u1, u2, hu, by rw [(old _ hu).2.2.1]⟩
          · exact absurd (snoc_inj hu).1 hqp
    · rw [new.2.1]
      refine ⟨[], hM, fun x v => ⟨fun h => (by cases h), ?_⟩⟩
      rintro ⟨u, -, -, -, hu, -⟩
      rcases hu with hu | hu
      · exact absurd hu (kid u)
      · have := congrArg List.length hu; simp at this
  · rintro q u (hq | hq)
    · obtain ⟨o1, -, o3, o4, -⟩ := old _ hq
      rw [o1, o3, o4, kN q u hq]; exact h.nod q u hq
    · rw [hq, new.1, new.2.2.1, new.2.2.2.1]; exact hnod
  · rintro q u (hq | hq)
    · obtain ⟨-, -, -, o4, o5⟩ := old _ hq
      rw [o4, o5]
      exact (h.sub q u hq).keep (kS q u hq)
    · rw [hq, new.2.2.2.1, new.2.2.2.2]; exact hsub
  · rintro q r (hq | rfl) (hr | rfl) e
    · rw [(old q hq).1, (old r hr).1] at e; exact h.injL q r hq hr e
    · rw [(old q hq).1, new.1] at e; have := hF _ (h.fL q hq); omega
    · rw [new.1, (old r hr).1] at e; have := hF _ (h.fL r hr); omega
    · rfl
  · rintro q r (hq | rfl) (hr | rfl) e
    · rw [(old q hq).2.1, (old r hr).2.1] at e; exact h.injM q r hq hr e
    · rw [(old q hq).2.1, new.2.1] at e; have := hF _ (h.fM q hq); omega
    · rw [new.2.1, (old r hr).2.1] at e; have := hF _ (h.fM r hr); omega
    · rfl
  · rintro q r (hq | rfl) (hr | rfl) q0 r0 e
    · rw [(old q hq).2.2.2.1, (old r hr).2.2.2.1] at e; exact h.injS q r hq hr q0 r0 e
    · rw [(old q hq).2.2.2.1, new.2.2.2.1] at e
      obtain ⟨q', u, rfl⟩ := snoc_of q0
      have := hF _ (h.fS q' u hq); omega
    · rw [new.2.2.2.1, (old r hr).2.2.2.1] at e
      obtain ⟨r', u, rfl⟩ := snoc_of r0
      have := hF _ (h.fS r' u hr); omega
    · rfl
  · rintro q r (hq | rfl) (hr | rfl) r0 e
    · rw [(old q hq).2.1, (old r hr).2.2.2.1] at e; exact h.injMS q r hq hr r0 e
    · rw [(old q hq).2.1, new.2.2.2.1] at e
      have := hF _ (h.fM q hq); omega
    · rw [new.2.1, (old r hr).2.2.2.1] at e
      obtain ⟨r', u, rfl⟩ := snoc_of r0
      have := hF _ (h.fS r' u hr); omega
    · rw [new.2.1, new.2.2.2.1] at e; exact hms e
  · rintro q (hq | rfl)
    · rw [(old q hq).1]; exact .inl (h.fL q hq)
    · rw [new.1]; exact .inr (.inl rfl)
  · rintro q (hq | rfl)
    · rw [(old q hq).2.1]; exact .inl (h.fM q hq)
    · rw [new.2.1]; exact .inr (.inr (.inl rfl))
  · rintro q u (hq | hq)
    · rw [(old _ hq).2.2.1]; exact .inl (h.fN q u hq)
    · rw [hq, new.2.2.1]; exact .inr (.inr (.inr (.inl rfl)))
  · rintro q u (hq | hq)
    · rw [(old _ hq).2.2.2.1]; exact .inl (h.fS q u hq)
    · rw [hq, new.2.2.2.1]; exact .inr (.inr (.inr (.inr rfl)))
/-- A subscription more at a path. -/
noncomputable def STrie.fill (T : STrie) (q : Path) (b : Nat) : STrie := { T with S := open Classical in fun x => if x = q then T.S q ++ [b] else T.S x }
theorem subKV_snoc (l : List Nat) (b : Nat) : subKV (l ++ [b]) = subKV l ++ [(atBlk b, unitV)] := by unfold subKV; rw [List.map_append]; rfl
theorem STrieOK.fill {T : STrie} {F : Nat → Prop} {b : Nat} {w w' : World} {q : Path} (h : STrieOK T F w) (hq : T.N q) (q0 : q ≠ []) (hs : MapE w' (T.aS q) (subKV (T.S q ++ [b]))) (keep : ∀ k, F k → k ≠ T.aS q → w'.heap[k]? = w.heap[k]?) :
    STrieOK (T.fill q b) F w' := by
  have hp : ∀ x, (T.fill q b).ptr x = T.ptr x := fun x => rfl
  obtain ⟨q', u', rfl⟩ := snoc_of q0
  refine { root := h.root, pref := h.pref, lev := fun p hN => ?_, map := fun p hN => ?_, nod := fun p t hN => ?_, sub := fun p t hN => ?_, injL := h.injL, injM := h.injM, injS := h.injS, injMS := h.injMS, fL := h.fL, fM := h.fM, fN := h.fN, fS := h.fS }
  · rw [hp, hp]
    exact (keep _ (h.fL p hN) ((h.sub q' u' hq).ne (h.lev p hN)).symm).trans (h.lev p hN)
  · obtain ⟨kv, h1, h2⟩ := h.map p hN
    exact ⟨kv, h1.keep (keep _ (h.fM p hN) (h.injMS p _ hN hq q0)), h2⟩
  · exact (keep _ (h.fN p t hN) ((h.sub q' u' hq).ne (h.nod p t hN)).symm).trans (h.nod p t hN)
  · by_cases e : p ++ [t] = q' ++ [u']
    · show MapE w' (T.aS (p ++ [t])) (subKV (if p ++ [t] = q' ++ [u'] then T.S (q' ++ [u']) ++ [b] else T.S (p ++ [t])))
      rw [if_pos e, e]; exact hs
    · show MapE w' (T.aS (p ++ [t])) (subKV (if p ++ [t] = q' ++ [u'] then T.S (q' ++ [u']) ++ [b] else T.S (p ++ [t])))
      rw [if_neg e]
      exact (h.sub p t hN).keep (keep _ (h.fS p t hN) (fun x => e (h.injS _ _ hN hq (snoc_ne _ _) q0 x)))
end Go.Proofs.YtehlmjecbljafaaGreatDoor
namespace Go.Proofs.YtehlmjecbljafaaGreatDoor
open Go Go.RowKit
/-- The cells of a server's list, its lock free. -/
def slCells (root : Nat) (cache : Value) (g m h i r sw c : Int) : Array Value :=
  #[.int .i32 0, .int .u32 0, .int .u32 0, .int .u32 0, .int .i32 0, .int .i32 0, .int .u64 g, .int .u64 m, .int .u64 h, .int .u64 i, .int .u64 r, .pointer (some ⟨root, 0, none⟩), cache, .int .i32 sw, .int .u32 c]
theorem et116 : ET Tryz.prog 116 231 1 8 (.pointer none) := ⟨Tryz.underlying116, by kernel_rfl, rfl, by decide, by decide⟩
theorem z276 (w : World) : (zeroValue 277).run Tryz.prog w = .ok (.pointer none) w := by kernel_rfl
theorem info282 : (Tryz.prog.info? 282).map (·.size) = some 4 := by kernel_rfl
set_option maxRecDepth 100000 in
set_option maxHeartbeats 800000 in
theorem sLevel_any (w : World) : Calls Tryz.prog 138 #[] w fun e w' => e = .returned (.pointer (some ⟨w.heap.size + 1, 0, none⟩)) ∧ w' = (w.alloc (.map #[] 0)).alloc (.cells #[.map (some w.heap.size), .pointer none, .pointer none] 279) := by
  have hmm := @run_makeMap Tryz.prog
  go_enter Tryz.func138, Tryz.ntmps138
  go_wp2
  go_ret
  exact ⟨by simp, rfl⟩
set_option maxRecDepth 100000 in
set_option maxHeartbeats 800000 in
theorem sNode_any (w : World) : Calls Tryz.prog 185 #[] w fun e w' => e = .returned (.pointer (some ⟨w.heap.size + 1, 0, none⟩)) ∧ w' = (w.alloc (.map #[] 0)).alloc (.cells #[.pointer none, .map (some w.heap.size), .map none, .slice none 0 0] 287) := by
  have hmm := @run_makeMap Tryz.prog
  go_enter Tryz.func185, Tryz.ntmps185
  go_wp2
  go_ret
  exact ⟨by simp, rfl⟩
theorem sLevel_abs (w : World) : Calls Tryz.prog 138 #[] w fun e w' => ∃ l m, e = .returned (.pointer (some ⟨l, 0, none⟩)) ∧ w.heap.size ≤ l ∧ w.heap.size ≤ m ∧ w'.heap[l]? = some (.cells #[.map (some m), .pointer none, .pointer none] 279 (0, 0)) ∧
    MapE w' m [] ∧ Below w.heap.size w w' := by
  refine (sLevel_any w).mono ?_
  rintro e w' ⟨rfl, rfl⟩
  have h := heap_alloc_new (w.alloc (.map #[] 0)) (.cells #[.map (some w.heap.size), .pointer none, .pointer none] 279)
  have hz : (w.alloc (.map #[] 0)).heap.size = w.heap.size + 1 := by simp
  rw [hz] at h
  exact ⟨_, w.heap.size, rfl, by omega, Nat.le_refl _, h, (MapE.made w).keep (((Below.refl _ _).alloc (Nat.le_refl _) _).block _ (by rw [hz]; omega)), ((Below.refl _ w).alloc (Nat.le_refl _) _).alloc (by rw [hz]; omega) _⟩
theorem sNode_abs (w : World) : Calls Tryz.prog 185 #[] w fun e w' => ∃ a s, e = .returned (.pointer (some ⟨a, 0, none⟩)) ∧ w.heap.size ≤ a ∧ w.heap.size ≤ s ∧ w'.heap[a]? = some (.cells #[.pointer none, .map (some s), .map none, .slice none 0 0] 287 (0, 0)) ∧
    MapE w' s [] ∧ Below w.heap.size w w' := by
  refine (sNode_any w).mono ?_
  rintro e w' ⟨rfl, rfl⟩
  have h := heap_alloc_new (w.alloc (.map #[] 0)) (.cells #[.pointer none, .map (some w.heap.size), .map none, .slice none 0 0] 287)
  have hz : (w.alloc (.map #[] 0)).heap.size = w.heap.size + 1 := by simp
  rw [hz] at h
  exact ⟨_, w.heap.size, rfl, by omega, Nat.le_refl _, h, (MapE.made w).keep (((Below.refl _ _).alloc (Nat.le_refl _) _).block _ (by rw [hz]; omega)), ((Below.refl _ w).alloc (Nat.le_refl _) _).alloc (by rw [hz]; omega) _⟩
/-- A new list: where it lies, its level, its map, its cache. -/
def SlNew (cache : Bool) (w : World) (e : Ending) (w' : World) : Prop := ∃ b l m cm, e = .returned (.pointer (some ⟨b, 0, none⟩)) ∧ w'.heap[b]? = some (.cells (slCells l (.map cm) 0 0 0 0 0 0 0) 229 (0, 0)) ∧ w'.heap[l]? = some (.cells #[.map (some m), .pointer none, .pointer none] 279 (0, 0)) ∧ MapE w' m [] ∧
  (cache = false → cm = none) ∧ (cache = true → ∃ c, cm = some c) ∧ (∀ c, cm = some c → MapE w' c [] ∧ w.heap.size ≤ c ∧ c ≠ m ∧ c ≠ l ∧ c ≠ b) ∧ w.heap.size ≤ b ∧ w.heap.size ≤ l ∧ w.heap.size ≤ m ∧ Below w.heap.size w w'
set_option maxRecDepth 100000 in
set_option maxHeartbeats 1600000 in
theorem sNew_any (cache : Bool) (w : World) : Calls Tryz.prog 102 #[.bool cache] w (SlNew cache w) := by
  have hmm := @run_makeMap Tryz.prog
  cases cache
  · go_enter Tryz.func102, Tryz.ntmps102
    go_wp2_with fail
    refine (sLevel_abs w).mono ?_
    rintro e w1 ⟨l, m, rfl, hl1, hm1, hl, hm, hb⟩
    go_wp2
    go_ret
    have hz := hb.size
    have hll := (Array.getElem?_eq_some_iff.1 hl).1
    have hml := hm.lt
    have hbb := heap_alloc_new w1 (.cells (slCells l (.map none) 0 0 0 0 0 0 0) 229)
    have hbel := (Below.refl w1.heap.size w1).alloc (Nat.le_refl _) (.cells (slCells l (.map none) 0 0 0 0 0 0 0) 229)
    exact ⟨w1.heap.size, l, m, none, rfl, hbb, (hbel.block l hll).trans hl, hm.keep (hbel.block m hml), fun _ => rfl, (fun h => by cases h), (fun c h => by cases h), by omega, hl1, hm1, bel2 hb hbel⟩
  · go_enter Tryz.func102, Tryz.ntmps102
    go_wp2_with fail
    refine (sLevel_abs w).mono ?_
    rintro e w1 ⟨l, m, rfl, hl1, hm1, hl, hm, hb⟩
    go_wp2
    go_ret
    have hz := hb.size
    have hll := (Array.getElem?_eq_some_iff.1 hl).1
    have hml := hm.lt
    have hz2 : (w1.alloc (.map #[] 0)).heap.size = w1.heap.size + 1 := by simp
    have hbb := heap_alloc_new (w1.alloc (.map #[] 0)) (.cells (slCells l (.map (some w1.heap.size)) 0 0 0 0 0 0 0) 229)
    have hbel := ((Below.refl w1.heap.size w1).alloc (Nat.le_refl _) (.map #[] 0)).alloc (by rw [hz2]; omega) (.cells (slCells l (.map (some w1.heap.size)) 0 0 0 0 0 0 0) 229)
    have hcm := (MapE.made w1).keep (((Below.refl _ (w1.alloc (.map #[] 0))).alloc (Nat.le_refl _) (.cells (slCells l (.map (some w1.heap.size)) 0 0 0 0 0 0 0) 229)).block w1.heap.size (by rw [hz2]; omega))
    rw [hz2] at hbb
    refine ⟨w1.heap.size + 1, l, m, some w1.heap.size, by simp, hbb, (hbel.block l hll).trans hl, hm.keep (hbel.block m hml), (fun h => by cases h), (fun _ => ⟨_, rfl⟩), (fun c h => by cases h; exact ⟨hcm, by omega, by omega, by omega, by omega⟩), by omega, hl1, hm1, bel2 hb hbel⟩
/-- Block a is a subscription of a subject, in no queue; it and its text lie from B on. -/
def SubAt (w : World) (B a : Nat) (s : ByteArray) : Prop := B ≤ a ∧ ∃ g cap, B ≤ g ∧ w.heap[a]? = some (.cells #[.pointer none, .slice (some ⟨g, 0, none⟩) s.size cap, .slice none 0 0, .int .i32 0] 282 (0, 0)) ∧ BsAt w g 0 (bs s) ∧ s.size ≤ cap ∧ cap ≤ maxLen
theorem SubAt.only {F : Nat → Prop} {w w' : World} {B a : Nat} {s : ByteArray} (h : SubAt w B a s) (ho : Only F w w') (hF : ∀ k, F k → k < B) : SubAt w' B a s := by
  obtain ⟨hB, g, cap, hg, h1, h2, h3, h4⟩ := h
  refine ⟨hB, g, cap, hg, (ho.block a (Array.getElem?_eq_some_iff.1 h1).1 (fun h => by have := hF a h; omega)).trans h1, fun j c hj => cell_only (h2 j c hj) ho (fun h => by have := hF g h; omega), h3, h4⟩
theorem SubAt.keep {w w' : World} {B a : Nat} {s : ByteArray} (h : SubAt w B a s) (hb : Below w.heap.size w w') : SubAt w' B a s := h.only (F := fun _ => False) (Only.of hb) (fun _ h => h.elim)
theorem SubAt.mono {w : World} {B B' a : Nat} {s : ByteArray} (h : SubAt w B a s) (hB : B' ≤ B) : SubAt w B' a s := by
  obtain ⟨h0, g, cap, h1, h2⟩ := h; exact ⟨by omega, g, cap, by omega, h2⟩
theorem SubAt.lt {w : World} {B a : Nat} {s : ByteArray} (h : SubAt w B a s) : a < w.heap.size := by obtain ⟨-, g, cap, -, h1, -⟩ := h; exact (Array.getElem?_eq_some_iff.1 h1).1
set_option maxRecDepth 100000 in
set_option maxHeartbeats 1600000 in
theorem newSub_any (s : ByteArray) (w : World) (hs : s.size ≤ 100000) : Calls Tryz.prog 188 #[.string s, .string ⟨#[]⟩] w fun e w' => ∃ a, e = .returned (atBlk a) ∧ SubAt w' w.heap.size a s ∧ Below w.heap.size w w' := by
  have hcv := fun (w : World) (s : ByteArray) => conv_bytes w s
  go_enter Tryz.func188, Tryz.ntmps188
  go_wp2
  go_ret
  have hb := bytesWorld_below w s
  have hz := hb.size
  have hal := (Below.refl (Lib.bytesWorld w 5 s).heap.size (Lib.bytesWorld w 5 s)).alloc (Nat.le_refl _) (.cells #[.pointer none, .slice (some ⟨w.heap.size, 0, none⟩) s.size (grownCap w s.size 0 5), .slice none 0 0, .int .i32 0] 282)
  exact ⟨_, rfl, ⟨hz, w.heap.size, grownCap w s.size 0 5, Nat.le_refl _, heap_alloc_new _ _, (bytesWorld_at w s).bel hal, grownCap_ge w _ _ _, grownCap_le_maxLen w _ _ _ (by unfold maxLen; omega)⟩, bel2 hb hal⟩
/-- append(v, x): v's row is what it was, or a new one. -/
theorem wpList_appZ {P : Program} {ops : Array Oper} {rest : List Oper} {o : Oper} {a : Act} {Q : Exit → Act → World → Prop} {W : World} {T E sz bytes : Nat} {z : Value} (et : ET P T E sz bytes z) (hgd : o.guard = none) (s x : Operand)
    (ho : o.op = .call { callee := .builtin .append, args := #[s, x], argTypes := #[T, T] })
    (B : Nat) {v : Value} {n : Nat} {xs : List Value} (hs : a.eval s = v) (hown : Own W B sz v n xs)
    (news : List Value) (hx : a.eval x = .slice (some ⟨W.heap.size, 0, none⟩) 1 1) (hl : news.length = sz) (h1 : ∀ u ∈ news, u.oneCell' = true)
    (hsm : n < 549755813888) (hbase : B ≤ W.heap.size)
    (h : ∀ v' w', Own w' B sz v' (n + 1) (xs ++ news) → (∀ k, v'.ownBlock = some k → v.ownBlock = some k ∨ W.heap.size ≤ k) → Only (fun k => v.ownBlock = some k) W w' → wpList P ops Q rest (a.put o.dst v') w') : wpList P ops Q (o :: rest) a (W.alloc (.cells news.toArray E)) :=
  wpList_appX et hgd s x ho B (fun k => k < W.heap.size ∧ v.ownBlock ≠ some k) hs hown (fun k hk hF => hF.2 hk) (fun k hk => hk.1) news hx hl h1 hsm hbase fun v' w' k1 k2 k3 => h v' w' k1 (fun k hk => by
    have := k2 k hk
    by_cases e : v.ownBlock = some k
    · exact .inl e
    · exact .inr (Nat.le_of_not_lt fun hlt => this ⟨hlt, e⟩)) k3
theorem runs_appZ {P : Program} {o : Oper} {a : Act} {K : Value → World → Prop} {W : World} {T E sz bytes : Nat} {z : Value} (et : ET P T E sz bytes z) (s x : Operand)
    (ho : o.op = .call { callee := .builtin .append, args := #[s, x], argTypes := #[T, T] })
    (B : Nat) {v : Value} {n : Nat} {xs : List Value} (hs : a.eval s = v) (hown : Own W B sz v n xs)
    (news : List Value) (hx : a.eval x = .slice (some ⟨W.heap.size, 0, none⟩) 1 1) (hl : news.length = sz) (h1 : ∀ u ∈ news, u.oneCell' = true)
    (hsm : n < 549755813888) (hbase : B ≤ W.heap.size)
    (h : ∀ v' w', Own w' B sz v' (n + 1) (xs ++ news) → (∀ k, v'.ownBlock = some k → v.ownBlock = some k ∨ W.heap.size ≤ k) → Only (fun k => v.ownBlock = some k) W w' → K v' w') : runsTo P K ((execOp a.eval o).run P (W.alloc (.cells news.toArray E))) :=
  runs_appX et s x ho B (fun k => k < W.heap.size ∧ v.ownBlock ≠ some k) hs hown (fun k hk hF => hF.2 hk) (fun k hk => hk.1) news hx hl h1 hsm hbase fun v' w' k1 k2 k3 => h v' w' k1 (fun k hk => by
    have := k2 k hk
    by_cases e : v.ownBlock = some k
    · exact .inl e
    · exact .inr (Nat.le_of_not_lt fun hlt => this ⟨hlt, e⟩)) k3
/-- What a script keeps: its list, the numbers and the subscriptions. -/
structure PlayAt (w : World) (P b : Nat) (vi vs : Value) (ids : List Int) (subs : List Nat) : Prop where
  row : w.heap[P]? = some (.cells #[.pointer (some ⟨b, 0, none⟩), vi, vs] 118 (0, 0))
  own1 : Own w (P + 1) 1 vi ids.length (ints ids)
  own2 : Own w (P + 1) 1 vs subs.length (subs.map atBlk)
  ne : ∀ k, vi.ownBlock = some k → vs.ownBlock ≠ some k
  len : ids.length = subs.length
/-- The blocks of a script. -/
def PB (P : Nat) (vi vs : Value) (k : Nat) : Prop := k = P ∨ vi.ownBlock = some k ∨ vs.ownBlock = some k
theorem PlayAt.keepIf {w w' : World} {P b : Nat} {vi vs : Value} {ids : List Int} {subs : List Nat} (h : PlayAt w P b vi vs ids subs) (hk : ∀ k, PB P vi vs k → w'.heap[k]? = w.heap[k]?) : PlayAt w' P b vi vs ids subs :=
  ⟨(hk P (.inl rfl)).trans h.row, h.own1.kept fun k e => hk k (.inr (.inl e)), h.own2.kept fun k e => hk k (.inr (.inr e)), h.ne, h.len⟩
theorem PlayAt.lt {w : World} {P b : Nat} {vi vs : Value} {ids : List Int} {subs : List Nat} (h : PlayAt w P b vi vs ids subs) {k : Nat} (hk : PB P vi vs k) : P ≤ k ∧ k < w.heap.size := by
  rcases hk with rfl | hk | hk
  · exact ⟨Nat.le_refl _, (Array.getElem?_eq_some_iff.1 h.row).1⟩
  · have := h.own1.lt k hk; omega
  · have := h.own2.lt k hk; omega
theorem PlayAt.keep {w w' : World} {P b : Nat} {vi vs : Value} {ids : List Int} {subs : List Nat} (h : PlayAt w P b vi vs ids subs) (hb : Below w.heap.size w w') : PlayAt w' P b vi vs ids subs := h.keepIf fun k hk => hb.block k (h.lt hk).2
end Go.Proofs.YtehlmjecbljafaaGreatDoor
namespace Go.Proofs.YtehlmjecbljafaaGreatDoor
open Go Go.RowKit
set_option maxRecDepth 100000 in
set_option maxHeartbeats 1600000 in
theorem playSub_any (P b : Nat) (vi vs : Value) (ids : List Int) (subs : List Nat) (s : ByteArray) (x : Int) (w : World) (h : PlayAt w P b vi vs ids subs) (hx : x ∉ ids) (hs : s.size ≤ 100000) (hn : ids.length ≤ 1000000) :
    Calls Tryz.prog 142 #[.pointer (some ⟨P, 0, none⟩), .agg #[.string s, .string ⟨#[]⟩, .int .i64 x]] w fun e w' => ∃ a, e = .returned (atBlk a) ∧ SubAt w' w.heap.size a s ∧ Below w.heap.size w w' := by
  have HP := Lib.hid h; clear h
  have HX := Lib.hid hx; clear hx
  obtain ⟨ia, ic, hvi, -⟩ := HP.out.own1.form
  obtain ⟨sa, sc, hvs, -⟩ := HP.out.own2.form
  subst hvi hvs
  go_enter Tryz.func142, Tryz.ntmps142
  go_wp2
  go_loopw [5] (fun i wr => ∃ k : Nat, k ≤ ids.length ∧ i = .int .i64 k ∧ wr.heap[w.heap.size]? = some (.cells #[.string s, .string ⟨#[]⟩, .int .i64 x] 52 (0, 0)) ∧ Below w.heap.size w wr) (fun i _ => ids.length - (intOf i).toNat)
  case atStart => exact ⟨0, Nat.zero_le _, rfl, heap_alloc_new _ _, (Below.refl _ w).alloc (Nat.le_refl _) _⟩
  case round =>
    obtain ⟨k, hk, rfl, hbox, hb⟩ := hrel
    have hp := HP.out.keep hb
    have hrow := hp.row
    have c0 := (cell_row (j := 1) hrow).trans (show _ = some (Value.slice ia ids.length ic) from rfl)
    have cb0 := (cell_row (j := 0) hbox).trans (show _ = some (Value.string s) from rfl)
    have cb1 := (cell_row (j := 1) hbox).trans (show _ = some (Value.string ⟨#[]⟩) from rfl)
    have cb2 := (cell_row (j := 2) hbox).trans (show _ = some (Value.int .i64 x) from rfl)
    by_cases hlt : k < ids.length
    · obtain ⟨g, o, y, rfl, Hy, cy, -⟩ := hp.own1.sl.int (Below.refl _ _) hlt
      have hne : (y == x) = false := by
        rw [beq_eq_false_iff_ne]; rintro rfl; exact HX.out (List.mem_of_getElem? Hy.out)
      clear hp hrow
      go_wp2
      go_quiet (fail)
      go_wp2
      go_roundw
      case rel => exact ⟨k + 1, hlt, by go_num, hbox, below_drewN hb nq⟩
      case measure => simp [intOf]; omega
    · clear hp hrow
      go_wp2_with fail
      refine (newSub_any s wr hs).mono ?_
      rintro e w2 ⟨a, rfl, hsub, hb2⟩
      have HS := Lib.hid hsub; clear hsub
      go_wp2
      go_ret
      exact ⟨a, rfl, HS.out.mono hb.size, bel2 hb hb2⟩
set_option maxRecDepth 100000 in
set_option maxHeartbeats 3200000 in
theorem playPut_any (P b : Nat) (vi vs : Value) (ids : List Int) (subs : List Nat) (s : ByteArray) (x : Int) (w : World) (h : PlayAt w P b vi vs ids subs) (hx : x ∉ ids) (hs : s.size ≤ 100000) (hn : ids.length ≤ 1000000) :
    Calls Tryz.prog 140 #[.pointer (some ⟨P, 0, none⟩), .agg #[.string s, .string ⟨#[]⟩, .int .i64 x]] w fun e w' => ∃ a vi' vs', e = .returned (atBlk a) ∧ SubAt w' w.heap.size a s ∧ PlayAt w' P b vi' vs' (ids ++ [x]) (subs ++ [a]) ∧
      Only (PB P vi vs) w w' ∧ (∀ k, PB P vi' vs' k → PB P vi vs k ∨ w.heap.size ≤ k) ∧ ¬ PB P vi' vs' a := by
  have HP := Lib.hid h; clear h
  have HX := Lib.hid hx; clear hx
  obtain ⟨ia, ic, hvi, -⟩ := HP.out.own1.form
  obtain ⟨sa, sc, hvs, -⟩ := HP.out.own2.form
  have hPl := (Array.getElem?_eq_some_iff.1 HP.out.row).1
  subst hvi hvs
  go_enter Tryz.func140, Tryz.ntmps140
  go_wp2_with fail
  have hb0 := (Below.refl w.heap.size w).alloc (Nat.le_refl _) (.cells #[.string s, .string ⟨#[]⟩, .int .i64 x] 52)
  refine (playSub_any P b _ _ ids subs s x _ (HP.out.keep hb0) HX.out hs hn).mono ?_
  rintro e w1 ⟨a, rfl, hsub, hb1⟩
  have hz0 : (w.alloc (.cells #[.string s, .string ⟨#[]⟩, .int .i64 x] 52)).heap.size = w.heap.size + 1 := by simp
  have ha := hsub.1
  rw [hz0] at ha
  have hbox1 := (hb1.block w.heap.size (by rw [hz0]; omega)).trans (heap_alloc_new w (.cells #[.string s, .string ⟨#[]⟩, .int .i64 x] 52))
  have hbw := bel2 hb0 hb1
  have HS := Lib.hid (hsub.mono (B' := w.heap.size) (by rw [hz0]; omega)); clear hsub
  have hsl := HS.out.lt
  clear hb0 hb1 hz0
  go_wp2
  go_loopw [6] (fun i wr => ∃ k : Nat, k ≤ ids.length ∧ i = .int .i64 k ∧ (∀ j : Nat, wr.heap[j]? = w1.heap[j]?) ∧ wr.heap.size = w1.heap.size ∧ Below w1.heap.size w1 wr) (fun i _ => ids.length - (intOf i).toNat)
  case atStart => exact ⟨0, Nat.zero_le _, rfl, fun _ => rfl, rfl, Below.refl _ _⟩
  case round =>
    obtain ⟨k, hk, rfl, hbm', hzm, hbm⟩ := hrel
    have HW := Lib.hid (And.intro hbm' hzm)
    have hb := bel2 hbw hbm
    have hp := HP.out.keep hb
    have hrow := hp.row
    have hbox := (hbm' w.heap.size).trans hbox1
    have c0 := (cell_row (j := 1) hrow).trans (show _ = some (Value.slice ia ids.length ic) from rfl)
    have c00 := (cell_row (j := 0) hrow).trans (show _ = some (Value.pointer (some ⟨b, 0, none⟩)) from rfl)
    have cb2 := (cell_row (j := 2) hbox).trans (show _ = some (Value.int .i64 x) from rfl)
    have hzb := hbw.size
    by_cases hlt : k < ids.length
    · obtain ⟨g, o, y, rfl, Hy, cy, -⟩ := hp.own1.sl.int (Below.refl _ _) hlt
      have hne : (y == x) = false := by
        rw [beq_eq_false_iff_ne]; rintro rfl; exact HX.out (List.mem_of_getElem? Hy.out)
      clear hp hrow hbm' hzm
      go_wp2
      go_quiet (fail)
      go_wp2
      go_roundw
      case rel => exact ⟨k + 1, hlt, by go_num, HW.out.1, HW.out.2, below_drewN hbm nq⟩
      case measure => simp [intOf]; omega
    · have hf1 := frozen_row (j := 1) hrow
      have hf2 := frozen_row (j := 2) hrow
      have Hp := Lib.hid hp; clear hp
      have Hb := Lib.hid hb; clear hb
      have hbase : P + 1 ≤ wr.heap.size := by omega
      have hsn : ids.length < 549755813888 := by omega
      have hsn2 : subs.length < 549755813888 := by have := HP.out.len; omega
      have hzm2 : w1.heap.size ≤ wr.heap.size := by omega
      clear hbm' hzm
      have HS0 : ∀ o, (fun W' : World => W'.cell? ⟨P, 1, none⟩ = some (.slice ia ids.length ic) ∧ W'.cell? ⟨w.heap.size, 2, none⟩ = some (.int .i64 x)) (wr.drew.alloc o) := fun o => ⟨cell_alloc o c0, cell_alloc o cb2⟩
      have nP : ∀ j, (Value.slice ia ids.length ic).ownBlock = some j → j ≠ P := fun j hj e => by have := (Hp.out.own1.lt j hj).1; omega
      have nB : ∀ j, (Value.slice ia ids.length ic).ownBlock = some j → j ≠ w.heap.size := fun j hj e => by
        have := (HP.out.own1.lt j hj).2; omega
      have hPr : P < wr.heap.size := by omega
      go_wp2_with fail
      refine wp_region_L [0, 1, 2, 3, 4, 5, 6, 9, 10] (fun W' => W'.cell? ⟨P, 1, none⟩ = some (.slice ia ids.length ic) ∧ W'.cell? ⟨w.heap.size, 2, none⟩ = some (.int .i64 x)) (by kernel_rfl) (by kernel_rfl) ⟨c0, cb2⟩ (fun ne => ?_)
      have S0 := fun y : SubC (fun W' => W'.cell? ⟨P, 1, none⟩ = some (.slice ia ids.length ic) ∧ W'.cell? ⟨w.heap.size, 2, none⟩ = some (.int .i64 x)) => y.ok.1
      have S1 := fun y : SubC (fun W' => W'.cell? ⟨P, 1, none⟩ = some (.slice ia ids.length ic) ∧ W'.cell? ⟨w.heap.size, 2, none⟩ = some (.int .i64 x)) => y.ok.2
      repeat (refine wpCL_q rfl rfl ?_; go_big_quiet_step (fail); refine wpQuiet_nil ?_)
      refine wpCL_n rfl rfl rfl rfl ?_
      go_simp
      repeat (refine wpCL_q rfl rfl ?_; go_big_quiet_step (fail); refine wpQuiet_nil ?_)
      refine wpCL_w rfl rfl ?_
      go_wp2_with fail
      refine ⟨⟨⟨_, HS0 _⟩, rfl⟩, ?_⟩
      refine wpCL_ch rfl rfl (fun K hK => ?_)
      refine runs_appZ (W := wr.drew) (v := .slice ia ids.length ic) et33 _ _ rfl (P + 1) rfl (Hp.out.own1.keep (Below.refl _ wr).drew) [.int .i64 x] rfl rfl (by simp [Value.oneCell']) hsn (by exact hbase) ?_
      intro v1 w2 hown1 hF1 honly
      have honly1 := honly.drewL
      clear honly
      have k0 := cell_only c0 honly1 (fun h => nP P h rfl)
      have k1 := cell_only cb2 honly1 (fun h => nB _ h rfl)
      refine hK _ _ ⟨⟨w2, k0, k1⟩, rfl⟩ ?_
      clear hK K
      have kh := (honly1.block P hPr (fun h => nP P h rfl)).trans hrow
      have c2 := (cell_row (j := 2) kh).trans (show _ = some (Value.slice sa subs.length sc) from rfl)
      have kf := frozen_row (j := 1) kh
      have hz2 := honly1.size
      obtain ⟨va', vc', rfl, -⟩ := hown1.form
      have hs1 := heap_setCell_same w2 P 1 _ 118 (.slice va' (ids.length + 1) vc') kh
      have ho2 : Own (w2.setCell ⟨P, 1, none⟩ (.slice va' (ids.length + 1) vc')) (P + 1) 1 (.slice sa subs.length sc) subs.length (subs.map atBlk) :=
        Hp.out.own2.kept fun j hj => by
          have hj2 := Hp.out.own2.lt j hj
          rw [heap_setCell_other _ _ _ _ (by show j ≠ P; omega)]
          exact honly1.block j (by omega) (fun e => HP.out.ne j e hj)
      have hsz : (w2.setCell ⟨P, 1, none⟩ (.slice va' (ids.length + 1) vc')).heap.size = w2.heap.size := size_setCell _ _ _
      have HO1 := Lib.hid (And.intro hown1 (And.intro hF1 honly1)); clear hown1 hF1 honly1
      go_simp
      refine wpCL_n rfl rfl rfl rfl ?_
      go_simp
      repeat (refine wpCL_q rfl rfl ?_; go_big_quiet_step (fail); refine wpQuiet_nil ?_)
      refine wpCL_last ?_
      have hfr2 : (w2.setCell ⟨P, 1, none⟩ (.slice va' (ids.length + 1) vc')).frozen? ⟨P, 2, none⟩ = false := frozen_row hs1
      go_wp2_with (at_builtin; go_must (refine wpList_appZ et116 rfl _ _ rfl (P + 1) rfl ho2 [.pointer (some ⟨a, 0, none⟩)] (by rw [hsz]; rfl) rfl (by simp [Value.oneCell']) (by omega) (by rw [hsz]; omega) ?_); intro v2 w3 hown2 hF2 hon2; obtain ⟨vb', vd', rfl, -⟩ := hown2.form; have kh3 := (hon2.block P (by rw [hsz]; omega) (fun e => by have := (Hp.out.own2.lt P e).1; omega)).trans hs1; have kc3 := (cell_row (j := 2) kh3).trans (show _ = some (Value.slice sa subs.length sc) from rfl); have kf3 := frozen_row (j := 2) kh3; have HO2 := Lib.hid (And.intro hown2 (And.intro hF2 hon2)); clear hown2 hF2 hon2)
      go_ret
      obtain ⟨o1, f1, n1⟩ := HO1.out
      obtain ⟨o2, f2, n2⟩ := HO2.out
      have hs3 := heap_setCell_same w3 P 2 _ 118 (.slice vb' (subs.length + 1) vd') kh3
      have hbig : w1.heap.size ≤ w2.heap.size := by omega
      have nv1 : ∀ j, (Value.slice va' (ids.length + 1) vc').ownBlock = some j → j ≠ P ∧ (Value.slice sa subs.length sc).ownBlock ≠ some j := fun j hj => by
        have hj1 := o1.lt j hj
        refine ⟨by omega, fun e => ?_⟩
        have hj2 := Hp.out.own2.lt j e
        rcases f1 j hj with h | h
        · exact HP.out.ne j h e
        · have : wr.drew.heap.size = wr.heap.size := rfl
          omega
      have hbl : ∀ j, j ≠ P → j < w2.heap.size → (Value.slice sa subs.length sc).ownBlock ≠ some j → (w3.setCell ⟨P, 2, none⟩ (.slice vb' (subs.length + 1) vd')).heap[j]? = w2.heap[j]? := fun j h1 h2 h3 => by
        rw [heap_setCell_other _ _ _ _ h1, n2.block j (by rw [hsz]; exact h2) h3, heap_setCell_other _ _ _ _ h1]
      have hvs0 : ∀ j, (Value.slice sa subs.length sc).ownBlock = some j → P + 1 ≤ j ∧ j < w.heap.size := fun j hj => HP.out.own2.lt j hj
      have hvi0 : ∀ j, (Value.slice ia ids.length ic).ownBlock = some j → P + 1 ≤ j ∧ j < w.heap.size := fun j hj => HP.out.own1.lt j hj
      have hon : Only (PB P (.slice ia ids.length ic) (.slice sa subs.length sc)) w (w3.setCell ⟨P, 2, none⟩ (.slice vb' (subs.length + 1) vd')) := by
        have q1 : Only (PB P (.slice ia ids.length ic) (.slice sa subs.length sc)) w wr := Only.of Hb.out
        have q2 := q1.trans (n1.mono (F' := PB P (.slice ia ids.length ic) (.slice sa subs.length sc)) fun k hk => .inr (.inl hk)) fun k hk => .inl hk
        have q3 := q2.set (b := P) (i := 1) (.inl (.inl rfl)) (.slice va' (ids.length + 1) vc')
        have q4 := q3.trans (n2.mono (F' := PB P (.slice ia ids.length ic) (.slice sa subs.length sc)) fun k hk => .inr (.inr hk)) fun k hk => .inl hk
        exact q4.set (b := P) (i := 2) (.inl (.inl rfl)) _
      have hon1 : Only (fun k => k < w.heap.size) w1 (w3.setCell ⟨P, 2, none⟩ (.slice vb' (subs.length + 1) vd')) := by
        have q1 : Only (fun k => k < w.heap.size) w1 wr := ⟨hbm.os, hbm.tape, hbm.output, hbm.size, fun k hk _ => hbm.block k hk⟩
        have q2 := q1.trans (n1.mono (F' := fun k => k < w.heap.size) fun k hk => (hvi0 k hk).2) fun k hk => .inl hk
        have q3 := q2.set (b := P) (i := 1) (.inl hPl) (.slice va' (ids.length + 1) vc')
        have q4 := q3.trans (n2.mono (F' := fun k => k < w.heap.size) fun k hk => (hvs0 k hk).2) fun k hk => .inl hk
        exact q4.set (b := P) (i := 2) (.inl hPl) _
      have hz3 := n2.size
      rw [hsz] at hz3
      refine ⟨a, .slice va' (ids.length + 1) vc', .slice vb' (subs.length + 1) vd', rfl, HS.out.only hon1 (fun k hk => hk), ⟨?_, ?_, ?_, ?_, ?_⟩, hon, ?_, ?_⟩
      · exact hs3
      · rw [List.length_append]
        have : ints (ids ++ [x]) = ints ids ++ [.int .i64 x] := by unfold ints; rw [List.map_append]; rfl
        rw [this]
        exact o1.kept fun j hj => hbl j (nv1 j hj).1 (o1.lt j hj).2 (nv1 j hj).2
      · rw [List.length_append, List.map_append]
        exact o2.kept fun j hj => heap_setCell_other _ _ _ _ (by have := (o2.lt j hj).1; show j ≠ P; omega)
      · intro j hj hj2
        rcases f2 j hj2 with h | h
        · exact (nv1 j hj).2 h
        · rw [hsz] at h; have := (o1.lt j hj).2; omega
      · rw [List.length_append, List.length_append, HP.out.len]; rfl
      · rintro j (rfl | hj | hj)
        · exact .inl (.inl rfl)
        · rcases f1 j hj with h | h
          · exact .inl (.inr (.inl h))
          · have : wr.drew.heap.size = wr.heap.size := rfl
            exact .inr (by omega)
        · rcases f2 j hj with h | h
          · exact .inl (.inr (.inr h))
          · rw [hsz] at h; exact .inr (by omega)
      · rintro (e | hj | hj)
        · omega
        · rcases f1 a hj with h | h
          · have := (hvi0 a h).2; omega
          · have : wr.drew.heap.size = wr.heap.size := rfl
            omega
        · rcases f2 a hj with h | h
          · have := (hvs0 a h).2; omega
          · rw [hsz] at h; omega
end Go.Proofs.YtehlmjecbljafaaGreatDoor
