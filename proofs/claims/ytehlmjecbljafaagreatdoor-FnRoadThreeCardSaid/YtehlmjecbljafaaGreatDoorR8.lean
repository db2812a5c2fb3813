/- Plain words: a filter is cut into parts at its wildcards, and a matching text runs through them. The list of interest: an insertion. The server's own tokens and subset match. DERIVED: THE SHELF's CONTRACTS AT THIS DUMP, IN PLAIN WORDS (tools/lay-plain.mjs out of 'TryzShelf.lean', which tools/lay-shelf.mjs wrote): THE SAME DECLARATIONS UNDER THE SAME NAMES: 'import', 'namespace', 'open', 'def', 'theorem' AND NOTHING ELSE: no command of the shelf's: FOR A HAND-IN. Each laying: the table of numbers ('.._ren') and one theorem, a field a fact of the dump's own or the kernel's comparison; each contract: ONE APPLICATION. strings.Builder's writers at this program: the shelf's proofs, turned to this program's numbers. The server's subset match. -/
import Derived.Test.YtehlmjecbljafaaGreatDoorR6
import Derived.Test.YtehlmjecbljafaaGreatDoorR7
import Derived.WalkSpells
import Derived.Shelf.Strings.Builder1
import Derived.Shelf.Strings.Builder2
import Derived.Shelf.Strings.OnBuilder
import Derived.Shelf.Small.Strs
import Derived.Shelf.Strings.BuilderF
import Derived.Shelf.Strings.BuilderK
import Derived.Shelf.Strings.Builder2Cap
import Derived.Shelf.Strconv.Itoa0
import Derived.Shelf.Strconv.Itoa1
import Derived.Shelf.LaysM
import Derived.Shelf.Strconv.Itoa2
import Derived.Shelf.Strconv.Itoa3
import Derived.Shelf.Strings.Search1
import Derived.Shelf.Bytes.Small
import Derived.Shelf.Bytes.IndexByte
import Derived.Test.YtehlmjecbljafaaGreatDoorProg
namespace Go.Proofs.YtehlmjecbljafaaGreatDoor
open Go Go.RowKit
/-- What a pattern's tokens must be. -/
structure PatP (P : List (List UInt8)) : Prop where
 ne : ∀ t ∈ P, t ≠ []
 nodot : ∀ t ∈ P, 46 ∉ t
 last : ∀ k : Nat, P[k]? = some [62] → k + 1 = P.length
 tame : ∀ t ∈ P, TameT t
 some' : P ≠ []
/-- The parts of a filter: run is what stands since the last wildcard. -/
def gB (run : List UInt8) : List UInt8 → List (List UInt8)
 | [] => if run = [] then [] else [run]
 | c :: r =>
  if c = 46 ∧ r.head? = some 42 then (run ++ [46]) :: [42] :: gB [] (r.drop 2)
  else if c = 46 ∧ r.head? = some 62 then [run ++ [46], [62]]
  else if c = 42 then [42] :: gB [] (r.drop 1)
  else if c = 62 then [[62]]
  else gB (run ++ [c]) r
termination_by l => l.length
decreasing_by all_goals (simp only [List.length_drop, List.length_cons]; omega)
theorem gB_lit : ∀ (q run r : List UInt8), (∀ c ∈ q, c ≠ 46 ∧ c ≠ 42 ∧ c ≠ 62) → gB run (q ++ r) = gB (run ++ q) r
 | [], run, r, _ => by simp
 | c :: q, run, r, h => by
  obtain ⟨h1, h2, h3⟩ := h c (by simp)
  rw [List.cons_append, gB, if_neg (fun h => h1 h.1), if_neg (fun h => h1 h.1), if_neg h2, if_neg h3, gB_lit q _ r fun x hx => h x (by simp [hx])]
  rw [List.append_assoc]; rfl
/-- Wildcards stand alone between points; no token is empty. -/
structure WildB (f : List UInt8) : Prop where
 alone : ∀ (i : Nat) (c : UInt8), f[i]? = some c → c = 42 ∨ c = 62 → (i = 0 ∨ f[i - 1]? = some 46) ∧ (f.length = i + 1 ∨ f[i + 1]? = some 46)
 last : ∀ i : Nat, f[i]? = some 62 → i + 1 = f.length
 dot : ∀ i : Nat, f[i]? = some 46 → ∃ c, f[i + 1]? = some c ∧ c ≠ 46
 first : f[0]? ≠ some 46
 ne : f ≠ []
def isWildT (t : List UInt8) : Prop := t = [42] ∨ t = [62]
theorem PatP.lit {P : List (List UInt8)} (h : PatP P) {t : List UInt8} (ht : t ∈ P) (hw : ¬ isWildT t) : ∀ c ∈ t, c ≠ 46 ∧ c ≠ 42 ∧ c ≠ 62 := by
 intro c hc
 refine ⟨fun e => h.nodot t ht (e ▸ hc), ?_⟩
 rcases h.tame t ht with h1 | h1
 ·have hne := h.ne t ht
  cases t with
  | nil => cases hc
  | cons a r =>
   cases r with
   | cons b r => simp at h1
   | nil =>
    rw [List.mem_singleton] at hc
    subst hc
    exact ⟨fun e => hw (.inl (by rw [e])), fun e => hw (.inr (by rw [e]))⟩
 ·exact h1 c hc
theorem PatP.tail {q : List UInt8} {P : List (List UInt8)} (h : PatP (q :: P)) (hP : P ≠ []) : PatP P :=
 ⟨fun t ht => h.ne t (by simp [ht]), fun t ht => h.nodot t (by simp [ht]), fun k hk => by
  have := h.last (k + 1) (by simpa using hk)
  simpa using this, fun t ht => h.tame t (by simp [ht]), hP⟩
theorem joinD_head {q : List UInt8} (hq : q ≠ []) (P : List (List UInt8)) : ∃ c r, q = c :: r ∧ (joinD (q :: P)).head? = some c := by
 cases q with
 | nil => exact absurd rfl hq
 | cons c r => exact ⟨c, r, rfl, by cases P <;> rfl⟩
theorem joinD_cons (q : List UInt8) {P : List (List UInt8)} (h : P ≠ []) : joinD (q :: P) = q ++ 46 :: joinD P := by
 cases P with
 | nil => exact absurd rfl h
 | cons t r => rfl
theorem PatP.wild {P : List (List UInt8)} (h : PatP P) : WildB (joinD P) := by
 induction P with
 | nil => exact absurd rfl h.some'
 | cons q P ih =>
  have hq := h.ne q (by simp)
  have hql : 0 < q.length := List.length_pos_iff.2 hq
  have hnd := h.nodot q (by simp)
  by_cases hP : P = []
  ·subst hP
   rw [joinD_one]
   have hw : ∀ (i : Nat) (c : UInt8), q[i]? = some c → c = 42 ∨ c = 62 → q.length = 1 ∧ i = 0 := by
    intro i c hc hw
    have hi := (List.getElem?_eq_some_iff.1 hc).1
    rcases h.tame q (by simp) with h1 | h1
    ·omega
    ·have := h1 c (List.mem_of_getElem? hc); rcases hw with e | e
     ·exact absurd e this.1
     ·exact absurd e this.2
   refine ⟨fun i c hc hcw => ?_, fun i hi => ?_, fun i hi => absurd (List.mem_of_getElem? hi) hnd, fun h0 => absurd (List.mem_of_getElem? h0) hnd, hq⟩
   ·obtain ⟨h1, h2⟩ := hw i c hc hcw; exact ⟨.inl h2, .inl (by omega)⟩
   ·obtain ⟨h1, h2⟩ := hw i 62 hi (.inr rfl); omega
  ·have hW := ih (h.tail hP)
   rw [joinD_cons q hP]
   have hJ : 0 < (joinD P).length := List.length_pos_iff.2 hW.ne
   have hlo : ∀ i : Nat, i < q.length → (q ++ 46 :: joinD P)[i]? = q[i]? := fun i hi => List.getElem?_append_left hi
   have hmid : (q ++ 46 :: joinD P)[q.length]? = some 46 := by rw [List.getElem?_append_right (Nat.le_refl _), Nat.sub_self]; rfl
   have hhi : ∀ i : Nat, (q ++ 46 :: joinD P)[q.length + 1 + i]? = (joinD P)[i]? := fun i => by
    rw [List.getElem?_append_right (by omega), show q.length + 1 + i - q.length = i + 1 by omega]; rfl
   have hlen : (q ++ 46 :: joinD P).length = q.length + 1 + (joinD P).length := by simp; omega
   refine ⟨fun i c hc hcw => ?_, fun i hi => ?_, fun i hi => ?_, ?_, by simp⟩
   ·rcases Nat.lt_trichotomy i q.length with hi | hi | hi
    ·rw [hlo i hi] at hc
     rcases h.tame q (by simp) with h1 | h1
     ·have : i = 0 := by omega
      have : q.length = 1 := by omega
      exact ⟨.inl (by omega), .inr (by rw [show i + 1 = q.length by omega]; exact hmid)⟩
     ·have := h1 c (List.mem_of_getElem? hc); rcases hcw with e | e
      ·exact absurd e this.1
      ·exact absurd e this.2
    ·subst hi; rw [hmid] at hc; cases hc; rcases hcw with e | e <;> cases e
    ·obtain ⟨j, rfl⟩ : ∃ j, i = q.length + 1 + j := ⟨i - (q.length + 1), by omega⟩
     rw [hhi] at hc
     obtain ⟨h1, h2⟩ := hW.alone j c hc hcw
     constructor
     ·right
      rcases h1 with rfl | h1
      ·rw [show q.length + 1 + 0 - 1 = q.length by omega]; exact hmid
      ·by_cases hj : j = 0
       ·subst hj; rw [show q.length + 1 + 0 - 1 = q.length by omega]; exact hmid
       ·rw [show q.length + 1 + j - 1 = q.length + 1 + (j - 1) by omega, hhi]; exact h1
     ·rcases h2 with h2 | h2
      ·left; omega
      ·right; rw [show q.length + 1 + j + 1 = q.length + 1 + (j + 1) by omega, hhi]; exact h2
   ·rcases Nat.lt_trichotomy i q.length with h' | h' | h'
    ·rw [hlo i h'] at hi
     exfalso
     rcases h.tame q (by simp) with h1 | h1
     ·have hq1 : q = [62] := by
       cases q with
       | nil => cases hql
       | cons a r =>
        cases r with
        | cons b r => simp at h1
        | nil =>
         have : i = 0 := by simp at h'; omega
         subst this
         simp at hi
         rw [hi]
      have := h.last 0 (by rw [hq1]; rfl)
      simp only [List.length_cons] at this
      exact hP (List.eq_nil_of_length_eq_zero (by omega))
     ·exact (h1 62 (List.mem_of_getElem? hi)).2 rfl
    ·subst h'; rw [hmid] at hi; cases hi
    ·obtain ⟨j, rfl⟩ : ∃ j, i = q.length + 1 + j := ⟨i - (q.length + 1), by omega⟩
     rw [hhi] at hi
     have := hW.last j hi
     omega
   ·rcases Nat.lt_trichotomy i q.length with h' | h' | h'
    ·rw [hlo i h'] at hi; exact absurd (List.mem_of_getElem? hi) hnd
    ·subst h'
     have h0 : (joinD P)[0]? = some (joinD P)[0] := List.getElem?_eq_getElem hJ
     exact ⟨_, by rw [show q.length + 1 = q.length + 1 + 0 by omega, hhi]; exact h0, fun e => hW.first (by rw [h0, e])⟩
    ·obtain ⟨j, rfl⟩ : ∃ j, i = q.length + 1 + j := ⟨i - (q.length + 1), by omega⟩
     rw [hhi] at hi
     obtain ⟨c, hc, hne⟩ := hW.dot j hi
     exact ⟨c, by rw [show q.length + 1 + j + 1 = q.length + 1 + (j + 1) by omega, hhi]; exact hc, hne⟩
   ·rw [hlo 0 hql]
    intro e; exact hnd (List.mem_of_getElem? e)
theorem dropWhile_dot {t r : List UInt8} (h : 46 ∉ t) : ((t ++ 46 :: r).dropWhile (· ≠ 46)).drop 1 = r := by
 induction t with
 | nil => simp
 | cons a t ih =>
  have ha : a ≠ 46 := fun e => h (by simp [e])
  rw [List.cons_append, List.dropWhile_cons_of_pos (by simpa using ha)]
  exact ih fun hm => h (by simp [hm])
theorem ne_wild_of_dot {l : List UInt8} (h : 46 ∈ l) : l ≠ [42] ∧ l ≠ [62] := by
 constructor <;> rintro rfl <;> simp at h
theorem joinD_ne0 {t : List UInt8} {r : List (List UInt8)} (h : t ≠ []) : joinD (t :: r) ≠ [] := by
 cases r with
 | nil => exact h
 | cons u r => simp [joinD]
theorem joinD_neT {Tk : List (List UInt8)} (h : ∀ u ∈ Tk, u ≠ [] ∧ 46 ∉ u) (h0 : Tk ≠ []) : joinD Tk ≠ [] := by
 cases Tk with
 | nil => exact absurd rfl h0
 | cons t r => exact joinD_ne0 (h t (by simp)).1
end Go.Proofs.YtehlmjecbljafaaGreatDoor
namespace Go.Proofs.YtehlmjecbljafaaGreatDoor
open Go Go.RowKit
theorem newLevel_abs (w : World) : Calls Tryz.prog 129 #[] w fun e w' => ∃ l m, e = .returned (.pointer (some ⟨l, 0, none⟩)) ∧ w.heap.size ≤ l ∧ w.heap.size ≤ m ∧ w'.heap[l]? = some (.cells #[.map (some m), .pointer none, .pointer none] 215 (0, 0)) ∧
  MapS w' m 0 (.pointer none) (fun _ => .pointer none) ∧ Below w.heap.size w w' := by
 refine (newLevel_any w).mono ?_
 rintro e w' ⟨rfl, rfl⟩
 have h := heap_alloc_new (w.alloc (.map #[] 0)) (.cells #[.map (some w.heap.size), .pointer none, .pointer none] 215)
 have hz : (w.alloc (.map #[] 0)).heap.size = w.heap.size + 1 := by simp
 rw [hz] at h
 exact ⟨_, w.heap.size, rfl, by omega, Nat.le_refl _, h, (MapS.made w _).keep (((Below.refl _ _).alloc (Nat.le_refl _) _).block _ (by rw [hz]; omega)), ((Below.refl _ w).alloc (Nat.le_refl _) _).alloc (by rw [hz]; omega) _⟩
theorem newNode_abs (w : World) : Calls Tryz.prog 133 #[] w fun e w' => ∃ a s, e = .returned (.pointer (some ⟨a, 0, none⟩)) ∧ w.heap.size ≤ a ∧ w.heap.size ≤ s ∧ w'.heap[a]? = some (.cells #[.pointer none, .map (some s)] 219 (0, 0)) ∧
  MapN w' s 0 0 ∧ Below w.heap.size w w' := by
 refine (newNode_any w).mono ?_
 rintro e w' ⟨rfl, rfl⟩
 have h := heap_alloc_new (w.alloc (.map #[] 0)) (.cells #[.pointer none, .map (some w.heap.size)] 219)
 have hz : (w.alloc (.map #[] 0)).heap.size = w.heap.size + 1 := by simp
 rw [hz] at h
 exact ⟨_, w.heap.size, rfl, by omega, Nat.le_refl _, h, (MapN.made w).keep (((Below.refl _ _).alloc (Nat.le_refl _) _).block _ (by rw [hz]; omega)), ((Below.refl _ w).alloc (Nat.le_refl _) _).alloc (by rw [hz]; omega) _⟩
theorem wpList_upd {P : Program} (w : World) {ops : Array Oper} {rest : List Oper} {o : Oper} {a : Act} {Q : Exit → Act → World → Prop} (hg : o.guard = none) (m x v : Operand) (t : TypeId) (hop : o.op = Op.mapUpdate t m x v) (b : Nat) (key val : Value)
  (hm : a.eval m = .map (some b)) (hx : a.eval x = key) (hv : a.eval v = val) (R : World → Prop) (hr : ∃ w', (Instr.mapUpdate t (.map (some b)) key val).run P w = .ok () w' ∧ R w') (hK : ∀ w', R w' → wpList P ops Q rest (a.put o.dst undef) w') :
  wpList P ops Q (o :: rest) a w := by
 refine wpList_plain hg fun K' hK' => ?_
 obtain ⟨w', hrun, r1⟩ := hr
 unfold Oper.wp
 simp [execOp, hop, hm, hx, hv, hrun, Result.andThen]
 exact hK' _ _ (hK w' r1)
/-- The trie behind a new path. -/
theorem grow_done {T : Trie} {F : Nat → Prop} {n : Nat} {wr w1 w2 w3 : World} {p : Path} {t : List UInt8} {l m a s : Nat} (h : TrieOK T F n wr) (hp : T.N p) (hnew : ¬ T.N (p ++ [t])) (hF : ∀ k, F k → k < wr.heap.size)
  (b1 : Below wr.heap.size wr w1) (a1 : wr.heap.size ≤ a) (s1 : wr.heap.size ≤ s) (ha : w1.heap[a]? = some (.cells #[.pointer none, .map (some s)] 219 (0, 0))) (hs : MapN w1 s 0 0)
  (o2 : Only (fun k => k = T.aL p ∨ k = T.aM p) w1 w2)
  (hlev : w2.heap[T.aL p]? = some (.cells #[.map (some (T.aM p)), if t = [42] then .pointer (some ⟨a, 0, none⟩) else T.ptr (p ++ [[42]]), if t = [62] then .pointer (some ⟨a, 0, none⟩) else T.ptr (p ++ [[62]])] 215 (0, 0)))
  (hmap : ∃ f, MapS w2 (T.aM p) (n + 1) (.pointer none) f ∧ ∀ u, u ≠ [42] → u ≠ [62] → f u = if u = t then .pointer (some ⟨a, 0, none⟩) else T.ptr (p ++ [u]))
  (b3 : Below w2.heap.size w2 w3) (l1 : w2.heap.size ≤ l) (m1 : w2.heap.size ≤ m) (hL : w3.heap[l]? = some (.cells #[.map (some m), .pointer none, .pointer none] 215 (0, 0))) (hM : MapS w3 m 0 (.pointer none) (fun _ => .pointer none)) :
  TrieOK (T.add (p ++ [t]) l m a s) (fun k => F k ∨ k = l ∨ k = m ∨ k = a ∨ k = s) (n + 1) (w3.setCell ⟨a, 0, none⟩ (.pointer (some ⟨l, 0, none⟩))) ∧ Only F wr (w3.setCell ⟨a, 0, none⟩ (.pointer (some ⟨l, 0, none⟩))) := by
 have hla := (Array.getElem?_eq_some_iff.1 ha).1
 have hls := hs.lt
 have hLp := hF _ (h.fL p hp)
 have hMp := hF _ (h.fM p hp)
 have z1 := b1.size
 have z2 := o2.size
 have z3 := b3.size
 have haL : a ≠ T.aL p := by omega
 have haM : a ≠ T.aM p := by omega
 have ha3 : w3.heap[a]? = some (.cells #[.pointer none, .map (some s)] 219 (0, 0)) := ((b3.block a (by omega)).trans (o2.block a hla (by rintro (e | e); exact haL e; exact haM e))).trans ha
 have set1 : ∀ k, k ≠ a → (w3.setCell ⟨a, 0, none⟩ (.pointer (some ⟨l, 0, none⟩))).heap[k]? = w3.heap[k]? := fun k hk => heap_setCell_other _ _ _ _ hk
 have hsa : s ≠ a := hs.ne ha
 refine ⟨h.grow hp hnew hF (by omega) (by omega) a1 s1 (by omega) ?_ ?_ ?_ ?_ ?_ ?_ ?_, ?_⟩
 ·rw [set1 _ haL.symm, b3.block _ (by omega)]; exact hlev
 ·obtain ⟨f, h1, h2⟩ := hmap
  exact ⟨f, h1.keep ((set1 _ haM.symm).trans (b3.block _ (by omega))), h2⟩
 ·have := heap_setCell_same w3 a 0 _ 219 (.pointer (some ⟨l, 0, none⟩)) ha3
  exact this
 ·exact ((hs.keep (o2.block s hls (by rintro (e | e) <;> omega))).keep ((set1 s hsa).trans (b3.block s (by omega)))).more (by omega)
 ·rw [set1 _ (by omega)]; exact hL
 ·exact (hM.keep (set1 m (by omega))).more (by omega)
 ·intro k hk h1 h2
  have hk' := hF k hk
  rw [set1 k (by omega), b3.block k (by omega), o2.block k (by omega) (by rintro (e | e); exact h1 e; exact h2 e), b1.block k hk']
 ·refine ⟨b3.os.trans (o2.os.trans b1.os), b3.tape.trans (o2.tape.trans b1.tape), b3.output.trans (o2.output.trans b1.output), by rw [size_setCell]; omega, fun k hk hf => ?_⟩
  rw [set1 k (by omega), b3.block k (by omega), o2.block k (by omega) (by rintro (e | e); exact hf (e ▸ h.fL p hp); exact hf (e ▸ h.fM p hp)), b1.block k hk]
end Go.Proofs.YtehlmjecbljafaaGreatDoor
namespace Go.Proofs.YtehlmjecbljafaaGreatDoor
open Go Go.RowKit
def zero32 : Array Value := #[Value.string ⟨#[]⟩, Value.string ⟨#[]⟩, Value.string ⟨#[]⟩, Value.string ⟨#[]⟩, Value.string ⟨#[]⟩, Value.string ⟨#[]⟩, Value.string ⟨#[]⟩, Value.string ⟨#[]⟩, Value.string ⟨#[]⟩, Value.string ⟨#[]⟩, Value.string ⟨#[]⟩, Value.string ⟨#[]⟩, Value.string ⟨#[]⟩, Value.string ⟨#[]⟩, Value.string ⟨#[]⟩, Value.string ⟨#[]⟩, Value.string ⟨#[]⟩, Value.string ⟨#[]⟩, Value.string ⟨#[]⟩, Value.string ⟨#[]⟩, Value.string ⟨#[]⟩, Value.string ⟨#[]⟩, Value.string ⟨#[]⟩, Value.string ⟨#[]⟩, Value.string ⟨#[]⟩, Value.string ⟨#[]⟩, Value.string ⟨#[]⟩, Value.string ⟨#[]⟩, Value.string ⟨#[]⟩, Value.string ⟨#[]⟩, Value.string ⟨#[]⟩, Value.string ⟨#[]⟩]
theorem z32b : Tryz.prog.built 180 [] = some zero32 := by kernel_rfl
theorem z32i : (Tryz.prog.info? 180).map (fun i => (i.zero, i.size)) = some (some (.agg zero32), 32) := by kernel_rfl
theorem z32s : zero32.size = 32 := rfl
theorem own32 (w : World) : Own (w.alloc (.cells zero32 180)) w.heap.size 1 (.slice (some ⟨w.heap.size, 0, none⟩) 0 32) 0 [] :=
 ⟨rfl, .inr ⟨w.heap.size, 32, zero32, 180, rfl, Nat.le_refl _, heap_alloc_new w _, by omega, by decide, by decide, rfl⟩⟩
theorem z32o : zero32.all (·.oneCell') = true := by kernel_rfl
end Go.Proofs.YtehlmjecbljafaaGreatDoor
namespace Go.Proofs
open Go.Shelf
def Tryz.lays106_ren : Go.Shelf.Ren := ⟨fun | 106 => 151 | 213 => 196 | 265 => 229 | n => n, fun | 9 => 9 | 3 => 3 | n => n, fun | n => n⟩
theorem Tryz.lays106 : Go.Proofs.Lays.n106 Tryz.prog Tryz.lays106_ren := {
 mixed := by kernel_rfl
 f106 := Tryz.func151.trans (congrArg some (by kernel_rfl))
 f213 := Tryz.func196.trans (congrArg some (by kernel_rfl))
 f265 := Tryz.func229.trans (congrArg some (by kernel_rfl))
 t3 := Tryz.underlying3
 a3 := Tryz.isAgg3
 z3 := Tryz.sizeOf3
 v3 := Tryz.zeroValue3
 t9 := Tryz.underlying9
 a9 := Tryz.isAgg9
 z9 := Tryz.sizeOf9
 v9 := Tryz.zeroValue9 }
open Go.RowKit in
/-- strings.Compare: "Compare returns an integer comparing two strings lexicographically. The result will be 0 if a == b, -1 if a < b, and +1 if a > b.": IT RETURNS 'Lib.compareBytes a b'; the world is as it was. (LAID: no walk: one application.) -/
theorem Tryz.strings_Compare (a b : ByteArray) (w : World) :
  Calls Tryz.prog 151 #[.string a, .string b] w fun e w' => e = .returned (.int .i64 (Lib.compareBytes a.data.toList b.data.toList)) ∧ w' = w := Any.strings_Compare Tryz.lays106 a b w
def Tryz.lays137_ren : Go.Shelf.Ren := ⟨fun | 137 => 127 | 217 => 174 | 266 => 211 | n => n, fun | 9 => 9 | 5 => 5 | 3 => 3 | n => n, fun | n => n⟩
theorem Tryz.lays137 : Go.Proofs.Lays.n137 Tryz.prog Tryz.lays137_ren := {
 mixed := by kernel_rfl
 f137 := Tryz.func127.trans (congrArg some (by kernel_rfl))
 f217 := Tryz.func174.trans (congrArg some (by kernel_rfl))
 f266 := Tryz.func211.trans (congrArg some (by kernel_rfl))
 t3 := Tryz.underlying3
 a3 := Tryz.isAgg3
 z3 := Tryz.sizeOf3
 v3 := Tryz.zeroValue3
 t5 := Tryz.underlying5
 a5 := Tryz.isAgg5
 z5 := Tryz.sizeOf5
 v5 := Tryz.zeroValue5
 t9 := Tryz.underlying9
 a9 := Tryz.isAgg9
 z9 := Tryz.sizeOf9
 v9 := Tryz.zeroValue9 }
open Go.RowKit in
/-- strings.IndexByte: "IndexByte returns the index of the first instance of c in s, or -1 if c is not present in s.": IT RETURNS 'Lib.indexByte s c'; the world is as it was. (LAID: no walk: one application.) -/
theorem Tryz.strings_IndexByte (s : ByteArray) (c : Int) (w : World) :
  Calls Tryz.prog 127 #[.string s, .int .u8 c] w fun e w' => e = .returned (.int .i64 (Lib.indexByte s.data.toList c.toNat.toUInt8)) ∧ w' = w := Any.strings_IndexByte Tryz.lays137 s c w
def Tryz.lays187_ren : Go.Shelf.Ren := ⟨fun | 187 => 156 | 255 => 198 | n => n, fun | 37 => 94 | 5 => 5 | 3 => 3 | n => n, fun | n => n⟩
theorem Tryz.lays187 : Go.Proofs.Lays.n187 Tryz.prog Tryz.lays187_ren := {
 mixed := by kernel_rfl
 f187 := Tryz.func156.trans (congrArg some (by kernel_rfl))
 f255 := Tryz.func198.trans (congrArg some (by kernel_rfl))
 t3 := Tryz.underlying3
 a3 := Tryz.isAgg3
 z3 := Tryz.sizeOf3
 v3 := Tryz.zeroValue3
 t5 := Tryz.underlying5
 a5 := Tryz.isAgg5
 z5 := Tryz.sizeOf5
 v5 := Tryz.zeroValue5
 t37 := Tryz.underlying94
 a37 := Tryz.isAgg94
 z37 := Tryz.sizeOf94
 v37 := Tryz.zeroValue94 }
/-- bytes.IndexByte: "IndexByte returns the index of the first instance of c in b, or -1 if c is not present in b.": IT RETURNS 'Lib.indexByte (the bytes of b) c'; the world is as it was. 'xs': the numbers that the slice's cells hold. (LAID: no walk: one application.) -/
theorem Tryz.bytes_IndexByte (b o n c : Nat) (xs : List Int) (cv : Int) (w : World) (hx : xs.length = n) (hc : ∀ i, i < n → w.cell? ⟨b, o + i, none⟩ = some (.int .u8 (xs.getD i 0))) :
  Calls Tryz.prog 156 #[.slice (some ⟨b, o, none⟩) n c, .int .u8 cv] w fun e w' => e = .returned (.int .i64 (Lib.indexByte (Lib.bytesOf xs) cv.toNat.toUInt8)) ∧ w' = w := Any.bytes_IndexByte Tryz.lays187 b o n c xs cv w hx hc
end Go.Proofs
namespace Go.Proofs.YtehlmjecbljafaaGreatDoor
open Go Go.Shelf Go.RowKit
end Go.Proofs.YtehlmjecbljafaaGreatDoor
namespace Go.Proofs.YtehlmjecbljafaaGreatDoor
open Go Go.RowKit
/-- A token that is not empty and has no wildcard's sign at its head. -/
structure HeadOK (t : ByteArray) : Prop where
 pos : 0 < t.size
 star : t[0].toNat ≠ 42
 rest : t[0].toNat ≠ 62
theorem bs_pos {t : ByteArray} (h : bs t ≠ []) : 0 < t.size := by
 rw [← bs_len]; exact List.length_pos_iff.2 h
theorem bs_one {t : ByteArray} {c : UInt8} (h : bs t = [c]) : t.size = 1 ∧ ∀ h0 : 0 < t.size, t[0] = c := by
 refine ⟨by rw [← bs_len, h]; rfl, fun h0 => ?_⟩
 have := bs_at? t 0 h0
 rw [h] at this
 simpa using this.symm
theorem bs_head {t : ByteArray} (h0 : 0 < t.size) : t[0] ∈ bs t := List.mem_of_getElem? (bs_at? t 0 h0)
theorem headOK {ss : List ByteArray} (hf : FormedP ss ss.length) (hl : LitP ss ss.length) (ht : TameS ss ss.length) {k : Nat} {t : ByteArray} (h : ss[k]? = some t) : HeadOK t := by
 have hk : k < ss.length := (List.getElem?_eq_some_iff.1 h).1
 have h0 := bs_pos (hf k t hk h).1
 obtain ⟨l1, l2⟩ := hl k t hk h
 refine ⟨h0, ?_, ?_⟩ <;> intro e
 ·have ec : t[0] = 42 := UInt8.toNat_inj.1 e
  rcases ht k t hk h with h1 | h1
  ·rw [bs_len] at h1
   have e1 : bs t = [t[0]] := by
    have hl1 : (bs t).length = 1 := by rw [bs_len]; omega
    obtain ⟨x, hx⟩ := List.length_eq_one_iff.1 hl1
    have := bs_at? t 0 h0
    rw [hx] at this ⊢
    simpa using this
   exact l1 (by rw [e1, ec])
  ·exact (h1 _ (bs_head h0)).1 ec
 ·have ec : t[0] = 62 := UInt8.toNat_inj.1 e
  rcases ht k t hk h with h1 | h1
  ·rw [bs_len] at h1
   have e1 : bs t = [t[0]] := by
    have hl1 : (bs t).length = 1 := by rw [bs_len]; omega
    obtain ⟨x, hx⟩ := List.length_eq_one_iff.1 hl1
    have := bs_at? t 0 h0
    rw [hx] at this ⊢
    simpa using this
   exact l2 (by rw [e1, ec])
  ·exact (h1 _ (bs_head h0)).2 ec
end Go.Proofs.YtehlmjecbljafaaGreatDoor
