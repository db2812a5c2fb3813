/- The list of interest: made by deeds, and asked. Plain words: interest in subjects that begin so. Maps told by their entries: look-up, new keys, and how a loop goes over them. The server's tree of levels and nodes in memory, told by the paths that are there and the subscriptions at them. -/
import Derived.Test.YtehlmjecbljafaaGreatDoorR7
import Derived.Test.YtehlmjecbljafaaGreatDoorR10
import Derived.Maps.RangeWalk
import Derived.LaidEqlPtr
namespace Go.Proofs.YtehlmjecbljafaaGreatDoor
open Go Go.RowKit
def pathOf (d : Deed) : Path := (toks d.subj).map bs
/-- What k deeds have made of a list. -/
structure ListSt (ds : List Deed) (b B : Nat) (w : World) (k : Nat) (T : Trie) (F : Nat → Prop) (n : Nat) (wr : World) : Prop where
 ok : TrieOK T F n wr
 n : n ≤ k * 200000
 N : ∀ q, T.N q ↔ q = [] ∨ ∃ d ∈ ds.take k, q <+: pathOf d
 V : ∀ q, 0 < T.V q ↔ ∃ d ∈ ds.take k, q = pathOf d
 V1 : ∀ q, T.V q ≤ k
 head : wr.heap[b]? = some (.cells (gslCells (T.aL []) k) 178 (0, 0))
 range : ∀ x, F x → B ≤ x ∧ x < wr.heap.size
 nb : ¬ F b
 bel : Below B w wr
open Classical in
/-- An empty trie. -/
noncomputable def trie0 (l m : Nat) : Trie := { N := fun q => q = [], aL := fun _ => l, aM := fun _ => m, aN := fun _ => 0, aS := fun _ => m + 1, V := fun _ => 0 }
theorem trie0_ok {l m n : Nat} {F : Nat → Prop} {w : World} (hL : w.heap[l]? = some (.cells #[.map (some m), .pointer none, .pointer none] 215 (0, 0))) (hM : MapS w m n (.pointer none) (fun _ => .pointer none)) (fl : F l) (fm : F m) : TrieOK (trie0 l m) F n w := by
 have hp : ∀ (p : Path) (t : List UInt8), (trie0 l m).ptr (p ++ [t]) = .pointer none := fun p t => Trie.ptr_no (fun h => snoc_ne p t h)
 refine ⟨rfl, fun p t h => absurd h (snoc_ne p t), fun p _ => by rw [hp, hp]; exact hL, fun p _ => ⟨_, hM, fun t _ _ => (hp p t).symm⟩, fun p t h => absurd h (snoc_ne p t), fun p t h => absurd h (snoc_ne p t), fun p q h1 h2 _ => ?_, fun p q h1 h2 _ => ?_, fun p q h1 _ h3 => absurd h1 h3, fun p q _ h2 h3 => absurd h2 h3, fun p _ => fl, fun p _ => fm, fun p t h => absurd h (snoc_ne p t), fun p t h => absurd h (snoc_ne p t)⟩
 ·have h1 : p = [] := h1
  have h2 : q = [] := h2
  rw [h1, h2]
 ·have h1 : p = [] := h1
  have h2 : q = [] := h2
  rw [h1, h2]
set_option maxRecDepth 100000 in
set_option maxHeartbeats 3200000 in
theorem list_any (v : Value) (ds : List Deed) (w : World) (hd : DeedsAt w v ds) (hop : ∀ d ∈ ds, d.op = 0 ∧ d.subj.size ≤ 100000 ∧ PatP (pathOf d) ∧ (Lit.int .i64 d.val).wf = true) (hn : ds.length ≤ 1000) :
  Calls Tryz.prog 56 #[v] w fun e w' => ∃ b u xs T F n, e = .returned (.tuple #[.pointer (some ⟨b, 0, none⟩), u]) ∧ w.heap.size ≤ b ∧ ListSt ds b w.heap.size w ds.length T F n w' ∧ Own w' w.heap.size 1 u ds.length xs ∧ (∀ x ∈ xs, x = .int .i64 0) ∧ (∀ x, u.ownBlock = some x → x ≠ b) := by
 obtain ⟨a, cap, rfl⟩ := Sl.form hd
 have HD := Lib.hid hd; clear hd
 have HO := Lib.hid hop; clear hop
 go_enter Tryz.func56, Tryz.ntmps56
 go_wp2_with fail
 refine (newSublist_any w).mono ?_
 rintro e w1 ⟨rfl, hw1⟩
 have hz1 : (w.alloc (.map #[] 0)).heap.size = w.heap.size + 1 := by simp
 have hz2 : ((w.alloc (.map #[] 0)).alloc (.cells #[.map (some w.heap.size), .pointer none, .pointer none] 215)).heap.size = w.heap.size + 2 := by simp
 have hz3 : w1.heap.size = w.heap.size + 3 := by rw [hw1]; simp
 have k0 : MapS w1 w.heap.size 0 (.pointer none) (fun _ => .pointer none) := by
  rw [hw1]
  exact (MapS.made w _).keep ((((Below.refl (w.heap.size + 1) _).alloc (by omega) _).alloc (by omega) _).block _ (by omega))
 have k1 : w1.heap[w.heap.size + 1]? = some (.cells #[.map (some w.heap.size), .pointer none, .pointer none] 215 (0, 0)) := by
  have h := heap_alloc_new (w.alloc (.map #[] 0)) (.cells #[.map (some w.heap.size), .pointer none, .pointer none] 215)
  rw [hz1] at h
  rw [hw1, ((Below.refl (w.heap.size + 2) _).alloc (by omega) _).block _ (by omega)]
  exact h
 have k2 : w1.heap[w.heap.size + 2]? = some (.cells (gslCells (w.heap.size + 1) 0) 178 (0, 0)) := by
  have h := heap_alloc_new ((w.alloc (.map #[] 0)).alloc (.cells #[.map (some w.heap.size), .pointer none, .pointer none] 215)) (.cells (gslCells (w.heap.size + 1) 0) 178)
  rw [hz2] at h
  rw [hw1]; exact h
 have kb : Below w.heap.size w w1 := by
  rw [hw1]; exact (((Below.refl _ w).alloc (Nat.le_refl _) _).alloc (by omega) _).alloc (by omega) _
 clear hw1 hz1 hz2
 have hI : ListSt ds (w.heap.size + 2) w.heap.size w 0 (trie0 (w.heap.size + 1) w.heap.size) (fun x => x = w.heap.size ∨ x = w.heap.size + 1) 0 w1 :=
  ⟨trie0_ok k1 k0 (.inr rfl) (.inl rfl), by omega, fun q => by simp [trie0], fun q => by simp [trie0], fun q => by simp [trie0], k2, fun x hx => by omega, fun h => by omega, kb⟩
 clear k0 k1 k2 kb
 go_wp2
 go_loopw [5, 6] (fun o i wr => ∃ (k : Nat) (T : Trie) (F : Nat → Prop) (n : Nat) (xs : List Value), k ≤ ds.length ∧ i = .int .i64 k ∧ ListSt ds (w.heap.size + 2) w.heap.size w k T F n wr ∧ Own wr w.heap.size 1 o k xs ∧ (∀ x ∈ xs, x = .int .i64 0) ∧ (∀ x, o.ownBlock = some x → ¬ (F x ∨ x = w.heap.size + 2))) (fun _ i _ => ds.length - (intOf i).toNat)
 case atStart => exact ⟨0, _, _, 0, [], Nat.zero_le _, rfl, hI, Own.nil _ _ _, (fun x h => by cases h), (fun x h => by cases h)⟩
 case round =>
  obtain ⟨k, T, F, n, xs, hk, rfl, hL, hown, hxs, hob⟩ := hrel
  obtain ⟨oa, oc, rfl, -⟩ := hown.form
  by_cases hlt : k < ds.length
  ·obtain ⟨bd, od, d, rfl, Hd, c0, c1, c2⟩ := HD.out.at' hL.bel hlt
   have hlb := World.block_lt_of_cell? _ _ c0
   obtain ⟨e0, esz, hP, hwf⟩ := HO.out d (List.mem_of_getElem? Hd.out)
   rw [e0] at c0
   have hW := (Below.refl wr.heap.size wr).alloc (Nat.le_refl _) (.cells #[.int .i64 0, .string d.subj, .int .i64 d.val] 39)
   have hnb : n ≤ 1000000000 := by have := hL.n; have := Nat.mul_le_mul_right 200000 (show k ≤ 1000 by omega); omega
   have hins := insert_any (w.heap.size + 2) d.subj d.val k T F n (wr.alloc (.cells #[.int .i64 0, .string d.subj, .int .i64 d.val] 39)) ((hW.block _ (Array.getElem?_eq_some_iff.1 hL.head).1).trans hL.head)
    (hL.ok.keep fun x hx => hW.block x (hL.range x hx).2) (fun q hq => (hL.N q).2 (.inr (by obtain ⟨d', h1, h2⟩ := (hL.V q).1 hq; exact ⟨d', h1, by rw [h2]; exact List.prefix_refl _⟩)))
    (fun x hx => Nat.lt_of_lt_of_le (hL.range x hx).2 hW.size) hL.nb hP esz hnb hwf ⟨by omega, by omega⟩
   have HL := Lib.hid hL; clear hL
   go_wp2_with fail
   refine hins.mono ?_
   rintro e W2 ⟨rfl, T', F', n', q1, q2, q3, q4, q5, q6, q7, q8, q9, q10⟩
   have hown2 := (hown.keep hW).only q7 (fun x hx h => hob x hx h)
   have hnbF : ¬ F' (w.heap.size + 2) := fun h => by
    rcases q8 _ h with h | h
    ·exact HL.out.nb h
    ·have := hW.size
     have := (Array.getElem?_eq_some_iff.1 HL.out.head).1
     omega
   have hzW := hW.size
   have hwr := HL.out.bel.size
   have hL2 : ListSt ds (w.heap.size + 2) w.heap.size w (k + 1) T' F' n' W2 := by
    have etk : ∀ q : Path, (∃ d' ∈ ds.take (k + 1), q <+: pathOf d') ↔ (∃ d' ∈ ds.take k, q <+: pathOf d') ∨ q <+: pathOf d := fun q => by
     rw [List.take_add_one, Hd.out]
     simp only [Option.toList_some, List.mem_append, List.mem_singleton]
     constructor
     ·rintro ⟨d', h | rfl, h2⟩
      ·exact .inl ⟨d', h, h2⟩
      ·exact .inr h2
     ·rintro (⟨d', h, h2⟩ | h2)
      ·exact ⟨d', .inl h, h2⟩
      ·exact ⟨d, .inr rfl, h2⟩
    have etv : ∀ q : Path, (∃ d' ∈ ds.take (k + 1), q = pathOf d') ↔ (∃ d' ∈ ds.take k, q = pathOf d') ∨ q = pathOf d := fun q => by
     rw [List.take_add_one, Hd.out]
     simp only [Option.toList_some, List.mem_append, List.mem_singleton]
     constructor
     ·rintro ⟨d', h | rfl, h2⟩
      ·exact .inl ⟨d', h, h2⟩
      ·exact .inr h2
     ·rintro (⟨d', h, h2⟩ | h2)
      ·exact ⟨d', .inl h, h2⟩
      ·exact ⟨d, .inr rfl, h2⟩
    refine ⟨q1, by have := HL.out.n; rw [Nat.succ_mul]; omega, fun q => ?_, fun q => ?_, fun q => by have := q10 q; have := HL.out.V1 q; omega, ?_, fun x hx => ⟨?_, q9 x hx⟩, hnbF, ?_⟩
    ·rw [q3 q, HL.out.N q, etk q, or_assoc]; exact Iff.rfl
    ·rw [q4 q, HL.out.V q, etv q]; exact Iff.rfl
    ·rw [q5]; exact q6
    ·rcases q8 x hx with h | h
     ·exact (HL.out.range x h).1
     ·omega
    ·exact (HL.out.bel.trans (hW.mono hwr)).trans (q7.below (fun x hx => by rcases hx with h | h; exact (HL.out.range x h).1; omega) (by omega))
   have hob2 : ∀ x, (Value.slice oa k oc).ownBlock = some x → ¬ (F' x ∨ x = w.heap.size + 2) := fun x hx h => by
    rcases h with h | h
    ·rcases q8 x h with h | h
     ·exact hob x hx (.inl h)
     ·have := (hown.lt x hx).2; omega
    ·exact hob x hx (.inr h)
   have HL2 := Lib.hid hL2; clear hL2 q1 q2 q3 q4 q5 q6 hins hown hob q7 q8 q9
   go_wp2_with fail
   refine (one_nil W2).mono ?_
   rintro e W3 ⟨rfl, rfl⟩
   have hlt3 : ∀ x, (F' x ∨ x = w.heap.size + 2) → x < W2.heap.size := fun x hx => by
    rcases hx with h | rfl
    ·exact (HL2.out.range x h).2
    ·exact (Array.getElem?_eq_some_iff.1 HL2.out.head).1
   have hB2 := HL2.out.bel.size
   go_wp2_with (at_builtin; go_must (refine wpList_appX et33 rfl _ _ rfl w.heap.size (fun x => F' x ∨ x = w.heap.size + 2) (v := .slice oa k oc) (n := k) (xs := xs) (by rfl) hown2 hob2 hlt3 [.int .i64 0] (by rfl) rfl (by simp [Value.oneCell']) (by omega) hB2 ?_); intro v' w5 hown5 hF5 honly5)
   go_roundw
   case rel =>
    refine ⟨k + 1, T', F', n', _, hlt, by go_num, ⟨HL2.out.ok.keep fun x hx => ?_, HL2.out.n, HL2.out.N, HL2.out.V, HL2.out.V1, ?_, fun x hx => ⟨(HL2.out.range x hx).1, ?_⟩, HL2.out.nb, ?_⟩, hown5, ?_, hF5⟩
    ·exact honly5.block x (HL2.out.range x hx).2 (fun h => hob2 x h (.inl hx))
    ·exact (honly5.block _ (Array.getElem?_eq_some_iff.1 HL2.out.head).1 (fun h => hob2 _ h (.inr rfl))).trans HL2.out.head
    ·have := (HL2.out.range x hx).2; have := honly5.size; omega
    ·exact HL2.out.bel.trans (honly5.below (fun x hx => (hown2.lt x hx).1) hB2)
    ·intro x hx
     rcases List.mem_append.1 hx with h | h
     ·exact hxs x h
     ·exact List.mem_singleton.1 h
   case measure => simp [intOf]; omega
  ·obtain rfl : k = ds.length := by omega
   go_wp2
   go_ret2
   exact ⟨_, _, xs, T, F, n, rfl, by omega, hL, hown, hxs, fun x hx e => hob x hx (.inr e)⟩
set_option maxRecDepth 100000 in
set_option maxHeartbeats 800000 in
theorem hasInt_any (b : Nat) (s : ByteArray) (c : Int) (T : Trie) (F : Nat → Prop) (n : Nat) (w : World) (hb : w.heap[b]? = some (.cells (gslCells (T.aL []) c) 178 (0, 0))) (hT : TrieOK T F n w) (hF : ∀ k, F k → k < w.heap.size) (hFb : ¬ F b)
  (hg : GoodS s) (hs : s.size ≤ 100000) :
  Calls Tryz.prog 57 #[.pointer (some ⟨b, 0, none⟩), .string s] w fun e w' => ∃ bl, e = .returned (.bool bl) ∧ (bl = true ↔ hasT T [] ((toks s).map bs)) ∧ Only (· = b) w w' ∧ w'.heap[b]? = w.heap[b]? := by
 have hh := hasInterest_any b s c T F n w hb hT hF hFb hg hs
 clear hb hT hF hFb hg
 go_enter Tryz.func57, Tryz.ntmps57
 go_wp2_with fail
 refine hh.mono ?_
 rintro e w1 ⟨bl, rfl, h1, h2⟩
 go_wp2
 go_ret
 exact ⟨bl, rfl, h1, h2⟩
set_option maxRecDepth 100000 in
set_option maxHeartbeats 800000 in
theorem listHas_any (v : Value) (ds : List Deed) (s : ByteArray) (w : World) (hd : DeedsAt w v ds) (hop : ∀ d ∈ ds, d.op = 0 ∧ d.subj.size ≤ 100000 ∧ PatP (pathOf d) ∧ (Lit.int .i64 d.val).wf = true) (hn : ds.length ≤ 1000) (hg : GoodS s) (hs : s.size ≤ 100000) :
  Calls Tryz.prog 19 #[v, .string s] w fun e w' => ∃ bl, e = .returned (.bool bl) ∧ (∃ T : Trie, (∀ q, T.N q ↔ q = [] ∨ ∃ d ∈ ds, q <+: pathOf d) ∧ (∀ q, 0 < T.V q ↔ ∃ d ∈ ds, q = pathOf d) ∧ (bl = true ↔ hasT T [] ((toks s).map bs))) ∧ Below w.heap.size w w' := by
 have hl := list_any v ds w hd hop hn
 have HG := Lib.hid hg; clear hg
 clear hop hd
 go_enter Tryz.func19, Tryz.ntmps19
 go_wp2_with fail
 refine hl.mono ?_
 rintro e w1 ⟨b, u, xs, T, F, n, rfl, hb, hL, -, -, -⟩
 have HL := Lib.hid hL; clear hL hl
 go_wp2_with fail
 refine (hasInt_any b s _ T F n w1 HL.out.head HL.out.ok (fun k hk => (HL.out.range k hk).2) HL.out.nb HG.out hs).mono ?_
 rintro e w2 ⟨bl, rfl, h1, h2, -⟩
 go_wp2
 go_ret
 refine ⟨bl, rfl, ⟨T, fun q => ?_, fun q => ?_, h1⟩, HL.out.bel.trans (h2.below (fun x hx => by omega) HL.out.bel.size)⟩
 ·rw [HL.out.N q, List.take_length]
 ·rw [HL.out.V q, List.take_length]
end Go.Proofs.YtehlmjecbljafaaGreatDoor
namespace Go.Proofs.YtehlmjecbljafaaGreatDoor
open Go Go.RowKit
/-- There may be interest in what begins with these tokens. -/
def startT (T : Trie) : Path → Path → Prop
 | _, [] => True
 | p, t :: r => T.N (p ++ [[62]]) ∨ (T.N (p ++ [[42]]) ∧ startT T (p ++ [[42]]) r) ∨ (T.N (p ++ [t]) ∧ startT T (p ++ [t]) r)
theorem start_of_has (T : Trie) : ∀ (l p m : Path), hasT T p (l ++ m) → startT T p l
 | [], _, _, _ => trivial
 | t :: r, p, m, h => by
  rw [List.cons_append, hasT] at h
  rw [startT]
  have key : ∀ q, (if r ++ m = [] then 0 < T.V q else hasT T q (r ++ m)) → startT T q r := fun q hq => by
   by_cases e : r ++ m = []
   ·rw [(List.append_eq_nil_iff.1 e).1]; trivial
   ·rw [if_neg e] at hq; exact start_of_has T r q m hq
  rcases h with h | ⟨h1, h2⟩ | ⟨h1, h2⟩
  ·exact .inl h
  ·exact .inr (.inl ⟨h1, key _ h2⟩)
  ·exact .inr (.inr ⟨h1, key _ h2⟩)
end Go.Proofs.YtehlmjecbljafaaGreatDoor
namespace Go.Proofs.YtehlmjecbljafaaGreatDoor
open Go Go.RowKit Go.MapKept
open Go.ChangeMaps (setBlock heap_setBlock_same heap_setBlock_other)
def entKV (e : MapEntry) : Value × Value := (e.key, e.val)
/-- Block b is a map of these entries. -/
def MapE (w : World) (b : Nat) (kv : List (Value × Value)) : Prop := ∃ es clock, w.heap[b]? = some (.map es clock) ∧ es.toList.map entKV = kv ∧ Stamped es clock
theorem MapE.made (w : World) : MapE (w.alloc (.map #[] 0)) w.heap.size [] := ⟨#[], 0, heap_alloc_new w _, rfl, stamped_empty 0⟩
theorem MapE.lt {w : World} {b : Nat} {kv : List (Value × Value)} (h : MapE w b kv) : b < w.heap.size := by obtain ⟨es, c, h, -⟩ := h; exact (Array.getElem?_eq_some_iff.1 h).1
theorem MapE.keep {w w' : World} {b : Nat} {kv : List (Value × Value)} (h : MapE w b kv) (e : w'.heap[b]? = w.heap[b]?) : MapE w' b kv := by
 obtain ⟨es, c, h1, h2, h3⟩ := h; exact ⟨es, c, e.trans h1, h2, h3⟩
theorem MapE.ne {w : World} {a b : Nat} {kv : List (Value × Value)} {cs : Array Value} {t : TypeId} (ha : MapE w a kv) (hb : w.heap[b]? = some (.cells cs t (0, 0))) : a ≠ b := by
 rintro rfl; obtain ⟨es, c, h, -⟩ := ha; rw [hb] at h; cases h
theorem MapE.nd {w : World} {b : Nat} {kv : List (Value × Value)} (h : MapE w b kv) : (kv.map (·.1)).Nodup := by
 obtain ⟨es, c, h1, rfl, h3⟩ := h
 rw [List.map_map]; exact h3.2.2
/-- A key that can be asked for. -/
def KeyAt (P : Program) (k : TypeId) (w : World) (x : Value) (kv : List (Value × Value)) : Prop :=
 (∀ em, (Instr.checkKey em 10000 k x).run P w = .ok () w) ∧ ∀ es : List MapEntry, es.map entKV = kv → ((Instr.findKey k x es).run P w = .ok none w ∧ ∀ e ∈ es, e.key ≠ x) ∨ ∃ j e, (Instr.findKey k x es).run P w = .ok (some (j, e.val)) w ∧ es[j]? = some e ∧ e.key = x
theorem keyAt_string {P : Program} {k : TypeId} (hk : P.underlying k = some .string) (w : World) (s : ByteArray) {kv : List (Value × Value)} (h : ∀ p ∈ kv, ∃ t, p.1 = .string t) : KeyAt P k w (.string s) kv := by
 refine ⟨fun em => run_checkKey hk (show IsKey .string (.string s) from trivial) em 9999, ?_⟩
 rintro es rfl
 have hks : ∀ y ∈ es, IsKey .string y.key := fun y hy => by
  obtain ⟨t, ht⟩ := h (entKV y) (List.mem_map_of_mem hy)
  have : y.key = .string t := ht
  rw [this]; trivial
 rcases findNow_spec (k := .string s) (d := .string) trivial es 0 hks with ⟨h1, h2⟩ | ⟨j, e0, h1, h2, h3⟩
 ·exact .inl ⟨run_findKey hk h1, h2⟩
 ·exact .inr ⟨j, e0, by simpa using run_findKey hk h1, h2, h3⟩
/-- A pointer to the head of a block of cells. -/
abbrev atBlk (b : Nat) : Value := .pointer (some ⟨b, 0, none⟩)
theorem equal_ptr {P : Program} {w : World} {tp te : TypeId} {j : TypeInfo} (hp : P.underlying tp = some (.pointer te)) (hte : P.info? te = some j) (hsz : j.size ≠ 0) {a b : Nat} {ca cb : Array Value} {ta tb : TypeId}
  (ha : w.heap[a]? = some (.cells ca ta (0, 0))) (hb : w.heap[b]? = some (.cells cb tb (0, 0))) : (Op.equal tp (atBlk a) (atBlk b)).run P w = .ok (decide (a = b)) w := by
 have key : ∀ d : Nat, (Op.equalIn (d + 1) tp (atBlk a) (atBlk b)).run P w = .ok (decide (a = b)) w := fun d => by
  unfold atBlk
  by_cases e : a = b
  ·subst e
   simp [Op.equalIn, run_underlying hp, sizeOf, typeInfo, hte, run_sameAddr_same]
  ·have := run_sameAddr_other (P := P) w (a := ⟨a, 0, none⟩) (b := ⟨b, 0, none⟩) (fun h => e (by cases h; rfl)) ha hb
   simp [Op.equalIn, run_underlying hp, sizeOf, typeInfo, hte, hsz, this, e]
 exact key 9999
theorem findAsking_ptr {P : Program} {w : World} {tp te : TypeId} {j : TypeInfo} (hp : P.underlying tp = some (.pointer te)) (hte : P.info? te = some j) (hsz : j.size ≠ 0) {a : Nat} {ca : Array Value} {ta : TypeId} (ha : w.heap[a]? = some (.cells ca ta (0, 0))) :
  ∀ (es : List MapEntry) (i : Nat), (∀ e ∈ es, ∃ b cb tb, e.key = atBlk b ∧ w.heap[b]? = some (.cells cb tb (0, 0))) →
   ((Instr.findAsking tp (atBlk a) es i).run P w = .ok none w ∧ ∀ e ∈ es, e.key ≠ atBlk a) ∨ ∃ j e, (Instr.findAsking tp (atBlk a) es i).run P w = .ok (some (i + j, e.val)) w ∧ es[j]? = some e ∧ e.key = atBlk a
 | [], i, _ => .inl ⟨rfl, fun e he => by cases he⟩
 | e :: es, i, h => by
  obtain ⟨b, cb, tb, hk, hb⟩ := h e (List.mem_cons_self ..)
  have heq := equal_ptr hp hte hsz ha hb
  by_cases hab : a = b
  ·refine .inr ⟨0, e, ?_, rfl, by rw [hk, hab]⟩
   rw [decide_eq_true hab] at heq
   unfold Instr.findAsking
   simp [hk, heq, Result.andThen]
  ·rw [decide_eq_false hab] at heq
   have hrec : (Instr.findAsking tp (atBlk a) (e :: es) i).run P w = (Instr.findAsking tp (atBlk a) es (i + 1)).run P w := by
    rw [Instr.findAsking]
    simp [hk, heq, Result.andThen]
   rcases findAsking_ptr hp hte hsz ha es (i + 1) fun e he => h e (List.mem_cons_of_mem _ he) with ⟨h1, h2⟩ | ⟨j, e0, h1, h2, h3⟩
   ·refine .inl ⟨hrec.trans h1, fun x hx => ?_⟩
    rcases List.mem_cons.1 hx with rfl | hx
    ·rw [hk]; intro e2; unfold atBlk at e2; cases e2; exact hab rfl
    ·exact h2 x hx
   ·exact .inr ⟨j + 1, e0, by rw [hrec, h1, show i + 1 + j = i + (j + 1) by omega], by simpa using h2, h3⟩
theorem keyAt_ptr {P : Program} {w : World} {tp te : TypeId} {j : TypeInfo} (hp : P.underlying tp = some (.pointer te)) (hte : P.info? te = some j) (hsz : j.size ≠ 0) {a : Nat} {ca : Array Value} {ta : TypeId} (ha : w.heap[a]? = some (.cells ca ta (0, 0))) {kv : List (Value × Value)}
  (h : ∀ p ∈ kv, ∃ b cb tb, p.1 = atBlk b ∧ w.heap[b]? = some (.cells cb tb (0, 0))) : KeyAt P tp w (atBlk a) kv := by
 refine ⟨fun em => ?_, ?_⟩
 ·unfold Instr.checkKey
  simp only [Sem.run_bind, run_underlying hp, Result.andThen, atBlk]
  rfl
 ·rintro es rfl
  have hes : ∀ e ∈ es, ∃ b cb tb, e.key = atBlk b ∧ w.heap[b]? = some (.cells cb tb (0, 0)) := fun e he => h (entKV e) (List.mem_map_of_mem he)
  cases es with
  | nil =>
   refine .inl ⟨?_, fun e he => by cases he⟩
   simp [Instr.findKey, run_underlying hp, Result.andThen, Instr.findNow]
  | cons e0 r =>
   obtain ⟨b, cb, tb, hk, -⟩ := hes e0 (List.mem_cons_self ..)
   have hn : Instr.findNow (.pointer te) (atBlk a) (e0 :: r) 0 = none := by
    rw [Instr.findNow, hk]; rfl
   have hf : (Instr.findKey tp (atBlk a) (e0 :: r)).run P w = (Instr.findAsking tp (atBlk a) (e0 :: r) 0).run P w := by
    simp [Instr.findKey, run_underlying hp, Result.andThen, hn]
   rw [hf]
   rcases findAsking_ptr hp hte hsz ha (e0 :: r) 0 hes with h1 | ⟨j, e1, h1, h2, h3⟩
   ·exact .inl h1
   ·exact .inr ⟨j, e1, by simpa using h1, h2, h3⟩
section
variable {P : Program} {w : World} {b : Nat} {kv : List (Value × Value)} {t k e : TypeId} {x z : Value}
theorem MapE.look_yes (h : MapE w b kv) (ht : P.underlying t = some (.map k e)) (hK : KeyAt P k w x kv) {v : Value} (hv : (x, v) ∈ kv) (c : Bool) :
  (Instr.lookup t (.map (some b)) x c).run P w = .ok (if c then .tuple #[v, .bool true] else v) w := by
 have hnd := h.nd
 obtain ⟨es, cl, hb, rfl, hs⟩ := h
 rcases hK.2 es.toList rfl with ⟨h1, h2⟩ | ⟨j, e0, h1, h2, h3⟩
 ·obtain ⟨e1, he1, he2⟩ := List.mem_map.1 hv
  exact absurd (congrArg Prod.fst he2) (h2 e1 he1)
 ·have : e0.val = v := by
   obtain ⟨e1, he1, he2⟩ := List.mem_map.1 hv
   have hk : e1.key = e0.key := (congrArg Prod.fst he2).trans h3.symm
   have := entry_eq_of_key (((stamped_iff es cl).1 hs).2.2) he1 (List.mem_of_getElem? h2) hk
   rw [← this]; exact congrArg Prod.snd he2
  subst this
  simp [Instr.lookup, run_underlying ht, Go.MapKept.run_getObj_map hb, hK.1, h1, Result.andThen]
theorem MapE.look_no (h : MapE w b kv) (ht : P.underlying t = some (.map k e)) (hz : (zeroValue e).run P w = .ok z w) (hK : KeyAt P k w x kv) (hv : ∀ v, (x, v) ∉ kv) (c : Bool) :
  (Instr.lookup t (.map (some b)) x c).run P w = .ok (if c then .tuple #[z, .bool false] else z) w := by
 obtain ⟨es, cl, hb, rfl, hs⟩ := h
 rcases hK.2 es.toList rfl with ⟨h1, h2⟩ | ⟨j, e0, h1, h2, h3⟩
 ·simp [Instr.lookup, run_underlying ht, Go.MapKept.run_getObj_map hb, hK.1, h1, hz, Result.andThen]
 ·exact absurd (List.mem_map.2 ⟨e0, List.mem_of_getElem? h2, by unfold entKV; rw [h3]⟩) (hv e0.val)
theorem MapE.store (h : MapE w b kv) (ht : P.underlying t = some (.map k e)) (hK : KeyAt P k w x kv) (hv : ∀ v, (x, v) ∉ kv) (v : Value) :
  ∃ w', (Instr.mapUpdate t (.map (some b)) x v).run P w = .ok () w' ∧ MapE w' b (kv ++ [(x, v)]) ∧ Only (· = b) w w' ∧ w'.heap.size = w.heap.size := by
 obtain ⟨es, cl, hb, rfl, hs⟩ := h
 rcases hK.2 es.toList rfl with ⟨h1, h2⟩ | ⟨j, e0, h1, h2, h3⟩
 ·refine ⟨setBlock w b (.map (es.push { key := x, val := v, born := cl }) (cl + 1)), ?_, ⟨_, _, heap_setBlock_same hb _, by simp [entKV], stamped_push hs h2⟩, ⟨rfl, rfl, rfl, by simp [setBlock], fun i _ hi => heap_setBlock_other hb _ hi⟩, by simp [setBlock]⟩
  simp [Instr.mapUpdate, run_underlying ht, Go.MapKept.run_getObj_map hb, hK.1, h1, run_setObj_map _ hb, Result.andThen, setBlock]
 ·exact absurd (List.mem_map.2 ⟨e0, List.mem_of_getElem? h2, by unfold entKV; rw [h3]⟩) (hv e0.val)
theorem MapE.len (h : MapE w b kv) (ht : P.underlying t = some (.map k e)) (ty : TypeId) : (Builtin.len_ #[t] ty #[.map (some b)]).run P w = .ok (.int .i64 kv.length) w := by
 obtain ⟨es, cl, hb, rfl, hs⟩ := h
 simp [Builtin.len_, run_underlying ht, Go.MapKept.run_getObj_map hb, goInt, Result.andThen]
end
/-- A loop over the map of block b; its iterator is block r; what is still to come is left. -/
def IterE (w : World) (b r : Nat) (kv left : List (Value × Value)) : Prop :=
 ∃ es clock since seen c0, w.heap[b]? = some (.map es clock) ∧ es.toList.map entKV = kv ∧ Stamped es clock ∧ w.heap[r]? = some (.mapIter (some b) since seen c0) ∧ (∀ x ∈ es.toList, x.born < since) ∧ since ≤ c0 ∧ since ≤ clock ∧ left = (leftOf es seen).toList.map entKV
theorem IterE.keep {w w' : World} {b r : Nat} {kv left : List (Value × Value)} (h : IterE w b r kv left) (e1 : w'.heap[b]? = w.heap[b]?) (e2 : w'.heap[r]? = w.heap[r]?) : IterE w' b r kv left := by
 obtain ⟨es, cl, s, sn, c0, h1, h2, h3, h4, h5⟩ := h
 exact ⟨es, cl, s, sn, c0, e1.trans h1, h2, h3, e2.trans h4, h5⟩
theorem IterE.lt {w : World} {b r : Nat} {kv left : List (Value × Value)} (h : IterE w b r kv left) : r < w.heap.size := by
 obtain ⟨es, cl, s, sn, c0, h1, h2, h3, h4, -⟩ := h; exact (Array.getElem?_eq_some_iff.1 h4).1
theorem IterE.left_eq {w : World} {b r : Nat} {kv left : List (Value × Value)} (h : IterE w b r kv left) : w.rangeLeft b r = left.length := by
 obtain ⟨es, cl, s, sn, c0, h1, h2, h3, h4, h5, h6, h7, rfl⟩ := h
 simp [World.rangeLeft, h1, h4]
theorem IterE.sub {w : World} {b r : Nat} {kv left : List (Value × Value)} (h : IterE w b r kv left) : ∀ p ∈ left, p ∈ kv := by
 obtain ⟨es, cl, s, sn, c0, h1, rfl, h3, h4, h5, h6, h7, rfl⟩ := h
 intro p hp
 obtain ⟨x, hx, rfl⟩ := List.mem_map.1 hp
 unfold leftOf at hx
 rw [Array.toList_filter] at hx
 exact List.mem_map_of_mem (List.mem_filter.1 hx).1
theorem pick_perm {α β : Type} [DecidableEq β] (f : α → β) : ∀ (l : List α) (x : α), x ∈ l → (l.map f).Nodup → l.Perm (x :: l.filter fun y => !(f y == f x))
 | [], x, h, _ => by cases h
 | a :: r, x, h, hn => by
  rw [List.map_cons, List.nodup_cons] at hn
  by_cases e : f a = f x
  ·have hx : a = x := by
    rcases List.mem_cons.1 h with h | h
    ·exact h.symm
    ·exact absurd (List.mem_map.2 ⟨x, h, e.symm⟩) hn.1
   subst hx
   rw [List.filter_cons_of_neg (by simp)]
   have : r.filter (fun y => !(f y == f a)) = r := List.filter_eq_self.2 fun y hy => by
    have : f y ≠ f a := fun e2 => hn.1 (List.mem_map.2 ⟨y, hy, e2⟩)
    simp [this]
   rw [this]
  ·rw [List.filter_cons_of_pos (by simp [e])]
   have hx : x ∈ r := by
    rcases List.mem_cons.1 h with h | h
    ·exact absurd (by rw [h]) e
    ·exact h
   exact ((pick_perm f r x hx hn.2).cons a).trans (List.Perm.swap x a _)
theorem IterE.next {P : Program} {w : World} {b r : Nat} {kv left : List (Value × Value)} (h : IterE w b r kv left) (ty : TypeId) :
  (left = [] ∧ (Instr.next (.pointer (some ⟨r, 0, none⟩)) false ty).run P w = .ok (.tuple #[.bool false]) w) ∨
  ∃ key v left' w', left.Perm ((key, v) :: left') ∧ (Instr.next (.pointer (some ⟨r, 0, none⟩)) false ty).run P w = .ok (.tuple #[.bool true, key, v]) w' ∧ IterE w' b r kv left' ∧ Only (· = r) w w' ∧ w'.heap.size = w.heap.size ∧ (Instr.entry (.pointer (some ⟨r, 0, none⟩))).run P w' = .ok (.tuple #[key, v]) w' := by
 obtain ⟨es, clock, since, seen, c0, hb, rfl, hs, hr, hold, hsc, hsk, rfl⟩ := h
 have hne : b ≠ r := fun e => by rw [e, hr] at hb; cases hb
 rcases run_next_at (P := P) w ty r b since c0 seen es clock hr hb hold hsc with ⟨h0, hrun⟩ | ⟨e, he, w1, hal, hrun⟩
 ·refine .inl ⟨?_, hrun⟩
  rw [Array.eq_empty_of_size_eq_zero h0]; rfl
 ·have hr1 : w1.heap[r]? = some (.mapIter (some b) since seen c0) := by rcases hal with rfl | rfl <;> exact hr
  have hb1 : w1.heap[b]? = some (.map es clock) := by rcases hal with rfl | rfl <;> exact hb
  have hset := heap_set (o' := .mapIter (some b) since (seen.push e.born) clock) hr1
  have hb' : (setBlock w1 r (.mapIter (some b) since (seen.push e.born) clock)).heap[b]? = some (.map es clock) := (hset.2 b hne).trans hb1
  have hem : e ∈ es.toList := by
   unfold leftOf at he; simp at he; simpa using he.1
  have hL : (leftOf es (seen.push e.born)).toList = (leftOf es seen).toList.filter fun y => !(y.born == e.born) := by
   unfold leftOf
   rw [Array.toList_filter, Array.toList_filter, List.filter_filter]
   congr 1
   funext y
   simp only [Array.contains_push, Bool.not_or]
   rw [Bool.and_comm]
  have hnd : ((leftOf es seen).toList.map (·.born)).Nodup := by
   unfold leftOf
   rw [Array.toList_filter]
   exact (List.filter_sublist.map _).nodup hs.2.1
  refine .inr ⟨e.key, e.val, (leftOf es (seen.push e.born)).toList.map entKV, _, ?_, hrun, ⟨es, clock, since, seen.push e.born, clock, hb', rfl, hs, hset.1, hold, hsk, hsk, rfl⟩, ?_, ?_, run_entry_at _ r b since seen es clock e hset.1 hb' hem hs.2.1⟩
  ·rw [hL]
   have := (pick_perm (·.born) _ e he hnd).map entKV
   simpa [entKV] using this
  ·rcases hal with rfl | rfl <;> exact ⟨rfl, rfl, rfl, by simp [setBlock], fun i _ hi => hset.2 i hi⟩
  ·rcases hal with rfl | rfl <;> simp [setBlock]
theorem MapE.range {P : Program} {w : World} {b : Nat} {kv : List (Value × Value)} (h : MapE w b kv) {t k e : TypeId} (ht : P.underlying t = some (.map k e)) :
  ∃ w', (Instr.range t (.map (some b))).run P w = .ok (.pointer (some ⟨w.heap.size, 0, none⟩)) w' ∧ IterE w' b w.heap.size kv kv ∧ Below w.heap.size w w' ∧ w'.heap.size = w.heap.size + 1 := by
 have hlt := h.lt
 obtain ⟨es, clock, hb, rfl, hs⟩ := h
 refine ⟨_, run_range_map w t k e b es clock ht hb, ⟨es, clock, clock, #[], clock, ((Below.refl _ w).alloc (Nat.le_refl _) _).block b hlt |>.trans hb, rfl, hs, heap_alloc_new w _, hs.1, Nat.le_refl _, Nat.le_refl _, ?_⟩, (Below.refl _ w).alloc (Nat.le_refl _) _, by simp⟩
 congr 1
 unfold leftOf
 rw [Array.toList_filter]
 exact (List.filter_eq_self.2 fun x _ => by simp).symm
section
variable {P : Program} (w : World) {ops : Array Oper} {rest : List Oper} {o : Oper} {a : Act} {Q : Exit → Act → World → Prop}
theorem wpList_rangeE (hg : o.guard = none) (m : Operand) (t : TypeId) (hop : o.op = Op.range t m) (k e : TypeId) (ht : P.underlying t = some (.map k e)) (b : Nat) (kv : List (Value × Value))
  (hm : a.eval m = .map (some b)) (hown : MapE w b kv)
  (hK : ∀ w', IterE w' b w.heap.size kv kv → Below w.heap.size w w' → w'.heap.size = w.heap.size + 1 → wpList P ops Q rest (a.put o.dst (.pointer (some ⟨w.heap.size, 0, none⟩))) w') :
  wpList P ops Q (o :: rest) a w := by
 refine wpList_plain hg fun K' hK' => ?_
 obtain ⟨w', hrun, r1, r2, r3⟩ := hown.range ht
 unfold Oper.wp
 simp [execOp, hop, hm, hrun, Result.andThen]
 exact hK' _ _ (hK w' r1 r2 r3)
theorem wpList_nextE (hg : o.guard = none) (it : Operand) (hop : o.op = Op.next it false) (b r : Nat) (kv left : List (Value × Value)) (hit : a.eval it = .pointer (some ⟨r, 0, none⟩)) (h : IterE w b r kv left)
  (hDone : left = [] → wpList P ops Q rest (a.put o.dst (.tuple #[.bool false])) w)
  (hMore : ∀ (key v : Value) (left' : List (Value × Value)) (w' : World), left.Perm ((key, v) :: left') → IterE w' b r kv left' → Only (· = r) w w' → w'.heap.size = w.heap.size →
   (Instr.entry (.pointer (some ⟨r, 0, none⟩))).run P w' = .ok (.tuple #[key, v]) w' → wpList P ops Q rest (a.put o.dst (.tuple #[.bool true, key, v])) w') :
  wpList P ops Q (o :: rest) a w := by
 refine wpList_plain hg fun K' hK' => ?_
 unfold Oper.wp
 rcases h.next (P := P) o.type with ⟨h0, hrun⟩ | ⟨key, v, left', w', hp, hrun, hit', hon, hz, hen⟩
 ·simp [execOp, hop, hit, hrun, Result.andThen]
  exact hK' _ _ (hDone h0)
 ·simp [execOp, hop, hit, hrun, Result.andThen]
  exact hK' _ _ (hMore key v left' w' hp hit' hon hz hen)
theorem wpList_nextKV {α β : Type} (mkK : α → Value) (mkV : β → Value) (hg : o.guard = none) (it : Operand) (hop : o.op = Op.next it false) (b r : Nat) (kv left : List (Value × Value)) (inv : ∀ p ∈ kv, ∃ x y, p = (mkK x, mkV y)) (hit : a.eval it = .pointer (some ⟨r, 0, none⟩)) (h : IterE w b r kv left)
  (hDone : left = [] → wpList P ops Q rest (a.put o.dst (.tuple #[.bool false])) w)
  (hMore : ∀ (x : α) (y : β) (left' : List (Value × Value)) (w' : World), left.Perm ((mkK x, mkV y) :: left') → IterE w' b r kv left' → Only (· = r) w w' → w'.heap.size = w.heap.size →
   (Instr.entry (.pointer (some ⟨r, 0, none⟩))).run P w' = .ok (.tuple #[mkK x, mkV y]) w' → wpList P ops Q rest (a.put o.dst (.tuple #[.bool true, mkK x, mkV y])) w') :
  wpList P ops Q (o :: rest) a w :=
 wpList_nextE w hg it hop b r kv left hit h hDone fun key v left' w' hp hi hon hz hen => by
  obtain ⟨x, y, e⟩ := inv _ (h.sub (key, v) (hp.mem_iff.2 (List.mem_cons_self ..)))
  obtain ⟨rfl, rfl⟩ := Prod.mk.inj e
  exact hMore x y left' w' hp hi hon hz hen
end
end Go.Proofs.YtehlmjecbljafaaGreatDoor
namespace Go.Proofs.YtehlmjecbljafaaGreatDoor
open Go Go.RowKit
/-- Which paths are there, where their levels, maps, nodes and sets lie, and which subscriptions there are. -/
structure STrie where
 N : Path → Prop
 aL : Path → Nat
 aM : Path → Nat
 aN : Path → Nat
 aS : Path → Nat
 S : Path → List Nat
open Classical in
noncomputable def STrie.ptr (T : STrie) (q : Path) : Value := if T.N q then .pointer (some ⟨T.aN q, 0, none⟩) else .pointer none
theorem STrie.ptr_yes {T : STrie} {q : Path} (h : T.N q) : T.ptr q = .pointer (some ⟨T.aN q, 0, none⟩) := by unfold STrie.ptr; rw [if_pos h]
theorem STrie.ptr_no {T : STrie} {q : Path} (h : ¬ T.N q) : T.ptr q = .pointer none := by unfold STrie.ptr; rw [if_neg h]
abbrev strV (t : List UInt8) : Value := .string (mk t)
/-- The entries of a level's map: its kids. -/
def STrie.Kids (T : STrie) (p : Path) (kv : List (Value × Value)) : Prop := ∀ x v, (x, v) ∈ kv ↔ ∃ t, x = strV t ∧ t ≠ [42] ∧ t ≠ [62] ∧ T.N (p ++ [t]) ∧ v = .pointer (some ⟨T.aN (p ++ [t]), 0, none⟩)
def unitV : Value := .agg #[]
def subKV (l : List Nat) : List (Value × Value) := l.map fun b => (atBlk b, unitV)
structure STrieOK (T : STrie) (F : Nat → Prop) (w : World) : Prop where
 root : T.N []
 pref : ∀ p t, T.N (p ++ [t]) → T.N p
 lev : ∀ p, T.N p → w.heap[T.aL p]? = some (.cells #[.map (some (T.aM p)), T.ptr (p ++ [[42]]), T.ptr (p ++ [[62]])] 279 (0, 0))
 map : ∀ p, T.N p → ∃ kv, MapE w (T.aM p) kv ∧ T.Kids p kv
 nod : ∀ p t, T.N (p ++ [t]) → w.heap[T.aN (p ++ [t])]? = some (.cells #[.pointer (some ⟨T.aL (p ++ [t]), 0, none⟩), .map (some (T.aS (p ++ [t]))), .map none, .slice none 0 0] 287 (0, 0))
 sub : ∀ p t, T.N (p ++ [t]) → MapE w (T.aS (p ++ [t])) (subKV (T.S (p ++ [t])))
 injL : ∀ p q, T.N p → T.N q → T.aL p = T.aL q → p = q
 injM : ∀ p q, T.N p → T.N q → T.aM p = T.aM q → p = q
 injS : ∀ p q, T.N p → T.N q → p ≠ [] → q ≠ [] → T.aS p = T.aS q → p = q
 injMS : ∀ p q, T.N p → T.N q → q ≠ [] → T.aM p ≠ T.aS q
 fL : ∀ p, T.N p → F (T.aL p)
 fM : ∀ p, T.N p → F (T.aM p)
 fN : ∀ p t, T.N (p ++ [t]) → F (T.aN (p ++ [t]))
 fS : ∀ p t, T.N (p ++ [t]) → F (T.aS (p ++ [t]))
theorem STrieOK.keep {T : STrie} {F : Nat → Prop} {w w' : World} (h : STrieOK T F w) (hk : ∀ k, F k → w'.heap[k]? = w.heap[k]?) : STrieOK T F w' :=
 { h with
  lev := fun p hp => (hk _ (h.fL p hp)).trans (h.lev p hp)
  map := fun p hp => by obtain ⟨kv, h1, h2⟩ := h.map p hp; exact ⟨kv, h1.keep (hk _ (h.fM p hp)), h2⟩
  nod := fun p t hp => (hk _ (h.fN p t hp)).trans (h.nod p t hp)
  sub := fun p t hp => (h.sub p t hp).keep (hk _ (h.fS p t hp)) }
open Classical in
/-- One path more. -/
noncomputable def STrie.add (T : STrie) (q : Path) (l m a s : Nat) : STrie where
 N := fun x => T.N x ∨ x = q
 aL := fun x => if x = q then l else T.aL x
 aM := fun x => if x = q then m else T.aM x
 aN := fun x => if x = q then a else T.aN x
 aS := fun x => if x = q then s else T.aS x
 S := fun x => if x = q then [] else T.S x
theorem STrieOK.grow {T : STrie} {F : Nat → Prop} {w w' : World} {p : Path} {t : List UInt8} {l m a s : Nat} (h : STrieOK T F w) (hp : T.N p) (hnew : ¬ T.N (p ++ [t]))
  (hF : ∀ k, F k → k < w.heap.size) (hl : w.heap.size ≤ l) (hm : w.heap.size ≤ m) (_ha : w.heap.size ≤ a) (hs : w.heap.size ≤ s) (hms : m ≠ s)
  (hlev : w'.heap[T.aL p]? = some (.cells #[.map (some (T.aM p)), if t = [42] then .pointer (some ⟨a, 0, none⟩) else T.ptr (p ++ [[42]]), if t = [62] then .pointer (some ⟨a, 0, none⟩) else T.ptr (p ++ [[62]])] 279 (0, 0)))
  (hmap : ∃ kv, MapE w' (T.aM p) kv ∧ ∀ x v, (x, v) ∈ kv ↔ (∃ u, x = strV u ∧ u ≠ [42] ∧ u ≠ [62] ∧ T.N (p ++ [u]) ∧ v = .pointer (some ⟨T.aN (p ++ [u]), 0, none⟩)) ∨ (t ≠ [42] ∧ t ≠ [62] ∧ x = strV t ∧ v = .pointer (some ⟨a, 0, none⟩)))
  (hnod : w'.heap[a]? = some (.cells #[.pointer (some ⟨l, 0, none⟩), .map (some s), .map none, .slice none 0 0] 287 (0, 0))) (hsub : MapE w' s [])
  (hL : w'.heap[l]? = some (.cells #[.map (some m), .pointer none, .pointer none] 279 (0, 0))) (hM : MapE w' m [])
  (keep : ∀ k, F k → k ≠ T.aL p → k ≠ T.aM p → w'.heap[k]? = w.heap[k]?) :
  STrieOK (T.add (p ++ [t]) l m a s) (fun k => F k ∨ k = l ∨ k = m ∨ k = a ∨ k = s) w' := by
 have kid : ∀ u, ¬ T.N (p ++ [t] ++ [u]) := fun u hu => hnew (h.pref _ _ hu)
 have ne0 : ∀ x, T.N x → x ≠ p ++ [t] := fun x hx e => hnew (e ▸ hx)
 have ptrO : ∀ q : Path, q ≠ p ++ [t] → (T.add (p ++ [t]) l m a s).ptr q = T.ptr q := by
  intro q hq
  by_cases hN : T.N q
  ·rw [STrie.ptr_yes hN, STrie.ptr_yes (T := T.add (p ++ [t]) l m a s) (.inl hN)]
   simp only [STrie.add, if_neg hq]
  ·rw [STrie.ptr_no hN, STrie.ptr_no (T := T.add (p ++ [t]) l m a s) (by rintro (h | h); exact hN h; exact hq h)]
 have ptrN : (T.add (p ++ [t]) l m a s).ptr (p ++ [t]) = .pointer (some ⟨a, 0, none⟩) := by
  rw [STrie.ptr_yes (T := T.add (p ++ [t]) l m a s) (.inr rfl)]
  simp [STrie.add]
 have ptrK : ∀ u, (T.add (p ++ [t]) l m a s).ptr (p ++ [t] ++ [u]) = .pointer none := by
  intro u
  rw [ptrO _ (fun e => by have := congrArg List.length e; simp at this), STrie.ptr_no (kid u)]
 have kL : ∀ q, T.N q → q ≠ p → w'.heap[T.aL q]? = w.heap[T.aL q]? := fun q hq hne => keep _ (h.fL q hq) (fun e => hne (h.injL q p hq hp e)) (by
  obtain ⟨kv, h1, -⟩ := h.map p hp
  exact (h1.ne (h.lev q hq)).symm)
 have kM : ∀ q, T.N q → q ≠ p → w'.heap[T.aM q]? = w.heap[T.aM q]? := fun q hq hne => keep _ (h.fM q hq) (by
  obtain ⟨kv, h1, -⟩ := h.map q hq
  exact h1.ne (h.lev p hp)) (fun e => hne (h.injM q p hq hp e))
 have kN : ∀ q u, T.N (q ++ [u]) → w'.heap[T.aN (q ++ [u])]? = w.heap[T.aN (q ++ [u])]? := fun q u hq => keep _ (h.fN q u hq) (cells_ne (h.nod q u hq) (h.lev p hp) (by decide)) (by
  obtain ⟨kv, h1, -⟩ := h.map p hp
  exact (h1.ne (h.nod q u hq)).symm)
 have kS : ∀ q u, T.N (q ++ [u]) → w'.heap[T.aS (q ++ [u])]? = w.heap[T.aS (q ++ [u])]? := fun q u hq => keep _ (h.fS q u hq) ((h.sub q u hq).ne (h.lev p hp)) (fun e => h.injMS p _ hp hq (snoc_ne _ _) e.symm)
 have old : ∀ q, T.N q → (T.add (p ++ [t]) l m a s).aL q = T.aL q ∧ (T.add (p ++ [t]) l m a s).aM q = T.aM q ∧ (T.add (p ++ [t]) l m a s).aN q = T.aN q ∧ (T.add (p ++ [t]) l m a s).aS q = T.aS q ∧ (T.add (p ++ [t]) l m a s).S q = T.S q := by
  intro q hq
  simp only [STrie.add, if_neg (ne0 q hq), and_self]
 have new : (T.add (p ++ [t]) l m a s).aL (p ++ [t]) = l ∧ (T.add (p ++ [t]) l m a s).aM (p ++ [t]) = m ∧ (T.add (p ++ [t]) l m a s).aN (p ++ [t]) = a ∧ (T.add (p ++ [t]) l m a s).aS (p ++ [t]) = s ∧ (T.add (p ++ [t]) l m a s).S (p ++ [t]) = [] := by
  simp [STrie.add]
 have hpne : p ≠ p ++ [t] := fun e => by have := congrArg List.length e; simp at this
 refine ⟨.inl h.root, ?_, ?_, ?_, ?_, ?_, ?_, ?_, ?_, ?_, ?_, ?_, ?_, ?_⟩
 ·rintro q u (hq | hq)
  ·exact .inl (h.pref q u hq)
  ·obtain ⟨rfl, rfl⟩ := snoc_inj hq; exact .inl hp
 ·rintro q (hq | rfl)
  ·obtain ⟨o1, o2, -⟩ := old q hq
   rw [o1, o2]
   by_cases hqp : q = p
   ·subst hqp
    have e42 : (if t = [42] then Value.pointer (some ⟨a, 0, none⟩) else T.ptr (q ++ [[42]])) = (T.add (q ++ [t]) l m a s).ptr (q ++ [[42]]) := by
     by_cases ht : t = [42]
     ·subst ht; rw [if_pos rfl, ptrN]
     ·rw [if_neg ht, ptrO _ (fun e => ht (snoc_inj e).2.symm)]
    have e62 : (if t = [62] then Value.pointer (some ⟨a, 0, none⟩) else T.ptr (q ++ [[62]])) = (T.add (q ++ [t]) l m a s).ptr (q ++ [[62]]) := by
     by_cases ht : t = [62]
     ·subst ht; rw [if_pos rfl, ptrN]
     ·rw [if_neg ht, ptrO _ (fun e => ht (snoc_inj e).2.symm)]
    rw [hlev, e42, e62]
   ·rw [kL q hq hqp, h.lev q hq, ptrO _ (fun e => hqp (snoc_inj e).1), ptrO _ (fun e => hqp (snoc_inj e).1)]
  ·rw [new.1, new.2.1, ptrK, ptrK]; exact hL
 ·rintro q (hq | rfl)
  ·obtain ⟨-, o2, -⟩ := old q hq
   rw [o2]
   by_cases hqp : q = p
   ·subst hqp
    obtain ⟨kv, h1, h2⟩ := hmap
    refine ⟨kv, h1, fun x v => ?_⟩
    rw [h2]
    constructor
    ·rintro (⟨u, rfl, u1, u2, hu, rfl⟩ | ⟨t1, t2, rfl, rfl⟩)
     ·exact ⟨u, rfl, u1, u2, .inl hu, by rw [(old _ hu).2.2.1]⟩
     ·exact ⟨t, rfl, t1, t2, .inr rfl, by rw [new.2.2.1]⟩
    ·rintro ⟨u, rfl, u1, u2, hu, rfl⟩
     rcases hu with hu | hu
     ·exact .inl ⟨u, rfl, u1, u2, hu, by rw [(old _ hu).2.2.1]⟩
     ·obtain ⟨-, rfl⟩ := snoc_inj hu
      exact .inr ⟨u1, u2, rfl, by rw [new.2.2.1]⟩
   ·obtain ⟨kv, h1, h2⟩ := h.map q hq
    refine ⟨kv, h1.keep (kM q hq hqp), fun x v => ?_⟩
    rw [h2]
    constructor
    ·rintro ⟨u, rfl, u1, u2, hu, rfl⟩
     exact ⟨u, rfl, u1, u2, .inl hu, by rw [(old _ hu).2.2.1]⟩
    ·rintro ⟨u, rfl, u1, u2, hu, rfl⟩
     rcases hu with hu | hu
     ·exact ⟨u, rfl, u1, u2, hu, by rw [(old _ hu).2.2.1]⟩
     ·exact absurd (snoc_inj hu).1 hqp
  ·rw [new.2.1]
   refine ⟨[], hM, fun x v => ⟨fun h => (by cases h), ?_⟩⟩
   rintro ⟨u, -, -, -, hu, -⟩
   rcases hu with hu | hu
   ·exact absurd hu (kid u)
   ·have := congrArg List.length hu; simp at this
 ·rintro q u (hq | hq)
  ·obtain ⟨o1, -, o3, o4, -⟩ := old _ hq
   rw [o1, o3, o4, kN q u hq]; exact h.nod q u hq
  ·rw [hq, new.1, new.2.2.1, new.2.2.2.1]; exact hnod
 ·rintro q u (hq | hq)
  ·obtain ⟨-, -, -, o4, o5⟩ := old _ hq
   rw [o4, o5]
   exact (h.sub q u hq).keep (kS q u hq)
  ·rw [hq, new.2.2.2.1, new.2.2.2.2]; exact hsub
 ·rintro q r (hq | rfl) (hr | rfl) e
  ·rw [(old q hq).1, (old r hr).1] at e; exact h.injL q r hq hr e
  ·rw [(old q hq).1, new.1] at e; have := hF _ (h.fL q hq); omega
  ·rw [new.1, (old r hr).1] at e; have := hF _ (h.fL r hr); omega
  ·rfl
 ·rintro q r (hq | rfl) (hr | rfl) e
  ·rw [(old q hq).2.1, (old r hr).2.1] at e; exact h.injM q r hq hr e
  ·rw [(old q hq).2.1, new.2.1] at e; have := hF _ (h.fM q hq); omega
  ·rw [new.2.1, (old r hr).2.1] at e; have := hF _ (h.fM r hr); omega
  ·rfl
 ·rintro q r (hq | rfl) (hr | rfl) q0 r0 e
  ·rw [(old q hq).2.2.2.1, (old r hr).2.2.2.1] at e; exact h.injS q r hq hr q0 r0 e
  ·rw [(old q hq).2.2.2.1, new.2.2.2.1] at e
   obtain ⟨q', u, rfl⟩ := snoc_of q0
   have := hF _ (h.fS q' u hq); omega
  ·rw [new.2.2.2.1, (old r hr).2.2.2.1] at e
   obtain ⟨r', u, rfl⟩ := snoc_of r0
   have := hF _ (h.fS r' u hr); omega
  ·rfl
 ·rintro q r (hq | rfl) (hr | rfl) r0 e
  ·rw [(old q hq).2.1, (old r hr).2.2.2.1] at e; exact h.injMS q r hq hr r0 e
  ·rw [(old q hq).2.1, new.2.2.2.1] at e
   have := hF _ (h.fM q hq); omega
  ·rw [new.2.1, (old r hr).2.2.2.1] at e
   obtain ⟨r', u, rfl⟩ := snoc_of r0
   have := hF _ (h.fS r' u hr); omega
  ·rw [new.2.1, new.2.2.2.1] at e; exact hms e
 ·rintro q (hq | rfl)
  ·rw [(old q hq).1]; exact .inl (h.fL q hq)
  ·rw [new.1]; exact .inr (.inl rfl)
 ·rintro q (hq | rfl)
  ·rw [(old q hq).2.1]; exact .inl (h.fM q hq)
  ·rw [new.2.1]; exact .inr (.inr (.inl rfl))
 ·rintro q u (hq | hq)
  ·rw [(old _ hq).2.2.1]; exact .inl (h.fN q u hq)
  ·rw [hq, new.2.2.1]; exact .inr (.inr (.inr (.inl rfl)))
 ·rintro q u (hq | hq)
  ·rw [(old _ hq).2.2.2.1]; exact .inl (h.fS q u hq)
  ·rw [hq, new.2.2.2.1]; exact .inr (.inr (.inr (.inr rfl)))
/-- A subscription more at a path. -/
noncomputable def STrie.fill (T : STrie) (q : Path) (b : Nat) : STrie := { T with S := open Classical in fun x => if x = q then T.S q ++ [b] else T.S x }
theorem subKV_snoc (l : List Nat) (b : Nat) : subKV (l ++ [b]) = subKV l ++ [(atBlk b, unitV)] := by unfold subKV; rw [List.map_append]; rfl
theorem STrieOK.fill {T : STrie} {F : Nat → Prop} {b : Nat} {w w' : World} {q : Path} (h : STrieOK T F w) (hq : T.N q) (q0 : q ≠ []) (hs : MapE w' (T.aS q) (subKV (T.S q ++ [b]))) (keep : ∀ k, F k → k ≠ T.aS q → w'.heap[k]? = w.heap[k]?) :
  STrieOK (T.fill q b) F w' := by
 have hp : ∀ x, (T.fill q b).ptr x = T.ptr x := fun x => rfl
 obtain ⟨q', u', rfl⟩ := snoc_of q0
 refine { root := h.root, pref := h.pref, lev := fun p hN => ?_, map := fun p hN => ?_, nod := fun p t hN => ?_, sub := fun p t hN => ?_, injL := h.injL, injM := h.injM, injS := h.injS, injMS := h.injMS, fL := h.fL, fM := h.fM, fN := h.fN, fS := h.fS }
 ·rw [hp, hp]
  exact (keep _ (h.fL p hN) ((h.sub q' u' hq).ne (h.lev p hN)).symm).trans (h.lev p hN)
 ·obtain ⟨kv, h1, h2⟩ := h.map p hN
  exact ⟨kv, h1.keep (keep _ (h.fM p hN) (h.injMS p _ hN hq q0)), h2⟩
 ·exact (keep _ (h.fN p t hN) ((h.sub q' u' hq).ne (h.nod p t hN)).symm).trans (h.nod p t hN)
 ·by_cases e : p ++ [t] = q' ++ [u']
  ·show MapE w' (T.aS (p ++ [t])) (subKV (if p ++ [t] = q' ++ [u'] then T.S (q' ++ [u']) ++ [b] else T.S (p ++ [t])))
   rw [if_pos e, e]; exact hs
  ·show MapE w' (T.aS (p ++ [t])) (subKV (if p ++ [t] = q' ++ [u'] then T.S (q' ++ [u']) ++ [b] else T.S (p ++ [t])))
   rw [if_neg e]
   exact (h.sub p t hN).keep (keep _ (h.fS p t hN) (fun x => e (h.injS _ _ hN hq (snoc_ne _ _) q0 x)))
end Go.Proofs.YtehlmjecbljafaaGreatDoor
