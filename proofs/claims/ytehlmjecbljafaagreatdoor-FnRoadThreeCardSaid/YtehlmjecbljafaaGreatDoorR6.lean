/- Words on slices of structs: elements of several cells; the parts of a mapping. What the conditions of a mapping come to: valid, plain, Match, zzFits, Known, Reversible. What the conditions of a mapping come to: Known, Reversible. A region that draws its order, whose operations read old memory and whose calls make new memory alone and hand back plain values: one walk in the order of the text. What Sound comes to, and mapping. Words on what a call owns: a list of blocks with what they hold (Holds), rows among them (RowIn), append, new blocks, stores. What the texts of a mapping come to: Digits, kind, text, Dest. A region that draws its order: some operations read what no other operation of the region that may come before them changes; the others stand in one chain: one walk in the order of the text serves every order. How a region that draws is walked in the order of its text: step by step; append in it. How a drawn region that writes is walked by the walks that stand. A mapping's plan: PlanOf. A mapping turned round: back. A mapping's own form: kinds, NewMapping, mapping. -/
import Derived.Test.YtehlmjecbljafaaGreatDoorR4
import Derived.Test.YtehlmjecbljafaaGreatDoorR5
import Derived.Deep.OwnRows
import Derived.BigQuiet
import Derived.Deep.QuietTactic
namespace Go.Proofs.YtehlmjecbljafaaGreatDoor
open Go Go.RowKit
theorem flat_at {α : Type} {f : α → List Value} {sz : Nat} (hf : ∀ x, (f x).length = sz) (l : List α) : ∀ (k i : Nat), i < sz → ∀ x, l[k]? = some x → (l.flatMap f)[k * sz + i]? = (f x)[i]? := by
 induction l with
 | nil => intro k i _ x h; simp at h
 | cons y r ih =>
  intro k i hi x h
  cases k with
  | zero =>
   simp at h; subst h
   rw [List.flatMap_cons, Nat.zero_mul, Nat.zero_add, List.getElem?_append_left (by rw [hf]; exact hi)]
  | succ k =>
   rw [List.flatMap_cons, List.getElem?_append_right (by rw [hf, Nat.succ_mul]; omega), hf, show (k + 1) * sz + i - sz = k * sz + i by rw [Nat.succ_mul]; omega]
   exact ih k i hi x (by simpa using h)
theorem flat_len {α : Type} {f : α → List Value} {sz : Nat} (hf : ∀ x, (f x).length = sz) (l : List α) : (l.flatMap f).length = l.length * sz := by
 induction l with
 | nil => simp
 | cons y r ih => rw [List.flatMap_cons, List.length_append, hf, ih, List.length_cons, Nat.succ_mul]; omega
/-- A part of a mapping's destination as it lies in memory. -/
structure Part where
 kind : Int
 word : ByteArray
 n : Int
 m : Int
 aa : Option Addr
 ca : Nat
 ats : List Int
def ints (l : List Int) : List Value := l.map fun n => Value.int .i64 n
theorem Sl.int {w wr : World} {n cap : Nat} {a : Option Addr} {l : List Int} (h : Sl w 1 (.slice a n cap) n (ints l)) (hb : Below w.heap.size w wr) {k : Nat} (hk : k < l.length) :
  ∃ b o t, a = some ⟨b, o, none⟩ ∧ Hid (l[k]? = some t) ∧ wr.cell? ⟨b, o + k, none⟩ = some (.int .i64 t) ∧ b < wr.heap.size := by
 obtain ⟨b, o, rfl, hc⟩ := h.cell hb (by simp [ints]; omega)
 have := hc k (.int .i64 l[k]) (by simp [ints, List.getElem?_eq_getElem hk])
 exact ⟨b, o, l[k], rfl, List.getElem?_eq_getElem hk, this, World.block_lt_of_cell? _ _ this⟩
theorem splitDot_mem {l t : List UInt8} (h : t ∈ splitDot l) : t.length ≤ l.length := by
 induction l generalizing t with
 | nil => simp [splitDot] at h; subst h; simp
 | cons c r ih =>
  unfold splitDot at h
  split at h
  ·rcases List.mem_cons.1 h with rfl | h
   ·simp
   ·have := ih h; simp; omega
  ·split at h
   ·rename_i u us e
    rcases List.mem_cons.1 h with rfl | h
    ·have := ih (t := u) (by rw [e]; simp); simp; omega
    ·have := ih (t := t) (by rw [e]; simp [h]); simp; omega
   ·simp at h; subst h; simp
theorem toks_mem {s t : ByteArray} (h : t ∈ toks s) : t.size ≤ s.size := by
 obtain ⟨u, hu, rfl⟩ := List.mem_map.1 h
 have := splitDot_mem hu
 rw [bs_len] at this
 rw [mk_size]; exact this
/-- A subject of which something is said. -/
structure ValidS (s : ByteArray) : Prop where
 clean : CleanP s
 formed : FormedP (toks s) (toks s).length
 tame : TameS (toks s) (toks s).length
theorem nb {b : Bool} (h : (!b) = false) : b = true := by simpa using h
theorem bel_drew {w w' : World} (h : Below w.drew.heap.size w.drew w') : Below w.heap.size w w' := ⟨h.os, h.tape, h.output, h.size, h.block⟩
end Go.Proofs.YtehlmjecbljafaaGreatDoor
namespace Go.Proofs.YtehlmjecbljafaaGreatDoor
open Go Go.RowKit
set_option maxRecDepth 100000 in
set_option maxHeartbeats 800000 in
theorem svalid_any (s : ByteArray) (w : World) (hs : s.size ≤ 137438953472) : Calls Tryz.prog 62 #[.string s] w (RBb (FormedP (toks s) (toks s).length) w) := by
 have hl := toks_len s
 go_enter Tryz.func62, Tryz.ntmps62
 go_wp2_with fail
 refine (toks_any s _ (by omega)).mono ?_
 rintro e w1 ⟨v, rfl, hown, hbel⟩
 have hsl := Lib.hid hown.sl; clear hown
 go_wp2_with fail
 refine (formed_any v _ _ hsl.out (by omega)).mono ?_
 rintro e w' ⟨b, rfl, hb, rfl⟩
 cases b
 ·go_wp2
  go_ret
  exact RBb.no hbel
 ·have Hb := Lib.hid (hb rfl); clear hb
  go_wp2_with (go_at_call 100; go_must (refine (spaced_any s _ (by omega)).mono ?_); rintro e w' ⟨b, rfl, -, rfl⟩)
  go_ret
  exact RBb.of (fun _ => Hb.out) hbel
end Go.Proofs.YtehlmjecbljafaaGreatDoor
namespace Go.Proofs.YtehlmjecbljafaaGreatDoor
open Go Go.RowKit
end Go.Proofs.YtehlmjecbljafaaGreatDoor
namespace Go.Proofs.YtehlmjecbljafaaGreatDoor
open Go Go.RowKit
/-- A later world, in which what was in w is as it was. -/
structure SubW (w : World) where
 val : World
 bel : Below w.heap.size w val
instance {w : World} : Nonempty (SubW w) := ⟨⟨w, Below.refl _ _⟩⟩
theorem Sl.len {w : World} {sz n : Nat} {v : Value} {xs : List Value} (h : Sl w sz v n xs) : n ≤ 9223372036854775807 := by
 obtain ⟨-, a, cap, -, h2, h3, -⟩ := h
 unfold maxLen at h3
 omega
end Go.Proofs.YtehlmjecbljafaaGreatDoor
namespace Go.Proofs.YtehlmjecbljafaaGreatDoor
open Go Go.RowKit
end Go.Proofs.YtehlmjecbljafaaGreatDoor
namespace Go.Proofs.YtehlmjecbljafaaGreatDoor
open Go Go.RowKit
/-- The blocks of H, each another one, all from B on, hold what H says. -/
structure Holds (w : World) (B : Nat) (H : List (Nat × Obj)) : Prop where
 nd : (H.map (·.1)).Nodup
 at' : ∀ p ∈ H, B ≤ p.1 ∧ w.heap[p.1]? = some p.2
theorem frozen_row {w : World} {g j : Nat} {cur : Array Value} {t : TypeId} (h : w.heap[g]? = some (.cells cur t (0, 0))) : w.frozen? ⟨g, j, none⟩ = false := by simp [World.frozen?, h]
/-- v is nil and owns nothing, or it begins at the head of the one block of H, and reads as xs. -/
def RowIn (sz : Nat) (v : Value) (n : Nat) (xs : List Value) (H : List (Nat × Obj)) : Prop :=
 xs.length = n * sz ∧ ((v = .slice none 0 0 ∧ n = 0 ∧ H = []) ∨
  ∃ g cap cur t, v = .slice (some ⟨g, 0, none⟩) n cap ∧ H = [(g, .cells cur t (0, 0))] ∧ n ≤ cap ∧ cap ≤ maxLen ∧ cap * sz ≤ cur.size ∧ cur.toList.take (n * sz) = xs)
section
variable {P : Program} (w : World)
theorem run_app' {T E sz bytes : Nat} {z : Value} (et : ET P T E sz bytes z) (ty : TypeId) (base : Nat)
  (v : Value) (n : Nat) (xs : List Value) (hown : Own w base sz v n xs)
  (a : Addr) (m c : Nat) (news : List Value) (hl : news.length = m * sz) (hnews : ∀ j u, news[j]? = some u → w.cell? (a.add j) = some u) (h1 : ∀ u ∈ news, u.oneCell' = true)
  (hsm : n + m ≤ 549755813888) (hbase : base ≤ w.heap.size) :
  ∃ v' w', (Builtin.append_ #[T, T] ty #[v, .slice (some a) m c]).run P w = .ok v' w' ∧ Own w' base sz v' (n + m) (xs ++ news) ∧ w.grownBy w' v.ownBlock ∧
   (v'.ownBlock = v.ownBlock ∨ ∃ b, v'.ownBlock = some b ∧ w.heap.size ≤ b) := by
 obtain ⟨i, hi, hz, rfl, rfl⟩ := info_parts et.inf
 have hmax : n + m ≤ maxLen := by unfold maxLen; omega
 have hbytes : (n + m) * i.bytes ≤ 140737488355328 := by
  have := Nat.mul_le_mul hsm et.small
  omega
 have hlen : (xs ++ news).length = (n + m) * i.size := by rw [List.length_append, hown.1, hl, Nat.add_mul]
 have grown : ∀ (old : Nat), old < n + m → ∀ (row : Option Nat),
   Own (w.drew.alloc (.cells (xs.toArray ++ news.toArray ++ Builtin.zeroCells z.cells (grownCap w (n + m) old E - (n + m))) E)) base i.size
    (.slice (some ⟨w.heap.size, 0, none⟩) (n + m) (grownCap w (n + m) old E)) (n + m) (xs ++ news) ∧
   w.grownBy (w.drew.alloc (.cells (xs.toArray ++ news.toArray ++ Builtin.zeroCells z.cells (grownCap w (n + m) old E - (n + m))) E)) row := by
  intro old ho row
  have hge := grownCap_ge w (n + m) old E
  have hcm : grownCap w (n + m) old E ≤ maxLen := grownCap_le_maxLen w (n + m) old E hmax
  refine ⟨⟨hlen, .inr ⟨w.heap.size, _, _, E, rfl, hbase, heap_alloc_new w.drew _, hge, hcm, ?_, ?_⟩⟩, ⟨rfl, rfl, rfl, by simp, fun k hk _ => Below.heap_alloc w.drew _ k hk⟩⟩
  ·simp only [Array.size_append, List.size_toArray, size_zeroCells, et.zs, hown.1, hl, ← Nat.add_mul]
   apply Nat.le_of_eq
   congr 1
   omega
  ·simp only [Array.toList_append, List.append_assoc]
   rw [← List.append_assoc, ← hlen]
   exact List.take_left
 rcases hown.2 with ⟨rfl, rfl⟩ | ⟨g, cap, cur, t, rfl, hbg, hg, hnc, hcm, hcs, htake⟩
 ·have hx : xs = [] := List.eq_nil_of_length_eq_zero (by simpa using hown.1)
  subst hx
  by_cases hm : m = 0
  ·subst hm
   have hn : news = [] := List.eq_nil_of_length_eq_zero (by simpa using hl)
   subst hn
   refine ⟨.slice none 0 0, w, ?_, Own.nil w base i.size, ⟨rfl, rfl, rfl, Nat.le_refl _, fun _ _ _ => rfl⟩, .inl rfl⟩
   simp [Builtin.append_, run_underlying et.un, sizeOf, typeInfo, hi, Builtin.lenOf, Builtin.firstCells, loadCells, loadCellsFrom]
  ·have hr := run_append_nil (P := P) w T ty E i z et.un hi hz a m c news hl hnews (by omega) (by omega) (by simp only [Nat.zero_add] at hbytes; omega)
   have hgr := grown 0 (by omega) (Value.ownBlock (.slice none 0 0))
   simp only [Nat.zero_add, List.nil_append, Array.empty_append] at hgr ⊢
   exact ⟨_, _, hr, hgr.1, hgr.2, .inr ⟨_, rfl, Nat.le_refl _⟩⟩
 ·by_cases hroom : n + m ≤ cap
  ·have hfit : 0 + n * i.size + news.length ≤ cur.size := by rw [Nat.zero_add, hl, ← Nat.add_mul]; exact Nat.le_trans (Nat.mul_le_mul_right _ hroom) hcs
   have hr := run_room (P := P) w T ty E t i et.un hi g 0 n cap cur hg a m c news hl hnews h1 hroom hfit
   simp only [Nat.zero_add] at hr hfit
   refine ⟨_, _, hr, ⟨hlen, .inr ⟨g, cap, _, t, rfl, hbg, setRow_heap w g cur _ t _ hg, hroom, hcm, ?_, ?_⟩⟩, ⟨rfl, rfl, rfl, by simp, fun k _ hk => setRow_other w g k _ (fun e => hk (by simp [Value.ownBlock, e]))⟩, .inl rfl⟩
   ·simp only [List.size_toArray, List.length_append, List.length_take, List.length_drop, Array.length_toList]
    omega
   ·rw [htake, ← hlen]
    exact List.take_left
  ·have holds : ∀ j u, xs[j]? = some u → w.cell? ((⟨g, 0, none⟩ : Addr).add j) = some u := by
    intro j u hu
    rw [add0, Nat.zero_add, cell_row hg]
    rw [← htake, List.getElem?_take] at hu
    split at hu
    ·simpa using hu
    ·cases hu
   have hr := run_append_grow (P := P) w T ty E i z et.un hi hz ⟨g, 0, none⟩ n cap xs hown.1 holds a m c news hl hnews (by omega) (by omega) (growslice_fits (by omega) hbytes)
   have hgr := grown cap (by omega) (Value.ownBlock (.slice (some ⟨g, 0, none⟩) n cap))
   exact ⟨_, _, hr, hgr.1, hgr.2, .inr ⟨_, rfl, Nat.le_refl _⟩⟩
end
end Go.Proofs.YtehlmjecbljafaaGreatDoor
namespace Go.Proofs.YtehlmjecbljafaaGreatDoor
open Go Go.RowKit
def chB (x : Int) : UInt8 := UInt8.ofNat x.toNat
def dig (n : Nat) : UInt8 := chB (48 + (n : Int) % 10)
def digitsL (n : Nat) : List UInt8 := if n < 10 then [dig n] else [dig (n / 10), dig n]
def textL (kind : Int) (word : ByteArray) (n : Nat) : List UInt8 :=
 if kind = 0 then bs word else if kind = 11 then [62] else if kind = 1 then 36 :: digitsL n else [123, 123, 119, 105, 108, 100, 99, 97, 114, 100, 40] ++ digitsL n ++ [41, 125, 125]
def textP (p : Part) : List UInt8 := textL p.kind p.word p.n.toNat
def texts (ps : List Part) : List (List UInt8) := ps.map textP
end Go.Proofs.YtehlmjecbljafaaGreatDoor
namespace Go.Proofs.YtehlmjecbljafaaGreatDoor
open Go Go.RowKit
theorem arr_any {α : Type} {xs : Array α} {p : α → Bool} : xs.any p = true ↔ ∃ x, x ∈ xs ∧ p x = true := by
 rw [← Array.any_toList, List.any_eq_true]
 simp
section
variable {P : Program} {ops : Array Oper} {C : World → Prop} {Q : Exit → Act → World → Prop}
/-- In state a the operation yields v in every world of the class and leaves the world alone; or it is not wanted. -/
def StillIn (P : Program) (ops : Array Oper) (C : World → Prop) (o : Oper) (v : Value) (a : Act) : Prop :=
 (Region.wanted o (yielded ops a.tmps) = true ∧ ∀ w, C w → (execOp a.eval o).run P w = .ok (.value v) w) ∨ (Region.wanted o (yielded ops a.tmps) = false ∧ v = undef)
/-- The operation is carried out and yields a value. -/
def runsTo (P : Program) (K : Value → World → Prop) : Result Next → Prop
 | .ok (.value v) w' => K v w'
 | .ok .skip w' => K undef w'
 | .ok (.enter f args) w' => Calls P f args w' fun e w'' => ∃ v, e = .returned v ∧ K v w''
 | _ => False
def chainOp (P : Program) (ops : Array Oper) (o : Oper) (a : Act) (w : World) (K : Value → World → Prop) : Prop :=
 if Region.wanted o (yielded ops a.tmps) then runsTo P K ((execOp a.eval o).run P w) else K undef w
theorem runsTo.mono {K K' : Value → World → Prop} (h : ∀ v w, K v w → K' v w) {r : Result Next} (hr : runsTo P K r) : runsTo P K' r := by
 cases r with
 | ok n w' =>
  cases n <;> simp only [runsTo] at hr ⊢
  case value => exact h _ _ hr
  case skip => exact h _ _ hr
  case enter => exact Calls.mono hr fun e w'' ⟨v, he, hk⟩ => ⟨v, he, h _ _ hk⟩
 | halt x w' => simp only [runsTo] at hr
theorem runsTo.ex {K : Value → World → Prop} {r : Result Next} (hr : runsTo P K r) : ∃ v w, K v w := by
 cases r with
 | ok n w' =>
  cases n <;> simp only [runsTo] at hr
  case value => exact ⟨_, _, hr⟩
  case skip => exact ⟨_, _, hr⟩
  case enter => obtain ⟨e, w'', fr, ⟨v, -, hk⟩, -⟩ := hr []; exact ⟨v, w'', hk⟩
 | halt x w' => simp only [runsTo] at hr
theorem runsTo.upon {o : Oper} {a : Act} {K : Act → World → Prop} {r : Result Next} (hr : runsTo P (fun v w => K (a.put o.dst v) w) r) : o.upon P a K Q r := by
 cases r with
 | ok n w' =>
  cases n <;> simp only [runsTo] at hr <;> simp only [Oper.upon]
  case value => exact hr
  case skip => exact hr
  case enter => exact Calls.mono hr fun e w'' ⟨v, he, hk⟩ => by subst he; exact hk
 | halt x w' => simp only [runsTo] at hr
theorem chainOp.mono {o : Oper} {a : Act} {w : World} {K K' : Value → World → Prop} (h : ∀ v w, K v w → K' v w) (hc : chainOp P ops o a w K) : chainOp P ops o a w K' := by
 unfold chainOp at *
 split
 ·rename_i hw; rw [if_pos hw] at hc; exact hc.mono h
 ·rename_i hw; rw [if_neg hw] at hc; exact h _ _ hc
theorem chainOp.ex {o : Oper} {a : Act} {w : World} {K : Value → World → Prop} (hc : chainOp P ops o a w K) : ∃ v w, K v w := by
 unfold chainOp at *
 split at hc
 ·exact hc.ex
 ·exact ⟨_, _, hc⟩
/-- The walk in the order of the text. The last operation is any. -/
def wpC (P : Program) (ops : Array Oper) (rd : Nat → Bool) (C : World → Prop) (Q : Exit → Act → World → Prop) : List Nat → Act → World → Prop
 | [], a, w => Q .normal a w
 | [i], a, w => wpOp P ops Q i (Q .normal) a w
 | i :: j :: rest, a, w => match ops[i]? with
  | none => False
  | some o => if rd i then ∃ v, StillIn P ops C o v a ∧ wpC P ops rd C Q (j :: rest) (a.put o.dst v) w
   else chainOp P ops o a w fun v w' => C w' ∧ wpC P ops rd C Q (j :: rest) (a.put o.dst v) w'
/-- j comes before i, by the edges. -/
def isPred (ops : Array Oper) : Nat → Nat → Nat → Bool
 | 0, _, _ => false
 | f + 1, i, j => match ops[i]? with
  | none => false
  | some o => o.after.any fun e => Region.binds .any e && (e.on == j || isPred ops f e.on j)
def adj (ops : Array Oper) (i j : Nat) : Bool := match ops[i]? with
 | none => false
 | some o => o.after.any fun e => Region.binds .any e && e.on == j
/-- What the text of the region must show. -/
def chainB (ops : Array Oper) (rd : Nat → Bool) : Bool :=
 Region.noSelect ops && decide (0 < ops.size) &&
 ((List.range ops.size).all fun i => match ops[i]? with
  | none => false
  | some o => (o.after.all fun e => !Region.binds .any e || decide (e.on < i)) &&
   ((List.range i).all fun j => match ops[j]? with
    | none => false
    | some oj => (adj ops i j || o.apart ops oj && oj.apart ops o) && (rd i || rd j || isPred ops ops.size i j) && (decide (i + 1 < ops.size) || isPred ops ops.size i j)))
structure ChainOK (ops : Array Oper) (rd : Nat → Bool) : Prop where
 sel : Region.noSelect ops = true
 low : ∀ i o, ops[i]? = some o → ∀ e ∈ o.after, Region.binds .any e = true → e.on < i
 ap : ∀ i j oi oj, j < i → ops[i]? = some oi → ops[j]? = some oj → adj ops i j = false → oi.apart ops oj = true ∧ oj.apart ops oi = true
 ch : ∀ i j, j < i → i < ops.size → rd i = false → rd j = false → isPred ops ops.size i j = true
 la : ∀ i j, j < i → i + 1 = ops.size → isPred ops ops.size i j = true
theorem chainOK_of {rd : Nat → Bool} (h : chainB ops rd = true) : ChainOK ops rd := by
 simp only [chainB, Bool.and_eq_true, List.all_eq_true, List.mem_range, decide_eq_true_eq] at h
 obtain ⟨⟨hs, -⟩, hall⟩ := h
 have key : ∀ i o, ops[i]? = some o → (∀ e ∈ o.after, Region.binds .any e = true → e.on < i) ∧ ∀ j, j < i → ∃ oj, ops[j]? = some oj ∧ (adj ops i j = true ∨ (o.apart ops oj = true ∧ oj.apart ops o = true)) ∧
   (rd i = true ∨ rd j = true ∨ isPred ops ops.size i j = true) ∧ (i + 1 < ops.size ∨ isPred ops ops.size i j = true) := by
  intro i o ho
  have hi : i < ops.size := (Array.getElem?_eq_some_iff.1 ho).1
  have hh := hall i hi
  rw [ho] at hh
  simp only [Bool.and_eq_true] at hh
  refine ⟨fun e he hb => ?_, fun j hj => ?_⟩
  ·have := Array.all_eq_true_iff_forall_mem.1 hh.1 e he
   simpa [hb] using this
  ·have h2 := hh.2
   rw [List.all_eq_true] at h2
   have h3 := h2 j (List.mem_range.2 hj)
   cases hoj : ops[j]? with
   | none => rw [hoj] at h3; cases h3
   | some oj =>
    rw [hoj] at h3
    simp only [Bool.and_eq_true, Bool.or_eq_true, decide_eq_true_eq] at h3
    exact ⟨oj, rfl, h3.1.1, by simpa [or_assoc] using h3.1.2, h3.2⟩
 refine ⟨hs, fun i o ho => (key i o ho).1, fun i j oi oj hj hoi hoj ha => ?_, fun i j hj hi hri hrj => ?_, fun i j hj hi => ?_⟩
 ·obtain ⟨oj', hoj', h1, -⟩ := (key i oi hoi).2 j hj
  rw [hoj] at hoj'; cases hoj'
  rcases h1 with h1 | h1
  ·rw [ha] at h1; cases h1
  ·exact h1
 ·obtain ⟨oj', -, -, h2, -⟩ := (key i ops[i] (Array.getElem?_eq_getElem hi)).2 j hj
  rcases h2 with h2 | h2 | h2
  ·rw [hri] at h2; cases h2
  ·rw [hrj] at h2; cases h2
  ·exact h2
 ·have hi' : i < ops.size := by omega
  obtain ⟨oj', -, -, -, h2⟩ := (key i ops[i] (Array.getElem?_eq_getElem hi')).2 j hj
  rcases h2 with h2 | h2
  ·omega
  ·exact h2
/-- What is still to come, and what has come. -/
structure Inv (ops : Array Oper) (idx : List Nat) (listed : Array Bool) : Prop where
 size : listed.size = ops.size
 sorted : idx.Pairwise (· < ·)
 lt : ∀ i ∈ idx, i < ops.size
 mem : ∀ i, i < ops.size → (listed.getD i false = true ↔ i ∉ idx)
 closed : ∀ i, i < ops.size → i ∉ idx → ∀ j, adj ops i j = true → j ∉ idx
theorem Inv.ready {idx : List Nat} {listed : Array Bool} (h : Inv ops idx listed) {i : Nat} (hi : i ∈ Region.ready .any ops listed) : i ∈ idx ∧ ∃ o, ops[i]? = some o ∧ ∀ j, adj ops i j = true → j ∉ idx := by
 obtain ⟨h0, o, ho, hall⟩ := mem_ready.1 hi
 have hlt : i < ops.size := (Array.getElem?_eq_some_iff.1 ho).1
 refine ⟨?_, o, ho, fun j hj => ?_⟩
 ·by_cases hm : i ∈ idx
  ·exact hm
  ·have := (h.mem i hlt).2 hm
   have hlt' : i < listed.size := by rw [h.size]; exact hlt
   simp [hlt'] at h0 this
   rw [h0] at this; cases this
 ·unfold adj at hj
  rw [ho] at hj
  obtain ⟨e, he, hb⟩ := arr_any.1 hj
  simp only [Bool.and_eq_true, beq_iff_eq] at hb
  have h1 := hall e he hb.1
  rw [hb.2] at h1
  by_cases hjs : j < ops.size
  ·exact (h.mem j hjs).1 h1
  ·intro hm; exact hjs (h.lt j hm)
theorem Inv.pred {rd : Nat → Bool} (ok : ChainOK ops rd) {idx : List Nat} {listed : Array Bool} (h : Inv ops idx listed) : ∀ (f i j : Nat), (∀ k, adj ops i k = true → k ∉ idx) → isPred ops f i j = true → j ∉ idx := by
 intro f
 induction f with
 | zero => intro i j _ hp; simp [isPred] at hp
 | succ f ih =>
  intro i j ha hp
  unfold isPred at hp
  cases ho : ops[i]? with
  | none => rw [ho] at hp; cases hp
  | some o =>
   rw [ho] at hp
   obtain ⟨e, he, hb⟩ := arr_any.1 hp
   simp only [Bool.and_eq_true, Bool.or_eq_true, beq_iff_eq] at hb
   have hadj : adj ops i e.on = true := by
    unfold adj; rw [ho]
    exact arr_any.2 ⟨e, he, by simp [hb.1]⟩
   rcases hb.2 with rfl | hb2
   ·exact ha _ hadj
   ·have hlt : e.on < ops.size := Nat.lt_trans (ok.low i o ho e he hb.1) (Array.getElem?_eq_some_iff.1 ho).1
    exact ih e.on j (h.closed e.on hlt (ha _ hadj)) hb2
theorem Inv.set {rd : Nat → Bool} (_ok : ChainOK ops rd) {idx : List Nat} {listed : Array Bool} (h : Inv ops idx listed) {i : Nat} (hi : i ∈ Region.ready .any ops listed) : Inv ops (idx.erase i) (listed.setIfInBounds i true) := by
 obtain ⟨hm, o, ho, ha⟩ := h.ready hi
 have hnd : idx.Nodup := h.sorted.imp (fun h => Nat.ne_of_lt h)
 refine ⟨by simpa using h.size, h.sorted.sublist List.erase_sublist, fun j hj => h.lt j (List.mem_of_mem_erase hj), fun j hj => ?_, fun j hj hjn k hk => ?_⟩
 ·rw [hnd.mem_erase_iff]
  by_cases e : i = j
  ·subst e
   have : i < listed.size := by rw [h.size]; exact hj
   simp [this]
  ·rw [getD_set_ne false e, h.mem j hj]
   simp [Ne.symm e]
 ·rw [hnd.mem_erase_iff] at hjn ⊢
  rintro ⟨hk1, hk2⟩
  by_cases e : j = i
  ·subst e; exact ha k hk hk2
  ·exact h.closed j hj (fun hmm => hjn ⟨e, hmm⟩) k hk hk2
theorem StillIn.of_put {o : Oper} {v u : Value} {a : Act} {d : Option Tmp} (hs : ∀ cs b, o.op ≠ .select cs b) (h : ∀ x, d = some x → x ∉ o.looksAt ops) : StillIn P ops C o v (a.put d u) ↔ StillIn P ops C o v a := by
 unfold StillIn
 rw [execOp_put o hs a d u h, wanted_put o a d u h]
theorem chainOp_put {o : Oper} {u : Value} {a : Act} {w : World} {d : Option Tmp} {K : Value → World → Prop} (hs : ∀ cs b, o.op ≠ .select cs b) (h : ∀ x, d = some x → x ∉ o.looksAt ops) : chainOp P ops o (a.put d u) w K ↔ chainOp P ops o a w K := by
 unfold chainOp
 rw [execOp_put o hs a d u h, wanted_put o a d u h]
theorem StillIn.uniq {o : Oper} {v u : Value} {a : Act} {w : World} (hC : C w) (h1 : StillIn P ops C o v a) (h2 : StillIn P ops C o u a) : v = u := by
 rcases h1 with ⟨hw, h1⟩ | ⟨hw, rfl⟩ <;> rcases h2 with ⟨hw', h2⟩ | ⟨hw', rfl⟩
 ·have := (h1 w hC).symm.trans (h2 w hC); injection this with h _; injection h
 ·rw [hw] at hw'; cases hw'
 ·rw [hw] at hw'; cases hw'
 ·rfl
theorem put_swap (a : Act) {oi oj : Oper} (v u : Value) (h : oi.apart ops oj = true) : (a.put oi.dst v).put oj.dst u = (a.put oj.dst u).put oi.dst v :=
 Act.put_comm a v u (Oper.apart_spec h).2.1
/-- A reader that may come up now may be taken first. -/
theorem wpC_pull {rd : Nat → Bool} (ok : ChainOK ops rd) {i : Nat} {oi : Oper} (hoi : ops[i]? = some oi) (hr : rd i = true) :
  ∀ (idx : List Nat), idx.Pairwise (· < ·) → (∀ k ∈ idx, k < ops.size) → i ∈ idx → (∃ k ∈ idx, i < k) → (∀ j ∈ idx, j < i → adj ops i j = false) → ∀ (a : Act) (w : World), C w → wpC P ops rd C Q idx a w →
   ∃ v, StillIn P ops C oi v a ∧ wpC P ops rd C Q (idx.erase i) (a.put oi.dst v) w
 | [], _, _, hm, _, _, _, _, _, _ => by cases hm
 | [j], _, _, hm, ⟨k, hk, hik⟩, _, _, _, _, _ => by
  obtain rfl : i = j := by simpa using hm
  obtain rfl : k = i := by simpa using hk
  omega
 | j :: l :: rest, hso, hlt, hm, ⟨k, hk, hik⟩, ha, a, w, hC, h => by
  have hso' := List.pairwise_cons.1 hso
  by_cases e : i = j
  ·subst e
   simp only [wpC, hoi, hr, if_true] at h
   obtain ⟨v, hv, hw⟩ := h
   exact ⟨v, hv, by rw [List.erase_cons_head]; exact hw⟩
  ·have hm' : i ∈ l :: rest := (List.mem_cons.1 hm).resolve_left e
   have hji : j < i := hso'.1 i hm'
   have hk' : k ∈ l :: rest := (List.mem_cons.1 hk).resolve_left (by omega)
   have hjs : j < ops.size := hlt j (by simp)
   have hoj : ops[j]? = some ops[j] := Array.getElem?_eq_getElem hjs
   have hap := ok.ap i j oi ops[j] hji hoi hoj (ha j (by simp) hji)
   have hsp := Oper.apart_spec hap.1
   have hsi : ∀ cs b, oi.op ≠ .select cs b := fun cs b => Region.noSelect_spec ok.sel i oi cs b hoi
   have hsj : ∀ cs b, ops[j].op ≠ .select cs b := fun cs b => Region.noSelect_spec ok.sel j ops[j] cs b hoj
   have ih := wpC_pull ok hoi hr (l :: rest) hso'.2 (fun x hx => hlt x (List.mem_cons_of_mem _ hx)) hm' ⟨k, hk', hik⟩ (fun x hx => ha x (List.mem_cons_of_mem _ hx))
   rw [List.erase_cons_tail (by simpa using Ne.symm e)]
   -- what is left behind i is not empty
   have hne : ∃ x xs, (l :: rest).erase i = x :: xs := by
    cases he : (l :: rest).erase i with
    | nil =>
     have : k ∈ (l :: rest).erase i := (List.mem_erase_of_ne (by omega)).2 hk'
     rw [he] at this; cases this
    | cons x xs => exact ⟨x, xs, rfl⟩
   obtain ⟨x, xs, hx⟩ := hne
   simp only [wpC, hoj] at h
   by_cases hrj : rd j = true
   ·rw [if_pos hrj] at h
    obtain ⟨u, hu, hw⟩ := h
    obtain ⟨v, hv, hw'⟩ := ih (a.put ops[j].dst u) w hC hw
    rw [StillIn.of_put hsi hsp.2.2] at hv
    refine ⟨v, hv, ?_⟩
    rw [hx]
    simp only [wpC, hoj, hrj, if_true]
    refine ⟨u, (StillIn.of_put hsj hsp.1).2 hu, ?_⟩
    rw [← hx, put_swap a v u hap.1]
    exact hw'
   ·rw [if_neg hrj] at h
    have h2 : chainOp P ops ops[j] a w fun u w' => C w' ∧ ∃ v, StillIn P ops C oi v a ∧ wpC P ops rd C Q ((l :: rest).erase i) ((a.put oi.dst v).put ops[j].dst u) w' := h.mono fun u w' ⟨hC', hw⟩ => by
     obtain ⟨v, hv, hw'⟩ := ih (a.put ops[j].dst u) w' hC' hw
     rw [StillIn.of_put hsi hsp.2.2] at hv
     exact ⟨hC', v, hv, by rw [put_swap a v u hap.1]; exact hw'⟩
    obtain ⟨u0, w0, -, v, hv, -⟩ := h2.ex
    refine ⟨v, hv, ?_⟩
    rw [hx]
    simp only [wpC, hoj]
    rw [if_neg hrj, chainOp_put hsj hsp.1]
    refine h2.mono fun u w' ⟨hC', v', hv', hw'⟩ => ⟨hC', ?_⟩
    obtain rfl := StillIn.uniq hC hv hv'
    rw [← hx]
    exact hw'
/-- The chain's next operation, ahead of which readers alone are left. -/
theorem wpC_push {rd : Nat → Bool} (ok : ChainOK ops rd) {i : Nat} {oi : Oper} (hoi : ops[i]? = some oi) (hr : rd i = false) :
  ∀ (rs tail : List Nat), tail ≠ [] → (∀ j ∈ rs, rd j = true ∧ j < i ∧ adj ops i j = false) → ∀ (a : Act) (w : World), wpC P ops rd C Q (rs ++ i :: tail) a w →
   chainOp P ops oi a w fun v w' => C w' ∧ wpC P ops rd C Q (rs ++ tail) (a.put oi.dst v) w'
 | [], t :: ts, _, _, a, w, h => by
  simp only [List.nil_append, wpC, hoi, hr, Bool.false_eq_true, if_false] at h
  simpa using h
 | j :: rs, t :: ts, ht, hrs, a, w, h => by
  obtain ⟨hrj, hji, haj⟩ := hrs j (by simp)
  have hjs : j < ops.size := Nat.lt_trans hji (Array.getElem?_eq_some_iff.1 hoi).1
  have hoj : ops[j]? = some ops[j] := Array.getElem?_eq_getElem hjs
  have hap := ok.ap i j oi ops[j] hji hoi hoj haj
  have hsp := Oper.apart_spec hap.1
  have hsi : ∀ cs b, oi.op ≠ .select cs b := fun cs b => Region.noSelect_spec ok.sel i oi cs b hoi
  have hsj : ∀ cs b, ops[j].op ≠ .select cs b := fun cs b => Region.noSelect_spec ok.sel j ops[j] cs b hoj
  have hne : ∃ x xs, rs ++ i :: t :: ts = x :: xs := by cases rs <;> exact ⟨_, _, rfl⟩
  obtain ⟨x, xs, hx⟩ := hne
  rw [List.cons_append, hx] at h
  simp only [wpC, hoj, hrj, if_true] at h
  obtain ⟨u, hu, hw⟩ := h
  rw [← hx] at hw
  have ih := wpC_push ok hoi hr rs (t :: ts) ht (fun k hk => hrs k (List.mem_cons_of_mem _ hk)) (a.put ops[j].dst u) w hw
  rw [chainOp_put hsi hsp.2.2] at ih
  refine ih.mono fun v w' ⟨hC', hw'⟩ => ⟨hC', ?_⟩
  have hne2 : ∃ x xs, rs ++ t :: ts = x :: xs := by cases rs <;> exact ⟨_, _, rfl⟩
  obtain ⟨y, ys, hy⟩ := hne2
  rw [List.cons_append, hy]
  simp only [wpC, hoj, hrj, if_true]
  refine ⟨u, (StillIn.of_put hsj hsp.1).2 hu, ?_⟩
  rw [← hy, put_swap a v u hap.1]
  exact hw'
 | _, [], ht, _, _, _, _ => absurd rfl ht
theorem wpAny_of_C {rd : Nat → Bool} (ok : ChainOK ops rd) : ∀ (n : Nat) (idx : List Nat), idx.length = n → (idx = [] ∨ ops.size - 1 ∈ idx) → ∀ (listed : Array Bool) (a : Act) (w : World), Inv ops idx listed → (1 < idx.length → C w) →
  wpC P ops rd C Q idx a w → wpAny P .any ops Q n listed a w
 | 0, idx, hn, _, listed, a, w, inv, _, h => by
  obtain rfl : idx = [] := List.eq_nil_of_length_eq_zero hn
  refine ⟨?_, h⟩
  cases hr : Region.ready .any ops listed with
  | nil => rfl
  | cons x xs => have := (inv.ready (i := x) (by rw [hr]; simp)).1; cases this
 | n + 1, idx, hn, hlast, listed, a, w, inv, hC, h => by
  have hne : idx ≠ [] := by rintro rfl; simp at hn
  have hlast := hlast.resolve_left hne
  refine ⟨fun h0 => ?_, fun i hi => ?_⟩
  ·-- the first one is ready
   exfalso
   cases idx with
   | nil => exact hne rfl
   | cons i rest =>
    have hi : i < ops.size := inv.lt i (by simp)
    have hoi : ops[i]? = some ops[i] := Array.getElem?_eq_getElem hi
    have hready : i ∈ Region.ready .any ops listed := by
     refine mem_ready.2 ⟨?_, ops[i], hoi, fun e he hb => ?_⟩
     ·have hls : i < listed.size := by rw [inv.size]; exact hi
      have hfalse : ¬ listed.getD i false = true := fun hh => (inv.mem i hi).1 hh (by simp)
      simp [hls] at hfalse ⊢
      exact hfalse
     ·have hlt := ok.low i _ hoi e he hb
      refine (inv.mem e.on (Nat.lt_trans hlt hi)).2 fun hm => ?_
      rcases List.mem_cons.1 hm with e1 | hm
      ·omega
      ·have := (List.pairwise_cons.1 inv.sorted).1 _ hm; omega
    rw [h0] at hready
    cases hready
  ·obtain ⟨hm, oi, hoi, hadj⟩ := inv.ready hi
   have inv' := inv.set ok hi
   have hnd : idx.Nodup := inv.sorted.imp (fun h => Nat.ne_of_lt h)
   have hlen : (idx.erase i).length = n := by rw [List.length_erase_of_mem hm]; omega
   have hlt : i < ops.size := inv.lt i hm
   have hadj' : ∀ j ∈ idx, adj ops i j = false := fun j hj => by
    cases hh : adj ops i j with
    | false => rfl
    | true => exact absurd hj (hadj j hh)
   by_cases hlst : i + 1 = ops.size
   ·-- the last one: all else has come
    have hall : ∀ j ∈ idx, j = i := fun j hj => by
     rcases Nat.lt_or_ge j i with hji | hji
     ·exact absurd hj (inv.pred ok ops.size i j hadj (ok.la i j hji hlst))
     ·have := inv.lt j hj; omega
    have hidx : idx = [i] := by
     cases idx with
     | nil => cases hm
     | cons x xs =>
      obtain rfl := hall x (by simp)
      cases xs with
      | nil => rfl
      | cons y ys =>
       have := hall y (by simp)
       have := (List.pairwise_cons.1 inv.sorted).1 y (by simp)
       omega
    subst hidx
    obtain rfl : n = 0 := by simpa using hn.symm
    refine wpOp_mono (fun a' w' hq => ?_) (show wpOp P ops Q i (Q .normal) a w from h)
    refine ⟨?_, hq⟩
    cases hr : Region.ready .any ops (listed.setIfInBounds i true) with
    | nil => rfl
    | cons x xs =>
     have := (inv'.ready (i := x) (by rw [hr]; simp)).1
     simp at this
   ·have hex : ∃ k ∈ idx, i < k := ⟨ops.size - 1, hlast, by omega⟩
    have hlast' : ops.size - 1 ∈ idx.erase i := (List.mem_erase_of_ne (by omega)).2 hlast
    have h1 : 1 < idx.length := by
     cases idx with
     | nil => cases hm
     | cons x xs => cases xs with
      | nil =>
       obtain ⟨k, hk, hik⟩ := hex
       simp at hm hk; omega
      | cons y ys => simp
    have hCw := hC h1
    unfold wpOp
    rw [hoi]
    show if Region.wanted oi (yielded ops a.tmps) = true then _ else _
    by_cases hri : rd i = true
    ·obtain ⟨v, hv, hw⟩ := wpC_pull ok hoi hri idx inv.sorted inv.lt hm hex (fun j hj _ => hadj' j hj) a w hCw h
     have hrest := wpAny_of_C ok n (idx.erase i) hlen (.inr hlast') _ _ w inv' (fun _ => hCw) hw
     rcases hv with ⟨hwt, hrun⟩ | ⟨hwt, rfl⟩
     ·rw [if_pos hwt]
      refine .inl ?_
      unfold Oper.wp
      rw [hrun w hCw]
      exact hrest
     ·rw [if_neg (by rw [hwt]; simp)]
      exact hrest
    ·have hri : rd i = false := by simpa using hri
     -- readers alone stand ahead of i
     obtain ⟨rs, tail, rfl⟩ := List.append_of_mem hm
     have hpw := List.pairwise_append.1 inv.sorted
     have hrs : ∀ j ∈ rs, rd j = true ∧ j < i ∧ adj ops i j = false := fun j hj => by
      have hji : j < i := hpw.2.2 j hj i (by simp)
      refine ⟨?_, hji, hadj' j (by simp [hj])⟩
      cases hrj : rd j with
      | true => rfl
      | false => exact absurd (show j ∈ rs ++ i :: tail by simp [hj]) (inv.pred ok ops.size i j hadj (ok.ch i j hji hlt hri hrj))
     have htail : tail ≠ [] := by
      rintro rfl
      obtain ⟨k, hk, hik⟩ := hex
      rcases List.mem_append.1 hk with hk | hk
      ·have := (hrs k hk).2.1; omega
      ·simp at hk; omega
     have herase : (rs ++ i :: tail).erase i = rs ++ tail := by
      rw [List.erase_append_right _ (fun hmem => by have := (hrs i hmem).2.1; omega), List.erase_cons_head]
     rw [herase] at inv' hlen hlast'
     have hc := wpC_push ok hoi hri rs tail htail hrs a w h
     have hc2 : chainOp P ops oi a w fun v w' => wpAny P .any ops Q n (listed.setIfInBounds i true) (a.put oi.dst v) w' :=
      hc.mono fun v w' ⟨hC', hw'⟩ => wpAny_of_C ok n (rs ++ tail) hlen (.inr hlast') _ _ w' inv' (fun _ => hC') hw'
     unfold chainOp at hc2
     split at hc2
     ·rename_i hwt
      rw [if_pos hwt]
      exact .inl hc2.upon
     ·rename_i hwt
      rw [if_neg hwt]
      exact hc2
theorem wp_region_chain {id : Nat} {a : Act} {w : World} (rd : Nat → Bool) (hm : P.follows .mixedOrders = true) (hB : chainB ops rd = true) (hC : C { w with drawn := w.drawn + 1 })
  (h : wpC P ops rd C Q (List.range ops.size) a { w with drawn := w.drawn + 1 }) : (Code.region id ops true).wp P Q a w := by
 have ok := chainOK_of hB
 have h0 : 0 < ops.size := by
  simp only [chainB, Bool.and_eq_true, decide_eq_true_eq] at hB
  exact hB.1.2
 refine wp_region_any hm (wpAny_of_C ok ops.size (List.range ops.size) (by simp) (.inr (List.mem_range.2 (by omega))) _ _ _ ?_ (fun _ => hC) h)
 refine ⟨by simp, List.pairwise_lt_range, fun i hi => List.mem_range.1 hi, fun i hi => ?_, fun i hi hn => absurd (List.mem_range.2 hi) hn⟩
 simp [hi]
end
end Go.Proofs.YtehlmjecbljafaaGreatDoor
namespace Go.Proofs.YtehlmjecbljafaaGreatDoor
open Go Go.RowKit
/-- A world of which S holds. -/
structure SubC (S : World → Prop) where
 val : World
 ok : S val
section
variable {P : Program} {ops : Array Oper} {Q : Exit → Act → World → Prop}
theorem wp_region_S {id : Nat} {a : Act} {w : World} {l : List Oper} (rs : List Nat) (S : World → Prop) (hm : P.follows .mixedOrders = true) (hB : chainB l.toArray (fun i => rs.contains i) = true) (hS : S w.drew)
  (h : Nonempty (SubC S) → wpC P l.toArray (fun i => rs.contains i) (fun w' => ∃ x : SubC S, w' = x.val) Q (List.range l.length) a w.drew) : (Code.region id l.toArray true).wp P Q a w :=
 wp_region_chain (C := fun w' => ∃ x : SubC S, w' = x.val) (fun i => rs.contains i) hm hB ⟨⟨_, hS⟩, rfl⟩ (by simpa using h ⟨⟨_, hS⟩⟩)
variable {C : World → Prop} {rd : Nat → Bool} {i j : Nat} {rest : List Nat} {o : Oper} {a : Act} {w : World}
theorem wpC_rd (ho : ops[i]? = some o) (hr : rd i = true)
  (h : ∀ K : Act → Prop, (∀ a, wpC P ops rd C Q (j :: rest) a w → K a) → if Region.wanted o (yielded ops a.tmps) = true then ∃ v, (∀ w', C w' → (execOp a.eval o).run P w' = .ok (.value v) w') ∧ K (a.put o.dst v) else K (a.put o.dst undef)) :
  wpC P ops rd C Q (i :: j :: rest) a w := by
 have := h _ (fun _ h => h)
 simp only [wpC, ho, hr, if_true]
 by_cases hw : Region.wanted o (yielded ops a.tmps) = true
 ·rw [if_pos hw] at this
  obtain ⟨v, h1, h2⟩ := this
  exact ⟨v, .inl ⟨hw, h1⟩, h2⟩
 ·rw [if_neg hw] at this
  exact ⟨undef, .inr ⟨by simpa using hw, rfl⟩, this⟩
theorem wpC_ch (ho : ops[i]? = some o) (hr : rd i = false) (hw : Region.wanted o (yielded ops a.tmps) = true)
  (h : ∀ K : Value → World → Prop, (∀ v w', C w' → wpC P ops rd C Q (j :: rest) (a.put o.dst v) w' → K v w') → runsTo P K ((execOp a.eval o).run P w)) : wpC P ops rd C Q (i :: j :: rest) a w := by
 simp only [wpC, ho, hr]
 rw [if_neg (by simp)]
 unfold chainOp
 rw [if_pos hw]
 exact h _ fun v w' h1 h2 => ⟨h1, h2⟩
theorem wpC_last (ho : ops[i]? = some o) (h : wpList P ops Q [o] a w) : wpC P ops rd C Q [i] a w := by
 simp only [wpC, wpOp, ho]
 simpa [wpList] using h
end
theorem runsTo_enter {P : Program} {K : Value → World → Prop} {f : FuncId} {args : Array Value} {w : World} : runsTo P K (.ok (.enter f args) w) = Calls P f args w fun e w'' => ∃ v, e = .returned v ∧ K v w'' := rfl
end Go.Proofs.YtehlmjecbljafaaGreatDoor
namespace Go.Proofs.YtehlmjecbljafaaGreatDoor
open Go Go.RowKit
/-- Operations that hand back a value, whatever the world. -/
def opV (o : Oper) : Bool := match o.op with
 | .move _ | .assign _ | .load .. | .binOp .. | .unOp .. | .convert .. | .slice .. | .fieldAddr .. | .field .. | .indexAddr .. | .index .. => true
 | _ => false
/-- Operations that hand back a value or nothing. -/
def opU (o : Oper) : Bool := opV o || match o.op with
 | .alloc _ | .box .. | .build .. | .buildSlice .. | .store .. | .makeSlice .. | .makeInterface .. | .makeFunc .. => true
 | _ => false
theorem then_value {α : Type} {P : Program} {s : Sem α} {f : α → Next} {n : Next} {w w' : World} (h : (do pure (f (← s)) : Sem Next).run P w = .ok n w') : ∃ v, n = f v := by
 simp only [Sem.run_bind] at h
 cases hs : s.run P w with
 | ok v w1 => rw [hs] at h; simp only [Result.andThen_ok, Sem.run_pure] at h; cases h; exact ⟨v, rfl⟩
 | halt x w1 => rw [hs] at h; simp [Result.andThen] at h
theorem opV_ok {P : Program} {ρ : Operand → Value} {o : Oper} (ho : opV o = true) {n : Next} {w w' : World} (h : (execOp ρ o).run P w = .ok n w') : ∃ v, n = .value v := by
 unfold opV at ho
 unfold execOp at h
 split at ho <;> rename_i heq <;> simp only [heq] at h
 all_goals first
  | exact then_value h
  | (simp only [Sem.run_pure] at h; cases h; exact ⟨_, rfl⟩)
  | cases ho
theorem opU_ok {P : Program} {ρ : Operand → Value} {o : Oper} (ho : opU o = true) {n : Next} {w w' : World} (h : (execOp ρ o).run P w = .ok n w') : (∃ v, n = .value v) ∨ n = .skip := by
 unfold opU at ho
 rw [Bool.or_eq_true] at ho
 rcases ho with ho | ho
 ·exact .inl (opV_ok ho h)
 ·unfold execOp at h
  split at ho <;> rename_i heq <;> simp only [heq] at h
  all_goals first
   | exact .inl (then_value h)
   | (obtain ⟨-, hv⟩ := then_value (f := fun _ : Unit => Next.skip) h; exact .inr hv)
   | cases ho
section
variable {P : Program} {ops : Array Oper} {Q : Exit → Act → World → Prop} {C : World → Prop} {rd : Nat → Bool} {i j : Nat} {rest : List Nat} {o : Oper} {a : Act} {w : World}
theorem wpC_q (ho : ops[i]? = some o) (hr : rd i = true) (hv : opV o = true) (h : wpQuiet P ops C (fun a' => wpC P ops rd C Q (j :: rest) a' w) [o] a) : wpC P ops rd C Q (i :: j :: rest) a w := by
 refine wpC_rd ho hr fun K hK => ?_
 simp only [wpQuiet] at h
 split
 ·rename_i hw
  rw [if_pos hw] at h
  obtain ⟨v, h1, h2⟩ := h
  refine ⟨v, fun w' hw' => ?_, hK _ h2⟩
  have := h1 w' hw'
  unfold Oper.quietAt at this
  cases hr : (execOp a.eval o).run P w' with
  | ok n w'' =>
   obtain ⟨u, rfl⟩ := opV_ok hv hr
   rw [hr] at this
   simp only [Oper.quietUpon] at this
   obtain ⟨rfl, rfl⟩ := this
   rfl
  | halt x w'' => rw [hr] at this; simp [Oper.quietUpon] at this
 ·rename_i hw
  rw [if_neg hw] at h
  exact hK _ h
theorem wpC_w (ho : ops[i]? = some o) (hr : rd i = false) (hv : opU o = true) (h : wpList P ops (fun x a' w' => x = Exit.normal ∧ C w' ∧ wpC P ops rd C Q (j :: rest) a' w') [o] a w) : wpC P ops rd C Q (i :: j :: rest) a w := by
 simp only [wpC, ho, hr]
 rw [if_neg (by simp)]
 unfold chainOp
 simp only [wpList] at h
 split
 ·rename_i hw
  rw [if_pos hw] at h
  rcases h with h | ⟨-, h⟩
  ·unfold Oper.wp at h
   cases hr : (execOp a.eval o).run P w with
   | ok n w'' =>
    rw [hr] at h
    rcases opU_ok hv hr with ⟨u, rfl⟩ | rfl
    ·exact h.2
    ·exact h.2
   | halt x w'' =>
    rw [hr] at h
    cases x <;> simp [Oper.upon] at h
  ·simp [LetsOut] at h
 ·rename_i hw
  rw [if_neg hw] at h
  exact h.2
end
/-- i is among rs. -/
def inL (rs : List Nat) (i : Nat) : Bool := rs.contains i
/-- The same walk, with what is left of the region written out. -/
def wpCL (P : Program) (l : List Oper) (rd : Nat → Bool) (C : World → Prop) (Q : Exit → Act → World → Prop) (i : Nat) (l' : List Oper) (a : Act) (w : World) : Prop :=
 l.drop i = l' → wpC P l.toArray rd C Q (List.range' i l'.length) a w
section
variable {P : Program} {l : List Oper} {Q : Exit → Act → World → Prop} {C : World → Prop} {rd : Nat → Bool} {i : Nat} {rest : List Oper} {o o2 : Oper} {a : Act} {w : World}
theorem drop_at (h : l.drop i = o :: rest) : l.toArray[i]? = some o ∧ l.drop (i + 1) = rest := by
 have h1 : l[i]? = some o := by
  have := congrArg (·[0]?) h
  simpa using this
 refine ⟨by simpa using h1, ?_⟩
 have := congrArg List.tail h
 simpa [List.tail_drop] using this
theorem quiet_mono {ops : Array Oper} {K K' : Act → Prop} (h : ∀ a, K a → K' a) (hh : wpQuiet P ops C K [o] a) : wpQuiet P ops C K' [o] a := by
 simp only [wpQuiet] at *
 split
 ·rename_i hw; rw [if_pos hw] at hh
  obtain ⟨v, h1, h2⟩ := hh
  exact ⟨v, h1, h _ h2⟩
 ·rename_i hw; rw [if_neg hw] at hh; exact h _ hh
theorem wpCL_q (hr : rd i = true) (hv : opV o = true) (h : wpQuiet P l.toArray C (fun a' => wpCL P l rd C Q (i + 1) (o2 :: rest) a' w) [o] a) : wpCL P l rd C Q i (o :: o2 :: rest) a w := fun hd => by
 obtain ⟨h1, h2⟩ := drop_at hd
 simp only [List.length_cons, List.range'_succ]
 refine wpC_q h1 hr hv (quiet_mono (fun a' ha => ?_) h)
 simpa [List.range'_succ] using ha h2
theorem wpCL_w (hr : rd i = false) (hv : opU o = true) (h : wpList P l.toArray (fun x a' w' => x = Exit.normal ∧ C w' ∧ wpCL P l rd C Q (i + 1) (o2 :: rest) a' w') [o] a w) : wpCL P l rd C Q i (o :: o2 :: rest) a w := fun hd => by
 obtain ⟨h1, h2⟩ := drop_at hd
 simp only [List.length_cons, List.range'_succ]
 refine wpC_w h1 hr hv ?_
 simpa [wpCL, h2, List.range'_succ] using h
theorem wpCL_ch (hr : rd i = false) (hw : Region.wanted o (yielded l.toArray a.tmps) = true)
  (h : ∀ K : Value → World → Prop, (∀ v w', C w' → wpCL P l rd C Q (i + 1) (o2 :: rest) (a.put o.dst v) w' → K v w') → runsTo P K ((execOp a.eval o).run P w)) : wpCL P l rd C Q i (o :: o2 :: rest) a w := fun hd => by
 obtain ⟨h1, h2⟩ := drop_at hd
 simp only [List.length_cons, List.range'_succ]
 refine wpC_ch h1 hr hw fun K hK => h K fun v w' hC h3 => hK v w' hC ?_
 simpa [List.range'_succ] using h3 h2
theorem wpCL_last (h : wpList P l.toArray Q [o] a w) : wpCL P l rd C Q i [o] a w := fun hd => by
 obtain ⟨h1, h2⟩ := drop_at hd
 exact wpC_last h1 h
theorem wp_region_L {id : Nat} (rs : List Nat) (S : World → Prop) (hm : P.follows .mixedOrders = true) (hB : chainB l.toArray (inL rs) = true) (hS : S w.drew)
  (h : Nonempty (SubC S) → wpCL P l (inL rs) (fun w' => ∃ x : SubC S, w' = x.val) Q 0 l a w.drew) : (Code.region id l.toArray true).wp P Q a w :=
 wp_region_S rs S hm hB hS fun ne => by
  have := h ne rfl
  rwa [← List.range_eq_range'] at this
theorem cell_alloc {w : World} {a : Addr} {v : Value} (o : Obj) (h : w.cell? a = some v) : (w.alloc o).cell? a = some v := cell_bel h ((Below.refl _ _).alloc (Nat.le_refl _) o)
theorem wp_any {c : Code} (F : World → Prop) (hF : F w) (h : ∀ W, F W → c.wp P Q a W) : c.wp P Q a w := h _ hF
end
end Go.Proofs.YtehlmjecbljafaaGreatDoor
namespace Go.Proofs.YtehlmjecbljafaaGreatDoor
open Go Go.RowKit
theorem size_setCell (w : World) (a : Addr) (v : Value) : (w.setCell a v).heap.size = w.heap.size := by simp [World.setCell]
structure Rw where
 v : Value
 n : Nat
 xs : List Value
section
variable {W : World} {B xb : Nat} {s D : ByteArray} {sv dv : Value} {k p n t : Rw} {Hr : List (Nat × Obj)}
end
end Go.Proofs.YtehlmjecbljafaaGreatDoor
namespace Go.Proofs.YtehlmjecbljafaaGreatDoor
open Go Go.RowKit
end Go.Proofs.YtehlmjecbljafaaGreatDoor
namespace Go.Proofs.YtehlmjecbljafaaGreatDoor
open Go Go.RowKit
end Go.Proofs.YtehlmjecbljafaaGreatDoor
