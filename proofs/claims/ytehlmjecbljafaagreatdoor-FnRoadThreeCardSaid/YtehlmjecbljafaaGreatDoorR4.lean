/- Words of this work: slices that are read (Sl), rows that a call owns (Own), append onto them; no program in sight. Plain words on texts: bytes of a text, its parts between points. Plain words on subjects: clean, tame, formed, literal; matching token by token; joining. The table's rows for the element types of the slices that the program makes. What the plain functions on subjects come to: Tokens, Formed, Spaced, clean, tame, Literal, Wilds, Rest, letters, Places, Join. -/
import Derived.WalkKit
import Derived.WalkSpells
import Derived.WalkLawsBesides
import Derived.Lib.Hide
import Derived.Lib.Strings
import Derived.Below
import Derived.Test.YtehlmjecbljafaaGreatDoorProg
import Derived.BigQuiet
import Derived.Deep.QuietTactic
namespace Go.Proofs.YtehlmjecbljafaaGreatDoor
open Go Go.RowKit
theorem add0 (g o j : Nat) : (⟨g, o, none⟩ : Addr).add j = ⟨g, o + j, none⟩ := by unfold Addr.add; split <;> simp_all
/-- A slice value that reads as the cells xs: n elements of sz cells. -/
def Sl (w : World) (sz : Nat) (v : Value) (n : Nat) (xs : List Value) : Prop :=
 xs.length = n * sz ∧ ∃ a cap, v = .slice a n cap ∧ n ≤ cap ∧ cap ≤ maxLen ∧
  (0 < xs.length → ∃ b o, a = some ⟨b, o, none⟩ ∧ ∀ j x, xs[j]? = some x → w.cell? ⟨b, o + j, none⟩ = some x)
/-- A slice value that is nil, or begins at the head of a row from block base on, and reads as xs. -/
def Own (w : World) (base sz : Nat) (v : Value) (n : Nat) (xs : List Value) : Prop :=
 xs.length = n * sz ∧ ((v = .slice none 0 0 ∧ n = 0) ∨
  ∃ g cap cur t, v = .slice (some ⟨g, 0, none⟩) n cap ∧ base ≤ g ∧ w.heap[g]? = some (.cells cur t (0, 0)) ∧ n ≤ cap ∧ cap ≤ maxLen ∧ cap * sz ≤ cur.size ∧ cur.toList.take (n * sz) = xs)
theorem cell_row {w : World} {g j : Nat} {cur : Array Value} {t : TypeId} {fr : Nat × Nat} (h : w.heap[g]? = some (.cells cur t fr)) : w.cell? ⟨g, j, none⟩ = cur[j]? := by
 simp [World.cell?, h]
theorem cell_keep {w w' : World} {a : Addr} {x : Value} (hc : w.cell? a = some x) (h : ∀ k, k < w.heap.size → k = a.block → w'.heap[k]? = w.heap[k]?) : w'.cell? a = some x := by
 have hb := World.block_lt_of_cell? w a hc
 exact (World.cell?_of_block (h a.block hb rfl)).trans hc
theorem cell_bel {w w' : World} {a : Addr} {x : Value} (hc : w.cell? a = some x) (h : Below w.heap.size w w') : w'.cell? a = some x :=
 cell_keep hc fun k hk _ => h.block k hk
theorem Sl.keep {w w' : World} {sz : Nat} {v : Value} {n : Nat} {xs : List Value} (h : Sl w sz v n xs) (hb : Below w.heap.size w w') : Sl w' sz v n xs := by
 obtain ⟨h1, a, cap, rfl, h2, h3, h4⟩ := h
 refine ⟨h1, a, cap, rfl, h2, h3, fun hp => ?_⟩
 obtain ⟨b, o, rfl, hc⟩ := h4 hp
 exact ⟨b, o, rfl, fun j x hx => cell_bel (hc j x hx) hb⟩
theorem below_up {B : Nat} {w w1 w2 : World} (h : Below B w w1) (hB : B ≤ w1.heap.size) (k : Below w1.heap.size w1 w2) : Below B w w2 :=
 h.trans ⟨k.os, k.tape, k.output, k.size, fun i hi => k.block i (Nat.lt_of_lt_of_le hi hB)⟩
theorem bel2 {w w1 w2 : World} (h : Below w.heap.size w w1) (k : Below w1.heap.size w1 w2) : Below w.heap.size w w2 := below_up h h.size k
theorem Own.nil (w : World) (base sz : Nat) : Own w base sz (.slice none 0 0) 0 [] := ⟨by simp, .inl ⟨rfl, rfl⟩⟩
theorem Own.lt {w : World} {base sz : Nat} {v : Value} {n : Nat} {xs : List Value} (h : Own w base sz v n xs) : ∀ k, v.ownBlock = some k → base ≤ k ∧ k < w.heap.size := by
 intro k hk
 rcases h.2 with ⟨rfl, _⟩ | ⟨g, cap, cur, t, rfl, hb, hg, _⟩
 ·simp [Value.ownBlock] at hk
 ·simp [Value.ownBlock] at hk
  subst hk
  exact ⟨hb, (Array.getElem?_eq_some_iff.1 hg).1⟩
theorem Own.kept {w w' : World} {base sz : Nat} {v : Value} {n : Nat} {xs : List Value} (h : Own w base sz v n xs) (hk : ∀ k, v.ownBlock = some k → w'.heap[k]? = w.heap[k]?) : Own w' base sz v n xs := by
 refine ⟨h.1, ?_⟩
 rcases h.2 with hn | ⟨g, cap, cur, t, rfl, hb, hg, rest⟩
 ·exact .inl hn
 ·exact .inr ⟨g, cap, cur, t, rfl, hb, by rw [hk g rfl]; exact hg, rest⟩
theorem Own.keep {w w' : World} {base sz : Nat} {v : Value} {n : Nat} {xs : List Value} (h : Own w base sz v n xs) (hb : Below w.heap.size w w') : Own w' base sz v n xs :=
 h.kept fun k hk => hb.block k (h.lt k hk).2
theorem Own.alloc {w : World} {base sz : Nat} {v : Value} {n : Nat} {xs : List Value} (h : Own w base sz v n xs) (o : Obj) : Own (w.alloc o) base sz v n xs :=
 h.keep ((Below.refl _ _).alloc (Nat.le_refl _) o)
theorem Own.mono {w : World} {base base' sz : Nat} {v : Value} {n : Nat} {xs : List Value} (h : Own w base sz v n xs) (hb : base' ≤ base) : Own w base' sz v n xs := by
 refine ⟨h.1, ?_⟩
 rcases h.2 with hn | ⟨g, cap, cur, t, rfl, hb', rest⟩
 ·exact .inl hn
 ·exact .inr ⟨g, cap, cur, t, rfl, Nat.le_trans hb hb', rest⟩
theorem Own.sl {w : World} {base sz : Nat} {v : Value} {n : Nat} {xs : List Value} (h : Own w base sz v n xs) : Sl w sz v n xs := by
 refine ⟨h.1, ?_⟩
 rcases h.2 with ⟨rfl, rfl⟩ | ⟨g, cap, cur, t, rfl, hb, hg, h1, h2, h3, h4⟩
 ·exact ⟨none, 0, rfl, Nat.le_refl _, by unfold maxLen; omega, fun hp => by have := h.1; omega⟩
 ·refine ⟨_, cap, rfl, h1, h2, fun _ => ⟨g, 0, rfl, fun j x hx => ?_⟩⟩
  rw [cell_row hg]
  rw [← h4, List.getElem?_take] at hx
  split at hx
  ·simpa using hx
  ·cases hx
theorem Own.form {w : World} {base sz : Nat} {v : Value} {n : Nat} {xs : List Value} (h : Own w base sz v n xs) : ∃ a cap, v = .slice a n cap ∧ n ≤ cap := by
 rcases h.2 with ⟨rfl, rfl⟩ | ⟨g, cap, cur, t, rfl, hb, hg, h1, _⟩
 ·exact ⟨none, 0, rfl, Nat.le_refl _⟩
 ·exact ⟨_, cap, rfl, h1⟩
/-- What the table says of an element's type. -/
structure ET (P : Program) (T E sz bytes : Nat) (z : Value) : Prop where
 un : P.underlying T = some (.slice E)
 inf : (P.info? E).map (fun i => (i.zero, i.size, i.bytes)) = some (some z, sz, bytes)
 zs : z.cells.size = sz
 pos : 0 < sz
 small : bytes ≤ 256
section
variable {P : Program} (w : World)
theorem run_room (t ty e e' : TypeId) (i : TypeInfo) (ht : P.underlying t = some (.slice e)) (hi : P.info? e = some i)
  (g o sLen sCap : Nat) (cur : Array Value) (hg : w.heap[g]? = some (.cells cur e' (0, 0)))
  (a : Addr) (m c : Nat) (news : List Value) (hl : news.length = m * i.size) (hnews : ∀ j u, news[j]? = some u → w.cell? (a.add j) = some u) (h1 : ∀ u ∈ news, u.oneCell' = true)
  (hroom : sLen + m ≤ sCap) (hfit : o + sLen * i.size + news.length ≤ cur.size) :
  (Builtin.append_ #[t, t] ty #[.slice (some ⟨g, o, none⟩) sLen sCap, .slice (some a) m c]).run P w =
   .ok (.slice (some ⟨g, o, none⟩) (sLen + m) sCap) (w.setRow g (cur.toList.take (o + sLen * i.size) ++ news ++ cur.toList.drop (o + sLen * i.size + news.length)).toArray) := by
 have hf := run_firstCells_some (P := P) w i.size m a m c news hl hnews
 have hst := run_storeCells_at P g (o + sLen * i.size) e' news 0 cur w hg (by simpa using hfit) h1
 simp only [Nat.add_zero] at hst
 simp [Builtin.append_, run_underlying ht, sizeOf, typeInfo, hi, Builtin.lenOf, hroom, hf, add0, hst]
theorem run_app {T E sz bytes : Nat} {z : Value} (et : ET P T E sz bytes z) (ty : TypeId) (base : Nat)
  (v : Value) (n : Nat) (xs : List Value) (hown : Own w base sz v n xs)
  (a : Addr) (m c : Nat) (news : List Value) (hl : news.length = m * sz) (hnews : ∀ j u, news[j]? = some u → w.cell? (a.add j) = some u) (h1 : ∀ u ∈ news, u.oneCell' = true)
  (hsm : n + m ≤ 549755813888) (hbase : base ≤ w.heap.size) :
  ∃ v' w', (Builtin.append_ #[T, T] ty #[v, .slice (some a) m c]).run P w = .ok v' w' ∧ Own w' base sz v' (n + m) (xs ++ news) ∧ w.grownBy w' v.ownBlock ∧
   (v' = .slice none 0 0 ↔ v = .slice none 0 0 ∧ m = 0) := by
 obtain ⟨i, hi, hz, rfl, rfl⟩ := info_parts et.inf
 have hmax : n + m ≤ maxLen := by unfold maxLen; omega
 have hbytes : (n + m) * i.bytes ≤ 140737488355328 := by
  have := Nat.mul_le_mul hsm et.small
  omega
 have hlen : (xs ++ news).length = (n + m) * i.size := by rw [List.length_append, hown.1, hl, Nat.add_mul]
 have grown : ∀ (old : Nat), old < n + m → ∀ (row : Option Nat),
   Own (w.drew.alloc (.cells (xs.toArray ++ news.toArray ++ Builtin.zeroCells z.cells (grownCap w (n + m) old E - (n + m))) E)) base i.size
    (.slice (some ⟨w.heap.size, 0, none⟩) (n + m) (grownCap w (n + m) old E)) (n + m) (xs ++ news) ∧
   w.grownBy (w.drew.alloc (.cells (xs.toArray ++ news.toArray ++ Builtin.zeroCells z.cells (grownCap w (n + m) old E - (n + m))) E)) row := by
  intro old ho row
  have hge := grownCap_ge w (n + m) old E
  have hcm : grownCap w (n + m) old E ≤ maxLen := grownCap_le_maxLen w (n + m) old E hmax
  refine ⟨⟨hlen, .inr ⟨w.heap.size, _, _, E, rfl, hbase, heap_alloc_new w.drew _, hge, hcm, ?_, ?_⟩⟩, ⟨rfl, rfl, rfl, by simp, fun k hk _ => Below.heap_alloc w.drew _ k hk⟩⟩
  ·simp only [Array.size_append, List.size_toArray, size_zeroCells, et.zs, hown.1, hl, ← Nat.add_mul]
   apply Nat.le_of_eq
   congr 1
   omega
  ·simp only [Array.toList_append, List.append_assoc]
   rw [← List.append_assoc, ← hlen]
   exact List.take_left
 rcases hown.2 with ⟨rfl, rfl⟩ | ⟨g, cap, cur, t, rfl, hbg, hg, hnc, hcm, hcs, htake⟩
 ·have hx : xs = [] := List.eq_nil_of_length_eq_zero (by simpa using hown.1)
  subst hx
  by_cases hm : m = 0
  ·subst hm
   have hn : news = [] := List.eq_nil_of_length_eq_zero (by simpa using hl)
   subst hn
   refine ⟨.slice none 0 0, w, ?_, Own.nil w base i.size, ⟨rfl, rfl, rfl, Nat.le_refl _, fun _ _ _ => rfl⟩, by simp⟩
   simp [Builtin.append_, run_underlying et.un, sizeOf, typeInfo, hi, Builtin.lenOf, Builtin.firstCells, loadCells, loadCellsFrom]
  ·have hr := run_append_nil (P := P) w T ty E i z et.un hi hz a m c news hl hnews (by omega) (by omega) (by simp only [Nat.zero_add] at hbytes; omega)
   have hgr := grown 0 (by omega) (Value.ownBlock (.slice none 0 0))
   simp only [Nat.zero_add, List.nil_append, Array.empty_append] at hgr ⊢
   exact ⟨_, _, hr, hgr.1, hgr.2, by simp [hm]⟩
 ·by_cases hroom : n + m ≤ cap
  ·have hfit : 0 + n * i.size + news.length ≤ cur.size := by rw [Nat.zero_add, hl, ← Nat.add_mul]; exact Nat.le_trans (Nat.mul_le_mul_right _ hroom) hcs
   have hr := run_room (P := P) w T ty E t i et.un hi g 0 n cap cur hg a m c news hl hnews h1 hroom hfit
   simp only [Nat.zero_add] at hr hfit
   refine ⟨_, _, hr, ⟨hlen, .inr ⟨g, cap, _, t, rfl, hbg, setRow_heap w g cur _ t _ hg, hroom, hcm, ?_, ?_⟩⟩, ⟨rfl, rfl, rfl, by simp, fun k _ hk => setRow_other w g k _ (fun e => hk (by simp [Value.ownBlock, e]))⟩, by simp⟩
   ·simp only [List.size_toArray, List.length_append, List.length_take, List.length_drop, Array.length_toList]
    omega
   ·rw [htake, ← hlen]
    exact List.take_left
  ·have holds : ∀ j u, xs[j]? = some u → w.cell? ((⟨g, 0, none⟩ : Addr).add j) = some u := by
    intro j u hu
    rw [add0, Nat.zero_add, cell_row hg]
    rw [← htake, List.getElem?_take] at hu
    split at hu
    ·simpa using hu
    ·cases hu
   have hr := run_append_grow (P := P) w T ty E i z et.un hi hz ⟨g, 0, none⟩ n cap xs hown.1 holds a m c news hl hnews (by omega) (by omega) (growslice_fits (by omega) hbytes)
   have hgr := grown cap (by omega) (Value.ownBlock (.slice (some ⟨g, 0, none⟩) n cap))
   exact ⟨_, _, hr, hgr.1, hgr.2, by simp⟩
theorem wpList_app {ops : Array Oper} {rest : List Oper} {o : Oper} {a : Act} {Q : Exit → Act → World → Prop} {w : World} {T E sz bytes : Nat} {z : Value} (et : ET P T E sz bytes z) (hgd : o.guard = none) (s x : Operand)
  (ho : o.op = .call { callee := .builtin .append, args := #[s, x], argTypes := #[T, T] })
  (base : Nat) {v : Value} {n : Nat} {xs : List Value} (hs : a.eval s = v) (hown : Own w base sz v n xs)
  (ad : Addr) (m c : Nat) (news : List Value) (hx : a.eval x = .slice (some ad) m c) (hl : news.length = m * sz) (hnews : ∀ j u, news[j]? = some u → w.cell? (ad.add j) = some u) (h1 : ∀ u ∈ news, u.oneCell' = true)
  (hsm : n + m ≤ 549755813888) (hbase : base ≤ w.heap.size)
  (h : ∀ v' w', Own w' base sz v' (n + m) (xs ++ news) → w.grownBy w' v.ownBlock → (v' = .slice none 0 0 ↔ v = .slice none 0 0 ∧ m = 0) → wpList P ops Q rest (a.put o.dst v') w') : wpList P ops Q (o :: rest) a w := by
 refine wpList_plain hgd fun K hK => ?_
 obtain ⟨v', w', hr, h2, h3, h4⟩ := run_app (P := P) w et o.type base v n xs hown ad m c news hl hnews h1 hsm hbase
 unfold Oper.wp execOp
 simp only [ho, resolve, invoke, builtin, Sem.run_bind, Sem.run_pure, Result.andThen_ok, List.map_toArray, List.map_cons, List.map_nil, hs, hx, hr]
 exact hK _ _ (h v' w' h2 h3 h4)
end
theorem cells_new (W : World) (ys : List Value) (E : TypeId) : ∀ j u, ys[j]? = some u → (W.alloc (.cells ys.toArray E)).cell? ((⟨W.heap.size, 0, none⟩ : Addr).add j) = some u := by
 intro j u hu
 rw [add0, Nat.zero_add, World.cell?_alloc_at _ _ _ _ rfl]
 simpa using hu
/-- append(v, x): x lies in the box that the translation lays for it. -/
theorem wpList_app1 {P : Program} {ops : Array Oper} {rest : List Oper} {o : Oper} {a : Act} {Q : Exit → Act → World → Prop} {W : World} {T E sz bytes : Nat} {z : Value} (et : ET P T E sz bytes z) (hgd : o.guard = none) (s x : Operand)
  (ho : o.op = .call { callee := .builtin .append, args := #[s, x], argTypes := #[T, T] })
  (base : Nat) {v : Value} {n : Nat} {xs : List Value} (hs : a.eval s = v) (hown : Own W base sz v n xs)
  (news : List Value) (hx : a.eval x = .slice (some ⟨W.heap.size, 0, none⟩) 1 1) (hl : news.length = sz) (h1 : ∀ u ∈ news, u.oneCell' = true)
  (hsm : n < 549755813888) (hbase : base ≤ W.heap.size)
  (h : ∀ v' w', Own w' base sz v' (n + 1) (xs ++ news) → W.grownBy w' v.ownBlock → wpList P ops Q rest (a.put o.dst v') w') : wpList P ops Q (o :: rest) a (W.alloc (.cells news.toArray E)) := by
 refine wpList_app et hgd s x ho base hs (hown.alloc _) ⟨W.heap.size, 0, none⟩ 1 1 news hx (by omega) (cells_new W news E) h1 (by omega) (by simp; omega) fun v' w' h2 h3 _ => h v' w' h2 ?_
 exact (World.grownBy_alloc W _ _).trans h3
theorem bel_app {B : Nat} {w W w1 : World} {sz : Nat} {v : Value} {n : Nat} {xs : List Value} (h : Below B w W) (hg : W.grownBy w1 v.ownBlock) (hown : Own W B sz v n xs) (hB : B ≤ W.heap.size) : Below B w w1 :=
 h.grown hg hB fun k hk => (hown.lt k hk).1
/-- A byte's test as the walk leaves it. -/
theorem byt {c d : UInt8} {n : Int} (h : ((c.toNat : Int) == n) = true) (hd : (d.toNat : Int) = n) : c = d := by
 rw [← UInt8.toNat_inj]; have := beq_iff_eq.1 h; omega
theorem byf {c d : UInt8} {n : Int} (h : ((c.toNat : Int) == n) = false) (hd : (d.toNat : Int) = n) : c ≠ d := by
 rintro rfl; rw [hd] at h; simp at h
/-- It returns a bool; true tells P; the world is the old one. -/
def RB (P : Prop) (w : World) (e : Ending) (w' : World) : Prop := ∃ b, e = .returned (.bool b) ∧ (b = true → P) ∧ w = w'
/-- It returns a bool; true tells P; of what there was nothing has turned. -/
def RBb (P : Prop) (w : World) (e : Ending) (w' : World) : Prop := ∃ b, e = .returned (.bool b) ∧ (b = true → P) ∧ Below w.heap.size w w'
theorem RB.no {P : Prop} {w : World} : RB P w (.returned (.bool false)) w := ⟨false, rfl, (fun h => by cases h), rfl⟩
theorem RB.of {P : Prop} {w : World} {b : Bool} (h : b = true → P) : RB P w (.returned (.bool b)) w := ⟨b, rfl, h, rfl⟩
theorem RBb.no {P : Prop} {w w' : World} (h : Below w.heap.size w w') : RBb P w (.returned (.bool false)) w' := ⟨false, rfl, (fun h => by cases h), h⟩
theorem RBb.of {P : Prop} {w w' : World} {b : Bool} (h : b = true → P) (hb : Below w.heap.size w w') : RBb P w (.returned (.bool b)) w' := ⟨b, rfl, h, hb⟩
/-- The text at a place of a slice of texts. -/
theorem slAt {w : World} {a : Option Addr} {ss : List ByteArray}
  (h4 : 0 < (ss.map Value.string).length → ∃ b o, a = some ⟨b, o, none⟩ ∧ ∀ j x, (ss.map Value.string)[j]? = some x → w.cell? ⟨b, o + j, none⟩ = some x) {k : Nat} (hk : k < ss.length) :
  ∃ b o t, a = some ⟨b, o, none⟩ ∧ Hid (ss[k]? = some t) ∧ w.cell? ⟨b, o + k, none⟩ = some (.string t) := by
 obtain ⟨b, o, rfl, hc⟩ := h4 (by simp; omega)
 exact ⟨b, o, ss[k], rfl, List.getElem?_eq_getElem hk, hc k _ (by simp [List.getElem?_eq_getElem hk])⟩
theorem Sl.form {w : World} {sz n : Nat} {v : Value} {xs : List Value} (h : Sl w sz v n xs) : ∃ a cap, v = .slice a n cap := by
 obtain ⟨-, a, cap, rfl, -⟩ := h; exact ⟨a, cap, rfl⟩
theorem Sl.cell {w wr : World} {sz n cap : Nat} {a : Option Addr} {xs : List Value} (h : Sl w sz (.slice a n cap) n xs) (hb : Below w.heap.size w wr) (hp : 0 < xs.length) :
  ∃ b o, a = some ⟨b, o, none⟩ ∧ ∀ j x, xs[j]? = some x → wr.cell? ⟨b, o + j, none⟩ = some x := by
 obtain ⟨-, a', cap', e, -, -, h4⟩ := h
 cases e
 obtain ⟨b, o, rfl, hc⟩ := h4 hp
 exact ⟨b, o, rfl, fun j x hx => cell_bel (hc j x hx) hb⟩
/-- The text at a place of a slice of texts, in a later world. -/
theorem Sl.str {w wr : World} {n cap : Nat} {a : Option Addr} {ss : List ByteArray} (h : Sl w 1 (.slice a n cap) n (ss.map Value.string)) (hb : Below w.heap.size w wr) {k : Nat} (hk : k < ss.length) :
  ∃ b o t, a = some ⟨b, o, none⟩ ∧ Hid (ss[k]? = some t) ∧ wr.cell? ⟨b, o + k, none⟩ = some (.string t) := by
 obtain ⟨b, o, rfl, hc⟩ := h.cell hb (by simp; omega)
 exact ⟨b, o, ss[k], rfl, List.getElem?_eq_getElem hk, hc k _ (by simp [List.getElem?_eq_getElem hk])⟩
end Go.Proofs.YtehlmjecbljafaaGreatDoor
namespace Go.Proofs.YtehlmjecbljafaaGreatDoor
open Go
def bs (s : ByteArray) : List UInt8 := s.data.toList
def mk (l : List UInt8) : ByteArray := ⟨l.toArray⟩
@[simp] theorem bs_mk (l : List UInt8) : bs (mk l) = l := by simp [bs, mk]
@[simp] theorem mk_bs (s : ByteArray) : mk (bs s) = s := by obtain ⟨⟨l⟩⟩ := s; rfl
theorem bs_inj {s t : ByteArray} (h : bs s = bs t) : s = t := by rw [← mk_bs s, ← mk_bs t, h]
theorem bs_len (s : ByteArray) : (bs s).length = s.size := by obtain ⟨⟨l⟩⟩ := s; rfl
theorem mk_size (l : List UInt8) : (mk l).size = l.length := by rw [← bs_len, bs_mk]
theorem toList_bs (s : ByteArray) : s.toList = bs s := Lib.toList_data s
theorem bs_at (s : ByteArray) (k : Nat) (h : k < s.size) : (bs s)[k]'(by rw [bs_len]; exact h) = s[k] := by obtain ⟨⟨l⟩⟩ := s; rfl
theorem bs_at? (s : ByteArray) (k : Nat) (h : k < s.size) : (bs s)[k]? = some s[k] := by
 rw [List.getElem?_eq_getElem (by rw [bs_len]; exact h), bs_at s k h]
theorem bs_extract (s : ByteArray) (a b : Nat) : bs (s.extract a b) = ((bs s).take b).drop a := by
 unfold bs
 rw [Lib.extract_data, List.drop_take]
theorem bs_extract_end (s : ByteArray) (a : Nat) : bs (s.extract a s.size) = (bs s).drop a := by
 rw [bs_extract, List.take_of_length_le (by rw [bs_len]; exact Nat.le_refl _)]
theorem take_succ_bs (s : ByteArray) (k : Nat) (h : k < s.size) : (bs s).take (k + 1) = (bs s).take k ++ [s[k]] := by
 rw [List.take_add_one, bs_at? s k h]; rfl
/-- The parts between points (46). -/
def splitDot : List UInt8 → List (List UInt8)
 | [] => [[]]
 | c :: r => if c = 46 then [] :: splitDot r else match splitDot r with | t :: ts => (c :: t) :: ts | [] => [[c]]
theorem splitDot_ne (l : List UInt8) : splitDot l ≠ [] := by
 induction l with
 | nil => simp [splitDot]
 | cons c r ih => unfold splitDot; split; simp; split <;> simp
theorem splitDot_snoc_dot (l : List UInt8) : splitDot (l ++ [46]) = splitDot l ++ [[]] := by
 induction l with
 | nil => simp [splitDot]
 | cons c r ih =>
  simp only [List.cons_append, splitDot, ih]
  split
  ·simp
  ·cases h : splitDot r with
   | nil => exact absurd h (splitDot_ne r)
   | cons t ts => simp
theorem splitDot_snoc {l : List UInt8} {c : UInt8} (hc : c ≠ 46) {A : List (List UInt8)} {b : List UInt8} (h : splitDot l = A ++ [b]) : splitDot (l ++ [c]) = A ++ [b ++ [c]] := by
 induction l generalizing A b with
 | nil =>
  simp [splitDot] at h
  cases A with
  | nil => simp at h; subst h; simp [splitDot, hc]
  | cons x A => simp at h
 | cons d r ih =>
  simp only [List.cons_append, splitDot] at h ⊢
  split at h
  ·rename_i hd
   rw [if_pos hd]
   cases A with
   | nil => simp at h; exact absurd h.2 (splitDot_ne r)
   | cons x A =>
    simp at h
    rw [ih h.2, ← h.1]; rfl
  ·rename_i hd
   rw [if_neg hd]
   cases hs : splitDot r with
   | nil => exact absurd hs (splitDot_ne r)
   | cons t ts =>
    rw [hs] at h
    simp only at h
    cases A with
    | nil =>
     simp at h
     have hts : ts = [] := h.2
     subst hts
     have := ih (A := []) (b := t) (by rw [hs]; rfl)
     rw [this]; simp [← h.1]
    | cons x A =>
     simp at h
     have := ih (A := t :: A) (b := b) (by rw [hs, h.2]; rfl)
     rw [this]; simp [← h.1]
def toks (s : ByteArray) : List ByteArray := (splitDot (bs s)).map mk
theorem toks_bs (s : ByteArray) : (toks s).map bs = splitDot (bs s) := by simp [toks, List.map_map, Function.comp_def]
/-- Behind i bytes: the parts that have ended, and where the last one begins. -/
def Done (s : ByteArray) (f i : Nat) (out : List ByteArray) : Prop := splitDot ((bs s).take i) = out.map bs ++ [((bs s).take i).drop f]
theorem done_start (s : ByteArray) : Done s 0 0 [] := by simp [Done, splitDot]
theorem done_dot {s : ByteArray} {f i : Nat} {out : List ByteArray} (h : Done s f i out) (hi : i < s.size) (hc : s[i] = 46) : Done s (i+1) (i+1) (out ++ [s.extract f i]) := by
 unfold Done at *
 rw [take_succ_bs s i hi, hc, splitDot_snoc_dot, h, List.map_append, List.map_cons, bs_extract]
 simp
 have hl := bs_len s
 omega
theorem done_no {s : ByteArray} {f i : Nat} {out : List ByteArray} (h : Done s f i out) (hi : i < s.size) (hf : f ≤ i) (hc : s[i] ≠ 46) : Done s f (i+1) out := by
 unfold Done at *
 have hl := bs_len s
 rw [take_succ_bs s i hi, splitDot_snoc hc h, List.drop_append_of_le_length (by simp; omega)]
theorem done_end {s : ByteArray} {f : Nat} {out : List ByteArray} (h : Done s f s.size out) : out ++ [s.extract f s.size] = toks s := by
 unfold Done at h
 rw [List.take_of_length_le (by rw [bs_len]; exact Nat.le_refl _)] at h
 unfold toks
 rw [h]
 simp [List.map_map, Function.comp_def, ← bs_extract_end]
theorem done_len {s : ByteArray} {f i : Nat} {out : List ByteArray} (h : Done s f i out) (hi : i ≤ s.size) : out.length ≤ i := by
 have key : ∀ l : List UInt8, (splitDot l).length ≤ l.length + 1 := by
  intro l
  induction l with
  | nil => simp [splitDot]
  | cons c r ih => unfold splitDot; split; simp; omega; split <;> simp_all <;> omega
 have := key ((bs s).take i)
 unfold Done at h
 rw [h] at this
 have hl := bs_len s
 simp at this
 omega
theorem toks_len (s : ByteArray) : (toks s).length ≤ s.size + 1 := by
 have key : ∀ l : List UInt8, (splitDot l).length ≤ l.length + 1 := by
  intro l
  induction l with
  | nil => simp [splitDot]
  | cons c r ih => unfold splitDot; split; simp; omega; split <;> simp_all <;> omega
 have := key (bs s)
 rw [bs_len] at this
 simpa [toks] using this
end Go.Proofs.YtehlmjecbljafaaGreatDoor
namespace Go.Proofs.YtehlmjecbljafaaGreatDoor
open Go Go.RowKit
/-- The first n tokens are formed. -/
def FormedP (ss : List ByteArray) (n : Nat) : Prop := ∀ j t, j < n → ss[j]? = some t → bs t ≠ [] ∧ (bs t = [62] → j + 1 = ss.length)
theorem formed_step {ss : List ByteArray} {k : Nat} {t : ByteArray} (h : FormedP ss k) (ht : ss[k]? = some t) (h1 : bs t ≠ []) (h2 : bs t = [62] → k + 1 = ss.length) : FormedP ss (k+1) := by
 intro j u hj hu
 by_cases e : j = k
 ·subst e; rw [ht] at hu; cases hu; exact ⟨h1, h2⟩
 ·exact h j u (by omega) hu
/-- The first n tokens are no wildcards. -/
def LitP (ss : List ByteArray) (n : Nat) : Prop := ∀ j t, j < n → ss[j]? = some t → bs t ≠ [42] ∧ bs t ≠ [62]
theorem lit_step {ss : List ByteArray} {k : Nat} {t : ByteArray} (h : LitP ss k) (ht : ss[k]? = some t) (h1 : bs t ≠ [42]) (h2 : bs t ≠ [62]) : LitP ss (k+1) := by
 intro j u hj hu
 by_cases e : j = k
 ·subst e; rw [ht] at hu; cases hu; exact ⟨h1, h2⟩
 ·exact h j u (by omega) hu
/-- The first n bytes are neither blanks nor control bytes. -/
def CleanN (s : ByteArray) (n : Nat) : Prop := ∀ j c, j < n → (bs s)[j]? = some c → 32 < c.toNat ∧ c.toNat ≠ 127
def CleanP (s : ByteArray) : Prop := s.size ≤ 400 ∧ ∀ c ∈ bs s, 32 < c.toNat ∧ c.toNat ≠ 127
theorem clean_step {s : ByteArray} {k : Nat} (h : CleanN s k) (hk : k < s.size) (h1 : 32 < s[k].toNat) (h2 : s[k].toNat ≠ 127) : CleanN s (k+1) := by
 intro j c hj hc
 by_cases e : j = k
 ·subst e; rw [bs_at? s j hk] at hc; cases hc; exact ⟨h1, h2⟩
 ·exact h j c (by omega) hc
theorem clean_of {s : ByteArray} (h : CleanN s s.size) (hs : s.size ≤ 400) : CleanP s := by
 refine ⟨hs, fun c hc => ?_⟩
 obtain ⟨j, hj, e⟩ := List.mem_iff_getElem.1 hc
 exact h j c (by rw [← bs_len]; exact hj) (by rw [List.getElem?_eq_getElem hj, e])
/-- A token of more than one byte has no sign of a wildcard in it. -/
def TameT (t : List UInt8) : Prop := t.length ≤ 1 ∨ ∀ c ∈ t, c ≠ 42 ∧ c ≠ 62
def TameN (t : ByteArray) (n : Nat) : Prop := ∀ j c, j < n → (bs t)[j]? = some c → c ≠ 42 ∧ c ≠ 62
def TameS (ss : List ByteArray) (n : Nat) : Prop := ∀ j t, j < n → ss[j]? = some t → TameT (bs t)
theorem tameN_step {s : ByteArray} {k : Nat} (h : TameN s k) (hk : k < s.size) (h1 : s[k] ≠ 42) (h2 : s[k] ≠ 62) : TameN s (k+1) := by
 intro j c hj hc
 by_cases e : j = k
 ·subst e; rw [bs_at? s j hk] at hc; cases hc; exact ⟨h1, h2⟩
 ·exact h j c (by omega) hc
theorem tameT_of {t : ByteArray} (h : TameN t t.size) : TameT (bs t) := by
 refine .inr fun c hc => ?_
 obtain ⟨j, hj, e⟩ := List.mem_iff_getElem.1 hc
 exact h j c (by rw [← bs_len]; exact hj) (by rw [List.getElem?_eq_getElem hj, e])
theorem tameS_step {ss : List ByteArray} {k : Nat} {t : ByteArray} (h : TameS ss k) (ht : ss[k]? = some t) (h1 : TameT (bs t)) : TameS ss (k+1) := by
 intro j u hj hu
 by_cases e : j = k
 ·subst e; rw [ht] at hu; cases hu; exact h1
 ·exact h j u (by omega) hu
/-- Tokens without wildcards against a pattern's. -/
def matchT : List (List UInt8) → List (List UInt8) → Bool
 | l, [] => l.isEmpty
 | [], _ :: _ => false
 | t :: l, p :: q => if p = [62] then true else if p ≠ [42] ∧ p ≠ t then false else matchT l q
def joinD : List (List UInt8) → List UInt8
 | [] => []
 | [t] => t
 | t :: r => t ++ 46 :: joinD r
end Go.Proofs.YtehlmjecbljafaaGreatDoor
namespace Go.Proofs.YtehlmjecbljafaaGreatDoor
open Go Go.RowKit
theorem et32 : ET Tryz.prog 32 9 1 16 (.string ⟨#[]⟩) := ⟨Tryz.underlying32, by kernel_rfl, rfl, by decide, by decide⟩
theorem et33 : ET Tryz.prog 33 3 1 8 (.int .i64 0) := ⟨Tryz.underlying33, by kernel_rfl, rfl, by decide, by decide⟩
end Go.Proofs.YtehlmjecbljafaaGreatDoor
namespace Go.Proofs.YtehlmjecbljafaaGreatDoor
open Go Go.RowKit
set_option maxRecDepth 100000 in
set_option maxHeartbeats 400000 in
theorem toks_any (s : ByteArray) (w : World) (hs : s.size ≤ 274877906944) :
  Calls Tryz.prog 42 #[.string s] w fun e w' => ∃ v, e = .returned v ∧ Own w' w.heap.size 1 v (toks s).length ((toks s).map Value.string) ∧ Below w.heap.size w w' := by
 go_enter Tryz.func42, Tryz.ntmps42
 go_wp2
 go_loopw [3, 4, 5] (fun v f i wr => ∃ (k kf : Nat) (ss : List ByteArray), k ≤ s.size ∧ kf ≤ k ∧ i = .int .i64 k ∧ f = .int .i64 kf ∧ Hid (Done s kf k ss) ∧ Own wr w.heap.size 1 v ss.length (ss.map Value.string) ∧ Below w.heap.size w wr) (fun _ _ i _ => s.size - (intOf i).toNat)
 case atStart => exact ⟨0, 0, [], by omega, by omega, rfl, rfl, done_start s, Own.nil _ _ _, Below.refl _ _⟩
 case round =>
  obtain ⟨k, kf, ss, hk, hkf, rfl, rfl, HD, hown, hbel⟩ := hrel
  have hB := hbel.size
  have hssl := done_len HD.out hk
  by_cases hlt : k < s.size
  ·go_wp2_with (at_builtin; go_must (refine wpList_app1 et32 rfl _ _ rfl w.heap.size rfl hown [_] rfl rfl (by simp [Value.oneCell']) (by omega) hB ?_); intro v' w1 hown1 hgrow)
   ·have hc : s[k] = 46 := byt ‹_› rfl
    go_roundw
    case rel => exact ⟨k+1, k+1, _, hlt, Nat.le_refl _, by go_num, by go_num, done_dot HD.out hlt hc, by simpa using hown1, bel_app hbel hgrow hown hB⟩
    case measure => simp [intOf]; omega
   ·have hc : s[k] ≠ 46 := byf ‹_› rfl
    go_roundw
    case rel => exact ⟨k+1, kf, ss, hlt, by omega, by go_num, rfl, done_no HD.out hlt hkf hc, hown, hbel⟩
    case measure => simp [intOf]; omega
  ·obtain rfl : k = s.size := by omega
   go_wp2_with (at_builtin; go_must (refine wpList_app1 et32 rfl _ _ rfl w.heap.size rfl hown [_] rfl rfl (by simp [Value.oneCell']) (by omega) hB ?_); intro v' w1 hown1 hgrow)
   go_ret
   refine ⟨_, rfl, ?_, bel_app hbel hgrow hown hB⟩
   rw [← done_end HD.out]
   simpa using hown1
set_option maxRecDepth 100000 in
set_option maxHeartbeats 400000 in
theorem formed_any (v : Value) (ss : List ByteArray) (w : World) (hsl : Sl w 1 v ss.length (ss.map Value.string)) (hn : ss.length ≤ 274877906944) :
  Calls Tryz.prog 99 #[v] w (RB (FormedP ss ss.length) w) := by
 obtain ⟨-, a, cap, rfl, h2, h3, h4⟩ := hsl
 have H4 := Lib.hid h4; clear h4
 go_enter Tryz.func99, Tryz.ntmps99
 go_wp2
 go_loop [3] (fun i => ∃ k : Nat, k ≤ ss.length ∧ i = .int .i64 k ∧ Hid (FormedP ss k)) (fun i => ss.length - (intOf i).toNat)
 case atStart => exact ⟨0, Nat.zero_le _, rfl, fun j t h => absurd h (by omega)⟩
 case round =>
  obtain ⟨k, hk, rfl, HF⟩ := hrel
  by_cases hlt : k < ss.length
  ·obtain ⟨b, o, t, rfl, Ht, hc⟩ := slAt H4.out hlt
   go_wp2
   all_goals first
    | (go_ret; exact RB.no)
    | (go_round
       case rel => exact ⟨k + 1, hlt, by go_num, formed_step HF.out Ht.out (by rw [← toList_bs]; assumption) (by rw [← toList_bs]; intro e; first | omega | contradiction)⟩
       case measure => simp [intOf]; omega)
  ·obtain rfl : k = ss.length := by omega
   go_wp2
   go_ret
   exact RB.of fun _ => HF.out
end Go.Proofs.YtehlmjecbljafaaGreatDoor
