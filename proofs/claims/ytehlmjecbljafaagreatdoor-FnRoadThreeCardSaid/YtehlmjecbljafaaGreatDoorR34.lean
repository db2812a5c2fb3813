/- Cuts of items; appends whose row is told; an append in a region that draws. The tree is walked in order: a node. -/
import Derived.Test.YtehlmjecbljafaaGreatDoorR28
import Derived.Test.YtehlmjecbljafaaGreatDoorR29
import Derived.Test.YtehlmjecbljafaaGreatDoorR33
import Derived.Deep.RegionHeld3
namespace Go.Proofs.YtehlmjecbljafaaGreatDoor
open Go Go.RowKit
theorem Sl.cutN {w : World} {sz n cap : Nat} {a : Option Addr} {xs : List Value} (h : Sl w sz (.slice a n cap) n xs) {j k : Nat} (hj : j ≤ k) (hk : k ≤ n) :
  Sl w sz (.slice (if cap = j then a else a.map (·.add (j * sz))) (k - j) (cap - j)) (k - j) ((xs.take (k * sz)).drop (j * sz)) := by
 obtain ⟨h1, a', cap', e, h2, h3, h4⟩ := h
 cases e
 have hks : k * sz ≤ n * sz := Nat.mul_le_mul_right _ hk
 have hl : ((xs.take (k * sz)).drop (j * sz)).length = (k - j) * sz := by rw [List.length_drop, List.length_take, Nat.sub_mul]; omega
 refine ⟨hl, _, _, rfl, by omega, by omega, fun h0 => ?_⟩
 rw [hl] at h0
 have hjk : j < k := by
  rcases Nat.lt_or_ge j k with h | h
  ·exact h
  ·rw [Nat.sub_eq_zero_of_le h, Nat.zero_mul] at h0; exact absurd h0 (Nat.lt_irrefl _)
 have hx0 : 0 < xs.length := by
  have : (k - j) * sz ≤ n * sz := Nat.mul_le_mul_right _ (by omega)
  omega
 obtain ⟨b, o, rfl, hc⟩ := h4 hx0
 rw [if_neg (by omega)]
 refine ⟨b, o + j * sz, by rw [Option.map_some, add0], fun i x hx => ?_⟩
 rw [List.getElem?_drop, List.getElem?_take] at hx
 split at hx
 ·have := hc (j * sz + i) x hx
  rw [Nat.add_assoc]; exact this
 ·cases hx
theorem items_take : ∀ (es : List (ByteArray × Int)) (k : Nat), (es.flatMap itemC).take (k * 2) = (es.take k).flatMap itemC
 | [], k => by simp
 | e :: es, 0 => by simp
 | e :: es, k + 1 => by
  rw [List.take_succ_cons, List.flatMap_cons, List.flatMap_cons, ← items_take es k, Nat.succ_mul]
  rfl
theorem items_drop : ∀ (es : List (ByteArray × Int)) (k : Nat), (es.flatMap itemC).drop (k * 2) = (es.drop k).flatMap itemC
 | [], k => by simp
 | e :: es, 0 => by simp
 | e :: es, k + 1 => by
  rw [List.drop_succ_cons, List.flatMap_cons, ← items_drop es k, Nat.succ_mul]
  rfl
theorem elem41 : Tryz.prog.elem 41 = 44 := by kernel_rfl
theorem size44 (w : World) : (sizeOf 44).run Tryz.prog w = .ok 2 w := by kernel_rfl
theorem items_to (a : Option Addr) (n cap k : Nat) (hk : k ≤ n) (hc : n ≤ cap) : ∃ sa, (∀ w, (Instr.slice 41 (.slice a n cap) none (some (.int .i64 k)) none).run Tryz.prog w = .ok (.slice sa k cap) w) ∧
  ∀ w (es : List (ByteArray × Int)), Sl w 2 (.slice a n cap) n (es.flatMap itemC) → Sl w 2 (.slice sa k cap) k ((es.take k).flatMap itemC) := by
 refine ⟨if cap = 0 then a else a.map (·.add (0 * 2)), fun w => ?_, fun w es h => ?_⟩
 ·rw [run_slice_h w 41 a n cap (by rw [elem41]; exact Tryz.underlying41) .i64 k (by omega) (by omega), elem41, size44]
  simp [Result.andThen, sliced]
 ·have := h.cutN (j := 0) (k := k) (Nat.zero_le _) hk
  rw [items_take] at this
  simpa using this
theorem items_from (a : Option Addr) (n cap j : Nat) (hj : j ≤ n) : ∃ sa, (∀ w, (Instr.slice 41 (.slice a n cap) (some (.int .i64 j)) none none).run Tryz.prog w = .ok (.slice sa (n - j) (cap - j)) w) ∧
  ∀ w (es : List (ByteArray × Int)), es.length = n → Sl w 2 (.slice a n cap) n (es.flatMap itemC) → Sl w 2 (.slice sa (n - j) (cap - j)) (n - j) ((es.drop j).flatMap itemC) := by
 refine ⟨if cap = j then a else a.map (·.add (j * 2)), fun w => ?_, fun w es hn h => ?_⟩
 ·rw [run_slice_l w 41 a n cap (by rw [elem41]; exact Tryz.underlying41) .i64 j (by omega) (by omega), elem41, size44]
  simp [Result.andThen, sliced]
 ·have := h.cutN (j := j) (k := n) hj (Nat.le_refl _)
  rw [items_take, ← hn, List.take_length, items_drop] at this
  rw [← hn]; exact this
theorem items_one (es : List (ByteArray × Int)) : ∀ u ∈ es.flatMap itemC, u.oneCell' = true := fun u hu => by
 obtain ⟨d, -, h⟩ := List.mem_flatMap.1 hu
 simp [itemC] at h
 rcases h with rfl | rfl <;> rfl
/-- The row of an append is the old one or a new one. -/
theorem run_app_blk {P : Program} (w : World) {T E sz bytes : Nat} {z : Value} (et : ET P T E sz bytes z) (ty : TypeId) (base : Nat)
  (v : Value) (n : Nat) (xs : List Value) (hown : Own w base sz v n xs)
  (a : Addr) (m c : Nat) (news : List Value) (hl : news.length = m * sz) (hnews : ∀ j u, news[j]? = some u → w.cell? (a.add j) = some u) (h1 : ∀ u ∈ news, u.oneCell' = true)
  (hsm : n + m ≤ 549755813888) {v' : Value} {w' : World} (hrun : (Builtin.append_ #[T, T] ty #[v, .slice (some a) m c]).run P w = .ok v' w') : v'.ownBlock = v.ownBlock ∨ v'.ownBlock = some w.heap.size := by
 obtain ⟨i, hi, hz, rfl, rfl⟩ := info_parts et.inf
 have hbytes : (n + m) * i.bytes ≤ 140737488355328 := by
  have := Nat.mul_le_mul hsm et.small
  omega
 rcases hown.2 with ⟨rfl, rfl⟩ | ⟨g, cap, cur, t, rfl, hbg, hg, hnc, hcm, hcs, htake⟩
 ·by_cases hm : m = 0
  ·subst hm
   have hn : news = [] := List.eq_nil_of_length_eq_zero (by simpa using hl)
   subst hn
   simp [Builtin.append_, run_underlying et.un, sizeOf, typeInfo, hi, Builtin.lenOf, Builtin.firstCells, loadCells, loadCellsFrom] at hrun
   exact .inl (by rw [← hrun.1])
  ·rw [run_append_nil (P := P) w T ty E i z et.un hi hz a m c news hl hnews (by omega) (by omega) (by simp only [Nat.zero_add] at hbytes; omega)] at hrun
   injection hrun with h1 h2
   exact .inr (by rw [← h1]; rfl)
 ·by_cases hroom : n + m ≤ cap
  ·have hfit : 0 + n * i.size + news.length ≤ cur.size := by rw [Nat.zero_add, hl, ← Nat.add_mul]; exact Nat.le_trans (Nat.mul_le_mul_right _ hroom) hcs
   rw [run_room (P := P) w T ty E t i et.un hi g 0 n cap cur hg a m c news hl hnews h1 hroom hfit] at hrun
   injection hrun with h1 h2
   exact .inl (by rw [← h1]; rfl)
  ·have holds : ∀ j u, xs[j]? = some u → w.cell? ((⟨g, 0, none⟩ : Addr).add j) = some u := by
    intro j u hu
    rw [add0, Nat.zero_add, cell_row hg]
    rw [← htake, List.getElem?_take] at hu
    split at hu
    ·simpa using hu
    ·cases hu
   rw [run_append_grow (P := P) w T ty E i z et.un hi hz ⟨g, 0, none⟩ n cap xs hown.1 holds a m c news hl hnews (by omega) (by omega) (growslice_fits (by omega) hbytes)] at hrun
   injection hrun with h1 h2
   exact .inr (by rw [← h1]; rfl)
/-- append(v, x), with the row told. -/
theorem wpList_app1B {P : Program} {ops : Array Oper} {rest : List Oper} {o : Oper} {a : Act} {Q : Exit → Act → World → Prop} {W : World} {T E sz bytes : Nat} {z : Value} (et : ET P T E sz bytes z) (hgd : o.guard = none) (s x : Operand)
  (ho : o.op = .call { callee := .builtin .append, args := #[s, x], argTypes := #[T, T] })
  (base : Nat) {v : Value} {n : Nat} {xs : List Value} (hs : a.eval s = v) (hown : Own W base sz v n xs)
  (news : List Value) (hx : a.eval x = .slice (some ⟨W.heap.size, 0, none⟩) 1 1) (hl : news.length = sz) (h1 : ∀ u ∈ news, u.oneCell' = true)
  (hsm : n < 549755813888) (hbase : base ≤ W.heap.size)
  (h : ∀ v' w', Own w' base sz v' (n + 1) (xs ++ news) → W.grownBy w' v.ownBlock → (v'.ownBlock = v.ownBlock ∨ v'.ownBlock = some (W.heap.size + 1)) → wpList P ops Q rest (a.put o.dst v') w') : wpList P ops Q (o :: rest) a (W.alloc (.cells news.toArray E)) := by
 refine wpList_plain hgd fun K hK => ?_
 have hown' := hown.alloc (.cells news.toArray E)
 obtain ⟨v', w', hr, h2, h3, -⟩ := run_app (P := P) (W.alloc (.cells news.toArray E)) et o.type base v n xs hown' ⟨W.heap.size, 0, none⟩ 1 1 news (by omega) (cells_new W news E) h1 (by omega) (by simp; omega)
 have h4 := run_app_blk (P := P) (W.alloc (.cells news.toArray E)) et o.type base v n xs hown' ⟨W.heap.size, 0, none⟩ 1 1 news (by omega) (cells_new W news E) h1 (by omega) hr
 unfold Oper.wp execOp
 simp only [ho, resolve, invoke, builtin, Sem.run_bind, Sem.run_pure, Result.andThen_ok, List.map_toArray, List.map_cons, List.map_nil, hs, hx, hr]
 exact hK _ _ (h v' w' h2 ((World.grownBy_alloc W _ _).trans h3) (by simpa using h4))
/-- append(v, x), with the row told; the box lies where the walk says. -/
theorem wpList_app1Z {P : Program} {ops : Array Oper} {rest : List Oper} {o : Oper} {a : Act} {Q : Exit → Act → World → Prop} {W : World} {T E sz bytes : Nat} {z : Value} (et : ET P T E sz bytes z) (hgd : o.guard = none) (s x : Operand)
  (ho : o.op = .call { callee := .builtin .append, args := #[s, x], argTypes := #[T, T] })
  (base : Nat) {v : Value} {n : Nat} {xs : List Value} (hs : a.eval s = v) (hown : Own W base sz v n xs)
  (news : List Value) {zz : Nat} (hzz : W.heap.size = zz) (hx : a.eval x = .slice (some ⟨zz, 0, none⟩) 1 1) (hl : news.length = sz) (h1 : ∀ u ∈ news, u.oneCell' = true)
  (hsm : n < 549755813888) (hbase : base ≤ W.heap.size)
  (h : ∀ v' w', Own w' base sz v' (n + 1) (xs ++ news) → W.grownBy w' v.ownBlock → (v'.ownBlock = v.ownBlock ∨ v'.ownBlock = some (W.heap.size + 1)) → wpList P ops Q rest (a.put o.dst v') w') : wpList P ops Q (o :: rest) a (W.alloc (.cells news.toArray E)) := by
 rw [← hzz] at hx
 refine wpList_plain hgd fun K hK => ?_
 have hown' := hown.alloc (.cells news.toArray E)
 obtain ⟨v', w', hr, h2, h3, -⟩ := run_app (P := P) (W.alloc (.cells news.toArray E)) et o.type base v n xs hown' ⟨W.heap.size, 0, none⟩ 1 1 news (by omega) (cells_new W news E) h1 (by omega) (by simp; omega)
 have h4 := run_app_blk (P := P) (W.alloc (.cells news.toArray E)) et o.type base v n xs hown' ⟨W.heap.size, 0, none⟩ 1 1 news (by omega) (cells_new W news E) h1 (by omega) hr
 unfold Oper.wp execOp
 simp only [ho, resolve, invoke, builtin, Sem.run_bind, Sem.run_pure, Result.andThen_ok, List.map_toArray, List.map_cons, List.map_nil, hs, hx, hr]
 exact hK _ _ (h v' w' h2 ((World.grownBy_alloc W _ _).trans h3) (by simpa using h4))
/-- append(v, u...) at a step of a region that draws. -/
theorem step_appS {P : Program} {ops : Array Oper} {o : Oper} {a : Act} {K : Act → World → Prop} {Q : Exit → Act → World → Prop} {R : Prop} {w : World} {T E sz bytes : Nat} {z : Value} (et : ET P T E sz bytes z) (hgd : o.guard = none) (s x : Operand)
  (ho : o.op = .call { callee := .builtin .append, args := #[s, x], argTypes := #[T, T] })
  (base : Nat) {v : Value} {n : Nat} {xs : List Value} (hs : a.eval s = v) (hown : Own w base sz v n xs)
  {u : Value} {m : Nat} {news : List Value} (hx : a.eval x = u) (hsl : Sl w sz u m news) (h1 : ∀ u ∈ news, u.oneCell' = true)
  (hsm : n + m ≤ 549755813888) (hbase : base ≤ w.heap.size)
  (h : ∀ v' w', Own w' base sz v' (n + m) (xs ++ news) → w.grownBy w' v.ownBlock → K (a.put o.dst v') w') : if Region.wanted o (yielded ops a.tmps) = true then Oper.wp P o a w K Q else R := by
 have hw : Region.wanted o (yielded ops a.tmps) = true := by simp [Region.wanted, hgd]
 rw [if_pos hw]
 obtain ⟨v', w', hr, k1, k2⟩ := run_appS (P := P) et o.type base hown hsl h1 hsm hbase
 unfold Oper.wp execOp
 simp only [ho, resolve, invoke, builtin, Sem.run_bind, Sem.run_pure, Result.andThen_ok, List.map_toArray, List.map_cons, List.map_nil, hs, hx, hr]
 exact h v' w' k1 k2
/-- Two rows, the first grown. -/
theorem own_grown {w w' : World} {B2 s2 n2 : Nat} {v1 v2 : Value} {x2 : List Value} (h2 : Own w B2 s2 v2 n2 x2) (hg : w.grownBy w' v1.ownBlock) (hne : ∀ q, v1.ownBlock = some q → v2.ownBlock ≠ some q) : Own w' B2 s2 v2 n2 x2 :=
 h2.kept fun q hq => hg.block q (h2.lt q hq).2 (by first | exact fun e => hne q e hq | exact fun e => hne q e.symm hq)
theorem ne_grown {z : Nat} {v1 v1' v2 : Value} (h : v1'.ownBlock = v1.ownBlock ∨ v1'.ownBlock = some z) (hne : ∀ q, v1.ownBlock = some q → v2.ownBlock ≠ some q) (hlt : ∀ q, v2.ownBlock = some q → q < z) : ∀ q, v1'.ownBlock = some q → v2.ownBlock ≠ some q := fun q h1 h2 => by
 rcases h with h | h
 ·exact hne q (h ▸ h1) h2
 ·rw [h] at h1
  injection h1 with h1
  have := hlt q h2
  omega
theorem Own.setN {w : World} {B sz g n cap : Nat} {xs : List Value} (h : Own w B sz (.slice (some ⟨g, 0, none⟩) n cap) n xs) (k : Nat) (y : Value) : Own (w.setCell ⟨g, k, none⟩ y) B sz (.slice (some ⟨g, 0, none⟩) n cap) n (xs.set k y) := by
 refine ⟨by rw [List.length_set]; exact h.1, ?_⟩
 rcases h.2 with ⟨h1, -⟩ | ⟨g', cap', cur, t, e, hb, hg, h1, h2, h3, h4⟩
 ·cases h1
 ·cases e
  refine .inr ⟨g, cap, _, t, rfl, hb, heap_setCell_same w g k cur t y hg, h1, h2, by rw [Array.size_setIfInBounds]; exact h3, ?_⟩
  rw [Array.toList_setIfInBounds, List.take_set, h4]
theorem items_set : ∀ (es : List (ByteArray × Int)) (k : Nat) (s : ByteArray) (x y : Int), es[k]? = some (s, x) → (es.flatMap itemC).set (k * 2 + 1) (.int .i64 y) = (es.set k (s, y)).flatMap itemC
 | [], k, s, x, y, h => by simp at h
 | e :: es, 0, s, x, y, h => by
  obtain rfl : e = (s, x) := by simpa using h
  simp [itemC]
 | e :: es, k + 1, s, x, y, h => by
  have ih := items_set es k s x y (by simpa using h)
  rw [List.set_cons_succ, List.flatMap_cons, List.flatMap_cons, ← ih, show (k + 1) * 2 + 1 = (k * 2 + 1) + 2 by omega]
  rfl
theorem sl_box {w : World} {g : Nat} {a b : Value} {t : TypeId} (h : w.heap[g]? = some (.cells #[a, b] t (0, 0))) : Sl w 2 (.slice (some ⟨g, 0, none⟩) 1 1) 1 [a, b] :=
 ⟨rfl, _, _, rfl, Nat.le_refl _, by decide, fun _ => ⟨g, 0, rfl, fun j x hj => by
  rw [Nat.zero_add, cell_row h]
  simpa using hj⟩⟩
theorem own_row {w : World} {B sz n : Nat} {v : Value} {xs : List Value} (h : Own w B sz v n xs) (hn : 0 < n) : ∃ g cap, v = .slice (some ⟨g, 0, none⟩) n cap ∧ n ≤ cap ∧ B ≤ g ∧ g < w.heap.size ∧ ∀ i x, xs[i]? = some x → w.cell? ⟨g, i, none⟩ = some x ∧ w.frozen? ⟨g, i, none⟩ = false := by
 rcases h.2 with ⟨-, h0⟩ | ⟨g, cap, cur, t, rfl, hb, hg, h1, h2, h3, h4⟩
 ·omega
 ·refine ⟨g, cap, rfl, h1, hb, (Array.getElem?_eq_some_iff.1 hg).1, fun i x hx => ⟨?_, frozen_row hg⟩⟩
  rw [cell_row hg]
  rw [← h4, List.getElem?_take] at hx
  split at hx
  ·simpa using hx
  ·cases hx
/-- The end of a round of Tree. -/
theorem tree_rel {w wr wc w5 : World} {nv o v5 : Value} {n' k : Nat} {ys xs zs : List Value} (hnv : Own wc wr.heap.size 2 nv n' ys) (ho : Own wr w.heap.size 2 o k xs) (_h5 : Own w5 w.heap.size 2 v5 (k + 1) zs) (hg : wc.grownBy w5 o.ownBlock) (hr : v5.ownBlock = o.ownBlock ∨ v5.ownBlock = some (wc.heap.size + 1))
  (hb : Below w.heap.size w wr) (hc : Below wr.heap.size wr wc) : Own w5 w.heap.size 2 nv n' ys ∧ (∀ q, nv.ownBlock = some q → v5.ownBlock ≠ some q) ∧ Below w.heap.size w w5 := by
 have hne : ∀ q, o.ownBlock = some q → nv.ownBlock ≠ some q := fun q h1 h2 => by
  have := (ho.lt q h1).2
  have := (hnv.lt q h2).1
  omega
 have hz := hb.size
 refine ⟨own_grown (hnv.mono hz) hg hne, fun q h1 h2 => ne_grown hr hne (fun q hq => Nat.lt_succ_of_lt (hnv.lt q hq).2) q h2 h1, bel_app (bel2 hb hc) hg (ho.keep hc) (bel2 hb hc).size⟩
end Go.Proofs.YtehlmjecbljafaaGreatDoor
namespace Go.Proofs.YtehlmjecbljafaaGreatDoor
open Go Go.RowKit
theorem et205 : ET Tryz.prog 205 137 1 16 .nilIface := ⟨Tryz.underlying205, by kernel_rfl, rfl, by decide, by decide⟩
def IterOK (Bp Bo Bm : Nat) (d : Nat) : Prop := ∀ (T : Art) (F : Nat → Prop) (pl : List UInt8) (ov : Value) (cnt : Nat) (xs : List Value) (w : World) (t : Value), T.Deep d →
 IW (ixO Bp Bo Bm) F pl ov cnt xs w → IT (ixO Bp Bo Bm) F T pl.length w → cnt + T.ents.length ≤ 99 →
 Calls Tryz.prog 106 #[t, T.ref, .slice (some ⟨Bp, 0, none⟩) pl.length 256, .bool true, .func (.func 71) #[] #[.pointer (some ⟨Bo, 0, none⟩), .pointer (some ⟨Bm, 0, none⟩)]] w fun e w' => e = .returned (.bool true) ∧ ∃ fs, fs.Perm (T.ents.map (shift pl)) ∧ IP (ixO Bp Bo Bm) pl.length ov cnt xs fs w w'
theorem arts_len {us ts : List Art} (hp : us.Perm ts) {j : Nat} (hj : j < us.length) (pl : List UInt8) {fs : List Ent} (hf : fs.Perm ((us.take j).flatMap fun t => t.ents.map (shift pl))) : fs.length + us[j].ents.length ≤ (ts.flatMap fun t => t.ents.map (shift pl)).length := by
 have h1 : (us.flatMap fun t => t.ents.map (shift pl)).length = (ts.flatMap fun t => t.ents.map (shift pl)).length := (hp.flatMap_right _).length_eq
 rw [← h1, hf.length_eq]
 conv => rhs; rw [← List.take_append_drop j us, List.drop_eq_getElem_cons hj]
 rw [List.flatMap_append, List.flatMap_cons, List.length_append, List.length_append, List.length_map]
 omega
theorem node_ents (pl : List UInt8) (k : Kd) (b : Nat) (pre : List UInt8) (n : Nat) (key : Nat → UInt8) (kid : Nat → Art) :
  (Art.node k b pre n key kid).ents.map (shift pl) = ((List.range n).map kid).flatMap fun t => t.ents.map (shift (pl ++ pre)) := by
 rw [Art.ents, List.map_flatMap, List.flatMap_map]
 simp only [shift_shift]
set_option maxRecDepth 100000 in
set_option maxHeartbeats 6400000 in
theorem iterNode_any (Bp Bo Bm : Nat) (d : Nat) (ih : ∀ e, e < d → IterOK Bp Bo Bm e) (k : Kd) (nb : Nat) (pre : List UInt8) (nk : Nat) (key : Nat → UInt8) (kid : Nat → Art) (F : Nat → Prop) (pl : List UInt8) (ov : Value) (cnt : Nat) (xs : List Value) (w : World) (t : Value)
  (hd : (Art.node k nb pre nk key kid).Deep d) (hM : IW (ixO Bp Bo Bm) F pl ov cnt xs w) (hT : IT (ixO Bp Bo Bm) F (.node k nb pre nk key kid) pl.length w) (hcn : cnt + (Art.node k nb pre nk key kid).ents.length ≤ 99) :
  Calls Tryz.prog 106 #[t, (Art.node k nb pre nk key kid).ref, .slice (some ⟨Bp, 0, none⟩) pl.length 256, .bool true, .func (.func 71) #[] #[.pointer (some ⟨Bo, 0, none⟩), .pointer (some ⟨Bm, 0, none⟩)]] w fun e w' => e = .returned (.bool true) ∧ ∃ fs, fs.Perm ((Art.node k nb pre nk key kid).ents.map (shift pl)) ∧ IP (ixO Bp Bo Bm) pl.length ov cnt xs fs w w' := by
 have hrow : w.heap[nb]? = some (.cells (rowN k pre nk key kid).toArray (tyN k) (0, 0)) := hT.at'.1
 have hp0 : w.cell? ⟨nb, k.cap, none⟩ = some (.string (mk pre)) := row_at hrow rowN_pre
 have hroom : pl.length + pre.length ≤ 256 := hT.room
 have hnk : nk ≤ k.cap := hT.wf.2.1
 have hnk0 : 0 < nk := Nat.lt_of_lt_of_le k.low_pos hT.wf.1
 have hkc : k.cap ≤ 48 := by cases k <;> decide
 have hms : (mk pre).size = pre.length := mk_size pre
 have iL : ∀ w, (method 508 (tyP k) (.pointer (some ⟨nb, 0, none⟩)) "pub-tokenroad/pub/natsserver/server/stree.isLeaf").run Tryz.prog w = .ok (299, .pointer (some ⟨nb, k.cap, none⟩)) w := fun w => isLeafN k nb w
 have iB : ∀ w, (method 508 (tyP k) (.pointer (some ⟨nb, 0, none⟩)) "pub-tokenroad/pub/natsserver/server/stree.base").run Tryz.prog w = .ok (298, .pointer (some ⟨nb, k.cap, none⟩)) w := fun w => baseN k nb w
 have iK : ∀ w, (method 508 (tyP k) (.pointer (some ⟨nb, 0, none⟩)) "pub-tokenroad/pub/natsserver/server/stree.children").run Tryz.prog w = .ok (kidsF k, .pointer (some ⟨nb, 0, none⟩)) w := fun w => childrenN k _ w
 have iCK := fun (args : Array Value) (w : World) => callKids k args w
 obtain ⟨PL, HPL⟩ : ∃ PL, Hid (PL = pl ++ pre) := ⟨_, Lib.hid rfl⟩
 have HPLl := Lib.hid (show PL.length = pl.length + pre.length by rw [HPL.out, List.length_append])
 obtain ⟨cur, hbuf1, hcz1⟩ := hM.buf
 have hpre1 := hM.pre
 replace hcz1 : cur.size = 256 := hcz1
 have HM := Lib.hid hM; clear hM
 have HT := Lib.hid hT; clear hT
 have HD := Lib.hid hd; clear hd
 have HIH := Lib.hid ih; clear ih
 have HC := Lib.hid hcn; clear hcn
 show Calls Tryz.prog 106 #[t, .iface (tyP k) (.pointer (some ⟨nb, 0, none⟩)), .slice (some ⟨Bp, 0, none⟩) pl.length 256, .bool true, .func (.func 71) #[] #[.pointer (some ⟨Bo, 0, none⟩), .pointer (some ⟨Bm, 0, none⟩)]] w _
 go_enter Tryz.func106, Tryz.ntmps106
 go_wp2_with fail
 refine (nodeIs_any _ w).mono ?_
 rintro e w3 ⟨rfl, hw3⟩
 subst w3
 go_wp2_with fail
 refine (base_any _ w).mono ?_
 rintro e w3 ⟨rfl, hw3⟩
 subst w3
 go_wp2_with (at_builtin; go_must (refine wpList_appStr rfl _ _ rfl Bp 256 pl.length cur pl (mk pre) rfl rfl rfl hbuf1 hpre1 (by omega) (by omega) ?_); intro W1 cur1 hBp1 hcur1 hbs1 honly1; rw [bs_mk] at hbs1)
 obtain ⟨hM2, hmp2⟩ := HM.out.longer ⟨cur1, hBp1, hcur1.trans hcz1⟩ hbs1 honly1
 rw [← HPL.out] at hM2
 have hT2 : IT (ixO Bp Bo Bm) F (.node k nb pre nk key kid) pl.length W1 := HT.out.only honly1 fun x hx => (HT.out.fp x hx).2.1
 have hrow2 := hT2.at'.1
 have HM2 := Lib.hid hM2
 have HT2 := Lib.hid hT2
 have HMP2 := Lib.hid hmp2
 clear hM2 hT2 hmp2 hBp1 hcur1 hbs1 honly1 hbuf1 hpre1 hrow hp0
 have hbd0 : Below W1.heap.size W1 (W1.alloc (.cells (Array.replicate 256 Value.nilIface) 238)) := (Below.refl _ W1).alloc (Nat.le_refl _) _
 have hlb := (Array.getElem?_eq_some_iff.1 hrow2).1
 have hrow3 := (hbd0.block nb hlb).trans hrow2
 have hnew := heap_alloc_new W1 (.cells (Array.replicate 256 Value.nilIface) 238)
 refine (children_any k nb pre nk key kid _ hrow3 hnk).mono ?_
 rintro e wd ⟨rfl, md, rfl⟩
 have hbd : Below W1.heap.size W1 ((W1.alloc (.cells (Array.replicate 256 Value.nilIface) 238)).drewN md) := below_drewN hbd0 md
 have hown0 : Own ((W1.alloc (.cells (Array.replicate 256 Value.nilIface) 238)).drewN md) W1.heap.size 1 (.slice (some ⟨W1.heap.size, 0, none⟩) 0 256) 0 [] := by
  refine Own.kept (w := W1.alloc (.cells (Array.replicate 256 Value.nilIface) 238)) ⟨rfl, .inr ⟨W1.heap.size, 256, _, 238, rfl, Nat.le_refl _, hnew, by omega, by decide, by simp, rfl⟩⟩ fun q hq => ?_
  exact (below_drewN (Below.refl _ _) md).block q (by have hq : some W1.heap.size = some q := hq; cases hq; exact (Array.getElem?_eq_some_iff.1 hnew).1)
 clear hbd0 hrow3 hnew
 have HBD := Lib.hid hbd; clear hbd
 have HOW := Lib.hid hown0; clear hown0
 go_wp2
 go_loopw [16, 65] (fun sv i wr => ∃ j : Nat, j ≤ nk ∧ i = .int .i64 j ∧ Own wr W1.heap.size 1 sv j ((List.range j).map fun i => (kid i).ref) ∧ Below W1.heap.size W1 wr) (fun _ i _ => nk - (intOf i).toNat)
 case atStart => exact ⟨0, Nat.zero_le _, rfl, HOW.out, HBD.out⟩
 case round =>
  obtain ⟨j, hj, rfl, hown, hbel⟩ := hrel
  obtain ⟨oa, oc, rfl, -⟩ := hown.form
  have hB := hbel.size
  by_cases hlt : j < nk
  ·have cj : wr.cell? ⟨nb, j, none⟩ = some (kid j).ref := row_at ((hbel.block nb hlb).trans hrow2) (by rw [rowN_kid (by omega), if_pos hlt])
   obtain ⟨jty, jb, hrf⟩ := (kid j).ref_form
   have qJ : ∀ w, (binOp .neq 137 (.iface jty (.pointer (some ⟨jb, 0, none⟩))) .nilIface).run Tryz.prog w = .ok (.bool true) w := fun w => by have h := refNe2 (kid j) w; rw [hrf] at h; exact h
   rw [hrf] at cj
   have HRF := Lib.hid hrf; clear hrf
   go_wp2_with (at_builtin; go_must (refine wpList_app1 et205 rfl _ _ rfl W1.heap.size rfl hown [_] rfl rfl (by simp [Value.oneCell']) (by omega) hB ?_); intro v' w1 hown1 hgrow)
   have hbw := bel_app hbel hgrow hown hB
   go_roundw
   case rel => exact ⟨j + 1, hlt, by go_num, by rw [List.range_succ, List.map_append]; simpa [HRF.out] using hown1, hbw⟩
   case measure => simp [intOf]; omega
  ·obtain rfl : j = nk := by omega
   obtain ⟨g, cap, hge, hcap, hg1, hg2, hgc⟩ := own_row hown hnk0
   cases hge
   have HMr := Lib.hid (HM2.out.bel hbel)
   have HTr := Lib.hid (HT2.out.bel hbel)
   have hst : SortSt wr g j oc (((List.range j).map kid).map Art.ref) wr := ⟨by rw [List.map_map]; exact hown.mono (Nat.zero_le _), Only.refl _ _⟩
   have hng : ∀ x, (Art.node k nb pre j key kid).Fp x → x ≠ g := fun x hx e => by have := HT2.out.at'.lt x hx; omega
   have hcmp : CmpOK wr g (((List.range j).map kid).map Art.ref) := cmpOK_arts fun t ht => by
    obtain ⟨i, hi, rfl⟩ := List.mem_map.1 ht
    rw [List.mem_range] at hi
    exact ⟨HTr.out.at'.2 i hi, fun hx => hng g (.inr ⟨i, hi, hx⟩) rfl⟩
   have hsort := sortStable_any wr g j oc _ wr hst (ifRefs_arts _) hcmp (by omega)
   clear hst hcmp hgc hown
   have HBL := Lib.hid hbel; clear hbel
   have HNG := Lib.hid hng; clear hng
   go_wp2_with fail
   refine hsort.mono ?_
   rintro e wS ⟨rfl, vs', hperm, hstS⟩
   clear hsort
   obtain ⟨us, hus, rfl⟩ := perm_arts hperm
   clear hperm
   have hbS : Below wr.heap.size wr wS ∨ True := .inr trivial
   have hbelS : Below W1.heap.size W1 wS := HBL.out.trans (hstS.only.below (fun x hx => by have hx : x = g := hx; omega) hB)
   have hzS := hstS.only.size
   have hMS := HM2.out.bel hbelS
   have hTS := HT2.out.bel hbelS
   have hlo := (Array.getElem?_eq_some_iff.1 HM2.out.out).1
   have hG : ∀ x, x = g → x < wS.heap.size ∧ x ≠ Bo ∧ ov.ownBlock ≠ some x := fun x hx => by
    subst hx
    refine ⟨by omega, by have hlo : Bo < W1.heap.size := hlo; omega, fun e => ?_⟩
    have := (HM2.out.own.lt x e).2; omega
   have HMS := Lib.hid (hMS.more hG)
   have HTS := Lib.hid (hTS.more (G := fun x => x = g))
   have hul : us.length = j := by rw [hus.length_eq]; simp
   have hcS : ∀ i (h : i < us.length), wS.cell? ⟨g, i, none⟩ = some us[i].ref := fun i h => (hstS.cell (i := i) (x := us[i].ref) (by rw [List.getElem?_map, List.getElem?_eq_getElem h]; rfl)).1
   have HCS := Lib.hid hcS
   have HUS := Lib.hid hus
   have HUL := Lib.hid hul
   have HBS := Lib.hid hbelS
   have hgS : g < wS.heap.size := by omega
   clear hbS hMS hTS hG hcS hus hul hstS hbelS hrow2
   go_wp2
   go_loopw [80] (fun i wr => ∃ (m : Nat) (fs : List Ent), m ≤ j ∧ i = .int .i64 m ∧ fs.Perm ((us.take m).flatMap fun t => t.ents.map (shift PL)) ∧ IP (ixO Bp Bo Bm) PL.length ov cnt xs fs wS wr) (fun i _ => j - (intOf i).toNat)
   case atStart => exact ⟨0, [], Nat.zero_le _, rfl, by simp, IP.refl HMS.out (Below.refl _ _)⟩
   case round =>
    obtain ⟨m, fs, hm, rfl, hfs, hmpj⟩ := hrel
    by_cases hlt : m < j
    ·have hmu : m < us.length := by rw [HUL.out]; exact hlt
     obtain ⟨ovj, kj1, hMj⟩ := HMS.out.next hmpj (Nat.le_refl _)
     have hTj := HTS.out.keep HMS.out hmpj
     have hgne : ¬ (g = Bo ∨ g = Bp ∨ False ∨ ov.ownBlock = some g) := HMS.out.bo (.inr rfl) (fun e => by have h1 := HM2.out.lt _ HM2.out.fp; have e : g = Bp := e; have h1 : Bp < W1.heap.size := h1; omega) id
     have cj : wr.cell? ⟨g, m, none⟩ = some us[m].ref := cell_only (HCS.out m hmu) kj1.only hgne
     obtain ⟨c, hc, hcu⟩ : ∃ c, c < j ∧ us[m] = kid c := by
      have h1 := HUS.out.mem_iff.1 (List.getElem_mem hmu)
      obtain ⟨c, h2, h3⟩ := List.mem_map.1 h1
      exact ⟨c, List.mem_range.1 h2, h3.symm⟩
     have hcj : cnt + fs.length + us[m].ents.length ≤ 99 := by
      have h1 := arts_len HUS.out hmu PL hfs
      have h2 := congrArg List.length (node_ents pl k nb pre j key kid)
      rw [← HPL.out] at h2
      rw [← h2, List.length_map] at h1
      have := HC.out
      omega
     have hdj : ∃ e, e < d ∧ us[m].Deep e := by
      have hd := HD.out
      cases d with
      | zero => exact hd.elim
      | succ d => exact ⟨d, Nat.lt_succ_self d, hcu ▸ hd c hc⟩
     have htk : us.take (m + 1) = us.take m ++ [us[m]] := by rw [List.take_add_one, List.getElem?_eq_getElem hmu]; rfl
     have HTK := Lib.hid htk
     have HMP := Lib.hid hmpj
     have HKJ := Lib.hid kj1
     have HMJ := Lib.hid hMj
     have HTJ := Lib.hid (show IT (ixO Bp Bo Bm) _ us[m] PL.length wr by rw [HPLl.out, hcu]; exact hTj.kid hc)
     have HCJ := Lib.hid hcj
     have HDJ := Lib.hid hdj
     have HFS := Lib.hid hfs
     clear hmpj kj1 hMj hTj hcj hdj hcu htk hfs hgne
     generalize us[m] = T1 at *
     as_aux_lemma =>
      obtain ⟨dj, hdj1, hdj2⟩ := HDJ.out
      have hrec := HIH.out dj hdj1 T1 _ _ _ _ _ wr t hdj2 HMJ.out HTJ.out HCJ.out
      clear hdj1 hdj2
      obtain ⟨jty, jb, hrf⟩ := T1.ref_form
      rw [hrf] at cj hrec
      rw [HPLl.out] at hrec
      clear hrf
      have hPLb : PL.length ≤ 256 := by have := HPLl.out; omega
      go_wp2_with fail
      refine hrec.mono ?_
      rintro e w9 ⟨rfl, gs, hgs, hmp9⟩
      rw [← HPLl.out] at hmp9
      have HM9 := Lib.hid (HMP.out.then HKJ.out.out hmp9 (Nat.le_refl _))
      have HGS := Lib.hid hgs
      clear hrec hmp9 hgs
      go_wp2
      go_roundw
      case rel => exact ⟨m + 1, fs ++ gs, hlt, by go_num, by rw [HTK.out, List.flatMap_append]; exact HFS.out.append (by simpa using HGS.out), HM9.out⟩
      case measure => simp [intOf]; omega
    ·obtain rfl : m = j := by omega
     have HMP := Lib.hid hmpj; clear hmpj
     have HFS := Lib.hid hfs; clear hfs
     go_wp2
     go_ret
     refine ⟨rfl, fs, ?_, ?_⟩
     ·rw [node_ents, ← HPL.out]
      have h1 := HFS.out
      rw [← HUL.out, List.take_length] at h1
      exact h1.trans (HUS.out.flatMap_right _)
     ·refine (HMP2.out.both HM2.out.out ((IP.refl (m := PL.length) HM2.out HBS.out).both HMS.out.out HMP.out (Nat.le_refl _)) (by have := HPLl.out; omega))
end Go.Proofs.YtehlmjecbljafaaGreatDoor
