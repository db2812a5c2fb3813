/- Cuts of items; appends whose row is told; an append in a region that draws. The server's list: a match of two tokens in the tree of one filter a.* . The server's list: Match with no cache, in the tree of a.* . -/
import Derived.Test.YtehlmjecbljafaaGreatDoorQ36
import Derived.Test.YtehlmjecbljafaaGreatDoorQ38
import Derived.Test.YtehlmjecbljafaaGreatDoorQ40
import Derived.Deep.RegionHeld3
import Derived.Laws.LoneSync
namespace Go.Proofs.YtehlmjecbljafaaGreatDoor
open Go Go.RowKit
theorem Sl.cutN {w : World} {sz n cap : Nat} {a : Option Addr} {xs : List Value} (h : Sl w sz (.slice a n cap) n xs) {j k : Nat} (hj : j ≤ k) (hk : k ≤ n) :
    Sl w sz (.slice (if cap = j then a else a.map (·.add (j * sz))) (k - j) (cap - j)) (k - j) ((xs.take (k * sz)).drop (j * sz)) := by
  obtain ⟨h1, a', cap', e, h2, h3, h4⟩ := h
  cases e
  have hks : k * sz ≤ n * sz := Nat.mul_le_mul_right _ hk
  have hl : ((xs.take (k * sz)).drop (j * sz)).length = (k - j) * sz := by rw [List.length_drop, List.length_take, Nat.sub_mul]; omega
  refine ⟨hl, _, _, rfl, by omega, by omega, fun h0 => ?_⟩
  rw [hl] at h0
  have hjk : j < k := by
    rcases Nat.lt_or_ge j k with h | h
    · exact h
    · rw [Nat.sub_eq_zero_of_le h, Nat.zero_mul] at h0; exact absurd h0 (Nat.lt_irrefl _)
  have hx0 : 0 < xs.length := by
    have : (k - j) * sz ≤ n * sz := Nat.mul_le_mul_right _ (by omega)
    omega
  obtain ⟨b, o, rfl, hc⟩ := h4 hx0
  rw [if_neg (by omega)]
  refine ⟨b, o + j * sz, by rw [Option.map_some, add0], fun i x hx => ?_⟩
  rw [List.getElem?_drop, List.getElem?_take] at hx
  split at hx
  · have := hc (j * sz + i) x hx
    rw [Nat.add_assoc]; exact this
  · cases hx
theorem items_take : ∀ (es : List (ByteArray × Int)) (k : Nat), (es.flatMap itemC).take (k * 2) = (es.take k).flatMap itemC
  | [], k => by simp
  | e :: es, 0 => by simp
  | e :: es, k + 1 => by
    rw [List.take_succ_cons, List.flatMap_cons, List.flatMap_cons, ← items_take es k, Nat.succ_mul]
    rfl
theorem items_drop : ∀ (es : List (ByteArray × Int)) (k : Nat), (es.flatMap itemC).drop (k * 2) = (es.drop k).flatMap itemC
  | [], k => by simp
  | e :: es, 0 => by simp
  | e :: es, k + 1 => by
    rw [List.drop_succ_cons, List.flatMap_cons, ← items_drop es k, Nat.succ_mul]
    rfl
theorem elem41 : Tryz.prog.elem 41 = 44 := by kernel_rfl
theorem size44 (w : World) : (sizeOf 44).run Tryz.prog w = .ok 2 w := by kernel_rfl
theorem items_to (a : Option Addr) (n cap k : Nat) (hk : k ≤ n) (hc : n ≤ cap) : ∃ sa, (∀ w, (Instr.slice 41 (.slice a n cap) none (some (.int .i64 k)) none).run Tryz.prog w = .ok (.slice sa k cap) w) ∧
    ∀ w (es : List (ByteArray × Int)), Sl w 2 (.slice a n cap) n (es.flatMap itemC) → Sl w 2 (.slice sa k cap) k ((es.take k).flatMap itemC) := by
  refine ⟨if cap = 0 then a else a.map (·.add (0 * 2)), fun w => ?_, fun w es h => ?_⟩
  · rw [run_slice_h w 41 a n cap (by rw [elem41]; exact Tryz.underlying41) .i64 k (by omega) (by omega), elem41, size44]
    simp [Result.andThen, sliced]
  · have := h.cutN (j := 0) (k := k) (Nat.zero_le _) hk
    rw [items_take] at this
    simpa using this
theorem items_from (a : Option Addr) (n cap j : Nat) (hj : j ≤ n) : ∃ sa, (∀ w, (Instr.slice 41 (.slice a n cap) (some (.int .i64 j)) none none).run Tryz.prog w = .ok (.slice sa (n - j) (cap - j)) w) ∧
    ∀ w (es : List (ByteArray × Int)), es.length = n → Sl w 2 (.slice a n cap) n (es.flatMap itemC) → Sl w 2 (.slice sa (n - j) (cap - j)) (n - j) ((es.drop j).flatMap itemC) := by
  refine ⟨if cap = j then a else a.map (·.add (j * 2)), fun w => ?_, fun w es hn h => ?_⟩
  · rw [run_slice_l w 41 a n cap (by rw [elem41]; exact Tryz.underlying41) .i64 j (by omega) (by omega), elem41, size44]
    simp [Result.andThen, sliced]
  · have := h.cutN (j := j) (k := n) hj (Nat.le_refl _)
    rw [items_take, ← hn, List.take_length, items_drop] at this
    rw [← hn]; exact this
theorem items_one (es : List (ByteArray × Int)) : ∀ u ∈ es.flatMap itemC, u.oneCell' = true := fun u hu => by
  obtain ⟨d, -, h⟩ := List.mem_flatMap.1 hu
  simp [itemC] at h
  rcases h with rfl | rfl <;> rfl
/-- The row of an append is the old one or a new one. -/
theorem run_app_blk {P : Program} (w : World) {T E sz bytes : Nat} {z : Value} (et : ET P T E sz bytes z) (ty : TypeId) (base : Nat)
    (v : Value) (n : Nat) (xs : List Value) (hown : Own w base sz v n xs)
    (a : Addr) (m c : Nat) (news : List Value) (hl : news.length = m * sz) (hnews : ∀ j u, news[j]? = some u → w.cell? (a.add j) = some u) (h1 : ∀ u ∈ news, u.oneCell' = true)
    (hsm : n + m ≤ 549755813888) {v' : Value} {w' : World} (hrun : (Builtin.append_ #[T, T] ty #[v, .slice (some a) m c]).run P w = .ok v' w') : v'.ownBlock = v.ownBlock ∨ v'.ownBlock = some w.heap.size := by
  obtain ⟨i, hi, hz, rfl, rfl⟩ := info_parts et.inf
  have hbytes : (n + m) * i.bytes ≤ 140737488355328 := by
    have := Nat.mul_le_mul hsm et.small
    omega
  rcases hown.2 with ⟨rfl, rfl⟩ | ⟨g, cap, cur, t, rfl, hbg, hg, hnc, hcm, hcs, htake⟩
  · by_cases hm : m = 0
    · subst hm
      have hn : news = [] := List.eq_nil_of_length_eq_zero (by simpa using hl)
      subst hn
      simp [Builtin.append_, run_underlying et.un, sizeOf, typeInfo, hi, Builtin.lenOf, Builtin.firstCells, loadCells, loadCellsFrom] at hrun
      exact .inl (by rw [← hrun.1])
    · rw [run_append_nil (P := P) w T ty E i z et.un hi hz a m c news hl hnews (by omega) (by omega) (by simp only [Nat.zero_add] at hbytes; omega)] at hrun
      injection hrun with h1 h2
      exact .inr (by rw [← h1]; rfl)
  · by_cases hroom : n + m ≤ cap
    · have hfit : 0 + n * i.size + news.length ≤ cur.size := by rw [Nat.zero_add, hl, ← Nat.add_mul]; exact Nat.le_trans (Nat.mul_le_mul_right _ hroom) hcs
      rw [run_room (P := P) w T ty E t i et.un hi g 0 n cap cur hg a m c news hl hnews h1 hroom hfit] at hrun
      injection hrun with h1 h2
      exact .inl (by rw [← h1]; rfl)
    · have holds : ∀ j u, xs[j]? = some u → w.cell? ((⟨g, 0, none⟩ : Addr).add j) = some u := by
        intro j u hu
        rw [add0, Nat.zero_add, cell_row hg]
        rw [← htake, List.getElem?_take] at hu
        split at hu
        · simpa using hu
        · cases hu
      rw [run_append_grow (P := P) w T ty E i z et.un hi hz ⟨g, 0, none⟩ n cap xs hown.1 holds a m c news hl hnews (by omega) (by omega) (growslice_fits (by omega) hbytes)] at hrun
      injection hrun with h1 h2
      exact .inr (by rw [← h1]; rfl)
/-- append(v, x), with the row told. -/
theorem wpList_app1B {P : Program} {ops : Array Oper} {rest : List Oper} {o : Oper} {a : Act} {Q : Exit → Act → World → Prop} {W : World} {T E sz bytes : Nat} {z : Value} (et : ET P T E sz bytes z) (hgd : o.guard = none) (s x : Operand)
    (ho : o.op = .call { callee := .builtin .append, args := #[s, x], argTypes := #[T, T] })
    (base : Nat) {v : Value} {n : Nat} {xs : List Value} (hs : a.eval s = v) (hown : Own W base sz v n xs)
    (news : List Value) (hx : a.eval x = .slice (some ⟨W.heap.size, 0, none⟩) 1 1) (hl : news.length = sz) (h1 : ∀ u ∈ news, u.oneCell' = true)
    (hsm : n < 549755813888) (hbase : base ≤ W.heap.size)
    (h : ∀ v' w', Own w' base sz v' (n + 1) (xs ++ news) → W.grownBy w' v.ownBlock → (v'.ownBlock = v.ownBlock ∨ v'.ownBlock = some (W.heap.size + 1)) → wpList P ops Q rest (a.put o.dst v') w') : wpList P ops Q (o :: rest) a (W.alloc (.cells news.toArray E)) := by
  refine wpList_plain hgd fun K hK => ?_
  have hown' := hown.alloc (.cells news.toArray E)
  obtain ⟨v', w', hr, h2, h3, -⟩ := run_app (P := P) (W.alloc (.cells news.toArray E)) et o.type base v n xs hown' ⟨W.heap.size, 0, none⟩ 1 1 news (by omega) (cells_new W news E) h1 (by omega) (by simp; omega)
  have h4 := run_app_blk (P := P) (W.alloc (.cells news.toArray E)) et o.type base v n xs hown' ⟨W.heap.size, 0, none⟩ 1 1 news (by omega) (cells_new W news E) h1 (by omega) hr
  unfold Oper.wp execOp
  simp only [ho, resolve, invoke, builtin, Sem.run_bind, Sem.run_pure, Result.andThen_ok, List.map_toArray, List.map_cons, List.map_nil, hs, hx, hr]
  exact hK _ _ (h v' w' h2 ((World.grownBy_alloc W _ _).trans h3) (by simpa using h4))
/-- append(v, x), with the row told; the box lies where the walk says. -/
theorem wpList_app1Z {P : Program} {ops : Array Oper} {rest : List Oper} {o : Oper} {a : Act} {Q : Exit → Act → World → Prop} {W : World} {T E sz bytes : Nat} {z : Value} (et : ET P T E sz bytes z) (hgd : o.guard = none) (s x : Operand)
    (ho : o.op = .call { callee := .builtin .append, args := #[s, x], argTypes := #[T, T] })
    (base : Nat) {v : Value} {n : Nat} {xs : List Value} (hs : a.eval s = v) (hown : Own W base sz v n xs)
    (news : List Value) {zz : Nat} (hzz : W.heap.size = zz) (hx : a.eval x = .slice (some ⟨zz, 0, none⟩) 1 1) (hl : news.length = sz) (h1 : ∀ u ∈ news, u.oneCell' = true)
    (hsm : n < 549755813888) (hbase : base ≤ W.heap.size)
    (h : ∀ v' w', Own w' base sz v' (n + 1) (xs ++ news) → W.grownBy w' v.ownBlock → (v'.ownBlock = v.ownBlock ∨ v'.ownBlock = some (W.heap.size + 1)) → wpList P ops Q rest (a.put o.dst v') w') : wpList P ops Q (o :: rest) a (W.alloc (.cells news.toArray E)) := by
  rw [← hzz] at hx
  refine wpList_plain hgd fun K hK => ?_
  have hown' := hown.alloc (.cells news.toArray E)
  obtain ⟨v', w', hr, h2, h3, -⟩ := run_app (P := P) (W.alloc (.cells news.toArray E)) et o.type base v n xs hown' ⟨W.heap.size, 0, none⟩ 1 1 news (by omega) (cells_new W news E) h1 (by omega) (by simp; omega)
  have h4 := run_app_blk (P := P) (W.alloc (.cells news.toArray E)) et o.type base v n xs hown' ⟨W.heap.size, 0, none⟩ 1 1 news (by omega) (cells_new W news E) h1 (by omega) hr
  unfold Oper.wp execOp
  simp only [ho, resolve, invoke, builtin, Sem.run_bind, Sem.run_pure, Result.andThen_ok, List.map_toArray, List.map_cons, List.map_nil, hs, hx, hr]
  exact hK _ _ (h v' w' h2 ((World.grownBy_alloc W _ _).trans h3) (by simpa using h4))
/-- append(v, u...) at a step of a region that draws. -/
theorem step_appS {P : Program} {ops : Array Oper} {o : Oper} {a : Act} {K : Act → World → Prop} {Q : Exit → Act → World → Prop} {R : Prop} {w : World} {T E sz bytes : Nat} {z : Value} (et : ET P T E sz bytes z) (hgd : o.guard = none) (s x : Operand)
    (ho : o.op = .call { callee := .builtin .append, args := #[s, x], argTypes := #[T, T] })
    (base : Nat) {v : Value} {n : Nat} {xs : List Value} (hs : a.eval s = v) (hown : Own w base sz v n xs)
    {u : Value} {m : Nat} {news : List Value} (hx : a.eval x = u) (hsl : Sl w sz u m news) (h1 : ∀ u ∈ news, u.oneCell' = true)
    (hsm : n + m ≤ 549755813888) (hbase : base ≤ w.heap.size)
    (h : ∀ v' w', Own w' base sz v' (n + m) (xs ++ news) → w.grownBy w' v.ownBlock → K (a.put o.dst v') w') : if Region.wanted o (yielded ops a.tmps) = true then Oper.wp P o a w K Q else R := by
  have hw : Region.wanted o (yielded ops a.tmps) = true := by simp [Region.wanted, hgd]
  rw [if_pos hw]
  obtain ⟨v', w', hr, k1, k2⟩ := run_appS (P := P) et o.type base hown hsl h1 hsm hbase
  unfold Oper.wp execOp
  simp only [ho, resolve, invoke, builtin, Sem.run_bind, Sem.run_pure, Result.andThen_ok, List.map_toArray, List.map_cons, List.map_nil, hs, hx, hr]
  exact h v' w' k1 k2
/-- Two rows, the first grown. -/
theorem own_grown {w w' : World} {B2 s2 n2 : Nat} {v1 v2 : Value} {x2 : List Value} (h2 : Own w B2 s2 v2 n2 x2) (hg : w.grownBy w' v1.ownBlock) (hne : ∀ q, v1.ownBlock = some q → v2.ownBlock ≠ some q) : Own w' B2 s2 v2 n2 x2 :=
  h2.kept fun q hq => hg.block q (h2.lt q hq).2 (by first | exact fun e => hne q e hq | exact fun e => hne q e.symm hq)
theorem ne_grown {z : Nat} {v1 v1' v2 : Value} (h : v1'.ownBlock = v1.ownBlock ∨ v1'.ownBlock = some z) (hne : ∀ q, v1.ownBlock = some q → v2.ownBlock ≠ some q) (hlt : ∀ q, v2.ownBlock = some q → q < z) : ∀ q, v1'.ownBlock = some q → v2.ownBlock ≠ some q := fun q h1 h2 => by
  rcases h with h | h
  · exact hne q (h ▸ h1) h2
  · rw [h] at h1
    injection h1 with h1
    have := hlt q h2
    omega
theorem Own.setN {w : World} {B sz g n cap : Nat} {xs : List Value} (h : Own w B sz (.slice (some ⟨g, 0, none⟩) n cap) n xs) (k : Nat) (y : Value) : Own (w.setCell ⟨g, k, none⟩ y) B sz (.slice (some ⟨g, 0, none⟩) n cap) n (xs.set k y) := by
  refine ⟨by rw [List.length_set]; exact h.1, ?_⟩
  rcases h.2 with ⟨h1, -⟩ | ⟨g', cap', cur, t, e, hb, hg, h1, h2, h3, h4⟩
  · cases h1
  · cases e
    refine .inr ⟨g, cap, _, t, rfl, hb, heap_setCell_same w g k cur t y hg, h1, h2, by rw [Array.size_setIfInBounds]; exact h3, ?_⟩
    rw [Array.toList_setIfInBounds, List.take_set, h4]
theorem items_set : ∀ (es : List (ByteArray × Int)) (k : Nat) (s : ByteArray) (x y : Int), es[k]? = some (s, x) → (es.flatMap itemC).set (k * 2 + 1) (.int .i64 y) = (es.set k (s, y)).flatMap itemC
  | [], k, s, x, y, h => by simp at h
  | e :: es, 0, s, x, y, h => by
    obtain rfl : e = (s, x) := by simpa using h
    simp [itemC]
  | e :: es, k + 1, s, x, y, h => by
    have ih := items_set es k s x y (by simpa using h)
    rw [List.set_cons_succ, List.flatMap_cons, List.flatMap_cons, ← ih, show (k + 1) * 2 + 1 = (k * 2 + 1) + 2 by omega]
    rfl
theorem sl_box {w : World} {g : Nat} {a b : Value} {t : TypeId} (h : w.heap[g]? = some (.cells #[a, b] t (0, 0))) : Sl w 2 (.slice (some ⟨g, 0, none⟩) 1 1) 1 [a, b] :=
  ⟨rfl, _, _, rfl, Nat.le_refl _, by decide, fun _ => ⟨g, 0, rfl, fun j x hj => by
    rw [Nat.zero_add, cell_row h]
    simpa using hj⟩⟩
theorem own_row {w : World} {B sz n : Nat} {v : Value} {xs : List Value} (h : Own w B sz v n xs) (hn : 0 < n) : ∃ g cap, v = .slice (some ⟨g, 0, none⟩) n cap ∧ n ≤ cap ∧ B ≤ g ∧ g < w.heap.size ∧ ∀ i x, xs[i]? = some x → w.cell? ⟨g, i, none⟩ = some x ∧ w.frozen? ⟨g, i, none⟩ = false := by
  rcases h.2 with ⟨-, h0⟩ | ⟨g, cap, cur, t, rfl, hb, hg, h1, h2, h3, h4⟩
  · omega
  · refine ⟨g, cap, rfl, h1, hb, (Array.getElem?_eq_some_iff.1 hg).1, fun i x hx => ⟨?_, frozen_row hg⟩⟩
    rw [cell_row hg]
    rw [← h4, List.getElem?_take] at hx
    split at hx
    · simpa using hx
    · cases hx
/-- The end of a round of Tree. -/
theorem tree_rel {w wr wc w5 : World} {nv o v5 : Value} {n' k : Nat} {ys xs zs : List Value} (hnv : Own wc wr.heap.size 2 nv n' ys) (ho : Own wr w.heap.size 2 o k xs) (_h5 : Own w5 w.heap.size 2 v5 (k + 1) zs) (hg : wc.grownBy w5 o.ownBlock) (hr : v5.ownBlock = o.ownBlock ∨ v5.ownBlock = some (wc.heap.size + 1))
    (hb : Below w.heap.size w wr) (hc : Below wr.heap.size wr wc) : Own w5 w.heap.size 2 nv n' ys ∧ (∀ q, nv.ownBlock = some q → v5.ownBlock ≠ some q) ∧ Below w.heap.size w w5 := by
  have hne : ∀ q, o.ownBlock = some q → nv.ownBlock ≠ some q := fun q h1 h2 => by
    have := (ho.lt q h1).2
    have := (hnv.lt q h2).1
    omega
  have hz := hb.size
  refine ⟨own_grown (hnv.mono hz) hg hne, fun q h1 h2 => ne_grown hr hne (fun q hq => Nat.lt_succ_of_lt (hnv.lt q hq).2) q h2 h1, bel_app (bel2 hb hc) hg (ho.keep hc) (bel2 hb hc).size⟩
end Go.Proofs.YtehlmjecbljafaaGreatDoor
namespace Go.Proofs.YtehlmjecbljafaaGreatDoor
open Go Go.RowKit
set_option maxRecDepth 100000 in
set_option maxHeartbeats 1600000 in
theorem ml_empty (lv : Value) (a : Option Addr) (c R : Nat) (w : World) : Calls Tryz.prog 221 #[lv, .slice a 0 c, .pointer (some ⟨R, 0, none⟩)] w fun e w' => e = .returned (.tuple #[]) ∧ w' = w := by
  go_enter Tryz.func221, Tryz.ntmps221
  go_wp2
  go_loopw [6, 7, 12] (fun p q i wr => p = .pointer none ∧ q = .pointer none ∧ i = .int .i64 0 ∧ wr = w) (fun _ _ _ _ => 0)
  case atStart => exact ⟨rfl, rfl, rfl, rfl⟩
  case round =>
    obtain ⟨rfl, rfl, rfl, rfl⟩ := hrel
    go_wp2
    go_end0
    exact ⟨rfl, rfl⟩
/-- The tree of the filter a.* . -/
def StarP : Path := [[97], [42]]
set_option maxRecDepth 100000 in
set_option maxHeartbeats 3200000 in
theorem ml_two (T : STrie) (F : Nat → Prop) (R : Nat) (A B : ByteArray) (v : Value) (w : World) (hA : bs A = [97]) (hB : bs B = [98]) (hT : STrieOK T F w) (hN : ∀ q, T.N q ↔ q <+: StarP) (hv : Sl w 1 v 2 [.string A, .string B]) (hvf : ∀ b o n c, v = .slice (some ⟨b, o, none⟩) n c → F b) (h : ResS F R [] w w) (hF : ∀ k, F k → k < w.heap.size) (hR : ¬ F R) (hS : (T.S StarP).length ≤ 100) :
    Calls Tryz.prog 221 #[.pointer (some ⟨T.aL [], 0, none⟩), v, .pointer (some ⟨R, 0, none⟩)] w fun e w' => e = .returned (.tuple #[]) ∧ ∃ l2, l2.Perm (T.S StarP) ∧ ResS F R l2 w w' := by
  obtain ⟨va, vc, rfl⟩ := hv.form
  have n0 : T.N [] := hT.root
  have n1 : T.N ([[97]]) := (hN _).2 ⟨[[42]], rfl⟩
  have n2 : T.N ([[97], [42]]) := (hN _).2 ⟨[], rfl⟩
  have x042 : ¬ T.N ([[42]]) := fun h => by obtain ⟨r, e⟩ := (hN _).1 h; cases e
  have x062 : ¬ T.N ([[62]]) := fun h => by obtain ⟨r, e⟩ := (hN _).1 h; cases e
  have x162 : ¬ T.N ([[97], [62]]) := fun h => by obtain ⟨r, e⟩ := (hN _).1 h; cases e
  have x1b : ¬ T.N ([[97], [98]]) := fun h => by obtain ⟨r, e⟩ := (hN _).1 h; cases e
  have HT := Lib.hid hT
  have H := Lib.hid h; clear h
  have HV := Lib.hid hv; clear hv
  have hvl : ∀ wr : World, Below w.heap.size w wr → ∃ b o, va = some ⟨b, o, none⟩ ∧ wr.cell? ⟨b, o, none⟩ = some (.string A) ∧ wr.cell? ⟨b, o + 1, none⟩ = some (.string B) := fun wr hb => by
    obtain ⟨b, o, e, hc⟩ := HV.out.cell hb (by simp)
    exact ⟨b, o, e, hc 0 _ rfl, hc 1 _ rfl⟩
  have HVL := Lib.hid hvl; clear hvl
  go_enter Tryz.func221, Tryz.ntmps221
  go_wp2
  go_loopw [0, 6, 7, 12] (fun lv p q i wr => ∃ k : Nat, i = .int .i64 k ∧ ((k = 0 ∧ lv = .pointer (some ⟨T.aL [], 0, none⟩) ∧ p = .pointer none ∧ q = .pointer none ∧ wr = w) ∨ (k = 1 ∧ lv = .pointer (some ⟨T.aL ([[97]]), 0, none⟩) ∧ p = .pointer none ∧ q = .pointer (some ⟨T.aN ([[97]]), 0, none⟩) ∧ wr = w) ∨ (k = 2 ∧ lv = .pointer none ∧ p = .pointer (some ⟨T.aN ([[97], [42]]), 0, none⟩) ∧ q = .pointer none ∧ Below w.heap.size w wr))) (fun _ _ _ i _ => 2 - (intOf i).toNat)
  case atStart => exact ⟨0, rfl, .inl ⟨rfl, rfl, rfl, rfl, rfl⟩⟩
  case round =>
    obtain ⟨k, rfl, ⟨rfl, rfl, rfl, rfl, rfl⟩ | ⟨rfl, rfl, rfl, rfl, rfl⟩ | ⟨rfl, rfl, rfl, rfl, hb⟩⟩ := hrel
    · obtain ⟨b, o, rfl, c0, -⟩ := HVL.out _ (Below.refl _ _)
      have hlev : wr.heap[T.aL []]? = some (.cells #[.map (some (T.aM [])), T.ptr [[42]], T.ptr [[62]]] 279 (0, 0)) := HT.out.lev [] n0
      rw [STrie.ptr_no x042, STrie.ptr_no x062] at hlev
      have d0 := (cell_row (j := 0) hlev).trans (show _ = some (Value.map (some (T.aM []))) from rfl)
      have d1 := (cell_row (j := 1) hlev).trans (show _ = some (Value.pointer none) from rfl)
      have d2 := (cell_row (j := 2) hlev).trans (show _ = some (Value.pointer none) from rfl)
      have hlk : (Instr.lookup 276 (.map (some (T.aM []))) (.string A) false).run Tryz.prog wr = .ok (T.ptr ([] ++ [bs A])) wr := HT.out.look n0 A (by rw [hA]; decide) (by rw [hA]; decide)
      rw [hA, show ([] ++ [[97]] : Path) = [[97]] from rfl, STrie.ptr_yes n1] at hlk
      have hm0 : wr.cell? ⟨T.aN [[97]], 0, none⟩ = some (.pointer (some ⟨T.aL [[97]], 0, none⟩)) := (cell_row (j := 0) (HT.out.nod [] [97] n1)).trans (show _ = some (Value.pointer (some ⟨T.aL ([[97]]), 0, none⟩)) from rfl)
      clear hlev
      go_wp2
      go_roundw
      case rel => exact ⟨1, by go_num, .inr (.inl ⟨rfl, rfl, rfl, rfl, by first | rfl | trivial⟩)⟩
      case measure => simp [intOf]
    · obtain ⟨b, o, rfl, -, c1⟩ := HVL.out _ (Below.refl _ _)
      have hlev : wr.heap[T.aL [[97]]]? = some (.cells #[.map (some (T.aM [[97]])), T.ptr [[97], [42]], T.ptr [[97], [62]]] 279 (0, 0)) := HT.out.lev [[97]] n1
      rw [STrie.ptr_yes n2, STrie.ptr_no x162] at hlev
      have d0 := (cell_row (j := 0) hlev).trans (show _ = some (Value.map (some (T.aM [[97]]))) from rfl)
      have d1 := (cell_row (j := 1) hlev).trans (show _ = some (Value.pointer (some ⟨T.aN [[97], [42]], 0, none⟩)) from rfl)
      have d2 := (cell_row (j := 2) hlev).trans (show _ = some (Value.pointer none) from rfl)
      have hm0 : wr.cell? ⟨T.aN [[97], [42]], 0, none⟩ = some (.pointer (some ⟨T.aL [[97], [42]], 0, none⟩)) := (cell_row (j := 0) (HT.out.nod [[97]] [42] n2)).trans (show _ = some (Value.pointer (some ⟨T.aL [[97], [42]], 0, none⟩)) from rfl)
      clear hlev
      have hbd : Below wr.heap.size wr wr.drew := (Below.refl _ wr).drew
      have hTd : STrieOK T F wr.drew := HT.out.keep fun k hk => hbd.block k (hF k hk)
      have hlk : (Instr.lookup 276 (.map (some (T.aM [[97]]))) (.string B) false).run Tryz.prog wr.drew = .ok (T.ptr ([[97]] ++ [bs B])) wr.drew := hTd.look n1 B (by rw [hB]; decide) (by rw [hB]; decide)
      rw [hB, show ([[97]] ++ [[98]] : Path) = [[97], [98]] from rfl, STrie.ptr_no x1b] at hlk
      have HBD := Lib.hid hbd
      clear hbd hTd
      go_wp2_with fail
      refine wp_region_L [0, 1, 2, 3, 4, 5, 6, 7, 8] (fun W' => W'.cell? ⟨T.aN [[97], [42]], 0, none⟩ = some (.pointer (some ⟨T.aL [[97], [42]], 0, none⟩))) (by kernel_rfl) (by kernel_rfl) hm0 (fun ne => ?_)
      have S0 := fun x : SubC (fun W' => W'.cell? ⟨T.aN [[97], [42]], 0, none⟩ = some (.pointer (some ⟨T.aL [[97], [42]], 0, none⟩))) => x.ok
      repeat (refine wpCL_q rfl rfl ?_; go_big_quiet_step (fail); refine wpQuiet_nil ?_)
      refine wpCL_n rfl rfl rfl rfl ?_
      go_simp
      repeat (refine wpCL_q rfl rfl ?_; go_big_quiet_step (fail); refine wpQuiet_nil ?_)
      refine wpCL_last ?_
      clear S0 ne
      generalize (if vc = 2 then some (⟨b, o, none⟩ : Addr) else some ⟨b, o + 2, none⟩) = sa
      go_wp2_with fail
      all_goals
        refine (ml_empty _ _ _ _ _).mono ?_
        rintro e w3 ⟨rfl, rfl⟩
        go_wp2
        go_roundw
        case rel => exact ⟨2, by go_num, .inr (.inr ⟨rfl, rfl, rfl, rfl, HBD.out⟩)⟩
        case measure => simp [intOf]
    · obtain ⟨l2, hl2⟩ : ∃ l2 : List Nat, l2 = T.S StarP := ⟨_, rfl⟩
      have hTr : STrieOK T F wr := HT.out.keep fun k hk => hb.block k (hF k hk)
      have hadd := addNode_any (T.aN [[97], [42]]) (T.aL [[97], [42]]) (T.aS [[97], [42]]) (T.S [[97], [42]]) F R [] wr (hTr.nod [[97]] [42] n2) (hTr.sub [[97]] [42] n2) (hTr.fN [[97]] [42] n2) (hTr.fS [[97]] [42] n2) (H.out.bel hb).start (fun k hk => by have := hF k hk; have := hb.size; omega) hR (by simp only [List.length_nil]; have := hS; unfold StarP at this; omega)
      have HRB := Lib.hid (H.out.bel hb)
      clear hTr hb hl2
      go_wp2_with fail
      refine hadd.mono ?_
      rintro e w2 ⟨rfl, l3, hp, hr⟩
      have HR2 := Lib.hid (And.intro hp (HRB.out.trans hr))
      clear hadd hp hr
      go_wp2
      go_end0
      exact ⟨rfl, l3, HR2.out.1, HR2.out.2⟩
end Go.Proofs.YtehlmjecbljafaaGreatDoor
namespace Go.Proofs.YtehlmjecbljafaaGreatDoor
open Go Go.RowKit
theorem nil226n (w : World) : (binOp .neq 226 (.map none) (.map none)).run Tryz.prog w = .ok (.bool false) w := by kernel_rfl
theorem look226 (s : ByteArray) (w : World) : (Instr.lookup 226 (.map none) (.string s) true).run Tryz.prog w = .ok (.tuple #[.pointer none, .bool false]) w := by kernel_rfl
set_option maxRecDepth 100000 in
set_option maxHeartbeats 6400000 in
theorem smatch_star (b : Nat) (s : ByteArray) (g m h i r sw c : Int) (T : STrie) (F : Nat → Prop) (w : World) (hb : w.heap[b]? = some (.cells (slCells (T.aL []) (.map none) g m h i r sw c) 229 (0, 0))) (hT : STrieOK T F w) (hN : ∀ q, T.N q ↔ q <+: StarP) (hF : ∀ k, F k → k < w.heap.size) (hFb : ¬ F b) (hg : GoodS s) (hs : s.size ≤ 100000) (A B : ByteArray) (hAB : toks s = [A, B]) (hA : bs A = [97]) (hBB : bs B = [98]) (hS : (T.S StarP).length ≤ 100) (hS0 : 0 < (T.S StarP).length) (hm : 0 ≤ m ∧ m ≤ 1000000) :
    Calls Tryz.prog 191 #[.pointer (some ⟨b, 0, none⟩), .string s, .bool true, .bool false] w fun e w' => ∃ R l, e = .returned (.pointer (some ⟨R, 0, none⟩)) ∧ ResAt w' w.heap.size R l ∧ l.Perm (T.S StarP) ∧ w'.heap[b]? = some (.cells (slCells (T.aL []) (.map none) g (m + 1) h i r sw c) 229 (0, 0)) ∧ Only (· = b) w w' := by
  have hlb := (Array.getElem?_eq_some_iff.1 hb).1
  have HG := Lib.hid hg; clear hg
  have HT := Lib.hid hT; clear hT
  have hadd := run_call_add (P := Tryz.prog) Tryz.func154 (by kernel_rfl) (by kernel_rfl) (by kernel_rfl) .u64 (by kernel_rfl) (a := ⟨b, 7, none⟩) (x := m) (y := 1) (s := m + 1) (w := w) ((cell_row (j := 7) hb).trans rfl) (frozen_row hb) (by simp [go_sem, IntWalk.u64_in (m + 1) (by omega)])
  have q1 := fun w => nil226n w
  have q2 := fun w => look226 s w
  go_enter Tryz.func191, Tryz.ntmps191
  go_wp2_with fail
  have h1 : (w.setCell ⟨b, 7, none⟩ (.int .u64 (m + 1))).heap[b]? = some (.cells (slCells (T.aL []) (.map none) g (m + 1) h i r sw c) 229 (0, 0)) := heap_setCell_same w b 7 _ 229 (.int .u64 (m + 1)) hb
  have o1 : Only (· = b) w (w.setCell ⟨b, 7, none⟩ (.int .u64 (m + 1))) := (Only.refl (· = b) w).set (.inl rfl) _
  generalize w.setCell ⟨b, 7, none⟩ (.int .u64 (m + 1)) = wA at *
  have hrl := RwLone.rlock_open rwRLib b 0 0 _ _ wA ((cell_row (j := 0) h1).trans (show _ = some (Value.int .i32 0) from rfl)) ((cell_row (j := 3) h1).trans (show _ = some (Value.int .u32 0) from rfl)) ((cell_row (j := 4) h1).trans (show _ = some (Value.int .i32 0) from rfl)) (frozen_row (j := 4) h1) (by rw [wrap_up]; decide)
  have h2 : (wA.setCell ⟨b, 4, none⟩ (.int .i32 1)).heap[b]? = some (.cells (slRead (T.aL []) (.map none) g (m + 1) h i r sw c) 229 (0, 0)) := heap_setCell_same wA b 4 _ 229 (.int .i32 1) h1
  have o2 : Only (· = b) w (wA.setCell ⟨b, 4, none⟩ (.int .i32 1)) := o1.set (.inl rfl) _
  refine hrl.mono ?_
  rintro e w2 ⟨rfl, hw2⟩
  rw [wrap_up] at hw2
  simp only [Nat.zero_add] at hw2
  rw [← hw2] at h2 o2
  have r12 := (cell_row (j := 12) h2).trans (show _ = some (Value.map none) from rfl)
  have hru := RwLone.runlock_held rwRLib b 0 1 _ _ w2 ((cell_row (j := 0) h2).trans (show _ = some (Value.int .i32 0) from rfl)) ((cell_row (j := 2) h2).trans (show _ = some (Value.int .u32 0) from rfl)) ((cell_row (j := 4) h2).trans (show _ = some (Value.int .i32 1) from rfl)) (frozen_row (j := 4) h2) (by rw [wrap_down]; decide)
  rw [wrap_down] at hru
  clear hw2 hadd hrl
  go_wp2_with fail
  refine hru.mono ?_
  rintro e w3 ⟨rfl, hw3⟩
  have h3 : w3.heap[b]? = some (.cells (slCells (T.aL []) (.map none) g (m + 1) h i r sw c) 229 (0, 0)) := by rw [hw3]; exact heap_setCell_same w2 b 4 _ 229 (.int .i32 0) h2
  have o3 : Only (· = b) w w3 := by rw [hw3]; exact o2.set (.inl rfl) _
  have hz3 := o3.size
  clear hru hw3 o1 o2 h1 h2
  have HO3 := Lib.hid o3; clear o3
  go_wp2_with (refine wpList_zero3 180 zero32 32 _ _ z32b z32i z32s z32o rfl rfl rfl rfl rfl rfl (by rfl) (by rfl) ?_)
  have hown0 := own32 w3
  have hb0 := (Below.refl w3.heap.size w3).alloc (Nat.le_refl _) (.cells zero32 180)
  go_loopw [13, 14, 15] (fun v f i wr => ∃ (k kf : Nat) (ss : List ByteArray), k ≤ s.size ∧ kf ≤ k ∧ i = .int .i64 k ∧ f = .int .i64 kf ∧ Hid (Done s kf k ss) ∧ Own wr w3.heap.size 1 v ss.length (ss.map Value.string) ∧ Below w3.heap.size w3 wr) (fun _ _ i _ => s.size - (intOf i).toNat)
  case atStart => exact ⟨0, 0, [], by omega, by omega, rfl, rfl, done_start s, hown0, hb0⟩
  case round =>
    obtain ⟨k, kf, ss, hk, hkf, rfl, rfl, HD, hown, hbel⟩ := hrel
    have hB := hbel.size
    have hssl := done_len HD.out hk
    by_cases hlt : k < s.size
    · by_cases hc : s[k] = 46
      · have hd2 := done_dot HD.out hlt hc
        obtain ⟨r, hr⟩ := done_toks hd2
        have hpos := good_at HG.out hr
        have hne : kf < k := by
          rcases Nat.lt_or_ge kf k with h | h
          · exact h
          · rw [← bs_len, bs_extract] at hpos
            simp at hpos
            omega
        have hcb : (((s[k]).toNat : Int) == 46) = true := by rw [hc]; rfl
        have HD2 := Lib.hid hd2; clear hd2 hr hpos hc
        go_wp2_with (at_builtin; go_must (refine wpList_app1 et32 rfl _ _ rfl w3.heap.size rfl hown [_] rfl rfl (by simp [Value.oneCell']) (by omega) hB ?_); intro v' w1 hown1 hgrow)
        go_roundw
        case rel => exact ⟨k+1, k+1, _, hlt, Nat.le_refl _, by go_num, by go_num, HD2.out, by simpa using hown1, bel_app hbel hgrow hown hB⟩
        case measure => simp [intOf]; omega
      · have hcb : (((s[k]).toNat : Int) == 46) = false := by
          rw [beq_eq_false_iff_ne]; intro e; exact hc (UInt8.toNat_inj.1 (show (s[k]).toNat = 46 by omega))
        have hd2 := done_no HD.out hlt hkf hc
        have HD2 := Lib.hid hd2; clear hd2 hc
        go_wp2
        go_roundw
        case rel => exact ⟨k+1, kf, ss, hlt, by omega, by go_num, rfl, HD2.out, hown, hbel⟩
        case measure => simp [intOf]; omega
    · obtain rfl : k = s.size := by omega
      have hend := done_end HD.out
      have hpos := good_at HG.out (r := []) (by rw [List.append_nil]; exact hend.symm)
      have hlt2 : kf < s.size := by
        rw [← bs_len, bs_extract_end, List.length_drop, bs_len] at hpos
        omega
      clear hpos
      have HE := Lib.hid hend; clear hend
      go_wp2_with (at_builtin; go_must (refine wpList_app1 et32 rfl _ _ rfl w3.heap.size rfl hown [_] rfl rfl (by simp [Value.oneCell']) (by omega) hB ?_); intro v' w1 hown1 hgrow)
      have hbw := bel_app hbel hgrow hown hB
      have hzw := hbw.size
      have hlb3 := (Array.getElem?_eq_some_iff.1 h3).1
      have hb1 := (hbw.block b hlb3).trans h3
      have hal := heap_alloc_new w1 (.cells #[.slice none 0 0, .slice none 0 0, .slice none 0 0] 247)
      have hba := (Below.refl w1.heap.size w1).alloc (Nat.le_refl _) (.cells #[.slice none 0 0, .slice none 0 0, .slice none 0 0] 247)
      have hza : (w1.alloc (.cells #[.slice none 0 0, .slice none 0 0, .slice none 0 0] 247)).heap.size = w1.heap.size + 1 := by simp
      have hown2 := hown1.keep hba
      have hbk := (hba.block b (by omega)).trans hb1
      have hbW := hbw.trans (hba.mono hzw)
      have hFo := hown1.lt
      generalize w1.alloc (.cells #[.slice none 0 0, .slice none 0 0, .slice none 0 0] 247) = wB at *
      have hrl := RwLone.rlock_open rwRLib b 0 0 _ _ wB ((cell_row (j := 0) hbk).trans (show _ = some (Value.int .i32 0) from rfl)) ((cell_row (j := 3) hbk).trans (show _ = some (Value.int .u32 0) from rfl)) ((cell_row (j := 4) hbk).trans (show _ = some (Value.int .i32 0) from rfl)) (frozen_row (j := 4) hbk) (by rw [wrap_up]; decide)
      have h4 : (wB.setCell ⟨b, 4, none⟩ (.int .i32 1)).heap[b]? = some (.cells (slRead (T.aL []) (.map none) g (m + 1) h i r sw c) 229 (0, 0)) := heap_setCell_same wB b 4 _ 229 (.int .i32 1) hbk
      have ho4 : Only (· = b) wB (wB.setCell ⟨b, 4, none⟩ (.int .i32 1)) := (Only.refl (· = b) wB).set (.inl rfl) _
      refine hrl.mono ?_
      rintro e w4 ⟨rfl, hw4⟩
      rw [wrap_up] at hw4
      simp only [Nat.zero_add] at hw4
      rw [← hw4] at h4 ho4
      have o34 := HO3.out
      have hT3 := HT.out.keep (w' := w4) fun x hx => (ho4.block x (by have := hF x hx; omega) (fun e => hFb (e ▸ hx))).trans ((hbW.block x (by have := hF x hx; omega)).trans (o34.block x (hF x hx) (fun e => hFb (e ▸ hx))))
      have hz4 := ho4.size
      have hsl3 := (hown2.only ho4 (fun k hk e => by have := (hown1.lt k hk).1; omega)).sl
      have hlen : ss.length + 1 = 2 := by
        have := congrArg List.length HE.out
        rw [hAB] at this
        simpa using this
      have hts : ss.map Value.string ++ [Value.string (s.extract kf s.size)] = [.string A, .string B] := by
        have := congrArg (List.map Value.string) HE.out
        rw [hAB] at this
        simpa using this
      rw [hts, hlen] at hsl3
      clear hts hlen
      have hR3 := (ho4.block w1.heap.size (by omega) (by omega)).trans hal
      have r11 := (cell_row (j := 11) h4).trans (show _ = some (Value.pointer (some ⟨T.aL [], 0, none⟩)) from rfl)
      have hF9 : ∀ k, (F k ∨ v'.ownBlock = some k) → k < w4.heap.size := fun k hk => by
        rcases hk with hk | hk
        · have := hF k hk; omega
        · have := (hFo k hk).2; omega
      have hR9 : ¬ (F w1.heap.size ∨ v'.ownBlock = some w1.heap.size) := by
        rintro (e | e)
        · have := hF _ e; omega
        · have := (hFo _ e).2; omega
      have hma := ml_two T (fun k => F k ∨ v'.ownBlock = some k) w1.heap.size A B v' w4 hA hBB (hT3.wider fun k => .inl) hN hsl3 (fun b o n c e => .inr (by rw [e]; rfl)) ⟨⟨_, hR3, Own.nil _ _ _, fun k hk => by cases hk⟩, Only.refl _ _⟩ hF9 hR9 hS
      have HO4 := Lib.hid ho4
      have HFb := Lib.hid (fun k (h : v'.ownBlock = some k) => hFo k h)
      have HBW := Lib.hid hbW
      clear hT3 hsl3 hrl hw4 hF9 hR9 ho4 hown2 hown1 hbk hb1 hal hFo hba hbW o34
      go_wp2_with fail
      refine hma.mono ?_
      rintro e w5 ⟨rfl, l, hlp, ho5⟩
      have hbF : ¬ (F b ∨ v'.ownBlock = some b) := by
        rintro (e | e)
        · exact hFb e
        · have := (HFb.out b e).1; omega
      have h5 := (ho5.2.block b (Array.getElem?_eq_some_iff.1 h4).1 (fun e => by omega)).trans h4
      have hz5 := ho5.size
      obtain ⟨⟨ov, k1, k2, k3⟩, k4⟩ := ho5
      obtain ⟨oa, oc, rfl, -⟩ := k2.form
      have c50 := (cell_row (j := 0) k1).trans (show _ = some (Value.slice oa l.length oc) from rfl)
      have c51 := (cell_row (j := 1) k1).trans (show _ = some (Value.slice none 0 0) from rfl)
      have K1 := Lib.hid k1
      have K2 := Lib.hid k2
      have K4 := Lib.hid k4
      have HLP := Lib.hid hlp
      have e0 : ((l.length : Int) == 0) = false := by
        rw [beq_eq_false_iff_ne]
        have := hlp.length_eq
        omega
      clear hma hlp k1 k2 k3 k4
      have hru := RwLone.runlock_held rwRLib b 0 1 _ _ w5 ((cell_row (j := 0) h5).trans (show _ = some (Value.int .i32 0) from rfl)) ((cell_row (j := 2) h5).trans (show _ = some (Value.int .u32 0) from rfl)) ((cell_row (j := 4) h5).trans (show _ = some (Value.int .i32 1) from rfl)) (frozen_row (j := 4) h5) (by rw [wrap_down]; decide)
      rw [wrap_down] at hru
      go_wp2_with fail
      refine hru.mono ?_
      rintro e w7 ⟨rfl, hw7⟩
      have HW7 := Lib.hid hw7; clear hw7
      clear hru
      go_wp2
      go_ret
      rw [show w7 = w5.setCell ⟨b, 4, none⟩ (.int .i32 0) from HW7.out]
      refine ⟨w1.heap.size, l, rfl, ⟨_, (heap_setCell_other _ _ _ _ (by show w1.heap.size ≠ b; omega)).trans K1.out, K2.out.kept fun k hk => heap_setCell_other _ _ _ _ (by have := (K2.out.lt k hk).1; show k ≠ b; omega), by omega⟩, HLP.out, heap_setCell_same w5 b 4 _ 229 (.int .i32 0) h5, ?_⟩
      have p1 := HO3.out.trans (Only.of (F := (· = b)) HBW.out) fun k hk => .inl hk
      have p2 := p1.trans HO4.out fun k hk => .inl hk
      have p3 := p2.trans K4.out fun k hk => .inr (by omega)
      exact p3.set (.inl rfl) _
end Go.Proofs.YtehlmjecbljafaaGreatDoor
