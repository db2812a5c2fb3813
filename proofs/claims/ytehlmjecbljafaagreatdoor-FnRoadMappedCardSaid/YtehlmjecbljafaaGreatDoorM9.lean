/- A mapping's plan: PlanOf. -/
import Derived.Test.YtehlmjecbljafaaGreatDoorM7
import Derived.Test.YtehlmjecbljafaaGreatDoorM8
namespace Go.Proofs.YtehlmjecbljafaaGreatDoor
open Go Go.RowKit
theorem et34 : ET Tryz.prog 34 33 1 24 (.slice none 0 0) := ⟨Tryz.underlying34, by kernel_rfl, rfl, by decide, by decide⟩
theorem placesN_wilds (ss : List ByteArray) : (placesN (ss.map bs)).length = wildsN (ss.map bs) := by
  have key : ∀ k, k ≤ ss.length → (placesN ((ss.take k).map bs)).length = wildsN ((ss.take k).map bs) := by
    intro k
    induction k with
    | zero => intro _; simp [placesN, wildsN]
    | succ k ih =>
      intro hk
      have ht : ss[k]? = some ss[k] := List.getElem?_eq_getElem hk
      rw [placesN_step ht, wildsN_step ht, List.length_append, ih (by omega)]
      by_cases h : bs ss[k] = [42] <;> simp [h]
  simpa using key ss.length (Nat.le_refl _)
def isWild (p : Part) : Prop := p.kind = 1 ∨ p.kind = 2
/-- The place that a part reads, as it lies in a list of blocks. -/
def PlAt (H : List (Nat × Obj)) (pl : List Nat) (p : Part) (v : Value) : Prop :=
  (¬ isWild p ∧ v = .slice none 0 0) ∨ (isWild p ∧ ∃ x : Nat, ∃ H1, RowIn 1 v 1 [Value.int .i64 x] H1 ∧ H1 ⊆ H ∧ pl[(p.n - 1).toNat]? = some x)
theorem PlAt.mono {H H' : List (Nat × Obj)} {pl : List Nat} {p : Part} {v : Value} (h : PlAt H pl p v) (hs : H ⊆ H') : PlAt H' pl p v := by
  rcases h with h | ⟨h, x, H1, h1, h2, h3⟩
  · exact .inl h
  · exact .inr ⟨h, x, H1, h1, fun _ hm => hs (h2 hm), h3⟩
def PlAts (H : List (Nat × Obj)) (pl : List Nat) (ps : List Part) (vs : List Value) (k : Nat) : Prop := vs.length = k ∧ ∀ (j : Nat) (p : Part) (v : Value), ps[j]? = some p → vs[j]? = some v → PlAt H pl p v
theorem PlAts.step {H H' : List (Nat × Obj)} {pl : List Nat} {ps : List Part} {vs : List Value} {k : Nat} {p : Part} {v : Value} (h : PlAts H pl ps vs k) (hp : ps[k]? = some p) (hv : PlAt H' pl p v) (hs : H ⊆ H') : PlAts H' pl ps (vs ++ [v]) (k + 1) := by
  refine ⟨by simp [h.1], fun j q u hq hu => ?_⟩
  by_cases e : j < vs.length
  · rw [List.getElem?_append_left e] at hu
    exact (h.2 j q u hq hu).mono hs
  · have e2 : j = vs.length := by
      have := (List.getElem?_eq_some_iff.1 hu).1
      simp at this; omega
    subst e2
    rw [h.1, hp] at hq; cases hq
    simp at hu; subst hu
    exact hv
theorem RowIn.form {sz n : Nat} {v : Value} {xs : List Value} {H : List (Nat × Obj)} (h : RowIn sz v n xs H) : ∃ a c, v = .slice a n c := by
  rcases h.2 with ⟨rfl, rfl, -⟩ | ⟨g, cap, cur, t, rfl, -⟩
  · exact ⟨_, _, rfl⟩
  · exact ⟨_, _, rfl⟩
def planCells (s D : ByteArray) (sv dv kv pv nv tv : Value) : Obj := .cells #[.string s, .string D, sv, dv, kv, pv, nv, tv] 36 (0, 0)
theorem size_alloc (w : World) (o : Obj) : (w.alloc o).heap.size = w.heap.size + 1 := by
  show (w.heap.push o).size = _
  simp
theorem size_setCell (w : World) (a : Addr) (v : Value) : (w.setCell a v).heap.size = w.heap.size := by simp [World.setCell]
structure Rw where
  v : Value
  n : Nat
  xs : List Value
/-- The plan while it is made. -/
def TSt (W : World) (B xb : Nat) (s D : ByteArray) (sv dv : Value) (k p n t : Rw) (Hr : List (Nat × Obj)) : Prop :=
  ∃ Hk Hp Hn Ht, Holds W B ((xb, planCells s D sv dv k.v p.v n.v t.v) :: (Hk ++ (Hp ++ (Hn ++ (Ht ++ Hr))))) ∧ RowIn 1 k.v k.n k.xs Hk ∧ RowIn 1 p.v p.n p.xs Hp ∧ RowIn 1 n.v n.n n.xs Hn ∧ RowIn 1 t.v t.n t.xs Ht
section
variable {W : World} {B xb : Nat} {s D : ByteArray} {sv dv : Value} {k p n t : Rw} {Hr : List (Nat × Obj)}
theorem TSt.head (h : TSt W B xb s D sv dv k p n t Hr) : W.heap[xb]? = some (planCells s D sv dv k.v p.v n.v t.v) := by
  obtain ⟨Hk, Hp, Hn, Ht, hh, -⟩ := h; exact hh.head
theorem TSt.mem (h : TSt W B xb s D sv dv k p n t Hr) {q : Nat × Obj} (hq : q ∈ Hr) : W.heap[q.1]? = some q.2 := by
  obtain ⟨Hk, Hp, Hn, Ht, hh, -⟩ := h; exact (hh.at' q (by simp [hq])).2
theorem TSt.keep {W' : World} (h : TSt W B xb s D sv dv k p n t Hr) (hb : Below W.heap.size W W') : TSt W' B xb s D sv dv k p n t Hr := by
  obtain ⟨Hk, Hp, Hn, Ht, hh, r⟩ := h; exact ⟨Hk, Hp, Hn, Ht, hh.keep hb, r⟩
theorem TSt.row (h : TSt W B xb s D sv dv k p n t Hr) : ∃ R, Holds W B ([] ++ R) ∧ ∀ w' H', Holds w' B (H' ++ R) → TSt w' B xb s D sv dv k p n t (H' ++ Hr) := by
  obtain ⟨Hk, Hp, Hn, Ht, hh, r⟩ := h
  refine ⟨_, hh, fun w' H' h' => ⟨Hk, Hp, Hn, Ht, ?_, r⟩⟩
  have := rows_back (A := Hk ++ (Hp ++ (Hn ++ Ht))) (T := Hr) (by simpa only [List.append_assoc] using h')
  simpa only [List.append_assoc] using this
theorem TSt.appK (h : TSt W B xb s D sv dv k p n t Hr) : ∃ H R, RowIn 1 k.v k.n k.xs H ∧ Holds W B (H ++ R) ∧ (xb, planCells s D sv dv k.v p.v n.v t.v) ∈ R ∧ (∀ q ∈ Hr, q ∈ R) ∧
    ∀ w' v' n' xs' H', RowIn 1 v' n' xs' H' → Holds w' B (H' ++ R) → TSt (w'.setCell ⟨xb, 4, none⟩ v') B xb s D sv dv ⟨v', n', xs'⟩ p n t Hr := by
  obtain ⟨Hk, Hp, Hn, Ht, hh, r1, r2, r3, r4⟩ := h
  refine ⟨Hk, _, r1, rows_app (A := []) hh, by simp, fun q hq => by simp [hq], fun w' v' n' xs' H' r h' => ⟨H', Hp, Hn, Ht, ?_, r, r2, r3, r4⟩⟩
  exact rows_set (A := []) h' 4 v'
theorem TSt.appP (h : TSt W B xb s D sv dv k p n t Hr) : ∃ H R, RowIn 1 p.v p.n p.xs H ∧ Holds W B (H ++ R) ∧ (xb, planCells s D sv dv k.v p.v n.v t.v) ∈ R ∧ (∀ q ∈ Hr, q ∈ R) ∧
    ∀ w' v' n' xs' H', RowIn 1 v' n' xs' H' → Holds w' B (H' ++ R) → TSt (w'.setCell ⟨xb, 5, none⟩ v') B xb s D sv dv k ⟨v', n', xs'⟩ n t Hr := by
  obtain ⟨Hk, Hp, Hn, Ht, hh, r1, r2, r3, r4⟩ := h
  refine ⟨Hp, _, r2, rows_app (A := Hk) hh, by simp, fun q hq => by simp [hq], fun w' v' n' xs' H' r h' => ⟨Hk, H', Hn, Ht, ?_, r1, r, r3, r4⟩⟩
  exact rows_set (A := Hk) h' 5 v'
theorem TSt.appN (h : TSt W B xb s D sv dv k p n t Hr) : ∃ H R, RowIn 1 n.v n.n n.xs H ∧ Holds W B (H ++ R) ∧ (xb, planCells s D sv dv k.v p.v n.v t.v) ∈ R ∧ (∀ q ∈ Hr, q ∈ R) ∧
    ∀ w' v' n' xs' H', RowIn 1 v' n' xs' H' → Holds w' B (H' ++ R) → TSt (w'.setCell ⟨xb, 6, none⟩ v') B xb s D sv dv k p ⟨v', n', xs'⟩ t Hr := by
  obtain ⟨Hk, Hp, Hn, Ht, hh, r1, r2, r3, r4⟩ := h
  refine ⟨Hn, _, r3, rows_app (A := Hk ++ Hp) (by simpa only [List.append_assoc] using hh), by simp, fun q hq => by simp [hq], fun w' v' n' xs' H' r h' => ⟨Hk, Hp, H', Ht, ?_, r1, r2, r, r4⟩⟩
  have := rows_set (A := Hk ++ Hp) h' 6 v'
  simp only [List.append_assoc] at this; exact this
theorem TSt.appT (h : TSt W B xb s D sv dv k p n t Hr) : ∃ H R, RowIn 1 t.v t.n t.xs H ∧ Holds W B (H ++ R) ∧ (xb, planCells s D sv dv k.v p.v n.v t.v) ∈ R ∧ (∀ q ∈ Hr, q ∈ R) ∧
    ∀ w' v' n' xs' H', RowIn 1 v' n' xs' H' → Holds w' B (H' ++ R) → TSt (w'.setCell ⟨xb, 7, none⟩ v') B xb s D sv dv k p n ⟨v', n', xs'⟩ Hr := by
  obtain ⟨Hk, Hp, Hn, Ht, hh, r1, r2, r3, r4⟩ := h
  refine ⟨Ht, _, r4, rows_app (A := Hk ++ (Hp ++ Hn)) (by simpa only [List.append_assoc] using hh), by simp, fun q hq => by simp [hq], fun w' v' n' xs' H' r h' => ⟨Hk, Hp, Hn, H', ?_, r1, r2, r3, r⟩⟩
  have := rows_set (A := Hk ++ (Hp ++ Hn)) h' 7 v'
  simp only [List.append_assoc] at this; exact this
end
def PlanSt (W : World) (B xb : Nat) (s D : ByteArray) (sv dv : Value) (ps : List Part) (pl : List Nat) (k : Nat) : Prop :=
  ∃ kv pv nv tv kl pvs nl xs Hr, TSt W B xb s D sv dv ⟨kv, k, kl⟩ ⟨pv, k, pvs⟩ ⟨nv, k, nl⟩ ⟨tv, k, xs⟩ Hr ∧ kl = ints ((ps.take k).map fun p => kindN p.kind) ∧ nl = ints ((ps.take k).map fun p => p.m) ∧ PlAts Hr pl ps pvs k
theorem TSt.forms {W : World} {B xb : Nat} {s D : ByteArray} {sv dv : Value} {k p n t : Rw} {Hr : List (Nat × Obj)} (h : TSt W B xb s D sv dv k p n t Hr) :
    (∃ a c, k.v = .slice a k.n c) ∧ (∃ a c, p.v = .slice a p.n c) ∧ (∃ a c, n.v = .slice a n.n c) ∧ (∃ a c, t.v = .slice a t.n c) := by
  obtain ⟨Hk, Hp, Hn, Ht, hh, r1, r2, r3, r4⟩ := h
  exact ⟨r1.form, r2.form, r3.form, r4.form⟩
/-- .. within a round. -/
def Mid (w5 : World) (B xb tb : Nat) (s D : ByteArray) (sv dv : Value) (k p n t : Rw) (Hr : List (Nat × Obj)) (pl : List Nat) (part : Part) (rv : Value) (W : World) : Prop :=
  ∃ Hr', TSt W B xb s D sv dv k p n t Hr' ∧ (tb, .cells part.cells.toArray 70 (0, 0)) ∈ Hr' ∧ PlAt Hr' pl part rv ∧ Hr ⊆ Hr' ∧ Below B w5 W
theorem ints_take {f : Part → Int} {ps : List Part} {k : Nat} {p : Part} (hp : ps[k]? = some p) : ints ((ps.take k).map f) ++ [Value.int .i64 (f p)] = ints ((ps.take (k + 1)).map f) := by
  simp [ints, List.take_add_one, hp]
theorem set8 {w : World} {b : Nat} {x0 x1 x2 x3 x4 x5 x6 x7 : Value} {t : TypeId} (h : w.heap[b]? = some (.cells #[x0, x1, x2, x3, x4, x5, x6, x7] t (0, 0))) (y0 y1 y2 y3 y4 y5 y6 y7 : Value) :
    ((((((((w.setCell ⟨b, 0, none⟩ y0).setCell ⟨b, 1, none⟩ y1).setCell ⟨b, 2, none⟩ y2).setCell ⟨b, 3, none⟩ y3).setCell ⟨b, 4, none⟩ y4).setCell ⟨b, 5, none⟩ y5).setCell ⟨b, 6, none⟩ y6).setCell ⟨b, 7, none⟩ y7).heap[b]? = some (.cells #[y0, y1, y2, y3, y4, y5, y6, y7] t (0, 0)) := by
  have h0 := heap_setCell_same _ b 0 _ t y0 h
  simp only [List.setIfInBounds_toArray, List.set_cons_zero, List.set_cons_succ] at h0
  have h1 := heap_setCell_same _ b 1 _ t y1 h0
  simp only [List.setIfInBounds_toArray, List.set_cons_zero, List.set_cons_succ] at h1
  have h2 := heap_setCell_same _ b 2 _ t y2 h1
  simp only [List.setIfInBounds_toArray, List.set_cons_zero, List.set_cons_succ] at h2
  have h3 := heap_setCell_same _ b 3 _ t y3 h2
  simp only [List.setIfInBounds_toArray, List.set_cons_zero, List.set_cons_succ] at h3
  have h4 := heap_setCell_same _ b 4 _ t y4 h3
  simp only [List.setIfInBounds_toArray, List.set_cons_zero, List.set_cons_succ] at h4
  have h5 := heap_setCell_same _ b 5 _ t y5 h4
  simp only [List.setIfInBounds_toArray, List.set_cons_zero, List.set_cons_succ] at h5
  have h6 := heap_setCell_same _ b 6 _ t y6 h5
  simp only [List.setIfInBounds_toArray, List.set_cons_zero, List.set_cons_succ] at h6
  have h7 := heap_setCell_same _ b 7 _ t y7 h6
  simp only [List.setIfInBounds_toArray, List.set_cons_zero, List.set_cons_succ] at h7
  exact h7
/-- The place that a part reads. -/
def PlRd (w : World) (pl : List Nat) (p : Part) (v : Value) : Prop :=
  (¬ isWild p ∧ v = .slice none 0 0) ∨ (isWild p ∧ ∃ x : Nat, Sl w 1 v 1 [Value.int .i64 x] ∧ pl[(p.n - 1).toNat]? = some x)
/-- A mapping's plan, in memory. -/
structure PlanIs (w : World) (v : Value) (s D : ByteArray) (ps : List Part) (pl : List Nat) : Prop where
  is : ∃ sv dv kv pv nv tv pvs xs, v = .agg #[.string s, .string D, sv, dv, kv, pv, nv, tv] ∧ Sl w 1 sv (toks s).length ((toks s).map Value.string) ∧ Sl w 1 dv (toks D).length ((toks D).map Value.string) ∧
    Sl w 1 kv ps.length (ints (ps.map fun p => kindN p.kind)) ∧ Sl w 1 pv ps.length pvs ∧ Sl w 1 nv ps.length (ints (ps.map fun p => p.m)) ∧ Sl w 1 tv ps.length xs ∧
    pvs.length = ps.length ∧ ∀ (j : Nat) (p : Part) (u : Value), ps[j]? = some p → pvs[j]? = some u → PlRd w pl p u
theorem PlanIs.of {wr wf : World} {B b : Nat} {s D : ByteArray} {ps : List Part} {pl : List Nat} {sv dv : Value} {kv pv nv tv : Value} {pvs xs : List Value} {Hr : List (Nat × Obj)}
    (h : TSt wr B B s D sv dv ⟨kv, ps.length, ints ((ps.take ps.length).map fun p => kindN p.kind)⟩ ⟨pv, ps.length, pvs⟩ ⟨nv, ps.length, ints ((ps.take ps.length).map fun p => p.m)⟩ ⟨tv, ps.length, xs⟩ Hr)
    (hpl : PlAts Hr pl ps pvs ps.length) (hs : Own wr (b + 1) 1 sv (toks s).length ((toks s).map Value.string)) (hd : Own wr (b + 1) 1 dv (toks D).length ((toks D).map Value.string)) (hB : b < B)
    (hk : ∀ k, k ≠ b → wf.heap[k]? = wr.heap[k]?) : PlanIs wf (.agg #[.string s, .string D, sv, dv, kv, pv, nv, tv]) s D ps pl := by
  obtain ⟨Hk, Hp, Hn, Ht, hh, r1, r2, r3, r4⟩ := h
  have hh' := hh.keepIf (w' := wf) fun p hp => hk _ (by have := (hh.at' p hp).1; omega)
  have mine : ∀ {v : Value} {n : Nat} {ys : List Value} {H : List (Nat × Obj)}, RowIn 1 v n ys H → (∀ p ∈ H, p ∈ (B, planCells s D sv dv kv pv nv tv) :: (Hk ++ (Hp ++ (Hn ++ (Ht ++ Hr))))) → Sl wf 1 v n ys := by
    intro v n ys H r hm
    refine r.sl (B := B) ⟨?_, fun p hp => hh'.at' p (hm p hp)⟩
    rcases r.2 with ⟨-, -, rfl⟩ | ⟨g, cap, cur, t, -, rfl, -⟩ <;> simp
  have others : ∀ {v : Value} {n : Nat} {ys : List Value}, Own wr (b + 1) 1 v n ys → Sl wf 1 v n ys := fun h => (h.kept fun k hk' => hk _ (by have := (h.lt k hk').1; omega)).sl
  refine ⟨sv, dv, kv, pv, nv, tv, pvs, xs, rfl, others hs, others hd, ?_, mine r2 (fun p hp => by simp [hp]), ?_, mine r4 (fun p hp => by simp [hp]), hpl.1, fun j p u hp hu => ?_⟩
  · have := mine r1 (fun p hp => by simp [hp]); rwa [List.take_length] at this
  · have := mine r3 (fun p hp => by simp [hp]); rwa [List.take_length] at this
  · rcases hpl.2 j p u hp hu with h | ⟨h1, x, H1, h2, h3, h4⟩
    · exact .inl h
    · exact .inr ⟨h1, x, mine h2 (fun q hq => by simp [h3 hq]), h4⟩
set_option maxRecDepth 100000 in
set_option maxHeartbeats 800000 in
theorem plan_any (s : ByteArray) (v : Value) (ps : List Part) (w : World) (hs : s.size ≤ 137438953472) (hps : PartsAt w v ps) (hok : ∀ p ∈ ps, PartOK (wildsN ((toks s).map bs)) p) (hl : ps.length ≤ 10) :
    Calls Tryz.prog 16 #[.string s, v] w fun e w' => ∃ u, e = .returned u ∧ PlanIs w' u s (mk (joinD (texts ps))) ps (placesN ((toks s).map bs)) ∧ Below w.heap.size w w' := by
  obtain ⟨a, cap, rfl⟩ := hps.1.form
  have HP := Lib.hid hps; clear hps
  have Hok := Lib.hid hok
  have hsum := texts_sum hok hl; clear hok
  go_enter Tryz.func16, Tryz.ntmps16
  go_wp2_with fail
  have hh0 := (Holds.nil w w.heap.size).new (Obj.cells #[Value.string ⟨#[]⟩, .string ⟨#[]⟩, .slice none 0 0, .slice none 0 0, .slice none 0 0, .slice none 0 0, .slice none 0 0, .slice none 0 0] 36) (Nat.le_refl _)
  have hb0 := (Below.refl w.heap.size w).alloc (Nat.le_refl _) (Obj.cells #[Value.string ⟨#[]⟩, .string ⟨#[]⟩, .slice none 0 0, .slice none 0 0, .slice none 0 0, .slice none 0 0, .slice none 0 0, .slice none 0 0] 36)
  have hz : (w.alloc (Obj.cells #[Value.string ⟨#[]⟩, .string ⟨#[]⟩, .slice none 0 0, .slice none 0 0, .slice none 0 0, .slice none 0 0, .slice none 0 0, .slice none 0 0] 36)).heap.size = w.heap.size + 1 := by simp
  generalize (w.alloc (Obj.cells #[Value.string ⟨#[]⟩, .string ⟨#[]⟩, .slice none 0 0, .slice none 0 0, .slice none 0 0, .slice none 0 0, .slice none 0 0, .slice none 0 0] 36)) = w0 at *
  refine (places_any s _ hs).mono ?_
  rintro e w1 ⟨pv0, rfl, hpo, hb1⟩
  obtain ⟨pa, pc, rfl, -⟩ := hpo.form
  replace hpo := hpo.sl
  replace hh0 := hh0.keep hb1
  replace hb0 := below_up hb0 (by omega) hb1
  go_wp2_with fail
  refine (dest_any _ ps _ w1 (HP.out.keep hb0) Hok.out hl).mono ?_
  rintro e w2 ⟨rfl, hb2⟩
  replace hpo := hpo.keep hb2
  replace hh0 := hh0.keep hb2
  replace hb0 := below_up hb0 hb0.size hb2
  generalize hD : mk (joinD (texts ps)) = D at *
  have hDs : D.size ≤ 137438953472 := by
    rw [← hD, mk_size]; exact Nat.le_trans (joinD_len _) hsum
  go_wp2_with fail
  refine (toks_any s _ (by omega)).mono ?_
  rintro e w3 ⟨sv, rfl, hso, hb3⟩
  replace hso := hso.mono (show w.heap.size + 1 ≤ w2.heap.size from (Array.getElem?_eq_some_iff.1 hh0.head).1)
  obtain ⟨sa, sc, rfl, -⟩ := hso.form
  replace hpo := hpo.keep hb3
  replace hh0 := hh0.keep hb3
  replace hb0 := below_up hb0 hb0.size hb3
  go_wp2_with fail
  refine (dest_any _ ps _ w3 (HP.out.keep hb0) Hok.out hl).mono ?_
  rintro e w4 ⟨rfl, hb4⟩
  rw [hD]
  replace hpo := hpo.keep hb4
  replace hso := hso.keep hb4
  replace hh0 := hh0.keep hb4
  replace hb0 := below_up hb0 hb0.size hb4
  go_wp2_with fail
  refine (toks_any D _ (by omega)).mono ?_
  rintro e w5 ⟨dv, rfl, hdo, hb5⟩
  replace hdo := hdo.mono (show w.heap.size + 1 ≤ w4.heap.size from (Array.getElem?_eq_some_iff.1 hh0.head).1)
  obtain ⟨da, dc, rfl, -⟩ := hdo.form
  replace hso := hso.keep hb5
  replace hpo := hpo.keep hb5
  replace hh0 := hh0.keep hb5
  replace hb0 := below_up hb0 hb0.size hb5
  clear hb1 hb2 hb3 hb4 hb5 hz
  have HO := Lib.hid hpo; clear hpo
  have HS := Lib.hid hso; clear hso
  have HD := Lib.hid hdo; clear hdo
  have HH := Lib.hid hh0; clear hh0
  have HB := Lib.hid hb0; clear hb0
  go_wp2_with fail
  generalize hB : w5.heap.size = B at *
  go_loopw [7] (fun i wr => ∃ k : Nat, k ≤ ps.length ∧ i = .int .i64 k ∧ Hid (PlanSt wr B B s D (.slice sa (toks s).length sc) (.slice da (toks D).length dc) ps (placesN ((toks s).map bs)) k) ∧ Below B w5 wr) (fun i _ => ps.length - (intOf i).toNat)
  case atStart =>
    refine ⟨0, Nat.zero_le _, rfl, ⟨_, _, _, _, [], [], [], [], [], ⟨[], [], [], [], by simpa [planCells, ← hB] using (Holds.nil w5 B).new _ (by omega), RowIn.nil 1, RowIn.nil 1, RowIn.nil 1, RowIn.nil 1⟩, rfl, rfl, rfl, by simp⟩, ?_⟩
    exact (Below.refl B w5).alloc (by omega) _
  case round =>
    obtain ⟨k, hk, rfl, HI, hb⟩ := hrel
    by_cases hlt : k < ps.length
    · have hbw := below_up HB.out HB.out.size (by rw [hB]; exact hb)
      obtain ⟨b, o, p, rfl, Hp, c0, c1, c2, c3, c4, hpo⟩ := HP.out.at' hbw hlt
      have Hpo := Lib.hid hpo; clear hpo
      obtain ⟨hk1, hn0, hn1, hw0, hw1⟩ := Hok.out p (List.mem_of_getElem? Hp.out)
      have Hw0 := Lib.hid hw0; clear hw0
      obtain ⟨kv, pv, nv, tv, kl, pvs, nl, xs, Hr, hh, hkl, hnl, hpl⟩ := HI.out
      obtain ⟨⟨ka, kc, rfl⟩, ⟨pa', pc', rfl⟩, ⟨na, nc, rfl⟩, ⟨ta, tc, rfl⟩⟩ := by simpa only using hh.forms
      have HPL := Lib.hid (And.intro hkl (And.intro hnl hpl)); clear hpl hkl hnl
      have HH' := Lib.hid hh; clear hh
      have hBr : B ≤ wr.heap.size := by rw [← hB]; exact hb.size
      have HBr := Lib.hid hb; clear hb
      have HBW := Lib.hid hbw; clear hbw
      obtain ⟨kind, word, n, m, aa, ca, ats⟩ := p
      simp only at *
      obtain ⟨kd, hkd⟩ : ∃ kd, kd = kind := ⟨_, rfl⟩
      have Hkd := Lib.hid (hkd ▸ hk1 : (kd = 0 ∨ kd = 11) ∨ (kd = 1 ∨ kd = 2))
      rcases hk1 with hk1 | hk1
      rotate_left
      · have hwn := Hw0.out hk1
        obtain ⟨q, rfl⟩ : ∃ q : Nat, n = q + 1 := ⟨(n - 1).toNat, by omega⟩
        have hO : Sl w5 1 (.slice pa (placesN ((toks s).map bs)).length pc) (placesN ((toks s).map bs)).length (ints ((placesN ((toks s).map bs)).map fun n : Nat => (n : Int))) := by
          have := HO.out
          simpa [ints, nats, Function.comp_def] using this
        have hplw := placesN_wilds (toks s)
        obtain ⟨pb, po, x, rfl, hx, cx, lx⟩ := hO.int (wr := wr) (by rw [hB]; exact HBr.out) (k := q) (by simp; omega)
        have hx2 : (placesN ((toks s).map bs))[q]? = some x.toNat ∧ (x.toNat : Int) = x := by
          have := hx.out
          rw [List.getElem?_map] at this
          cases hq : (placesN ((toks s).map bs))[q]? with
          | none => rw [hq] at this; simp at this
          | some y => rw [hq] at this; simp at this; subst this; simp
        have HX := Lib.hid hx2; clear hx2 hx
        have hql : q < (placesN ((toks s).map bs)).length := by omega
        clear hplw
        have HO2 := Lib.hid hO; clear hO
        have i1 : (q : Int) + 1 - 1 = q := by omega
        rcases hk1 with rfl | rfl
        · obtain ⟨R, hR, hback⟩ := HH'.out.row
          have hN := Lib.hid (hR.new (Obj.cells (Part.cells ⟨1, word, (q : Int) + 1, m, aa, ca, ats⟩).toArray 70) hBr); clear hR
          have HK := Lib.hid hback; clear hback
          subst hkd
          go_wp2_with (at_builtin; go_must (refine wpList_appH et33 rfl _ _ rfl B (v := .slice none 0 0) (n := 0) (xs := []) (by rfl) (RowIn.nil 1) (show Holds _ B ([] ++ _) from hN.out) [_] (by rw [size_alloc]; rfl) rfl (by simp [Value.oneCell']) (by omega) (by rw [size_alloc]; omega) ?_); intro v2 w2 H2 r2 hh2 hb2; obtain ⟨a2, c2, rfl⟩ := r2.form; have f0 := hh2.cell (List.mem_append_right _ List.mem_cons_self) (i := 0) rfl; simp only [Part.cells] at f0)
          refine wp_any (Mid w5 B B wr.heap.size s D (.slice sa (toks s).length sc) (.slice da (toks D).length dc) ⟨.slice ka k kc, k, kl⟩ ⟨.slice pa' k pc', k, pvs⟩ ⟨.slice na k nc, k, nl⟩ ⟨.slice ta k tc, k, xs⟩ Hr (placesN ((toks s).map bs)) ⟨1, word, (q : Int) + 1, m, aa, ca, ats⟩ (.slice a2 1 c2)) ?_ ?_
          · refine ⟨_, HK.out _ (H2 ++ [(wr.heap.size, Obj.cells (Part.cells ⟨1, word, (q : Int) + 1, m, aa, ca, ats⟩).toArray 70)]) (by simpa using hh2), by simp, .inr ⟨by simp [isWild], x.toNat, H2, by rw [HX.out.2]; exact r2, fun _ h => by simp [h], ?_⟩, fun _ h => by simp [h], (HBr.out.alloc hBr _).trans hb2⟩
            have e : ((q : Int) + 1 - 1).toNat = q := by omega
            simpa [e] using HX.out.1
          clear HH' HBr HI HO2 cx lx hql i1
          rintro W ⟨Hr', hh, hin, hpl, hsub, hbW⟩
          have t0 := (cell_row (j := 0) (hh.mem hin)).trans (rfl : _ = some (Value.int .i64 1))
          have g4 := (cell_row (j := 4) hh.head).trans (rfl : _ = some (Value.slice ka k kc))
          refine wp_region_L [0, 1, 2, 3, 7] (fun W' => W'.cell? ⟨B, 4, none⟩ = some (.slice ka k kc) ∧ W'.cell? ⟨wr.heap.size, 0, none⟩ = some (.int .i64 1)) (by kernel_rfl) (by kernel_rfl) ⟨g4, t0⟩ (fun ne => ?_)
          have S1 := fun x : SubC (fun W' => W'.cell? ⟨B, 4, none⟩ = some (.slice ka k kc) ∧ W'.cell? ⟨wr.heap.size, 0, none⟩ = some (.int .i64 1)) => x.ok.1
          have S2 := fun x : SubC (fun W' => W'.cell? ⟨B, 4, none⟩ = some (.slice ka k kc) ∧ W'.cell? ⟨wr.heap.size, 0, none⟩ = some (.int .i64 1)) => x.ok.2
          obtain ⟨H, R, r1, hR, mx, mr, hback⟩ := hh.appK
          have HR := Lib.hid (And.intro hR (And.intro mx (And.intro mr (And.intro hback (And.intro hpl (And.intro hsub hin)))))); clear hR mx mr hback hh hpl hsub hin
          have R1 := Lib.hid r1; clear r1
          have hbW2 : B ≤ W.heap.size := by rw [← hB]; exact hbW.size
          have HBr := Lib.hid hbW; clear hbW
          repeat (refine wpCL_q rfl rfl ?_; go_big_quiet_step (fail); refine wpQuiet_nil ?_)
          refine wpCL_ch rfl rfl (fun K hK => ?_)
          go_simp
          simp only [runsTo_enter]
          refine (kind_any 1 _ (.inr (by simp))).mono ?_
          rintro e w' ⟨rfl, rfl⟩
          refine ⟨_, rfl, hK _ _ ⟨⟨W.drew, ⟨g4, t0⟩⟩, rfl⟩ ?_⟩
          clear hK K
          simp only [Act.put]
          refine wpCL_w rfl rfl ?_
          go_wp2_with fail
          refine ⟨⟨⟨(W.alloc (Obj.cells #[Value.int .i64 (kindN 1)] 3)).drew, ⟨cell_alloc _ g4, cell_alloc _ t0⟩⟩, rfl⟩, ?_⟩
          refine wpCL_ch rfl rfl (fun K hK => ?_)
          refine runs_appH (W := W.drew) (v := .slice ka k kc) (n := k) (xs := kl) et33 _ _ rfl B rfl R1.out (HR.out.1.keep ((Below.refl _ W).drew)) [_] rfl rfl (by simp [Value.oneCell']) (by omega) hbW2 ?_
          intro v2 w2 H2 r2 hh2 hb2
          obtain ⟨a2, c2, rfl⟩ := r2.form
          obtain ⟨-, mx, mr, hback, hpl, hsub, hin⟩ := HR.out
          have T3 := hback _ _ _ _ _ r2 hh2
          have f4 := hh2.cell (List.mem_append_right _ mx) (i := 4) rfl
          have f5 := hh2.cell (List.mem_append_right _ mx) (i := 5) rfl
          have z4 := frozen_row (j := 4) (hh2.at' _ (List.mem_append_right _ mx)).2
          have f0 := hh2.cell (List.mem_append_right _ (mr _ hin)) (i := 0) rfl
          have hb3 := (HBr.out.drew.trans hb2).setCell (p := ⟨B, 4, none⟩) (Nat.le_refl _) (.slice a2 (k+1) c2)
          have HT := Lib.hid (And.intro T3 (And.intro hpl (And.intro hsub (And.intro hin hb3)))); clear hback T3 hpl hsub hin mx mr hb3 hb2 r2 hh2 HR HBr
          refine hK _ _ ⟨⟨w2, ⟨f4, f0⟩⟩, rfl⟩ ?_
          clear hK K S1 S2
          go_simp
          refine wpCL_q rfl rfl ?_; go_big_quiet_step (fail); refine wpQuiet_nil ?_
          refine wpCL_last ?_
          clear g4 t0 ne
          go_wp2_with (at_builtin; go_must (first
            | (obtain ⟨T, hpl, hsub, hin, hb3⟩ := HT.out; obtain ⟨H, R, r1, hR, mx, mr, hback⟩ := T.appP
               refine wpList_appH et34 rfl _ _ rfl B (v := .slice pa' k pc') (n := k) (xs := pvs) (by rfl) r1 hR [_] (by rw [size_setCell]; rfl) rfl (by simp [Value.oneCell']) (by omega) (Nat.le_trans (Nat.le_of_eq hB.symm) hb3.size) ?_
               intro v2 w2 H2 r2 hh2 hb2
               obtain ⟨a2, c2, rfl⟩ := r2.form
               have f4 := hh2.cell (List.mem_append_right _ mx) (i := 5) rfl
               have f5 := hh2.cell (List.mem_append_right _ mx) (i := 6) rfl
               have z4 := frozen_row (j := 5) (hh2.at' _ (List.mem_append_right _ mx)).2
               have f3 : _ = some (Value.int .i64 m) := hh2.cell (List.mem_append_right _ (mr _ hin)) (i := 3) rfl
               have HT2 := Lib.hid (And.intro (hback _ _ _ _ _ r2 hh2) (And.intro hpl (And.intro hsub (And.intro hin ((hb3.trans hb2).setCell (p := ⟨B, 5, none⟩) (Nat.le_refl _) (.slice a2 (k+1) c2)))))); clear hback T hpl hsub hin mx mr hb3 hb2 r2 hh2 HT hR r1
               have HT := HT2; clear HT2)
            | (obtain ⟨T, hpl, hsub, hin, hb3⟩ := HT.out; obtain ⟨H, R, r1, hR, mx, mr, hback⟩ := T.appN
               refine wpList_appH et33 rfl _ _ rfl B (v := .slice na k nc) (n := k) (xs := nl) (by rfl) r1 hR [_] (by rw [size_setCell]; rfl) rfl (by simp [Value.oneCell']) (by omega) (Nat.le_trans (Nat.le_of_eq hB.symm) hb3.size) ?_
               intro v2 w2 H2 r2 hh2 hb2
               obtain ⟨a2, c2, rfl⟩ := r2.form
               have f4 := hh2.cell (List.mem_append_right _ mx) (i := 6) rfl
               have f5 := hh2.cell (List.mem_append_right _ mx) (i := 7) rfl
               have z4 := frozen_row (j := 6) (hh2.at' _ (List.mem_append_right _ mx)).2
               have f3 : _ = some (Value.int .i64 m) := hh2.cell (List.mem_append_right _ (mr _ hin)) (i := 3) rfl
               have HT2 := Lib.hid (And.intro (hback _ _ _ _ _ r2 hh2) (And.intro hpl (And.intro hsub (And.intro hin ((hb3.trans hb2).setCell (p := ⟨B, 6, none⟩) (Nat.le_refl _) (.slice a2 (k+1) c2)))))); clear hback T hpl hsub hin mx mr hb3 hb2 r2 hh2 HT hR r1
               have HT := HT2; clear HT2)
            | (obtain ⟨T, hpl, hsub, hin, hb3⟩ := HT.out; obtain ⟨H, R, r1, hR, mx, mr, hback⟩ := T.appT
               refine wpList_appH et32 rfl _ _ rfl B (v := .slice ta k tc) (n := k) (xs := xs) (by rfl) r1 hR [_] (by rw [size_setCell]; rfl) rfl (by simp [Value.oneCell']) (by omega) (Nat.le_trans (Nat.le_of_eq hB.symm) hb3.size) ?_
               intro v2 w2 H2 r2 hh2 hb2
               obtain ⟨a2, c2, rfl⟩ := r2.form
               have f4 := hh2.cell (List.mem_append_right _ mx) (i := 7) rfl
               have f5 := hh2.cell (List.mem_append_right _ mx) (i := 7) rfl
               have z4 := frozen_row (j := 7) (hh2.at' _ (List.mem_append_right _ mx)).2
               have f3 : _ = some (Value.int .i64 m) := hh2.cell (List.mem_append_right _ (mr _ hin)) (i := 3) rfl
               have HT2 := Lib.hid (And.intro (hback _ _ _ _ _ r2 hh2) (And.intro hpl (And.intro hsub (And.intro hin ((hb3.trans hb2).setCell (p := ⟨B, 7, none⟩) (Nat.le_refl _) (.slice a2 (k+1) c2)))))); clear hback T hpl hsub hin mx mr hb3 hb2 r2 hh2 HT hR r1
               have HT := HT2; clear HT2)))
          go_roundw
          case rel =>
            obtain ⟨T, hpl, hsub, hin, hb3⟩ := HT.out
            obtain ⟨hkl, hnl, hPl⟩ := HPL.out
            exact ⟨k + 1, hlt, by go_num, ⟨_, _, _, _, _, _, _, _, _, T, by rw [hkl]; exact ints_take (f := fun p => kindN p.kind) Hp.out, by rw [hnl]; exact ints_take (f := fun p => p.m) Hp.out, hPl.step Hp.out hpl hsub⟩, hb3⟩
          case measure => simp [intOf]; omega
        · obtain ⟨R, hR, hback⟩ := HH'.out.row
          have hN := Lib.hid (hR.new (Obj.cells (Part.cells ⟨2, word, (q : Int) + 1, m, aa, ca, ats⟩).toArray 70) hBr); clear hR
          have HK := Lib.hid hback; clear hback
          subst hkd
          go_wp2_with (at_builtin; go_must (refine wpList_appH et33 rfl _ _ rfl B (v := .slice none 0 0) (n := 0) (xs := []) (by rfl) (RowIn.nil 1) (show Holds _ B ([] ++ _) from hN.out) [_] (by rw [size_alloc]; rfl) rfl (by simp [Value.oneCell']) (by omega) (by rw [size_alloc]; omega) ?_); intro v2 w2 H2 r2 hh2 hb2; obtain ⟨a2, c2, rfl⟩ := r2.form; have f0 := hh2.cell (List.mem_append_right _ List.mem_cons_self) (i := 0) rfl; simp only [Part.cells] at f0)
          refine wp_any (Mid w5 B B wr.heap.size s D (.slice sa (toks s).length sc) (.slice da (toks D).length dc) ⟨.slice ka k kc, k, kl⟩ ⟨.slice pa' k pc', k, pvs⟩ ⟨.slice na k nc, k, nl⟩ ⟨.slice ta k tc, k, xs⟩ Hr (placesN ((toks s).map bs)) ⟨2, word, (q : Int) + 1, m, aa, ca, ats⟩ (.slice a2 1 c2)) ?_ ?_
          · refine ⟨_, HK.out _ (H2 ++ [(wr.heap.size, Obj.cells (Part.cells ⟨2, word, (q : Int) + 1, m, aa, ca, ats⟩).toArray 70)]) (by simpa using hh2), by simp, .inr ⟨by simp [isWild], x.toNat, H2, by rw [HX.out.2]; exact r2, fun _ h => by simp [h], ?_⟩, fun _ h => by simp [h], (HBr.out.alloc hBr _).trans hb2⟩
            have e : ((q : Int) + 1 - 1).toNat = q := by omega
            simpa [e] using HX.out.1
          clear HH' HBr HI HO2 cx lx hql i1
          rintro W ⟨Hr', hh, hin, hpl, hsub, hbW⟩
          have t0 := (cell_row (j := 0) (hh.mem hin)).trans (rfl : _ = some (Value.int .i64 2))
          have g4 := (cell_row (j := 4) hh.head).trans (rfl : _ = some (Value.slice ka k kc))
          refine wp_region_L [0, 1, 2, 3, 7] (fun W' => W'.cell? ⟨B, 4, none⟩ = some (.slice ka k kc) ∧ W'.cell? ⟨wr.heap.size, 0, none⟩ = some (.int .i64 2)) (by kernel_rfl) (by kernel_rfl) ⟨g4, t0⟩ (fun ne => ?_)
          have S1 := fun x : SubC (fun W' => W'.cell? ⟨B, 4, none⟩ = some (.slice ka k kc) ∧ W'.cell? ⟨wr.heap.size, 0, none⟩ = some (.int .i64 2)) => x.ok.1
          have S2 := fun x : SubC (fun W' => W'.cell? ⟨B, 4, none⟩ = some (.slice ka k kc) ∧ W'.cell? ⟨wr.heap.size, 0, none⟩ = some (.int .i64 2)) => x.ok.2
          obtain ⟨H, R, r1, hR, mx, mr, hback⟩ := hh.appK
          have HR := Lib.hid (And.intro hR (And.intro mx (And.intro mr (And.intro hback (And.intro hpl (And.intro hsub hin)))))); clear hR mx mr hback hh hpl hsub hin
          have R1 := Lib.hid r1; clear r1
          have hbW2 : B ≤ W.heap.size := by rw [← hB]; exact hbW.size
          have HBr := Lib.hid hbW; clear hbW
          repeat (refine wpCL_q rfl rfl ?_; go_big_quiet_step (fail); refine wpQuiet_nil ?_)
          refine wpCL_ch rfl rfl (fun K hK => ?_)
          go_simp
          simp only [runsTo_enter]
          refine (kind_any 2 _ (.inr (by simp))).mono ?_
          rintro e w' ⟨rfl, rfl⟩
          refine ⟨_, rfl, hK _ _ ⟨⟨W.drew, ⟨g4, t0⟩⟩, rfl⟩ ?_⟩
          clear hK K
          simp only [Act.put]
          refine wpCL_w rfl rfl ?_
          go_wp2_with fail
          refine ⟨⟨⟨(W.alloc (Obj.cells #[Value.int .i64 (kindN 2)] 3)).drew, ⟨cell_alloc _ g4, cell_alloc _ t0⟩⟩, rfl⟩, ?_⟩
          refine wpCL_ch rfl rfl (fun K hK => ?_)
          refine runs_appH (W := W.drew) (v := .slice ka k kc) (n := k) (xs := kl) et33 _ _ rfl B rfl R1.out (HR.out.1.keep ((Below.refl _ W).drew)) [_] rfl rfl (by simp [Value.oneCell']) (by omega) hbW2 ?_
          intro v2 w2 H2 r2 hh2 hb2
          obtain ⟨a2, c2, rfl⟩ := r2.form
          obtain ⟨-, mx, mr, hback, hpl, hsub, hin⟩ := HR.out
          have T3 := hback _ _ _ _ _ r2 hh2
          have f4 := hh2.cell (List.mem_append_right _ mx) (i := 4) rfl
          have f5 := hh2.cell (List.mem_append_right _ mx) (i := 5) rfl
          have z4 := frozen_row (j := 4) (hh2.at' _ (List.mem_append_right _ mx)).2
          have f0 := hh2.cell (List.mem_append_right _ (mr _ hin)) (i := 0) rfl
          have hb3 := (HBr.out.drew.trans hb2).setCell (p := ⟨B, 4, none⟩) (Nat.le_refl _) (.slice a2 (k+1) c2)
          have HT := Lib.hid (And.intro T3 (And.intro hpl (And.intro hsub (And.intro hin hb3)))); clear hback T3 hpl hsub hin mx mr hb3 hb2 r2 hh2 HR HBr
          refine hK _ _ ⟨⟨w2, ⟨f4, f0⟩⟩, rfl⟩ ?_
          clear hK K S1 S2
          go_simp
          refine wpCL_q rfl rfl ?_; go_big_quiet_step (fail); refine wpQuiet_nil ?_
          refine wpCL_last ?_
          clear g4 t0 ne
          go_wp2_with (at_builtin; go_must (first
            | (obtain ⟨T, hpl, hsub, hin, hb3⟩ := HT.out; obtain ⟨H, R, r1, hR, mx, mr, hback⟩ := T.appP
               refine wpList_appH et34 rfl _ _ rfl B (v := .slice pa' k pc') (n := k) (xs := pvs) (by rfl) r1 hR [_] (by rw [size_setCell]; rfl) rfl (by simp [Value.oneCell']) (by omega) (Nat.le_trans (Nat.le_of_eq hB.symm) hb3.size) ?_
               intro v2 w2 H2 r2 hh2 hb2
               obtain ⟨a2, c2, rfl⟩ := r2.form
               have f4 := hh2.cell (List.mem_append_right _ mx) (i := 5) rfl
               have f5 := hh2.cell (List.mem_append_right _ mx) (i := 6) rfl
               have z4 := frozen_row (j := 5) (hh2.at' _ (List.mem_append_right _ mx)).2
               have f3 : _ = some (Value.int .i64 m) := hh2.cell (List.mem_append_right _ (mr _ hin)) (i := 3) rfl
               have HT2 := Lib.hid (And.intro (hback _ _ _ _ _ r2 hh2) (And.intro hpl (And.intro hsub (And.intro hin ((hb3.trans hb2).setCell (p := ⟨B, 5, none⟩) (Nat.le_refl _) (.slice a2 (k+1) c2)))))); clear hback T hpl hsub hin mx mr hb3 hb2 r2 hh2 HT hR r1
               have HT := HT2; clear HT2)
            | (obtain ⟨T, hpl, hsub, hin, hb3⟩ := HT.out; obtain ⟨H, R, r1, hR, mx, mr, hback⟩ := T.appN
               refine wpList_appH et33 rfl _ _ rfl B (v := .slice na k nc) (n := k) (xs := nl) (by rfl) r1 hR [_] (by rw [size_setCell]; rfl) rfl (by simp [Value.oneCell']) (by omega) (Nat.le_trans (Nat.le_of_eq hB.symm) hb3.size) ?_
               intro v2 w2 H2 r2 hh2 hb2
               obtain ⟨a2, c2, rfl⟩ := r2.form
               have f4 := hh2.cell (List.mem_append_right _ mx) (i := 6) rfl
               have f5 := hh2.cell (List.mem_append_right _ mx) (i := 7) rfl
               have z4 := frozen_row (j := 6) (hh2.at' _ (List.mem_append_right _ mx)).2
               have f3 : _ = some (Value.int .i64 m) := hh2.cell (List.mem_append_right _ (mr _ hin)) (i := 3) rfl
               have HT2 := Lib.hid (And.intro (hback _ _ _ _ _ r2 hh2) (And.intro hpl (And.intro hsub (And.intro hin ((hb3.trans hb2).setCell (p := ⟨B, 6, none⟩) (Nat.le_refl _) (.slice a2 (k+1) c2)))))); clear hback T hpl hsub hin mx mr hb3 hb2 r2 hh2 HT hR r1
               have HT := HT2; clear HT2)
            | (obtain ⟨T, hpl, hsub, hin, hb3⟩ := HT.out; obtain ⟨H, R, r1, hR, mx, mr, hback⟩ := T.appT
               refine wpList_appH et32 rfl _ _ rfl B (v := .slice ta k tc) (n := k) (xs := xs) (by rfl) r1 hR [_] (by rw [size_setCell]; rfl) rfl (by simp [Value.oneCell']) (by omega) (Nat.le_trans (Nat.le_of_eq hB.symm) hb3.size) ?_
               intro v2 w2 H2 r2 hh2 hb2
               obtain ⟨a2, c2, rfl⟩ := r2.form
               have f4 := hh2.cell (List.mem_append_right _ mx) (i := 7) rfl
               have f5 := hh2.cell (List.mem_append_right _ mx) (i := 7) rfl
               have z4 := frozen_row (j := 7) (hh2.at' _ (List.mem_append_right _ mx)).2
               have f3 : _ = some (Value.int .i64 m) := hh2.cell (List.mem_append_right _ (mr _ hin)) (i := 3) rfl
               have HT2 := Lib.hid (And.intro (hback _ _ _ _ _ r2 hh2) (And.intro hpl (And.intro hsub (And.intro hin ((hb3.trans hb2).setCell (p := ⟨B, 7, none⟩) (Nat.le_refl _) (.slice a2 (k+1) c2)))))); clear hback T hpl hsub hin mx mr hb3 hb2 r2 hh2 HT hR r1
               have HT := HT2; clear HT2)))
          go_roundw
          case rel =>
            obtain ⟨T, hpl, hsub, hin, hb3⟩ := HT.out
            obtain ⟨hkl, hnl, hPl⟩ := HPL.out
            exact ⟨k + 1, hlt, by go_num, ⟨_, _, _, _, _, _, _, _, _, T, by rw [hkl]; exact ints_take (f := fun p => kindN p.kind) Hp.out, by rw [hnl]; exact ints_take (f := fun p => p.m) Hp.out, hPl.step Hp.out hpl hsub⟩, hb3⟩
          case measure => simp [intOf]; omega
      · rcases hk1 with rfl | rfl
        all_goals
          go_wp2_with fail
          refine wp_any (Mid w5 B B wr.heap.size s D (.slice sa (toks s).length sc) (.slice da (toks D).length dc) ⟨.slice ka k kc, k, kl⟩ ⟨.slice pa' k pc', k, pvs⟩ ⟨.slice na k nc, k, nl⟩ ⟨.slice ta k tc, k, xs⟩ Hr (placesN ((toks s).map bs)) ⟨kd, word, n, m, aa, ca, ats⟩ (.slice none 0 0)) ?_ ?_
          · obtain ⟨R, hR, hback⟩ := HH'.out.row
            have := hR.new (Obj.cells (Part.cells ⟨kd, word, n, m, aa, ca, ats⟩).toArray 70) hBr
            subst hkd
            exact ⟨_, hback _ [_] this, by simp, .inl ⟨by simp [isWild], rfl⟩, fun _ h => by simp [h], HBr.out.alloc hBr _⟩
          have Hkk := Lib.hid hkd; clear hkd
          clear HH' HBr HI
          rintro W ⟨Hr', hh, hin, hpl, hsub, hbW⟩
          have t0 := (cell_row (j := 0) (hh.mem hin)).trans (rfl : _ = some (Value.int .i64 kd))
          have g4 := (cell_row (j := 4) hh.head).trans (rfl : _ = some (Value.slice ka k kc))
          refine wp_region_L [0, 1, 2, 3, 7] (fun W' => W'.cell? ⟨B, 4, none⟩ = some (.slice ka k kc) ∧ W'.cell? ⟨wr.heap.size, 0, none⟩ = some (.int .i64 kd)) (by kernel_rfl) (by kernel_rfl) ⟨g4, t0⟩ (fun ne => ?_)
          have S1 := fun x : SubC (fun W' => W'.cell? ⟨B, 4, none⟩ = some (.slice ka k kc) ∧ W'.cell? ⟨wr.heap.size, 0, none⟩ = some (.int .i64 kd)) => x.ok.1
          have S2 := fun x : SubC (fun W' => W'.cell? ⟨B, 4, none⟩ = some (.slice ka k kc) ∧ W'.cell? ⟨wr.heap.size, 0, none⟩ = some (.int .i64 kd)) => x.ok.2
          obtain ⟨H, R, r1, hR, mx, mr, hback⟩ := hh.appK
          have HR := Lib.hid (And.intro hR (And.intro mx (And.intro mr (And.intro hback (And.intro hpl (And.intro hsub hin)))))); clear hR mx mr hback hh hpl hsub hin
          have R1 := Lib.hid r1; clear r1
          have hbW2 : B ≤ W.heap.size := by rw [← hB]; exact hbW.size
          have HBr := Lib.hid hbW; clear hbW
          repeat (refine wpCL_q rfl rfl ?_; go_big_quiet_step (fail); refine wpQuiet_nil ?_)
          refine wpCL_ch rfl rfl (fun K hK => ?_)
          go_simp
          simp only [runsTo_enter]
          refine (kind_any kd _ Hkd.out).mono ?_
          rintro e w' ⟨rfl, rfl⟩
          refine ⟨_, rfl, hK _ _ ⟨⟨W.drew, ⟨g4, t0⟩⟩, rfl⟩ ?_⟩
          clear hK K
          simp only [Act.put]
          refine wpCL_w rfl rfl ?_
          go_wp2_with fail
          refine ⟨⟨⟨(W.alloc (Obj.cells #[Value.int .i64 (kindN kd)] 3)).drew, ⟨cell_alloc _ g4, cell_alloc _ t0⟩⟩, rfl⟩, ?_⟩
          refine wpCL_ch rfl rfl (fun K hK => ?_)
          refine runs_appH (W := W.drew) (v := .slice ka k kc) (n := k) (xs := kl) et33 _ _ rfl B rfl R1.out (HR.out.1.keep ((Below.refl _ W).drew)) [_] rfl rfl (by simp [Value.oneCell']) (by omega) hbW2 ?_
          intro v2 w2 H2 r2 hh2 hb2
          obtain ⟨a2, c2, rfl⟩ := r2.form
          obtain ⟨-, mx, mr, hback, hpl, hsub, hin⟩ := HR.out
          have T3 := hback _ _ _ _ _ r2 hh2
          have f4 := hh2.cell (List.mem_append_right _ mx) (i := 4) rfl
          have f5 := hh2.cell (List.mem_append_right _ mx) (i := 5) rfl
          have z4 := frozen_row (j := 4) (hh2.at' _ (List.mem_append_right _ mx)).2
          have f0 := hh2.cell (List.mem_append_right _ (mr _ hin)) (i := 0) rfl
          have hb3 := (HBr.out.drew.trans hb2).setCell (p := ⟨B, 4, none⟩) (Nat.le_refl _) (.slice a2 (k+1) c2)
          have HT := Lib.hid (And.intro T3 (And.intro hpl (And.intro hsub (And.intro hin hb3)))); clear hback T3 hpl hsub hin mx mr hb3 hb2 r2 hh2 HR HBr
          refine hK _ _ ⟨⟨w2, ⟨f4, f0⟩⟩, rfl⟩ ?_
          clear hK K S1 S2
          go_simp
          refine wpCL_q rfl rfl ?_; go_big_quiet_step (fail); refine wpQuiet_nil ?_
          refine wpCL_last ?_
          clear g4 t0 ne
          go_wp2_with (at_builtin; go_must (first
            | (obtain ⟨T, hpl, hsub, hin, hb3⟩ := HT.out; obtain ⟨H, R, r1, hR, mx, mr, hback⟩ := T.appP
               refine wpList_appH et34 rfl _ _ rfl B (v := .slice pa' k pc') (n := k) (xs := pvs) (by rfl) r1 hR [_] (by rw [size_setCell]; rfl) rfl (by simp [Value.oneCell']) (by omega) (Nat.le_trans (Nat.le_of_eq hB.symm) hb3.size) ?_
               intro v2 w2 H2 r2 hh2 hb2
               obtain ⟨a2, c2, rfl⟩ := r2.form
               have f4 := hh2.cell (List.mem_append_right _ mx) (i := 5) rfl
               have f5 := hh2.cell (List.mem_append_right _ mx) (i := 6) rfl
               have z4 := frozen_row (j := 5) (hh2.at' _ (List.mem_append_right _ mx)).2
               have f3 : _ = some (Value.int .i64 m) := hh2.cell (List.mem_append_right _ (mr _ hin)) (i := 3) rfl
               have HT2 := Lib.hid (And.intro (hback _ _ _ _ _ r2 hh2) (And.intro hpl (And.intro hsub (And.intro hin ((hb3.trans hb2).setCell (p := ⟨B, 5, none⟩) (Nat.le_refl _) (.slice a2 (k+1) c2)))))); clear hback T hpl hsub hin mx mr hb3 hb2 r2 hh2 HT hR r1
               have HT := HT2; clear HT2)
            | (obtain ⟨T, hpl, hsub, hin, hb3⟩ := HT.out; obtain ⟨H, R, r1, hR, mx, mr, hback⟩ := T.appN
               refine wpList_appH et33 rfl _ _ rfl B (v := .slice na k nc) (n := k) (xs := nl) (by rfl) r1 hR [_] (by rw [size_setCell]; rfl) rfl (by simp [Value.oneCell']) (by omega) (Nat.le_trans (Nat.le_of_eq hB.symm) hb3.size) ?_
               intro v2 w2 H2 r2 hh2 hb2
               obtain ⟨a2, c2, rfl⟩ := r2.form
               have f4 := hh2.cell (List.mem_append_right _ mx) (i := 6) rfl
               have f5 := hh2.cell (List.mem_append_right _ mx) (i := 7) rfl
               have z4 := frozen_row (j := 6) (hh2.at' _ (List.mem_append_right _ mx)).2
               have f3 : _ = some (Value.int .i64 m) := hh2.cell (List.mem_append_right _ (mr _ hin)) (i := 3) rfl
               have HT2 := Lib.hid (And.intro (hback _ _ _ _ _ r2 hh2) (And.intro hpl (And.intro hsub (And.intro hin ((hb3.trans hb2).setCell (p := ⟨B, 6, none⟩) (Nat.le_refl _) (.slice a2 (k+1) c2)))))); clear hback T hpl hsub hin mx mr hb3 hb2 r2 hh2 HT hR r1
               have HT := HT2; clear HT2)
            | (obtain ⟨T, hpl, hsub, hin, hb3⟩ := HT.out; obtain ⟨H, R, r1, hR, mx, mr, hback⟩ := T.appT
               refine wpList_appH et32 rfl _ _ rfl B (v := .slice ta k tc) (n := k) (xs := xs) (by rfl) r1 hR [_] (by rw [size_setCell]; rfl) rfl (by simp [Value.oneCell']) (by omega) (Nat.le_trans (Nat.le_of_eq hB.symm) hb3.size) ?_
               intro v2 w2 H2 r2 hh2 hb2
               obtain ⟨a2, c2, rfl⟩ := r2.form
               have f4 := hh2.cell (List.mem_append_right _ mx) (i := 7) rfl
               have f5 := hh2.cell (List.mem_append_right _ mx) (i := 7) rfl
               have z4 := frozen_row (j := 7) (hh2.at' _ (List.mem_append_right _ mx)).2
               have f3 : _ = some (Value.int .i64 m) := hh2.cell (List.mem_append_right _ (mr _ hin)) (i := 3) rfl
               have HT2 := Lib.hid (And.intro (hback _ _ _ _ _ r2 hh2) (And.intro hpl (And.intro hsub (And.intro hin ((hb3.trans hb2).setCell (p := ⟨B, 7, none⟩) (Nat.le_refl _) (.slice a2 (k+1) c2)))))); clear hback T hpl hsub hin mx mr hb3 hb2 r2 hh2 HT hR r1
               have HT := HT2; clear HT2)))
          go_roundw
          case rel =>
            obtain ⟨T, hpl, hsub, hin, hb3⟩ := HT.out
            obtain ⟨hkl, hnl, hPl⟩ := HPL.out
            obtain rfl := Hkk.out
            exact ⟨k + 1, hlt, by go_num, ⟨_, _, _, _, _, _, _, _, _, T, by rw [hkl]; exact ints_take (f := fun p => kindN p.kind) Hp.out, by rw [hnl]; exact ints_take (f := fun p => p.m) Hp.out, hPl.step Hp.out hpl hsub⟩, hb3⟩
          case measure => simp [intOf]; omega
    · obtain rfl : k = ps.length := by omega
      obtain ⟨kv, pv, nv, tv, kl, pvs, nl, xs, Hr, hh, hkl, hnl, hpl⟩ := HI.out
      obtain ⟨⟨ka, kc, rfl⟩, ⟨pa', pc', rfl⟩, ⟨na, nc, rfl⟩, ⟨ta, tc, rfl⟩⟩ := by simpa only using hh.forms
      have hcl := fun (i : Nat) (v : Value) h => (cell_row (j := i) hh.head).trans (h : _ = some v)
      have g0 := hcl 0 _ rfl
      have g1 := hcl 1 _ rfl
      have g2 := hcl 2 _ rfl
      have g3 := hcl 3 _ rfl
      have g4 := hcl 4 _ rfl
      have g5 := hcl 5 _ rfl
      have g6 := hcl 6 _ rfl
      have g7 := hcl 7 _ rfl
      clear hcl
      have HPL := Lib.hid (And.intro hkl (And.intro hnl hpl)); clear hpl hkl hnl
      have HH' := Lib.hid hh; clear hh
      have HBr := Lib.hid hb; clear hb
      have hr0 : wr.heap[w.heap.size]? = some (Obj.cells #[Value.string ⟨#[]⟩, .string ⟨#[]⟩, .slice none 0 0, .slice none 0 0, .slice none 0 0, .slice none 0 0, .slice none 0 0, .slice none 0 0] 36) := by
        have h1 := HH.out.head
        rw [HBr.out.block _ (by rw [← hB]; exact (Array.getElem?_eq_some_iff.1 h1).1)]; exact h1
      have hcl := fun (i : Nat) (v : Value) h => (cell_row (j := i) hr0).trans (h : _ = some v)
      have q0 := hcl 0 _ rfl
      have q1 := hcl 1 _ rfl
      have q2 := hcl 2 _ rfl
      have q3 := hcl 3 _ rfl
      have q4 := hcl 4 _ rfl
      have q5 := hcl 5 _ rfl
      have q6 := hcl 6 _ rfl
      have q7 := hcl 7 _ rfl
      have z0 := frozen_row (j := 0) hr0
      have z1 := frozen_row (j := 1) hr0
      have z2 := frozen_row (j := 2) hr0
      have z3 := frozen_row (j := 3) hr0
      have z4 := frozen_row (j := 4) hr0
      have z5 := frozen_row (j := 5) hr0
      have z6 := frozen_row (j := 6) hr0
      have z7 := frozen_row (j := 7) hr0
      clear hcl
      go_wp2_with fail
      (try simp only [Exit.inBlock, Exit.then])
      refine bodyPost_ret (results_cell_row rfl _ _ w.heap.size 36 _ (0, 0) _ rfl (set8 hr0 _ _ _ _ _ _ _ _) Tryz.underlying36 rfl (by kernel_rfl)) rfl ?_
      obtain ⟨rfl, rfl, hpl⟩ := HPL.out
      have hk5 : Below w5.heap.size w5 wr := by rw [hB]; exact HBr.out
      have hlb : w.heap.size < B := by rw [← hB]; exact (Array.getElem?_eq_some_iff.1 HH.out.head).1
      have hbw := below_up HB.out HB.out.size hk5
      refine ⟨_, rfl, ?_, ?_⟩
      · refine PlanIs.of HH'.out hpl (HS.out.keep hk5) (HD.out.keep hk5) hlb fun k hk => ?_
        repeat rw [Below.heap_setCell _ _ _ _ hk]
      · exact (((((((hbw.setCell (Nat.le_refl _) _).setCell (Nat.le_refl _) _).setCell (Nat.le_refl _) _).setCell (Nat.le_refl _) _).setCell (Nat.le_refl _) _).setCell (Nat.le_refl _) _).setCell (Nat.le_refl _) _).setCell (Nat.le_refl _) _
end Go.Proofs.YtehlmjecbljafaaGreatDoor
