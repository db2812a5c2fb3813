/- Bytes in memory: slices of bytes, conversions. Only the blocks of F have turned, beside new ones. A subject tree's nodes: kids are added and found. A subject tree's nodes of 48 kids; nodes grow. -/
import Derived.Test.YtehlmjecbljafaaGreatDoorQ4
import Derived.Test.YtehlmjecbljafaaGreatDoorQ10
import Derived.Lib.ConvBytes
import Derived.Laws.BytesArg
import Derived.Laws.IdiomStrings
import Derived.Lib.IndexLaws
import Derived.Lib.Bytes
namespace Go.Proofs.YtehlmjecbljafaaGreatDoor
open Go Go.RowKit
/-- Bytes as cells. -/
def u8s (l : List UInt8) : List Value := l.map fun c => Value.int .u8 (c.toNat : Int)
theorem u8s_len (l : List UInt8) : (u8s l).length = l.length := by simp [u8s]
/-- The bytes l stand from place o of block b on. -/
def BsAt (w : World) (b o : Nat) (l : List UInt8) : Prop := ∀ (j : Nat) (c : UInt8), l[j]? = some c → w.cell? ⟨b, o + j, none⟩ = some (.int .u8 (c.toNat : Int))
theorem BsAt.sub {w : World} {b o : Nat} {l : List UInt8} (h : BsAt w b o l) (x y : Nat) : BsAt w b (o + x) ((l.take y).drop x) := by
  intro j c hj
  rw [List.getElem?_drop, List.getElem?_take] at hj
  split at hj
  · rw [Nat.add_assoc]; exact h _ _ hj
  · cases hj
theorem BsAt.bel {w w' : World} {b o : Nat} {l : List UInt8} (h : BsAt w b o l) (hb : Below w.heap.size w w') : BsAt w' b o l := fun j c hj => cell_bel (h j c hj) hb
theorem BsAt.sl {w : World} {b o n cap : Nat} {l : List UInt8} (h : BsAt w b o l) (hn : l.length = n) (hc : n ≤ cap) (hm : cap ≤ maxLen) : Sl w 1 (.slice (some ⟨b, o, none⟩) n cap) n (u8s l) := by
  refine ⟨by rw [u8s_len]; omega, _, _, rfl, hc, hm, fun _ => ⟨b, o, rfl, fun j x hj => ?_⟩⟩
  unfold u8s at hj
  rw [List.getElem?_map] at hj
  cases hl : l[j]? with
  | none => rw [hl] at hj; cases hj
  | some c => rw [hl] at hj; cases hj; exact h j c hl
theorem slBytes {w : World} {a : Option Addr} {n cap : Nat} {l : List UInt8} (h : Sl w 1 (.slice a n cap) n (u8s l)) (h0 : l ≠ []) : ∃ b o, a = some ⟨b, o, none⟩ ∧ BsAt w b o l := by
  obtain ⟨-, a', cap', e, -, -, hc⟩ := h
  cases e
  obtain ⟨b, o, e, hc⟩ := hc (by rw [u8s_len]; exact List.length_pos_iff.2 h0)
  refine ⟨b, o, e, fun j c hj => hc j _ ?_⟩
  unfold u8s
  rw [List.getElem?_map, hj]; rfl
theorem empty_mk : ByteArray.empty = mk [] := rfl
/-- string(v) of bytes. -/
theorem conv_text {w : World} {a : Option Addr} {n cap : Nat} {l : List UInt8} (h : Sl w 1 (.slice a n cap) n (u8s l)) : (convert 94 9 (.slice a n cap)).run Tryz.prog w = .ok (.string (mk l)) w := by
  have hn : l.length = n := by have := h.1; rw [u8s_len] at this; omega
  by_cases h0 : l = []
  · subst h0
    cases a with
    | none => rw [run_convert_bytes_nil w 94 5 Tryz.underlying94 Tryz.underlying5 n cap 9 Tryz.underlying9, empty_mk]
    | some a =>
      have := run_convert_bytes_back (P := Tryz.prog) w 94 9 5 a cap [] Tryz.underlying94 Tryz.underlying5 Tryz.underlying9 (fun j hj => absurd hj (Nat.not_lt_zero _))
      rw [← hn]; exact this
  · obtain ⟨b, o, rfl, hb⟩ := slBytes h h0
    have := run_convert_bytes_back (P := Tryz.prog) w 94 9 5 ⟨b, o, none⟩ cap l Tryz.underlying94 Tryz.underlying5 Tryz.underlying9 (fun j hj => by rw [add0]; exact hb j _ (List.getElem?_eq_getElem hj))
    rw [← hn]; exact this
/-- []byte(s). -/
theorem conv_bytes (w : World) (s : ByteArray) : (convert 9 94 (.string s)).run Tryz.prog w = .ok (.slice (some ⟨w.heap.size, 0, none⟩) s.size (grownCap w s.size 0 5)) (Lib.bytesWorld w 5 s) :=
  Lib.run_convert_string_bytes w 9 94 5 s Tryz.underlying9 Tryz.underlying94 Tryz.underlying5
theorem bytesWorld_below (w : World) (s : ByteArray) : Below w.heap.size w (Lib.bytesWorld w 5 s) :=
  ⟨rfl, rfl, rfl, by rw [Lib.bytesWorld_size]; omega, fun k hk => Lib.bytesWorld_at_old w 5 s k hk⟩
theorem bytesWorld_at (w : World) (s : ByteArray) : BsAt (Lib.bytesWorld w 5 s) w.heap.size 0 (bs s) := by
  intro j c hj
  have hjl : j < s.size := by rw [← bs_len]; exact (List.getElem?_eq_some_iff.1 hj).1
  rw [Nat.zero_add, Lib.bytesWorld_cell w 5 s j hjl]
  unfold bs at hj
  simp [List.getD, hj]
theorem indexByte_no : ∀ {l : List UInt8} {c : UInt8}, c ∉ l → Lib.indexByte l c = -1 := by
  intro l c h
  have h1 := Lib.indexByte_ge l c
  rcases (show Lib.indexByte l c < 0 ∨ 0 ≤ Lib.indexByte l c by omega) with h2 | h2
  · omega
  · obtain ⟨o, ho⟩ : ∃ o : Nat, Lib.indexByte l c = o := ⟨(Lib.indexByte l c).toNat, by omega⟩
    exact absurd (List.mem_of_getElem? (Lib.indexByte_some ho).1) h
theorem indexByte_at {l : List UInt8} {c : UInt8} {t r : List UInt8} (h : l = t ++ c :: r) (ht : c ∉ t) : Lib.indexByte l c = (t.length : Int) := by
  have h1 := Lib.indexByte_ge l c
  have hat : l[t.length]? = some c := by rw [h, List.getElem?_append_right (Nat.le_refl _), Nat.sub_self]; rfl
  rcases (show Lib.indexByte l c < 0 ∨ 0 ≤ Lib.indexByte l c by omega) with h2 | h2
  · exact absurd hat (Lib.indexByte_none (by omega) _)
  · obtain ⟨o, ho⟩ : ∃ o : Nat, Lib.indexByte l c = o := ⟨(Lib.indexByte l c).toNat, by omega⟩
    obtain ⟨ho1, ho2⟩ := Lib.indexByte_some ho
    rcases Nat.lt_trichotomy o t.length with hlt | rfl | hgt
    · rw [h, List.getElem?_append_left hlt] at ho1
      exact absurd (List.mem_of_getElem? ho1) ht
    · exact ho
    · exact absurd hat (ho2 _ hgt)
end Go.Proofs.YtehlmjecbljafaaGreatDoor
namespace Go.Proofs.YtehlmjecbljafaaGreatDoor
open Go Go.RowKit
structure Only (F : Nat → Prop) (w w' : World) : Prop where
  os : w'.os = w.os
  tape : w'.tape = w.tape
  output : w'.output = w.output
  size : w.heap.size ≤ w'.heap.size
  block : ∀ k, k < w.heap.size → ¬ F k → w'.heap[k]? = w.heap[k]?
theorem Only.refl (F : Nat → Prop) (w : World) : Only F w w := ⟨rfl, rfl, rfl, Nat.le_refl _, fun _ _ _ => rfl⟩
theorem Only.of {F : Nat → Prop} {w w' : World} (h : Below w.heap.size w w') : Only F w w' := ⟨h.os, h.tape, h.output, h.size, fun k hk _ => h.block k hk⟩
theorem Only.below {F : Nat → Prop} {w w' : World} {B : Nat} (h : Only F w w') (hF : ∀ k, F k → B ≤ k) (hB : B ≤ w.heap.size) : Below B w w' :=
  ⟨h.os, h.tape, h.output, h.size, fun k hk => h.block k (by omega) fun hf => by have := hF k hf; omega⟩
/-- F may grow by new blocks. -/
theorem Only.trans {F F' : Nat → Prop} {w w1 w2 : World} (h : Only F w w1) (k : Only F' w1 w2) (hF : ∀ b, F' b → F b ∨ w.heap.size ≤ b) : Only F w w2 :=
  ⟨k.os.trans h.os, k.tape.trans h.tape, k.output.trans h.output, Nat.le_trans h.size k.size, fun b hb hf => by
    rw [k.block b (Nat.lt_of_lt_of_le hb h.size) fun hf' => by rcases hF b hf' with h1 | h1; exact hf h1; omega]
    exact h.block b hb hf⟩
theorem Only.mono {F F' : Nat → Prop} {w w' : World} (h : Only F w w') (hF : ∀ b, F b → F' b) : Only F' w w' := ⟨h.os, h.tape, h.output, h.size, fun k hk hf => h.block k hk fun hf' => hf (hF k hf')⟩
theorem Only.set {F : Nat → Prop} {w w1 : World} (h : Only F w w1) {b i : Nat} (hb : F b ∨ w.heap.size ≤ b) (v : Value) : Only F w (w1.setCell ⟨b, i, none⟩ v) :=
  ⟨h.os, h.tape, h.output, by simp only [World.setCell, Array.size_modify]; exact h.size, fun k hk hf => by
    rw [heap_setCell_other _ _ _ _ (by rintro rfl; rcases hb with h1 | h1; exact hf h1; omega)]
    exact h.block k hk hf⟩
theorem Only.alloc {F : Nat → Prop} {w w1 : World} (h : Only F w w1) (o : Obj) : Only F w (w1.alloc o) :=
  ⟨h.os, h.tape, h.output, by simp; have := h.size; omega, fun k hk hf => by
    rw [((Below.refl w1.heap.size w1).alloc (Nat.le_refl _) o).block k (by have := h.size; omega)]
    exact h.block k hk hf⟩
theorem Own.only {F : Nat → Prop} {w w' : World} {base sz : Nat} {v : Value} {n : Nat} {xs : List Value} (h : Own w base sz v n xs) (hk : Only F w w') (hF : ∀ k, v.ownBlock = some k → ¬ F k) : Own w' base sz v n xs :=
  h.kept fun k hb => hk.block k (h.lt k hb).2 (hF k hb)
theorem only_grown {W w' : World} {v : Value} {o : Obj} (h : (W.alloc o).grownBy w' v.ownBlock) : Only (fun k => v.ownBlock = some k) W w' := by
  have h2 := (World.grownBy_alloc W o v.ownBlock).trans h
  exact ⟨h2.os, h2.tape, h2.output, h2.size, fun k hk hf => h2.block k hk fun e => hf e.symm⟩
theorem out_of {W : World} {F : Nat → Prop} {v v' : Value} {o : Obj} (hF : ∀ k, v.ownBlock = some k → ¬ F k) (hlt : ∀ k, F k → k < W.heap.size)
    (h : v'.ownBlock = v.ownBlock ∨ ∃ b, v'.ownBlock = some b ∧ (W.alloc o).heap.size ≤ b) : ∀ k, v'.ownBlock = some k → ¬ F k := by
  intro k hk hf
  rcases h with h | ⟨b, h, hb⟩
  · exact hF k (h ▸ hk) hf
  · rw [hk] at h; cases h
    have := hlt k hf
    simp at hb; omega
/-- append(v, x), v's row outside F. -/
theorem wpList_appX {P : Program} {ops : Array Oper} {rest : List Oper} {o : Oper} {a : Act} {Q : Exit → Act → World → Prop} {W : World} {T E sz bytes : Nat} {z : Value} (et : ET P T E sz bytes z) (hgd : o.guard = none) (s x : Operand)
    (ho : o.op = .call { callee := .builtin .append, args := #[s, x], argTypes := #[T, T] })
    (B : Nat) (F : Nat → Prop) {v : Value} {n : Nat} {xs : List Value} (hs : a.eval s = v) (hown : Own W B sz v n xs) (hF : ∀ k, v.ownBlock = some k → ¬ F k) (hlt : ∀ k, F k → k < W.heap.size)
    (news : List Value) (hx : a.eval x = .slice (some ⟨W.heap.size, 0, none⟩) 1 1) (hl : news.length = sz) (h1 : ∀ u ∈ news, u.oneCell' = true)
    (hsm : n < 549755813888) (hbase : B ≤ W.heap.size)
    (h : ∀ v' w', Own w' B sz v' (n + 1) (xs ++ news) → (∀ k, v'.ownBlock = some k → ¬ F k) → Only (fun k => v.ownBlock = some k) W w' → wpList P ops Q rest (a.put o.dst v') w') : wpList P ops Q (o :: rest) a (W.alloc (.cells news.toArray E)) := by
  refine wpList_plain hgd fun K hK => ?_
  obtain ⟨v', w', hrun, h2, h3, h4⟩ := run_app' (P := P) (W.alloc (.cells news.toArray E)) et o.type B v n xs (hown.alloc _) ⟨W.heap.size, 0, none⟩ 1 1 news (by omega) (cells_new W news E) h1 (by omega) (by simp; omega)
  unfold Oper.wp execOp
  simp only [ho, resolve, invoke, builtin, Sem.run_bind, Sem.run_pure, Result.andThen_ok, List.map_toArray, List.map_cons, List.map_nil, hs, hx, hrun]
  exact hK _ _ (h v' w' h2 (out_of hF hlt h4) (only_grown h3))
theorem runs_appX {P : Program} {o : Oper} {a : Act} {K : Value → World → Prop} {W : World} {T E sz bytes : Nat} {z : Value} (et : ET P T E sz bytes z) (s x : Operand)
    (ho : o.op = .call { callee := .builtin .append, args := #[s, x], argTypes := #[T, T] })
    (B : Nat) (F : Nat → Prop) {v : Value} {n : Nat} {xs : List Value} (hs : a.eval s = v) (hown : Own W B sz v n xs) (hF : ∀ k, v.ownBlock = some k → ¬ F k) (hlt : ∀ k, F k → k < W.heap.size)
    (news : List Value) (hx : a.eval x = .slice (some ⟨W.heap.size, 0, none⟩) 1 1) (hl : news.length = sz) (h1 : ∀ u ∈ news, u.oneCell' = true)
    (hsm : n < 549755813888) (hbase : B ≤ W.heap.size)
    (h : ∀ v' w', Own w' B sz v' (n + 1) (xs ++ news) → (∀ k, v'.ownBlock = some k → ¬ F k) → Only (fun k => v.ownBlock = some k) W w' → K v' w') : runsTo P K ((execOp a.eval o).run P (W.alloc (.cells news.toArray E))) := by
  obtain ⟨v', w', hrun, h2, h3, h4⟩ := run_app' (P := P) (W.alloc (.cells news.toArray E)) et o.type B v n xs (hown.alloc _) ⟨W.heap.size, 0, none⟩ 1 1 news (by omega) (cells_new W news E) h1 (by omega) (by simp; omega)
  unfold execOp
  simp only [ho, resolve, invoke, builtin, Sem.run_bind, Sem.run_pure, Result.andThen_ok, List.map_toArray, List.map_cons, List.map_nil, hs, hx, hrun]
  exact h v' w' h2 (out_of hF hlt h4) (only_grown h3)
theorem conv_sl (w : World) (s : ByteArray) (hs : s.size ≤ maxLen) : Sl (Lib.bytesWorld w 5 s) 1 (.slice (some ⟨w.heap.size, 0, none⟩) s.size (grownCap w s.size 0 5)) s.size (u8s (bs s)) :=
  (bytesWorld_at w s).sl (bs_len s) (grownCap_ge w _ _ _) (grownCap_le_maxLen w _ _ _ hs)
/-- A deed as it lies in memory. -/
structure Deed where
  op : Int
  subj : ByteArray
  val : Int
def Deed.cells (d : Deed) : List Value := [.int .i64 d.op, .string d.subj, .int .i64 d.val]
def DeedsAt (w : World) (v : Value) (ds : List Deed) : Prop := Sl w 3 v ds.length (ds.flatMap Deed.cells)
theorem DeedsAt.at' {w wr : World} {a : Option Addr} {n cap : Nat} {ds : List Deed} (h : DeedsAt w (.slice a n cap) ds) (hb : Below w.heap.size w wr) {k : Nat} (hk : k < ds.length) :
    ∃ b o d, a = some ⟨b, o, none⟩ ∧ Hid (ds[k]? = some d) ∧ wr.cell? ⟨b, o + k * 3, none⟩ = some (.int .i64 d.op) ∧ wr.cell? ⟨b, o + k * 3 + 1, none⟩ = some (.string d.subj) ∧
      wr.cell? ⟨b, o + k * 3 + 2, none⟩ = some (.int .i64 d.val) := by
  have hl := flat_len (f := Deed.cells) (sz := 3) (fun _ => rfl) ds
  obtain ⟨-, a', cap', e, -⟩ := id h
  cases e
  obtain ⟨b, o, rfl, hc⟩ := Sl.cell h hb (by rw [hl]; omega)
  have hp : ds[k]? = some ds[k] := List.getElem?_eq_getElem hk
  have hh : ∀ i, i < 3 → ∀ x, (Deed.cells ds[k])[i]? = some x → wr.cell? ⟨b, o + k * 3 + i, none⟩ = some x := by
    intro i hi x hx
    have := hc (k * 3 + i) x (by rw [flat_at (f := Deed.cells) (sz := 3) (fun _ => rfl) ds k i hi _ hp]; exact hx)
    rw [Nat.add_assoc]; exact this
  exact ⟨b, o, ds[k], rfl, hp, hh 0 (by omega) _ rfl, hh 1 (by omega) _ rfl, hh 2 (by omega) _ rfl⟩
end Go.Proofs.YtehlmjecbljafaaGreatDoor
namespace Go.Proofs.YtehlmjecbljafaaGreatDoor
open Go Go.RowKit
theorem Art.ref_form (t : Art) : ∃ ty b, t.ref = .iface ty (.pointer (some ⟨b, 0, none⟩)) := by
  cases t with
  | leaf b v s => exact ⟨_, _, rfl⟩
  | node k b pre n key kid => exact ⟨_, _, rfl⟩
theorem heap_set_list {w : World} {b i : Nat} {cs : List Value} {t : TypeId} {v : Value} (h : w.heap[b]? = some (.cells cs.toArray t (0, 0))) : (w.setCell ⟨b, i, none⟩ v).heap[b]? = some (.cells (cs.set i v).toArray t (0, 0)) := by
  rw [heap_setCell_same w b i _ t v h, List.setIfInBounds_toArray]
theorem Only.drew2 {F : Nat → Prop} {w w' : World} (h : Only F w w') : Only F w w'.drew := ⟨h.os, h.tape, h.output, h.size, h.block⟩
theorem row_at {w : World} {b j : Nat} {cs : List Value} {t : TypeId} {v : Value} (h : w.heap[b]? = some (.cells cs.toArray t (0, 0))) (e : cs[j]? = some v) : w.cell? ⟨b, j, none⟩ = some v := by
  rw [cell_row h, List.getElem?_toArray]; exact e
theorem row_eq {a b : List Value} {w : World} {g : Nat} {t : TypeId} (h : w.heap[g]? = some (.cells a.toArray t (0, 0))) (e : a = b) : w.heap[g]? = some (.cells b.toArray t (0, 0)) := e ▸ h
/-- Where a kid is found. -/
def Found (n : Nat) (key : Nat → UInt8) (c : UInt8) (b : Nat) (e : Ending) : Prop :=
  (∃ i, i < n ∧ key i = c ∧ e = .returned (.pointer (some ⟨b, i, none⟩))) ∨ ((∀ i, i < n → key i ≠ c) ∧ e = .returned (.pointer none))
set_option maxRecDepth 100000 in
set_option maxHeartbeats 1600000 in
theorem addChild4 (b : Nat) (pre : List UInt8) (n : Nat) (key : Nat → UInt8) (kid : Nat → Art) (c : UInt8) (t : Art) (w : World) (hb : w.heap[b]? = some (.cells (rowN .k4 pre n key kid).toArray 335 (0, 0))) (hn : n < 4) :
    Calls Tryz.prog 205 #[.pointer (some ⟨b, 0, none⟩), .int .u8 (c.toNat : Nat), t.ref] w fun e w' => e = .returned (.tuple #[]) ∧ w'.heap[b]? = some (.cells (rowN .k4 pre (n + 1) (upd key n c) (upd kid n t)).toArray 335 (0, 0)) ∧ Only (· = b) w w' := by
  obtain ⟨ty, tb, e⟩ := t.ref_form
  have hs : w.cell? ⟨b, 5, none⟩ = some (.int .u16 (n : Nat)) := row_at hb rowN_size
  have hk : w.cell? ⟨b, 6 + n, none⟩ = some (.int .u8 0) := row_at hb ((rowN_key (k := .k4) (i := n)).trans ((keyCells_at (by decide) hn).trans (by rw [if_neg (by omega)]; rfl)))
  have hc : w.cell? ⟨b, n, none⟩ = some .nilIface := row_at hb ((rowN_kid (k := .k4) hn).trans (by rw [if_neg (by omega)]))
  have f5 := frozen_row (j := 5) hb
  have f6 := frozen_row (j := 6 + n) hb
  have fn := frozen_row (j := n) hb
  have i1 : (n : Int) < 4 := by omega
  have i0 : (0 : Int) ≤ (n : Int) := by omega
  rw [e]
  go_enter Tryz.func205, Tryz.ntmps205
  go_wp2
  go_region
  go_wp2
  go_region
  go_wp2
  go_end0
  refine ⟨rfl, ?_, ((((Only.refl (· = b) w).set (.inl rfl) _).set (.inl rfl) _).set (.inl rfl) _).drew2.drew2⟩
  rw [← e]
  exact row_eq (heap_set_list (heap_set_list (heap_set_list hb))) (rowN_add (k := .k4) (by decide) hn)
set_option maxRecDepth 100000 in
set_option maxHeartbeats 1600000 in
theorem findChild4 (b : Nat) (pre : List UInt8) (n : Nat) (key : Nat → UInt8) (kid : Nat → Art) (c : UInt8) (w : World) (hb : w.heap[b]? = some (.cells (rowN .k4 pre n key kid).toArray 335 (0, 0))) (hn : n ≤ 4) :
    Calls Tryz.prog 305 #[.pointer (some ⟨b, 0, none⟩), .int .u8 (c.toNat : Nat)] w fun e w' => Found n key c b e ∧ w = w' := by
  have hs : w.cell? ⟨b, 5, none⟩ = some (.int .u16 (n : Nat)) := row_at hb rowN_size
  have hks : ∀ i, i < n → w.cell? ⟨b, 6 + i, none⟩ = some (.int .u8 ((key i).toNat : Nat)) := fun i hi => row_at hb ((rowN_key (k := .k4) (i := i)).trans ((keyCells_at (k := .k4) (by decide) (show i < 4 by omega)).trans (by rw [if_pos hi])))
  have HK := Lib.hid hks; clear hks
  have hn1 : (n : Int) ≤ 4 := by omega
  go_enter Tryz.func305, Tryz.ntmps305
  go_wp2
  go_loop [5] (fun i => ∃ k : Nat, k ≤ n ∧ i = .int .u16 (k : Nat) ∧ Hid (∀ j, j < k → key j ≠ c)) (fun i => n - (intOf i).toNat)
  case atStart => exact ⟨0, Nat.zero_le _, rfl, fun j hj => by omega⟩
  case round =>
    obtain ⟨k, hk, rfl, hno⟩ := hrel
    by_cases hlt : k < n
    · have hck := HK.out k hlt
      have k1 : (k : Int) < (n : Int) := by omega
      have k2 : (k : Int) < 4 := by omega
      have k3 : (0 : Int) ≤ (k : Int) := by omega
      have k4 : k < 4 := by omega
      by_cases hkey : key k = c
      · have ek : (((key k).toNat : Int) == (c.toNat : Int)) = true := by rw [hkey]; simp
        have HKE := Lib.hid hkey; clear hkey
        go_wp2
        go_ret
        exact ⟨.inl ⟨k, hlt, HKE.out, rfl⟩, rfl⟩
      · have ek : (((key k).toNat : Int) == (c.toNat : Int)) = false := by
          rw [beq_eq_false_iff_ne]; intro e; exact hkey (UInt8.toNat_inj.1 (by omega))
        have HKE := Lib.hid hkey; clear hkey
        go_wp2
        go_round
        case rel => exact ⟨k + 1, by omega, by go_num, fun j hj => by
          by_cases e : j = k
          · subst e; exact HKE.out
          · exact hno j (by omega)⟩
        case measure => simp [intOf]; omega
    · obtain rfl : k = n := by omega
      go_wp2
      go_ret
      exact ⟨.inr ⟨fun i hi => hno i hi, rfl⟩, rfl⟩
set_option maxRecDepth 100000 in
set_option maxHeartbeats 800000 in
theorem isFull4 (b : Nat) (pre : List UInt8) (n : Nat) (key : Nat → UInt8) (kid : Nat → Art) (w : World) (hb : w.heap[b]? = some (.cells (rowN .k4 pre n key kid).toArray 335 (0, 0))) :
    Calls Tryz.prog 307 #[.pointer (some ⟨b, 0, none⟩)] w fun e w' => e = .returned (.bool (decide (4 ≤ n))) ∧ w = w' := by
  have hs : w.cell? ⟨b, 5, none⟩ = some (.int .u16 (n : Nat)) := row_at hb rowN_size
  have hd : decide ((n : Int) ≥ 4) = decide (4 ≤ n) := by rw [decide_eq_decide]; omega
  go_enter Tryz.func307, Tryz.ntmps307
  go_wp2
  go_ret
  exact ⟨by rw [← hd]; rfl, rfl⟩
set_option maxRecDepth 100000 in
set_option maxHeartbeats 800000 in
theorem children4 (b : Nat) (pre : List UInt8) (n : Nat) (key : Nat → UInt8) (kid : Nat → Art) (w : World) (hb : w.heap[b]? = some (.cells (rowN .k4 pre n key kid).toArray 335 (0, 0))) (hn : n ≤ 4) :
    Calls Tryz.prog 303 #[.pointer (some ⟨b, 0, none⟩)] w fun e w' => e = .returned (.slice (some ⟨b, 0, none⟩) n 4) ∧ ∃ m, w' = w.drewN m := by
  have hs : w.cell? ⟨b, 5, none⟩ = some (.int .u16 (n : Nat)) := row_at hb rowN_size
  have i1 : (n : Int) ≤ 4 := by omega
  have i0 : (0 : Int) ≤ (n : Int) := by omega
  go_enter Tryz.func303, Tryz.ntmps303
  go_wp2
  go_quiet (fail)
  go_wp2
  go_ret
  exact ⟨rfl, _, rfl⟩
set_option maxRecDepth 100000 in
set_option maxHeartbeats 1600000 in
theorem addChild10 (b : Nat) (pre : List UInt8) (n : Nat) (key : Nat → UInt8) (kid : Nat → Art) (c : UInt8) (t : Art) (w : World) (hb : w.heap[b]? = some (.cells (rowN .k10 pre n key kid).toArray 387 (0, 0))) (hn : n < 10) :
    Calls Tryz.prog 311 #[.pointer (some ⟨b, 0, none⟩), .int .u8 (c.toNat : Nat), t.ref] w fun e w' => e = .returned (.tuple #[]) ∧ w'.heap[b]? = some (.cells (rowN .k10 pre (n + 1) (upd key n c) (upd kid n t)).toArray 387 (0, 0)) ∧ Only (· = b) w w' := by
  obtain ⟨ty, tb, e⟩ := t.ref_form
  have hs : w.cell? ⟨b, 11, none⟩ = some (.int .u16 (n : Nat)) := row_at hb rowN_size
  have hk : w.cell? ⟨b, 12 + n, none⟩ = some (.int .u8 0) := row_at hb ((rowN_key (k := .k10) (i := n)).trans ((keyCells_at (by decide) hn).trans (by rw [if_neg (by omega)]; rfl)))
  have hc : w.cell? ⟨b, n, none⟩ = some .nilIface := row_at hb ((rowN_kid (k := .k10) hn).trans (by rw [if_neg (by omega)]))
  have f5 := frozen_row (j := 11) hb
  have f6 := frozen_row (j := 12 + n) hb
  have fn := frozen_row (j := n) hb
  have i1 : (n : Int) < 10 := by omega
  have i0 : (0 : Int) ≤ (n : Int) := by omega
  rw [e]
  go_enter Tryz.func311, Tryz.ntmps311
  go_wp2
  go_region
  go_wp2
  go_region
  go_wp2
  go_end0
  refine ⟨rfl, ?_, ((((Only.refl (· = b) w).set (.inl rfl) _).set (.inl rfl) _).set (.inl rfl) _).drew2.drew2⟩
  rw [← e]
  exact row_eq (heap_set_list (heap_set_list (heap_set_list hb))) (rowN_add (k := .k10) (by decide) hn)
set_option maxRecDepth 100000 in
set_option maxHeartbeats 1600000 in
theorem findChild10 (b : Nat) (pre : List UInt8) (n : Nat) (key : Nat → UInt8) (kid : Nat → Art) (c : UInt8) (w : World) (hb : w.heap[b]? = some (.cells (rowN .k10 pre n key kid).toArray 387 (0, 0))) (hn : n ≤ 10) :
    Calls Tryz.prog 323 #[.pointer (some ⟨b, 0, none⟩), .int .u8 (c.toNat : Nat)] w fun e w' => Found n key c b e ∧ w = w' := by
  have hs : w.cell? ⟨b, 11, none⟩ = some (.int .u16 (n : Nat)) := row_at hb rowN_size
  have hks : ∀ i, i < n → w.cell? ⟨b, 12 + i, none⟩ = some (.int .u8 ((key i).toNat : Nat)) := fun i hi => row_at hb ((rowN_key (k := .k10) (i := i)).trans ((keyCells_at (k := .k10) (by decide) (show i < 10 by omega)).trans (by rw [if_pos hi])))
  have HK := Lib.hid hks; clear hks
  have hn1 : (n : Int) ≤ 10 := by omega
  go_enter Tryz.func323, Tryz.ntmps323
  go_wp2
  go_loop [5] (fun i => ∃ k : Nat, k ≤ n ∧ i = .int .u16 (k : Nat) ∧ Hid (∀ j, j < k → key j ≠ c)) (fun i => n - (intOf i).toNat)
  case atStart => exact ⟨0, Nat.zero_le _, rfl, fun j hj => by omega⟩
  case round =>
    obtain ⟨k, hk, rfl, hno⟩ := hrel
    by_cases hlt : k < n
    · have hck := HK.out k hlt
      have k1 : (k : Int) < (n : Int) := by omega
      have k2 : (k : Int) < 10 := by omega
      have k3 : (0 : Int) ≤ (k : Int) := by omega
      have k4 : k < 10 := by omega
      by_cases hkey : key k = c
      · have ek : (((key k).toNat : Int) == (c.toNat : Int)) = true := by rw [hkey]; simp
        have HKE := Lib.hid hkey; clear hkey
        go_wp2
        go_ret
        exact ⟨.inl ⟨k, hlt, HKE.out, rfl⟩, rfl⟩
      · have ek : (((key k).toNat : Int) == (c.toNat : Int)) = false := by
          rw [beq_eq_false_iff_ne]; intro e; exact hkey (UInt8.toNat_inj.1 (by omega))
        have HKE := Lib.hid hkey; clear hkey
        go_wp2
        go_round
        case rel => exact ⟨k + 1, by omega, by go_num, fun j hj => by
          by_cases e : j = k
          · subst e; exact HKE.out
          · exact hno j (by omega)⟩
        case measure => simp [intOf]; omega
    · obtain rfl : k = n := by omega
      go_wp2
      go_ret
      exact ⟨.inr ⟨fun i hi => hno i hi, rfl⟩, rfl⟩
set_option maxRecDepth 100000 in
set_option maxHeartbeats 800000 in
theorem isFull10 (b : Nat) (pre : List UInt8) (n : Nat) (key : Nat → UInt8) (kid : Nat → Art) (w : World) (hb : w.heap[b]? = some (.cells (rowN .k10 pre n key kid).toArray 387 (0, 0))) :
    Calls Tryz.prog 325 #[.pointer (some ⟨b, 0, none⟩)] w fun e w' => e = .returned (.bool (decide (10 ≤ n))) ∧ w = w' := by
  have hs : w.cell? ⟨b, 11, none⟩ = some (.int .u16 (n : Nat)) := row_at hb rowN_size
  have hd : decide ((n : Int) ≥ 10) = decide (10 ≤ n) := by rw [decide_eq_decide]; omega
  go_enter Tryz.func325, Tryz.ntmps325
  go_wp2
  go_ret
  exact ⟨by rw [← hd]; rfl, rfl⟩
set_option maxRecDepth 100000 in
set_option maxHeartbeats 800000 in
theorem children10 (b : Nat) (pre : List UInt8) (n : Nat) (key : Nat → UInt8) (kid : Nat → Art) (w : World) (hb : w.heap[b]? = some (.cells (rowN .k10 pre n key kid).toArray 387 (0, 0))) (hn : n ≤ 10) :
    Calls Tryz.prog 321 #[.pointer (some ⟨b, 0, none⟩)] w fun e w' => e = .returned (.slice (some ⟨b, 0, none⟩) n 10) ∧ ∃ m, w' = w.drewN m := by
  have hs : w.cell? ⟨b, 11, none⟩ = some (.int .u16 (n : Nat)) := row_at hb rowN_size
  have i1 : (n : Int) ≤ 10 := by omega
  have i0 : (0 : Int) ≤ (n : Int) := by omega
  go_enter Tryz.func321, Tryz.ntmps321
  go_wp2
  go_quiet (fail)
  go_wp2
  go_ret
  exact ⟨rfl, _, rfl⟩
set_option maxRecDepth 100000 in
set_option maxHeartbeats 1600000 in
theorem addChild16 (b : Nat) (pre : List UInt8) (n : Nat) (key : Nat → UInt8) (kid : Nat → Art) (c : UInt8) (t : Art) (w : World) (hb : w.heap[b]? = some (.cells (rowN .k16 pre n key kid).toArray 396 (0, 0))) (hn : n < 16) :
    Calls Tryz.prog 329 #[.pointer (some ⟨b, 0, none⟩), .int .u8 (c.toNat : Nat), t.ref] w fun e w' => e = .returned (.tuple #[]) ∧ w'.heap[b]? = some (.cells (rowN .k16 pre (n + 1) (upd key n c) (upd kid n t)).toArray 396 (0, 0)) ∧ Only (· = b) w w' := by
  obtain ⟨ty, tb, e⟩ := t.ref_form
  have hs : w.cell? ⟨b, 17, none⟩ = some (.int .u16 (n : Nat)) := row_at hb rowN_size
  have hk : w.cell? ⟨b, 18 + n, none⟩ = some (.int .u8 0) := row_at hb ((rowN_key (k := .k16) (i := n)).trans ((keyCells_at (by decide) hn).trans (by rw [if_neg (by omega)]; rfl)))
  have hc : w.cell? ⟨b, n, none⟩ = some .nilIface := row_at hb ((rowN_kid (k := .k16) hn).trans (by rw [if_neg (by omega)]))
  have f5 := frozen_row (j := 17) hb
  have f6 := frozen_row (j := 18 + n) hb
  have fn := frozen_row (j := n) hb
  have i1 : (n : Int) < 16 := by omega
  have i0 : (0 : Int) ≤ (n : Int) := by omega
  rw [e]
  go_enter Tryz.func329, Tryz.ntmps329
  go_wp2
  go_region
  go_wp2
  go_region
  go_wp2
  go_end0
  refine ⟨rfl, ?_, ((((Only.refl (· = b) w).set (.inl rfl) _).set (.inl rfl) _).set (.inl rfl) _).drew2.drew2⟩
  rw [← e]
  exact row_eq (heap_set_list (heap_set_list (heap_set_list hb))) (rowN_add (k := .k16) (by decide) hn)
set_option maxRecDepth 100000 in
set_option maxHeartbeats 1600000 in
theorem findChild16 (b : Nat) (pre : List UInt8) (n : Nat) (key : Nat → UInt8) (kid : Nat → Art) (c : UInt8) (w : World) (hb : w.heap[b]? = some (.cells (rowN .k16 pre n key kid).toArray 396 (0, 0))) (hn : n ≤ 16) :
    Calls Tryz.prog 332 #[.pointer (some ⟨b, 0, none⟩), .int .u8 (c.toNat : Nat)] w fun e w' => Found n key c b e ∧ w = w' := by
  have hs : w.cell? ⟨b, 17, none⟩ = some (.int .u16 (n : Nat)) := row_at hb rowN_size
  have hks : ∀ i, i < n → w.cell? ⟨b, 18 + i, none⟩ = some (.int .u8 ((key i).toNat : Nat)) := fun i hi => row_at hb ((rowN_key (k := .k16) (i := i)).trans ((keyCells_at (k := .k16) (by decide) (show i < 16 by omega)).trans (by rw [if_pos hi])))
  have HK := Lib.hid hks; clear hks
  have hn1 : (n : Int) ≤ 16 := by omega
  go_enter Tryz.func332, Tryz.ntmps332
  go_wp2
  go_loop [5] (fun i => ∃ k : Nat, k ≤ n ∧ i = .int .u16 (k : Nat) ∧ Hid (∀ j, j < k → key j ≠ c)) (fun i => n - (intOf i).toNat)
  case atStart => exact ⟨0, Nat.zero_le _, rfl, fun j hj => by omega⟩
  case round =>
    obtain ⟨k, hk, rfl, hno⟩ := hrel
    by_cases hlt : k < n
    · have hck := HK.out k hlt
      have k1 : (k : Int) < (n : Int) := by omega
      have k2 : (k : Int) < 16 := by omega
      have k3 : (0 : Int) ≤ (k : Int) := by omega
      have k4 : k < 16 := by omega
      by_cases hkey : key k = c
      · have ek : (((key k).toNat : Int) == (c.toNat : Int)) = true := by rw [hkey]; simp
        have HKE := Lib.hid hkey; clear hkey
        go_wp2
        go_ret
        exact ⟨.inl ⟨k, hlt, HKE.out, rfl⟩, rfl⟩
      · have ek : (((key k).toNat : Int) == (c.toNat : Int)) = false := by
          rw [beq_eq_false_iff_ne]; intro e; exact hkey (UInt8.toNat_inj.1 (by omega))
        have HKE := Lib.hid hkey; clear hkey
        go_wp2
        go_round
        case rel => exact ⟨k + 1, by omega, by go_num, fun j hj => by
          by_cases e : j = k
          · subst e; exact HKE.out
          · exact hno j (by omega)⟩
        case measure => simp [intOf]; omega
    · obtain rfl : k = n := by omega
      go_wp2
      go_ret
      exact ⟨.inr ⟨fun i hi => hno i hi, rfl⟩, rfl⟩
set_option maxRecDepth 100000 in
set_option maxHeartbeats 800000 in
theorem isFull16 (b : Nat) (pre : List UInt8) (n : Nat) (key : Nat → UInt8) (kid : Nat → Art) (w : World) (hb : w.heap[b]? = some (.cells (rowN .k16 pre n key kid).toArray 396 (0, 0))) :
    Calls Tryz.prog 334 #[.pointer (some ⟨b, 0, none⟩)] w fun e w' => e = .returned (.bool (decide (16 ≤ n))) ∧ w = w' := by
  have hs : w.cell? ⟨b, 17, none⟩ = some (.int .u16 (n : Nat)) := row_at hb rowN_size
  have hd : decide ((n : Int) ≥ 16) = decide (16 ≤ n) := by rw [decide_eq_decide]; omega
  go_enter Tryz.func334, Tryz.ntmps334
  go_wp2
  go_ret
  exact ⟨by rw [← hd]; rfl, rfl⟩
set_option maxRecDepth 100000 in
set_option maxHeartbeats 800000 in
theorem children16 (b : Nat) (pre : List UInt8) (n : Nat) (key : Nat → UInt8) (kid : Nat → Art) (w : World) (hb : w.heap[b]? = some (.cells (rowN .k16 pre n key kid).toArray 396 (0, 0))) (hn : n ≤ 16) :
    Calls Tryz.prog 330 #[.pointer (some ⟨b, 0, none⟩)] w fun e w' => e = .returned (.slice (some ⟨b, 0, none⟩) n 16) ∧ ∃ m, w' = w.drewN m := by
  have hs : w.cell? ⟨b, 17, none⟩ = some (.int .u16 (n : Nat)) := row_at hb rowN_size
  have i1 : (n : Int) ≤ 16 := by omega
  have i0 : (0 : Int) ≤ (n : Int) := by omega
  go_enter Tryz.func330, Tryz.ntmps330
  go_wp2
  go_quiet (fail)
  go_wp2
  go_ret
  exact ⟨rfl, _, rfl⟩
end Go.Proofs.YtehlmjecbljafaaGreatDoor
namespace Go.Proofs.YtehlmjecbljafaaGreatDoor
open Go Go.RowKit
set_option maxRecDepth 100000 in
set_option maxHeartbeats 1600000 in
theorem addChild48 (b : Nat) (pre : List UInt8) (n : Nat) (key : Nat → UInt8) (kid : Nat → Art) (c : UInt8) (t : Art) (w : World) (hb : w.heap[b]? = some (.cells (rowN .k48 pre n key kid).toArray 400 (0, 0))) (hn : n < 48) :
    Calls Tryz.prog 338 #[.pointer (some ⟨b, 0, none⟩), .int .u8 (c.toNat : Nat), t.ref] w fun e w' => e = .returned (.tuple #[]) ∧ w'.heap[b]? = some (.cells (rowN .k48 pre (n + 1) (upd key n c) (upd kid n t)).toArray 400 (0, 0)) ∧ Only (· = b) w w' := by
  obtain ⟨ty, tb, e⟩ := t.ref_form
  have hs : w.cell? ⟨b, 49, none⟩ = some (.int .u16 (n : Nat)) := row_at hb rowN_size
  have hk : w.cell? ⟨b, 50 + c.toNat, none⟩ = some (.int .u8 (slotOf n key c : Nat)) := row_at hb ((rowN_key (k := .k48) (i := c.toNat)).trans (keyCells48 c))
  have hc : w.cell? ⟨b, n, none⟩ = some .nilIface := row_at hb ((rowN_kid (k := .k48) hn).trans (by rw [if_neg (by omega)]))
  have f5 := frozen_row (j := 49) hb
  have f6 := frozen_row (j := 50 + c.toNat) hb
  have fn := frozen_row (j := n) hb
  have i1 : (n : Int) < 48 := by omega
  have i0 : (0 : Int) ≤ (n : Int) := by omega
  have hc256 := UInt8.toNat_lt c
  have j1 : (c.toNat : Int) < 256 := by omega
  have j0 : (0 : Int) ≤ (c.toNat : Int) := by omega
  rw [e]
  go_enter Tryz.func338, Tryz.ntmps338
  go_wp2
  go_region
  go_wp2
  go_region
  go_wp2
  go_end0
  refine ⟨rfl, ?_, ((((Only.refl (· = b) w).set (.inl rfl) _).set (.inl rfl) _).set (.inl rfl) _).drew2.drew2⟩
  rw [← e]
  exact row_eq (heap_set_list (heap_set_list (heap_set_list hb))) (rowN_add48 hn)
set_option maxRecDepth 100000 in
set_option maxHeartbeats 1600000 in
theorem findChild48 (b : Nat) (pre : List UInt8) (n : Nat) (key : Nat → UInt8) (kid : Nat → Art) (c : UInt8) (w : World) (hb : w.heap[b]? = some (.cells (rowN .k48 pre n key kid).toArray 400 (0, 0))) (hn : n ≤ 48) :
    Calls Tryz.prog 342 #[.pointer (some ⟨b, 0, none⟩), .int .u8 (c.toNat : Nat)] w fun e w' => Found n key c b e ∧ w = w' := by
  have hk : w.cell? ⟨b, 50 + c.toNat, none⟩ = some (.int .u8 (slotOf n key c : Nat)) := row_at hb ((rowN_key (k := .k48) (i := c.toNat)).trans (keyCells48 c))
  have hc256 := UInt8.toNat_lt c
  have j1 : (c.toNat : Int) < 256 := by omega
  have j0 : (0 : Int) ≤ (c.toNat : Int) := by omega
  cases hm : slotOf n key c with
  | zero =>
    have hno := slotOf_none hm
    have HM := Lib.hid hno; clear hno
    rw [hm] at hk
    clear hm
    go_enter Tryz.func342, Tryz.ntmps342
    go_wp2
    go_ret
    exact ⟨.inr ⟨HM.out, rfl⟩, rfl⟩
  | succ m =>
    obtain ⟨h1, h2⟩ := slotOf_some hm
    have HM := Lib.hid h2; clear h2
    rw [hm] at hk
    clear hm
    have e0 : (((m + 1 : Nat) : Int) == 0) = false := by rw [beq_eq_false_iff_ne]; omega
    have m1 : (m : Int) < 48 := by omega
    have m0 : (0 : Int) ≤ (m : Int) := by omega
    go_enter Tryz.func342, Tryz.ntmps342
    go_wp2
    go_ret
    exact ⟨.inl ⟨m, h1, HM.out, rfl⟩, rfl⟩
set_option maxRecDepth 100000 in
set_option maxHeartbeats 800000 in
theorem isFull48 (b : Nat) (pre : List UInt8) (n : Nat) (key : Nat → UInt8) (kid : Nat → Art) (w : World) (hb : w.heap[b]? = some (.cells (rowN .k48 pre n key kid).toArray 400 (0, 0))) :
    Calls Tryz.prog 344 #[.pointer (some ⟨b, 0, none⟩)] w fun e w' => e = .returned (.bool (decide (48 ≤ n))) ∧ w = w' := by
  have hs : w.cell? ⟨b, 49, none⟩ = some (.int .u16 (n : Nat)) := row_at hb rowN_size
  have hd : decide ((n : Int) ≥ 48) = decide (48 ≤ n) := by rw [decide_eq_decide]; omega
  go_enter Tryz.func344, Tryz.ntmps344
  go_wp2
  go_ret
  exact ⟨by rw [← hd]; rfl, rfl⟩
set_option maxRecDepth 100000 in
set_option maxHeartbeats 800000 in
theorem children48 (b : Nat) (pre : List UInt8) (n : Nat) (key : Nat → UInt8) (kid : Nat → Art) (w : World) (hb : w.heap[b]? = some (.cells (rowN .k48 pre n key kid).toArray 400 (0, 0))) (hn : n ≤ 48) :
    Calls Tryz.prog 340 #[.pointer (some ⟨b, 0, none⟩)] w fun e w' => e = .returned (.slice (some ⟨b, 0, none⟩) n 48) ∧ ∃ m, w' = w.drewN m := by
  have hs : w.cell? ⟨b, 49, none⟩ = some (.int .u16 (n : Nat)) := row_at hb rowN_size
  have i1 : (n : Int) ≤ 48 := by omega
  have i0 : (0 : Int) ≤ (n : Int) := by omega
  go_enter Tryz.func340, Tryz.ntmps340
  go_wp2
  go_quiet (fail)
  go_wp2
  go_ret
  exact ⟨rfl, _, rfl⟩
/-- All kinds. -/
theorem addChild_any (k : Kd) (b : Nat) (pre : List UInt8) (n : Nat) (key : Nat → UInt8) (kid : Nat → Art) (c : UInt8) (t : Art) (w : World) (hb : w.heap[b]? = some (.cells (rowN k pre n key kid).toArray (tyN k) (0, 0))) (hn : n < k.cap) :
    Calls Tryz.prog (addF k) #[.pointer (some ⟨b, 0, none⟩), .int .u8 (c.toNat : Nat), t.ref] w fun e w' => e = .returned (.tuple #[]) ∧ w'.heap[b]? = some (.cells (rowN k pre (n + 1) (upd key n c) (upd kid n t)).toArray (tyN k) (0, 0)) ∧ Only (· = b) w w' := by
  cases k
  · exact addChild4 b pre n key kid c t w hb hn
  · exact addChild10 b pre n key kid c t w hb hn
  · exact addChild16 b pre n key kid c t w hb hn
  · exact addChild48 b pre n key kid c t w hb hn
theorem findChild_any (k : Kd) (b : Nat) (pre : List UInt8) (n : Nat) (key : Nat → UInt8) (kid : Nat → Art) (c : UInt8) (w : World) (hb : w.heap[b]? = some (.cells (rowN k pre n key kid).toArray (tyN k) (0, 0))) (hn : n ≤ k.cap) :
    Calls Tryz.prog (findF k) #[.pointer (some ⟨b, 0, none⟩), .int .u8 (c.toNat : Nat)] w fun e w' => Found n key c b e ∧ w = w' := by
  cases k
  · exact findChild4 b pre n key kid c w hb hn
  · exact findChild10 b pre n key kid c w hb hn
  · exact findChild16 b pre n key kid c w hb hn
  · exact findChild48 b pre n key kid c w hb hn
theorem isFull_any (k : Kd) (b : Nat) (pre : List UInt8) (n : Nat) (key : Nat → UInt8) (kid : Nat → Art) (w : World) (hb : w.heap[b]? = some (.cells (rowN k pre n key kid).toArray (tyN k) (0, 0))) :
    Calls Tryz.prog (fullF k) #[.pointer (some ⟨b, 0, none⟩)] w fun e w' => e = .returned (.bool (decide (k.cap ≤ n))) ∧ w = w' := by
  cases k
  · exact isFull4 b pre n key kid w hb
  · exact isFull10 b pre n key kid w hb
  · exact isFull16 b pre n key kid w hb
  · exact isFull48 b pre n key kid w hb
theorem children_any (k : Kd) (b : Nat) (pre : List UInt8) (n : Nat) (key : Nat → UInt8) (kid : Nat → Art) (w : World) (hb : w.heap[b]? = some (.cells (rowN k pre n key kid).toArray (tyN k) (0, 0))) (hn : n ≤ k.cap) :
    Calls Tryz.prog (kidsF k) #[.pointer (some ⟨b, 0, none⟩)] w fun e w' => e = .returned (.slice (some ⟨b, 0, none⟩) n k.cap) ∧ ∃ m, w' = w.drewN m := by
  cases k
  · exact children4 b pre n key kid w hb hn
  · exact children10 b pre n key kid w hb hn
  · exact children16 b pre n key kid w hb hn
  · exact children48 b pre n key kid w hb hn
end Go.Proofs.YtehlmjecbljafaaGreatDoor
