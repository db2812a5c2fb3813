/- 'var x [n]T' by one law: a zero composite stored into its own new block. Bytes in memory: slices of bytes, conversions. Only the blocks of F have turned, beside new ones. Maps by what they answer. The numbers under which this program holds sync.RWMutex's functions and types. The list of interest: its small functions. A tree of levels and nodes in memory, told by the paths that are there. Plain words on what a mapping makes of a subject. -/
import Derived.Test.YtehlmjecbljafaaGreatDoorR4
import Derived.Test.YtehlmjecbljafaaGreatDoorR6
import Derived.Deep.WholeRow
import Derived.Laws.Tables
import Derived.Lib.ConvBytes
import Derived.Laws.BytesArg
import Derived.Laws.IdiomStrings
import Derived.Lib.IndexLaws
import Derived.Lib.Bytes
import Derived.Maps.OwnSet
import Derived.Test.YtehlmjecbljafaaGreatDoorProg
import Derived.Conc.RwLoneW
import Derived.Conc.RwLib
import Derived.KernelRfl
namespace Go.Proofs.YtehlmjecbljafaaGreatDoor
open Go Go.RowKit
section
variable {P : Program} {ops : Array Oper} {rest : List Oper} {o1 o2 o3 : Oper} {a : Act} {w : World} {Q : Exit → Act → World → Prop}
theorem wpList_zero3 (T : TypeId) (Z : Array Value) (n : Nat) (x y : Operand) (hb : P.built T [] = some Z) (hi : (P.info? T).map (fun i => (i.zero, i.size)) = some (some (.agg Z), n)) (hn : Z.size = n) (h1 : Z.all (·.oneCell') = true)
  (g1 : o1.guard = none) (g2 : o2.guard = none) (g3 : o3.guard = none) (e1 : o1.op = .build T #[]) (e2 : o2.op = .alloc T) (e3 : o3.op = .store T x y)
  (hx : ((a.put o1.dst (.agg Z)).put o2.dst (.pointer (some ⟨w.heap.size, 0, none⟩))).eval x = .pointer (some ⟨w.heap.size, 0, none⟩)) (hy : ((a.put o1.dst (.agg Z)).put o2.dst (.pointer (some ⟨w.heap.size, 0, none⟩))).eval y = .agg Z)
  (h : wpList P ops Q rest (((a.put o1.dst (.agg Z)).put o2.dst (.pointer (some ⟨w.heap.size, 0, none⟩))).put o3.dst undef) (w.alloc (.cells Z T))) : wpList P ops Q (o1 :: o2 :: o3 :: rest) a w := by
 obtain ⟨hz, hs⟩ := zero_of_info hi
 refine wpList_plain g1 fun K hK => ?_
 have r1 : (execOp a.eval o1).run P w = .ok (.value (.agg Z)) w := by
  unfold execOp
  simp only [e1, Sem.run_bind]
  have := run_build (P := P) w T #[] Z hb
  simp only [List.map_toArray, List.map_nil]
  rw [this]; rfl
 unfold Oper.wp
 rw [r1, Oper.upon_value]
 refine hK _ _ (wpList_plain g2 fun K hK => ?_)
 have r2 : ∀ ρ : Operand → Value, (execOp ρ o2).run P w = .ok (.value (.pointer (some ⟨w.heap.size, 0, none⟩))) (w.alloc (.cells Z T)) := by
  intro ρ
  unfold execOp
  simp [e2, Instr.alloc, hz, newVar, Value.cells, newRow, newObj]
  rfl
 unfold Oper.wp
 rw [r2, Oper.upon_value]
 refine hK _ _ (wpList_plain g3 fun K hK => ?_)
 have r3 : (execOp ((a.put o1.dst (.agg Z)).put o2.dst (.pointer (some ⟨w.heap.size, 0, none⟩))).eval o3).run P (w.alloc (.cells Z T)) = .ok .skip (w.alloc (.cells Z T)) := by
  unfold execOp
  simp only [e3, Sem.run_bind, hx, hy]
  rw [run_storeAt_new w T Z Z (by rw [hs, hn]) rfl h1]; rfl
 unfold Oper.wp
 rw [r3, Oper.upon_skip]
 exact hK _ _ h
end
end Go.Proofs.YtehlmjecbljafaaGreatDoor
namespace Go.Proofs.YtehlmjecbljafaaGreatDoor
open Go Go.RowKit
/-- Bytes as cells. -/
def u8s (l : List UInt8) : List Value := l.map fun c => Value.int .u8 (c.toNat : Int)
theorem u8s_len (l : List UInt8) : (u8s l).length = l.length := by simp [u8s]
/-- The bytes l stand from place o of block b on. -/
def BsAt (w : World) (b o : Nat) (l : List UInt8) : Prop := ∀ (j : Nat) (c : UInt8), l[j]? = some c → w.cell? ⟨b, o + j, none⟩ = some (.int .u8 (c.toNat : Int))
theorem BsAt.sub {w : World} {b o : Nat} {l : List UInt8} (h : BsAt w b o l) (x y : Nat) : BsAt w b (o + x) ((l.take y).drop x) := by
 intro j c hj
 rw [List.getElem?_drop, List.getElem?_take] at hj
 split at hj
 ·rw [Nat.add_assoc]; exact h _ _ hj
 ·cases hj
theorem BsAt.bel {w w' : World} {b o : Nat} {l : List UInt8} (h : BsAt w b o l) (hb : Below w.heap.size w w') : BsAt w' b o l := fun j c hj => cell_bel (h j c hj) hb
theorem BsAt.sl {w : World} {b o n cap : Nat} {l : List UInt8} (h : BsAt w b o l) (hn : l.length = n) (hc : n ≤ cap) (hm : cap ≤ maxLen) : Sl w 1 (.slice (some ⟨b, o, none⟩) n cap) n (u8s l) := by
 refine ⟨by rw [u8s_len]; omega, _, _, rfl, hc, hm, fun _ => ⟨b, o, rfl, fun j x hj => ?_⟩⟩
 unfold u8s at hj
 rw [List.getElem?_map] at hj
 cases hl : l[j]? with
 | none => rw [hl] at hj; cases hj
 | some c => rw [hl] at hj; cases hj; exact h j c hl
theorem slBytes {w : World} {a : Option Addr} {n cap : Nat} {l : List UInt8} (h : Sl w 1 (.slice a n cap) n (u8s l)) (h0 : l ≠ []) : ∃ b o, a = some ⟨b, o, none⟩ ∧ BsAt w b o l := by
 obtain ⟨-, a', cap', e, -, -, hc⟩ := h
 cases e
 obtain ⟨b, o, e, hc⟩ := hc (by rw [u8s_len]; exact List.length_pos_iff.2 h0)
 refine ⟨b, o, e, fun j c hj => hc j _ ?_⟩
 unfold u8s
 rw [List.getElem?_map, hj]; rfl
theorem empty_mk : ByteArray.empty = mk [] := rfl
/-- string(v) of bytes. -/
theorem conv_text {w : World} {a : Option Addr} {n cap : Nat} {l : List UInt8} (h : Sl w 1 (.slice a n cap) n (u8s l)) : (convert 94 9 (.slice a n cap)).run Tryz.prog w = .ok (.string (mk l)) w := by
 have hn : l.length = n := by have := h.1; rw [u8s_len] at this; omega
 by_cases h0 : l = []
 ·subst h0
  cases a with
  | none => rw [run_convert_bytes_nil w 94 5 Tryz.underlying94 Tryz.underlying5 n cap 9 Tryz.underlying9, empty_mk]
  | some a =>
   have := run_convert_bytes_back (P := Tryz.prog) w 94 9 5 a cap [] Tryz.underlying94 Tryz.underlying5 Tryz.underlying9 (fun j hj => absurd hj (Nat.not_lt_zero _))
   rw [← hn]; exact this
 ·obtain ⟨b, o, rfl, hb⟩ := slBytes h h0
  have := run_convert_bytes_back (P := Tryz.prog) w 94 9 5 ⟨b, o, none⟩ cap l Tryz.underlying94 Tryz.underlying5 Tryz.underlying9 (fun j hj => by rw [add0]; exact hb j _ (List.getElem?_eq_getElem hj))
  rw [← hn]; exact this
/-- []byte(s). -/
theorem conv_bytes (w : World) (s : ByteArray) : (convert 9 94 (.string s)).run Tryz.prog w = .ok (.slice (some ⟨w.heap.size, 0, none⟩) s.size (grownCap w s.size 0 5)) (Lib.bytesWorld w 5 s) :=
 Lib.run_convert_string_bytes w 9 94 5 s Tryz.underlying9 Tryz.underlying94 Tryz.underlying5
theorem bytesWorld_below (w : World) (s : ByteArray) : Below w.heap.size w (Lib.bytesWorld w 5 s) :=
 ⟨rfl, rfl, rfl, by rw [Lib.bytesWorld_size]; omega, fun k hk => Lib.bytesWorld_at_old w 5 s k hk⟩
theorem bytesWorld_at (w : World) (s : ByteArray) : BsAt (Lib.bytesWorld w 5 s) w.heap.size 0 (bs s) := by
 intro j c hj
 have hjl : j < s.size := by rw [← bs_len]; exact (List.getElem?_eq_some_iff.1 hj).1
 rw [Nat.zero_add, Lib.bytesWorld_cell w 5 s j hjl]
 unfold bs at hj
 simp [List.getD, hj]
theorem indexByte_no : ∀ {l : List UInt8} {c : UInt8}, c ∉ l → Lib.indexByte l c = -1 := by
 intro l c h
 have h1 := Lib.indexByte_ge l c
 rcases (show Lib.indexByte l c < 0 ∨ 0 ≤ Lib.indexByte l c by omega) with h2 | h2
 ·omega
 ·obtain ⟨o, ho⟩ : ∃ o : Nat, Lib.indexByte l c = o := ⟨(Lib.indexByte l c).toNat, by omega⟩
  exact absurd (List.mem_of_getElem? (Lib.indexByte_some ho).1) h
theorem indexByte_at {l : List UInt8} {c : UInt8} {t r : List UInt8} (h : l = t ++ c :: r) (ht : c ∉ t) : Lib.indexByte l c = (t.length : Int) := by
 have h1 := Lib.indexByte_ge l c
 have hat : l[t.length]? = some c := by rw [h, List.getElem?_append_right (Nat.le_refl _), Nat.sub_self]; rfl
 rcases (show Lib.indexByte l c < 0 ∨ 0 ≤ Lib.indexByte l c by omega) with h2 | h2
 ·exact absurd hat (Lib.indexByte_none (by omega) _)
 ·obtain ⟨o, ho⟩ : ∃ o : Nat, Lib.indexByte l c = o := ⟨(Lib.indexByte l c).toNat, by omega⟩
  obtain ⟨ho1, ho2⟩ := Lib.indexByte_some ho
  rcases Nat.lt_trichotomy o t.length with hlt | rfl | hgt
  ·rw [h, List.getElem?_append_left hlt] at ho1
   exact absurd (List.mem_of_getElem? ho1) ht
  ·exact ho
  ·exact absurd hat (ho2 _ hgt)
end Go.Proofs.YtehlmjecbljafaaGreatDoor
namespace Go.Proofs.YtehlmjecbljafaaGreatDoor
open Go Go.RowKit
structure Only (F : Nat → Prop) (w w' : World) : Prop where
 os : w'.os = w.os
 tape : w'.tape = w.tape
 output : w'.output = w.output
 size : w.heap.size ≤ w'.heap.size
 block : ∀ k, k < w.heap.size → ¬ F k → w'.heap[k]? = w.heap[k]?
theorem Only.refl (F : Nat → Prop) (w : World) : Only F w w := ⟨rfl, rfl, rfl, Nat.le_refl _, fun _ _ _ => rfl⟩
theorem Only.of {F : Nat → Prop} {w w' : World} (h : Below w.heap.size w w') : Only F w w' := ⟨h.os, h.tape, h.output, h.size, fun k hk _ => h.block k hk⟩
theorem Only.below {F : Nat → Prop} {w w' : World} {B : Nat} (h : Only F w w') (hF : ∀ k, F k → B ≤ k) (hB : B ≤ w.heap.size) : Below B w w' :=
 ⟨h.os, h.tape, h.output, h.size, fun k hk => h.block k (by omega) fun hf => by have := hF k hf; omega⟩
/-- F may grow by new blocks. -/
theorem Only.trans {F F' : Nat → Prop} {w w1 w2 : World} (h : Only F w w1) (k : Only F' w1 w2) (hF : ∀ b, F' b → F b ∨ w.heap.size ≤ b) : Only F w w2 :=
 ⟨k.os.trans h.os, k.tape.trans h.tape, k.output.trans h.output, Nat.le_trans h.size k.size, fun b hb hf => by
  rw [k.block b (Nat.lt_of_lt_of_le hb h.size) fun hf' => by rcases hF b hf' with h1 | h1; exact hf h1; omega]
  exact h.block b hb hf⟩
theorem Only.mono {F F' : Nat → Prop} {w w' : World} (h : Only F w w') (hF : ∀ b, F b → F' b) : Only F' w w' := ⟨h.os, h.tape, h.output, h.size, fun k hk hf => h.block k hk fun hf' => hf (hF k hf')⟩
theorem Only.set {F : Nat → Prop} {w w1 : World} (h : Only F w w1) {b i : Nat} (hb : F b ∨ w.heap.size ≤ b) (v : Value) : Only F w (w1.setCell ⟨b, i, none⟩ v) :=
 ⟨h.os, h.tape, h.output, by simp only [World.setCell, Array.size_modify]; exact h.size, fun k hk hf => by
  rw [heap_setCell_other _ _ _ _ (by rintro rfl; rcases hb with h1 | h1; exact hf h1; omega)]
  exact h.block k hk hf⟩
theorem Only.alloc {F : Nat → Prop} {w w1 : World} (h : Only F w w1) (o : Obj) : Only F w (w1.alloc o) :=
 ⟨h.os, h.tape, h.output, by simp; have := h.size; omega, fun k hk hf => by
  rw [((Below.refl w1.heap.size w1).alloc (Nat.le_refl _) o).block k (by have := h.size; omega)]
  exact h.block k hk hf⟩
theorem Own.only {F : Nat → Prop} {w w' : World} {base sz : Nat} {v : Value} {n : Nat} {xs : List Value} (h : Own w base sz v n xs) (hk : Only F w w') (hF : ∀ k, v.ownBlock = some k → ¬ F k) : Own w' base sz v n xs :=
 h.kept fun k hb => hk.block k (h.lt k hb).2 (hF k hb)
theorem only_grown {W w' : World} {v : Value} {o : Obj} (h : (W.alloc o).grownBy w' v.ownBlock) : Only (fun k => v.ownBlock = some k) W w' := by
 have h2 := (World.grownBy_alloc W o v.ownBlock).trans h
 exact ⟨h2.os, h2.tape, h2.output, h2.size, fun k hk hf => h2.block k hk fun e => hf e.symm⟩
theorem out_of {W : World} {F : Nat → Prop} {v v' : Value} {o : Obj} (hF : ∀ k, v.ownBlock = some k → ¬ F k) (hlt : ∀ k, F k → k < W.heap.size)
  (h : v'.ownBlock = v.ownBlock ∨ ∃ b, v'.ownBlock = some b ∧ (W.alloc o).heap.size ≤ b) : ∀ k, v'.ownBlock = some k → ¬ F k := by
 intro k hk hf
 rcases h with h | ⟨b, h, hb⟩
 ·exact hF k (h ▸ hk) hf
 ·rw [hk] at h; cases h
  have := hlt k hf
  simp at hb; omega
/-- append(v, x), v's row outside F. -/
theorem wpList_appX {P : Program} {ops : Array Oper} {rest : List Oper} {o : Oper} {a : Act} {Q : Exit → Act → World → Prop} {W : World} {T E sz bytes : Nat} {z : Value} (et : ET P T E sz bytes z) (hgd : o.guard = none) (s x : Operand)
  (ho : o.op = .call { callee := .builtin .append, args := #[s, x], argTypes := #[T, T] })
  (B : Nat) (F : Nat → Prop) {v : Value} {n : Nat} {xs : List Value} (hs : a.eval s = v) (hown : Own W B sz v n xs) (hF : ∀ k, v.ownBlock = some k → ¬ F k) (hlt : ∀ k, F k → k < W.heap.size)
  (news : List Value) (hx : a.eval x = .slice (some ⟨W.heap.size, 0, none⟩) 1 1) (hl : news.length = sz) (h1 : ∀ u ∈ news, u.oneCell' = true)
  (hsm : n < 549755813888) (hbase : B ≤ W.heap.size)
  (h : ∀ v' w', Own w' B sz v' (n + 1) (xs ++ news) → (∀ k, v'.ownBlock = some k → ¬ F k) → Only (fun k => v.ownBlock = some k) W w' → wpList P ops Q rest (a.put o.dst v') w') : wpList P ops Q (o :: rest) a (W.alloc (.cells news.toArray E)) := by
 refine wpList_plain hgd fun K hK => ?_
 obtain ⟨v', w', hrun, h2, h3, h4⟩ := run_app' (P := P) (W.alloc (.cells news.toArray E)) et o.type B v n xs (hown.alloc _) ⟨W.heap.size, 0, none⟩ 1 1 news (by omega) (cells_new W news E) h1 (by omega) (by simp; omega)
 unfold Oper.wp execOp
 simp only [ho, resolve, invoke, builtin, Sem.run_bind, Sem.run_pure, Result.andThen_ok, List.map_toArray, List.map_cons, List.map_nil, hs, hx, hrun]
 exact hK _ _ (h v' w' h2 (out_of hF hlt h4) (only_grown h3))
theorem runs_appX {P : Program} {o : Oper} {a : Act} {K : Value → World → Prop} {W : World} {T E sz bytes : Nat} {z : Value} (et : ET P T E sz bytes z) (s x : Operand)
  (ho : o.op = .call { callee := .builtin .append, args := #[s, x], argTypes := #[T, T] })
  (B : Nat) (F : Nat → Prop) {v : Value} {n : Nat} {xs : List Value} (hs : a.eval s = v) (hown : Own W B sz v n xs) (hF : ∀ k, v.ownBlock = some k → ¬ F k) (hlt : ∀ k, F k → k < W.heap.size)
  (news : List Value) (hx : a.eval x = .slice (some ⟨W.heap.size, 0, none⟩) 1 1) (hl : news.length = sz) (h1 : ∀ u ∈ news, u.oneCell' = true)
  (hsm : n < 549755813888) (hbase : B ≤ W.heap.size)
  (h : ∀ v' w', Own w' B sz v' (n + 1) (xs ++ news) → (∀ k, v'.ownBlock = some k → ¬ F k) → Only (fun k => v.ownBlock = some k) W w' → K v' w') : runsTo P K ((execOp a.eval o).run P (W.alloc (.cells news.toArray E))) := by
 obtain ⟨v', w', hrun, h2, h3, h4⟩ := run_app' (P := P) (W.alloc (.cells news.toArray E)) et o.type B v n xs (hown.alloc _) ⟨W.heap.size, 0, none⟩ 1 1 news (by omega) (cells_new W news E) h1 (by omega) (by simp; omega)
 unfold execOp
 simp only [ho, resolve, invoke, builtin, Sem.run_bind, Sem.run_pure, Result.andThen_ok, List.map_toArray, List.map_cons, List.map_nil, hs, hx, hrun]
 exact h v' w' h2 (out_of hF hlt h4) (only_grown h3)
theorem conv_sl (w : World) (s : ByteArray) (hs : s.size ≤ maxLen) : Sl (Lib.bytesWorld w 5 s) 1 (.slice (some ⟨w.heap.size, 0, none⟩) s.size (grownCap w s.size 0 5)) s.size (u8s (bs s)) :=
 (bytesWorld_at w s).sl (bs_len s) (grownCap_ge w _ _ _) (grownCap_le_maxLen w _ _ _ hs)
/-- A deed as it lies in memory. -/
structure Deed where
 op : Int
 subj : ByteArray
 val : Int
def Deed.cells (d : Deed) : List Value := [.int .i64 d.op, .string d.subj, .int .i64 d.val]
def DeedsAt (w : World) (v : Value) (ds : List Deed) : Prop := Sl w 3 v ds.length (ds.flatMap Deed.cells)
theorem DeedsAt.at' {w wr : World} {a : Option Addr} {n cap : Nat} {ds : List Deed} (h : DeedsAt w (.slice a n cap) ds) (hb : Below w.heap.size w wr) {k : Nat} (hk : k < ds.length) :
  ∃ b o d, a = some ⟨b, o, none⟩ ∧ Hid (ds[k]? = some d) ∧ wr.cell? ⟨b, o + k * 3, none⟩ = some (.int .i64 d.op) ∧ wr.cell? ⟨b, o + k * 3 + 1, none⟩ = some (.string d.subj) ∧
   wr.cell? ⟨b, o + k * 3 + 2, none⟩ = some (.int .i64 d.val) := by
 have hl := flat_len (f := Deed.cells) (sz := 3) (fun _ => rfl) ds
 obtain ⟨-, a', cap', e, -⟩ := id h
 cases e
 obtain ⟨b, o, rfl, hc⟩ := Sl.cell h hb (by rw [hl]; omega)
 have hp : ds[k]? = some ds[k] := List.getElem?_eq_getElem hk
 have hh : ∀ i, i < 3 → ∀ x, (Deed.cells ds[k])[i]? = some x → wr.cell? ⟨b, o + k * 3 + i, none⟩ = some x := by
  intro i hi x hx
  have := hc (k * 3 + i) x (by rw [flat_at (f := Deed.cells) (sz := 3) (fun _ => rfl) ds k i hi _ hp]; exact hx)
  rw [Nat.add_assoc]; exact this
 exact ⟨b, o, ds[k], rfl, hp, hh 0 (by omega) _ rfl, hh 1 (by omega) _ rfl, hh 2 (by omega) _ rfl⟩
end Go.Proofs.YtehlmjecbljafaaGreatDoor
namespace Go.Proofs.YtehlmjecbljafaaGreatDoor
open Go Go.RowKit Go.Maps
/-- An element, whatever it is. -/
def heldR : Value → Option (DataW Value × List MemPlace) := fun v => some (.held v, [])
theorem law9 : Keyed Tryz.prog 9 := string_keyed Tryz.underlying9
theorem law3 : Keyed Tryz.prog 3 := int_keyed Tryz.underlying3
/-- Block b is a map by texts that answers f. -/
def MapS (w : World) (b n : Nat) (z : Value) (f : List UInt8 → Value) : Prop := ∃ D : DataW Value, w.ownsMap Tryz.prog 9 heldR b n D ∧ ∀ t : List UInt8, D.atKey (.string t) (.held z) = .held (f t)
/-- Block b is a map by numbers of m entries. -/
def MapN (w : World) (b n m : Nat) : Prop := ∃ D : DataW Value, w.ownsMap Tryz.prog 3 heldR b n D ∧ Maps.size D = m
theorem MapS.made (w : World) (z : Value) : MapS (w.alloc (.map #[] 0)) w.heap.size 0 z (fun _ => z) := ⟨.map [], World.ownsMap_made w _ _ _, fun _t => atKey_of_not_has rfl _⟩
theorem MapN.made (w : World) : MapN (w.alloc (.map #[] 0)) w.heap.size 0 0 := ⟨.map [], World.ownsMap_made w _ _ _, rfl⟩
theorem MapS.lt {w : World} {b n : Nat} {z : Value} {f : List UInt8 → Value} (h : MapS w b n z f) : b < w.heap.size := by obtain ⟨D, h, -⟩ := h; exact h.lt
theorem MapN.lt {w : World} {b n m : Nat} (h : MapN w b n m) : b < w.heap.size := by obtain ⟨D, h, -⟩ := h; exact h.lt
theorem ownsMap_at {w w' : World} {k : TypeId} {b n : Nat} {D : DataW Value} (h : w.ownsMap Tryz.prog k heldR b n D) (e : w'.heap[b]? = w.heap[b]?) : w'.ownsMap Tryz.prog k heldR b n D := by
 obtain ⟨es, clock, hb, F, hs, hd⟩ := h
 exact ⟨es, clock, e.trans hb, F, hs, hd⟩
theorem MapS.keep {w w' : World} {b n : Nat} {z : Value} {f : List UInt8 → Value} (h : MapS w b n z f) (e : w'.heap[b]? = w.heap[b]?) : MapS w' b n z f := by
 obtain ⟨D, h1, h2⟩ := h; exact ⟨D, ownsMap_at h1 e, h2⟩
theorem MapN.keep {w w' : World} {b n m : Nat} (h : MapN w b n m) (e : w'.heap[b]? = w.heap[b]?) : MapN w' b n m := by
 obtain ⟨D, h1, h2⟩ := h; exact ⟨D, ownsMap_at h1 e, h2⟩
theorem MapS.look {w : World} {b n t e : Nat} {z : Value} {f : List UInt8 → Value} (h : MapS w b n z f) (ht : Tryz.prog.underlying t = some (.map 9 e)) (hz : (zeroValue e).run Tryz.prog w = .ok z w) (s : ByteArray) (hs : s.size ≤ maxLen) :
  (Instr.lookup t (.map (some b)) (.string s) false).run Tryz.prog w = .ok (f (bs s)) w := by
 obtain ⟨D, h1, h2⟩ := h
 obtain ⟨v, ps, hr, hv⟩ := h1.lookup law9 ht hz (zd := .held z) (zp := []) rfl (Go.WideMaps.keyOf_string_mk Tryz.underlying9 hs)
 have := h2 (bs s)
 unfold bs at this
 rw [this] at hv
 simp only [heldR, Option.some.injEq, Prod.mk.injEq, DataW.held.injEq] at hv
 rw [hr, hv.1]; rfl
theorem MapS.store {w : World} {b n t e : Nat} {z : Value} {f : List UInt8 → Value} (h : MapS w b n z f) (ht : Tryz.prog.underlying t = some (.map 9 e)) (hn : n < maxLen) (s : ByteArray) (hs : s.size ≤ maxLen) (v : Value) :
  ∃ w', (Instr.mapUpdate t (.map (some b)) (.string s) v).run Tryz.prog w = .ok () w' ∧ MapS w' b (n + 1) z (fun u => if u = bs s then v else f u) ∧ Only (· = b) w w' := by
 obtain ⟨D, h1, h2⟩ := h
 obtain ⟨w', hr, ho, hg⟩ := h1.update law9 ht hn (d := .held v) (ps := []) (Go.WideMaps.keyOf_string_mk Tryz.underlying9 hs) rfl
 refine ⟨w', hr, ⟨_, ho, fun u => ?_⟩, ⟨hg.os, hg.tape, hg.output, hg.size, fun k hk hb => hg.block k hk fun e => hb (Option.some.inj e)⟩⟩
 show _ = DataW.held (if u = bs s then v else f u)
 by_cases hu : u = bs s
 ·rw [if_pos hu, hu]
  exact atKey_put_same h1.isMap (show WideAt.IsKeyLit (.string _) from trivial) _ _
 ·rw [if_neg hu, atKey_put_other (fun e => hu (by injection e))]
  exact h2 u
theorem MapN.len {w : World} {b n m t e : Nat} (h : MapN w b n m) (ht : Tryz.prog.underlying t = some (.map 3 e)) (ty : TypeId) : (Builtin.len_ #[t] ty #[.map (some b)]).run Tryz.prog w = .ok (.int .i64 m) w := by
 obtain ⟨D, h1, h2⟩ := h
 rw [h1.len ht ty, h2]
theorem MapN.store {w : World} {b n m t e : Nat} (h : MapN w b n m) (ht : Tryz.prog.underlying t = some (.map 3 e)) (hn : n < maxLen) (x : Int) (hx : (Lit.int .i64 x).wf = true) (v : Value) :
  ∃ w' m', (Instr.mapUpdate t (.map (some b)) (.int .i64 x) v).run Tryz.prog w = .ok () w' ∧ MapN w' b (n + 1) m' ∧ 0 < m' ∧ m' ≤ m + 1 ∧ Only (· = b) w w' := by
 obtain ⟨D, h1, h2⟩ := h
 obtain ⟨w', hr, ho, hg⟩ := h1.update law3 ht hn (d := .held v) (ps := []) (keyOf_int_mk Tryz.underlying3 hx) rfl
 refine ⟨w', _, hr, ⟨_, ho, rfl⟩, ?_, (by rw [size_put (h1.tidy law3), ← h2]; split <;> omega), ⟨hg.os, hg.tape, hg.output, hg.size, fun k hk hb => hg.block k hk fun e => hb (Option.some.inj e)⟩⟩
 rw [size_put (h1.tidy law3)]
 split
 ·rename_i hh
  obtain ⟨es, he⟩ := h1.isMap
  rw [he] at hh ⊢
  rw [size_eq]
  rw [has_eq] at hh
  cases es with
  | nil => simp at hh
  | cons a r => simp
 ·omega
end Go.Proofs.YtehlmjecbljafaaGreatDoor
namespace Go.Proofs.YtehlmjecbljafaaGreatDoor
open Go.Proofs
abbrev muLink : Go.Conc.Locks.MuLink := { lock := 175, unlock := 180, ilock := 212, iunlock := 213, lockSlow := 235, unlockSlow := 236, disable := 160, enable := 163, acquire := 164, relMerge := 165, cas32 := 223, add32 := 206, tMutex := 170, tIMutex := 168, tPMutex := 257, tPIMutex := 338, tPI32 := 310, tUP := 256, tNoCopy := 166, tU32 := 122 }
theorem muLib : Go.Conc.Locks.MuLib Tryz.prog muLink :=
 ⟨Tryz.func175, Tryz.func180, Tryz.func212, Tryz.func213, Tryz.func160, Tryz.func163, Tryz.func164, Tryz.func165, Tryz.func223, Tryz.func206, Tryz.underlying168, Tryz.runUnderlying168, Tryz.sizeOf168, Tryz.isAgg168, Tryz.zeroValue168, Tryz.underlying170, Tryz.runUnderlying170, Tryz.sizeOf170, Tryz.isAgg170, Tryz.zeroValue170, Tryz.underlying257, Tryz.runUnderlying257, Tryz.sizeOf257, Tryz.isAgg257, Tryz.zeroValue257, Tryz.underlying338, Tryz.runUnderlying338, Tryz.sizeOf338, Tryz.isAgg338, Tryz.zeroValue338, Tryz.underlying310, Tryz.runUnderlying310, Tryz.sizeOf310, Tryz.isAgg310, Tryz.zeroValue310, Tryz.underlying256, Tryz.runUnderlying256, Tryz.sizeOf256, Tryz.isAgg256, Tryz.zeroValue256, Tryz.underlying166, Tryz.runUnderlying166, Tryz.sizeOf166, Tryz.isAgg166, Tryz.zeroValue166, Tryz.underlying21, Tryz.runUnderlying21, Tryz.sizeOf21, Tryz.isAgg21, Tryz.zeroValue21, (by kernel_rfl)⟩
abbrev rwLink : Go.Conc.Locks.RwLink := { lock := 175, unlock := 180, ilock := 212, iunlock := 213, lockSlow := 235, unlockSlow := 236, disable := 160, enable := 163, acquire := 164, relMerge := 165, cas32 := 223, add32 := 206, tMutex := 170, tIMutex := 168, tPMutex := 257, tPIMutex := 338, tPI32 := 310, tUP := 256, tNoCopy := 166, tU32 := 122, rlock := 112, runlock := 113, wlock := 130, wunlock := 132, i32add := 161, raceRead := 159, release := 177, rUnlockSlow := 166, semacqR := 162, semacqW := 176, semrel := 179, sfatal := 178, tRW := 175, tPRW := 254, tAI32 := 173, tPAI32 := 308, tPU32 := 260, tANoCopy := 171 }
theorem rwCore : Go.Conc.Locks.RwCore Tryz.prog rwLink :=
 ⟨Tryz.func161, Tryz.func159, Tryz.func160, Tryz.func163, Tryz.func164, Tryz.func165, Tryz.func206, Tryz.underlying175, Tryz.runUnderlying175, Tryz.sizeOf175, Tryz.isAgg175, Tryz.zeroValue175, Tryz.underlying173, Tryz.runUnderlying173, Tryz.sizeOf173, Tryz.isAgg173, Tryz.zeroValue173, Tryz.underlying254, Tryz.runUnderlying254, Tryz.sizeOf254, Tryz.isAgg254, Tryz.zeroValue254, Tryz.underlying308, Tryz.runUnderlying308, Tryz.sizeOf308, Tryz.isAgg308, Tryz.zeroValue308, Tryz.underlying260, Tryz.runUnderlying260, Tryz.sizeOf260, Tryz.isAgg260, Tryz.zeroValue260, Tryz.underlying171, Tryz.runUnderlying171, Tryz.sizeOf171, Tryz.isAgg171, Tryz.zeroValue171, Tryz.underlying122, Tryz.runUnderlying122, Tryz.sizeOf122, Tryz.isAgg122, Tryz.zeroValue122, Tryz.underlying170, Tryz.runUnderlying170, Tryz.sizeOf170, Tryz.isAgg170, Tryz.zeroValue170, Tryz.underlying257, Tryz.runUnderlying257, Tryz.sizeOf257, Tryz.isAgg257, Tryz.zeroValue257, Tryz.underlying310, Tryz.runUnderlying310, Tryz.sizeOf310, Tryz.isAgg310, Tryz.zeroValue310, Tryz.underlying256, Tryz.runUnderlying256, Tryz.sizeOf256, Tryz.isAgg256, Tryz.zeroValue256, Tryz.underlying21, Tryz.runUnderlying21, Tryz.sizeOf21, Tryz.isAgg21, Tryz.zeroValue21, (by kernel_rfl), (by kernel_rfl)⟩
theorem rwRLib : Go.Conc.Locks.RwRLib Tryz.prog rwLink := ⟨rwCore, Tryz.func112, Tryz.func113⟩
theorem rwWLib : Go.Conc.Locks.RwWLib Tryz.prog rwLink := ⟨rwCore, muLib, Tryz.func130, Tryz.func132, Tryz.func177, Tryz.underlying3, Tryz.runUnderlying3, Tryz.sizeOf3, Tryz.isAgg3, Tryz.zeroValue3⟩
end Go.Proofs.YtehlmjecbljafaaGreatDoor
namespace Go.Proofs.YtehlmjecbljafaaGreatDoor
open Go Go.RowKit
set_option maxRecDepth 100000 in
set_option maxHeartbeats 800000 in
theorem gslSplit_any (s : ByteArray) (w : World) (hs : s.size ≤ 274877906944) :
  Calls Tryz.prog 131 #[.string s, .string ⟨#[46]⟩] w fun e w' => ∃ v, e = .returned v ∧ Own w' w.heap.size 1 v (toks s).length ((toks s).map Value.string) ∧ Below w.heap.size w w' := by
 go_enter Tryz.func131, Tryz.ntmps131
 go_wp2
 go_loopw [5, 6, 7] (fun v f i wr => ∃ (k kf : Nat) (ss : List ByteArray), k ≤ s.size ∧ kf ≤ k ∧ i = .int .i64 k ∧ f = .int .i64 kf ∧ Hid (Done s kf k ss) ∧ Own wr w.heap.size 1 v ss.length (ss.map Value.string) ∧ Below w.heap.size w wr) (fun _ _ i _ => s.size - (intOf i).toNat)
 case atStart => exact ⟨0, 0, [], by omega, by omega, rfl, rfl, done_start s, Own.nil _ _ _, Below.refl _ _⟩
 case round =>
  obtain ⟨k, kf, ss, hk, hkf, rfl, rfl, HD, hown, hbel⟩ := hrel
  have hB := hbel.size
  have hssl := done_len HD.out hk
  by_cases hlt : k < s.size
  ·go_wp2
   go_quiet (fail)
   have hownq := hown.keep (below_drewN (Below.refl _ wr) nq)
   have hbq := below_drewN hbel nq
   have hBq := hbq.size
   go_wp2_with (at_builtin; go_must (refine wpList_app1 et32 rfl _ _ rfl w.heap.size rfl hownq [_] rfl rfl (by simp [Value.oneCell']) (by omega) hBq ?_); intro v' w1 hown1 hgrow)
   ·have hc : s[k] = 46 := byt ‹_› rfl
    go_roundw
    case rel => exact ⟨k+1, k+1, _, hlt, Nat.le_refl _, by go_num, by go_num, done_dot HD.out hlt hc, by simpa using hown1, bel_app hbq hgrow hownq hBq⟩
    case measure => simp [intOf]; omega
   ·have hc : s[k] ≠ 46 := byf ‹_› rfl
    go_roundw
    case rel => exact ⟨k+1, kf, ss, hlt, by omega, by go_num, rfl, done_no HD.out hlt hkf hc, hownq, hbq⟩
    case measure => simp [intOf]; omega
  ·obtain rfl : k = s.size := by omega
   go_wp2_with (at_builtin; go_must (refine wpList_app1 et32 rfl _ _ rfl w.heap.size rfl hown [_] rfl rfl (by simp [Value.oneCell']) (by omega) hB ?_); intro v' w1 hown1 hgrow)
   go_ret
   refine ⟨_, rfl, ?_, bel_app hbel hgrow hown hB⟩
   rw [← done_end HD.out]
   simpa using hown1
set_option maxRecDepth 100000 in
set_option maxHeartbeats 800000 in
theorem newLevel_any (w : World) : Calls Tryz.prog 129 #[] w fun e w' => e = .returned (.pointer (some ⟨w.heap.size + 1, 0, none⟩)) ∧ w' = (w.alloc (.map #[] 0)).alloc (.cells #[.map (some w.heap.size), .pointer none, .pointer none] 215) := by
 have hmm := @run_makeMap Tryz.prog
 go_enter Tryz.func129, Tryz.ntmps129
 go_wp2
 go_ret
 exact ⟨by simp, rfl⟩
set_option maxRecDepth 100000 in
set_option maxHeartbeats 800000 in
theorem newNode_any (w : World) : Calls Tryz.prog 133 #[] w fun e w' => e = .returned (.pointer (some ⟨w.heap.size + 1, 0, none⟩)) ∧ w' = (w.alloc (.map #[] 0)).alloc (.cells #[.pointer none, .map (some w.heap.size)] 219) := by
 have hmm := @run_makeMap Tryz.prog
 go_enter Tryz.func133, Tryz.ntmps133
 go_wp2
 go_ret
 exact ⟨by simp, rfl⟩
/-- The cells of a list of interest, its lock free. -/
def gslCells (root : Nat) (n : Int) : Array Value := #[.int .i32 0, .int .u32 0, .int .u32 0, .int .u32 0, .int .i32 0, .int .i32 0, .pointer (some ⟨root, 0, none⟩), .int .u32 n]
set_option maxRecDepth 100000 in
set_option maxHeartbeats 800000 in
theorem newSublist_any (w : World) : Calls Tryz.prog 94 #[] w fun e w' => e = .returned (.pointer (some ⟨w.heap.size + 2, 0, none⟩)) ∧
  w' = ((w.alloc (.map #[] 0)).alloc (.cells #[.map (some w.heap.size), .pointer none, .pointer none] 215)).alloc (.cells (gslCells (w.heap.size + 1) 0) 178) := by
 go_enter Tryz.func94, Tryz.ntmps94
 go_wp2_with fail
 refine (newLevel_any w).mono ?_
 rintro e w1 ⟨rfl, rfl⟩
 go_wp2
 go_ret
 exact ⟨by simp, rfl⟩
end Go.Proofs.YtehlmjecbljafaaGreatDoor
namespace Go.Proofs.YtehlmjecbljafaaGreatDoor
open Go Go.RowKit
abbrev Path := List (List UInt8)
/-- Which paths are there, where their levels, maps, nodes and entries lie, and how many entries there are. -/
structure Trie where
 N : Path → Prop
 aL : Path → Nat
 aM : Path → Nat
 aN : Path → Nat
 aS : Path → Nat
 V : Path → Nat
open Classical in
noncomputable def Trie.ptr (T : Trie) (q : Path) : Value := if T.N q then .pointer (some ⟨T.aN q, 0, none⟩) else .pointer none
theorem Trie.ptr_yes {T : Trie} {q : Path} (h : T.N q) : T.ptr q = .pointer (some ⟨T.aN q, 0, none⟩) := by unfold Trie.ptr; rw [if_pos h]
theorem Trie.ptr_no {T : Trie} {q : Path} (h : ¬ T.N q) : T.ptr q = .pointer none := by unfold Trie.ptr; rw [if_neg h]
structure TrieOK (T : Trie) (F : Nat → Prop) (n : Nat) (w : World) : Prop where
 root : T.N []
 pref : ∀ p t, T.N (p ++ [t]) → T.N p
 lev : ∀ p, T.N p → w.heap[T.aL p]? = some (.cells #[.map (some (T.aM p)), T.ptr (p ++ [[42]]), T.ptr (p ++ [[62]])] 215 (0, 0))
 map : ∀ p, T.N p → ∃ f, MapS w (T.aM p) n (.pointer none) f ∧ ∀ t, t ≠ [42] → t ≠ [62] → f t = T.ptr (p ++ [t])
 nod : ∀ p t, T.N (p ++ [t]) → w.heap[T.aN (p ++ [t])]? = some (.cells #[.pointer (some ⟨T.aL (p ++ [t]), 0, none⟩), .map (some (T.aS (p ++ [t])))] 219 (0, 0))
 sub : ∀ p t, T.N (p ++ [t]) → MapN w (T.aS (p ++ [t])) n (T.V (p ++ [t]))
 injL : ∀ p q, T.N p → T.N q → T.aL p = T.aL q → p = q
 injM : ∀ p q, T.N p → T.N q → T.aM p = T.aM q → p = q
 injS : ∀ p q, T.N p → T.N q → p ≠ [] → q ≠ [] → T.aS p = T.aS q → p = q
 injMS : ∀ p q, T.N p → T.N q → q ≠ [] → T.aM p ≠ T.aS q
 fL : ∀ p, T.N p → F (T.aL p)
 fM : ∀ p, T.N p → F (T.aM p)
 fN : ∀ p t, T.N (p ++ [t]) → F (T.aN (p ++ [t]))
 fS : ∀ p t, T.N (p ++ [t]) → F (T.aS (p ++ [t]))
theorem MapS.more {w : World} {b n n' : Nat} {z : Value} {f : List UInt8 → Value} (h : MapS w b n z f) (hn : n ≤ n') : MapS w b n' z f := by obtain ⟨D, h1, h2⟩ := h; exact ⟨D, h1.mono hn, h2⟩
theorem MapN.more {w : World} {b n n' m : Nat} (h : MapN w b n m) (hn : n ≤ n') : MapN w b n' m := by obtain ⟨D, h1, h2⟩ := h; exact ⟨D, h1.mono hn, h2⟩
theorem TrieOK.keep {T : Trie} {F : Nat → Prop} {n : Nat} {w w' : World} (h : TrieOK T F n w) (hk : ∀ k, F k → w'.heap[k]? = w.heap[k]?) : TrieOK T F n w' :=
 { h with
  lev := fun p hp => (hk _ (h.fL p hp)).trans (h.lev p hp)
  map := fun p hp => by obtain ⟨f, h1, h2⟩ := h.map p hp; exact ⟨f, h1.keep (hk _ (h.fM p hp)), h2⟩
  nod := fun p t hp => (hk _ (h.fN p t hp)).trans (h.nod p t hp)
  sub := fun p t hp => (h.sub p t hp).keep (hk _ (h.fS p t hp)) }
theorem snoc_inj {p q : Path} {t u : List UInt8} (h : p ++ [t] = q ++ [u]) : p = q ∧ t = u := by
 have := List.append_inj' h rfl
 exact ⟨this.1, by simpa using this.2⟩
theorem snoc_of {q : Path} (h : q ≠ []) : ∃ p t, q = p ++ [t] := ⟨q.dropLast, q.getLast h, (List.dropLast_concat_getLast h).symm⟩
theorem snoc_ne (p : Path) (t : List UInt8) : p ++ [t] ≠ [] := by simp
theorem cells_ne {w : World} {a b : Nat} {cs cs' : Array Value} {t t' : TypeId} (ha : w.heap[a]? = some (.cells cs t (0, 0))) (hb : w.heap[b]? = some (.cells cs' t' (0, 0))) (ht : t ≠ t') : a ≠ b := by
 rintro rfl; rw [ha] at hb; cases hb; exact ht rfl
theorem MapS.ne {w : World} {a b n : Nat} {z : Value} {f : List UInt8 → Value} {cs : Array Value} {t : TypeId} (ha : MapS w a n z f) (hb : w.heap[b]? = some (.cells cs t (0, 0))) : a ≠ b := by
 rintro rfl; obtain ⟨D, ⟨es, c, h, -⟩, -⟩ := ha; rw [hb] at h; cases h
theorem MapN.ne {w : World} {a b n m : Nat} {cs : Array Value} {t : TypeId} (ha : MapN w a n m) (hb : w.heap[b]? = some (.cells cs t (0, 0))) : a ≠ b := by
 rintro rfl; obtain ⟨D, ⟨es, c, h, -⟩, -⟩ := ha; rw [hb] at h; cases h
open Classical in
/-- One path more. -/
noncomputable def Trie.add (T : Trie) (q : Path) (l m a s : Nat) : Trie where
 N := fun x => T.N x ∨ x = q
 aL := fun x => if x = q then l else T.aL x
 aM := fun x => if x = q then m else T.aM x
 aN := fun x => if x = q then a else T.aN x
 aS := fun x => if x = q then s else T.aS x
 V := fun x => if x = q then 0 else T.V x
theorem TrieOK.grow {T : Trie} {F : Nat → Prop} {n : Nat} {w w' : World} {p : Path} {t : List UInt8} {l m a s : Nat} (h : TrieOK T F n w) (hp : T.N p) (hnew : ¬ T.N (p ++ [t]))
  (hF : ∀ k, F k → k < w.heap.size) (hl : w.heap.size ≤ l) (hm : w.heap.size ≤ m) (_ha : w.heap.size ≤ a) (hs : w.heap.size ≤ s) (hms : m ≠ s)
  (hlev : w'.heap[T.aL p]? = some (.cells #[.map (some (T.aM p)), if t = [42] then .pointer (some ⟨a, 0, none⟩) else T.ptr (p ++ [[42]]), if t = [62] then .pointer (some ⟨a, 0, none⟩) else T.ptr (p ++ [[62]])] 215 (0, 0)))
  (hmap : ∃ f, MapS w' (T.aM p) (n + 1) (.pointer none) f ∧ ∀ u, u ≠ [42] → u ≠ [62] → f u = if u = t then .pointer (some ⟨a, 0, none⟩) else T.ptr (p ++ [u]))
  (hnod : w'.heap[a]? = some (.cells #[.pointer (some ⟨l, 0, none⟩), .map (some s)] 219 (0, 0))) (hsub : MapN w' s (n + 1) 0)
  (hL : w'.heap[l]? = some (.cells #[.map (some m), .pointer none, .pointer none] 215 (0, 0))) (hM : MapS w' m (n + 1) (.pointer none) (fun _ => .pointer none))
  (keep : ∀ k, F k → k ≠ T.aL p → k ≠ T.aM p → w'.heap[k]? = w.heap[k]?) :
  TrieOK (T.add (p ++ [t]) l m a s) (fun k => F k ∨ k = l ∨ k = m ∨ k = a ∨ k = s) (n + 1) w' := by
 have kid : ∀ u, ¬ T.N (p ++ [t] ++ [u]) := fun u hu => hnew (h.pref _ _ hu)
 have ne0 : ∀ x, T.N x → x ≠ p ++ [t] := fun x hx e => hnew (e ▸ hx)
 have ptrO : ∀ q : Path, q ≠ p ++ [t] → (T.add (p ++ [t]) l m a s).ptr q = T.ptr q := by
  intro q hq
  by_cases hN : T.N q
  ·rw [Trie.ptr_yes hN, Trie.ptr_yes (T := T.add (p ++ [t]) l m a s) (.inl hN)]
   simp only [Trie.add, if_neg hq]
  ·rw [Trie.ptr_no hN, Trie.ptr_no (T := T.add (p ++ [t]) l m a s) (by rintro (h | h); exact hN h; exact hq h)]
 have ptrN : (T.add (p ++ [t]) l m a s).ptr (p ++ [t]) = .pointer (some ⟨a, 0, none⟩) := by
  rw [Trie.ptr_yes (T := T.add (p ++ [t]) l m a s) (.inr rfl)]
  simp [Trie.add]
 have ptrK : ∀ u, (T.add (p ++ [t]) l m a s).ptr (p ++ [t] ++ [u]) = .pointer none := by
  intro u
  rw [ptrO _ (fun e => by have := congrArg List.length e; simp at this), Trie.ptr_no (kid u)]
 have kL : ∀ q, T.N q → q ≠ p → w'.heap[T.aL q]? = w.heap[T.aL q]? := fun q hq hne => keep _ (h.fL q hq) (fun e => hne (h.injL q p hq hp e)) (by
  obtain ⟨f, h1, -⟩ := h.map p hp
  exact (h1.ne (h.lev q hq)).symm)
 have kM : ∀ q, T.N q → q ≠ p → w'.heap[T.aM q]? = w.heap[T.aM q]? := fun q hq hne => keep _ (h.fM q hq) (by
  obtain ⟨f, h1, -⟩ := h.map q hq
  exact h1.ne (h.lev p hp)) (fun e => hne (h.injM q p hq hp e))
 have kN : ∀ q u, T.N (q ++ [u]) → w'.heap[T.aN (q ++ [u])]? = w.heap[T.aN (q ++ [u])]? := fun q u hq => keep _ (h.fN q u hq) (cells_ne (h.nod q u hq) (h.lev p hp) (by decide)) (by
  obtain ⟨f, h1, -⟩ := h.map p hp
  exact (h1.ne (h.nod q u hq)).symm)
 have kS : ∀ q u, T.N (q ++ [u]) → w'.heap[T.aS (q ++ [u])]? = w.heap[T.aS (q ++ [u])]? := fun q u hq => keep _ (h.fS q u hq) ((h.sub q u hq).ne (h.lev p hp)) (fun e => h.injMS p _ hp hq (snoc_ne _ _) e.symm)
 have old : ∀ q, T.N q → (T.add (p ++ [t]) l m a s).aL q = T.aL q ∧ (T.add (p ++ [t]) l m a s).aM q = T.aM q ∧ (T.add (p ++ [t]) l m a s).aN q = T.aN q ∧ (T.add (p ++ [t]) l m a s).aS q = T.aS q ∧ (T.add (p ++ [t]) l m a s).V q = T.V q := by
  intro q hq
  simp only [Trie.add, if_neg (ne0 q hq), and_self]
 have new : (T.add (p ++ [t]) l m a s).aL (p ++ [t]) = l ∧ (T.add (p ++ [t]) l m a s).aM (p ++ [t]) = m ∧ (T.add (p ++ [t]) l m a s).aN (p ++ [t]) = a ∧ (T.add (p ++ [t]) l m a s).aS (p ++ [t]) = s ∧ (T.add (p ++ [t]) l m a s).V (p ++ [t]) = 0 := by
  simp [Trie.add]
 have hpne : p ≠ p ++ [t] := fun e => by have := congrArg List.length e; simp at this
 refine ⟨.inl h.root, ?_, ?_, ?_, ?_, ?_, ?_, ?_, ?_, ?_, ?_, ?_, ?_, ?_⟩
 ·rintro q u (hq | hq)
  ·exact .inl (h.pref q u hq)
  ·obtain ⟨rfl, rfl⟩ := snoc_inj hq; exact .inl hp
 ·rintro q (hq | rfl)
  ·obtain ⟨o1, o2, -⟩ := old q hq
   rw [o1, o2]
   by_cases hqp : q = p
   ·subst hqp
    have e42 : (if t = [42] then Value.pointer (some ⟨a, 0, none⟩) else T.ptr (q ++ [[42]])) = (T.add (q ++ [t]) l m a s).ptr (q ++ [[42]]) := by
     by_cases ht : t = [42]
     ·subst ht; rw [if_pos rfl, ptrN]
     ·rw [if_neg ht, ptrO _ (fun e => ht (snoc_inj e).2.symm)]
    have e62 : (if t = [62] then Value.pointer (some ⟨a, 0, none⟩) else T.ptr (q ++ [[62]])) = (T.add (q ++ [t]) l m a s).ptr (q ++ [[62]]) := by
     by_cases ht : t = [62]
     ·subst ht; rw [if_pos rfl, ptrN]
     ·rw [if_neg ht, ptrO _ (fun e => ht (snoc_inj e).2.symm)]
    rw [hlev, e42, e62]
   ·rw [kL q hq hqp, h.lev q hq, ptrO _ (fun e => hqp (snoc_inj e).1), ptrO _ (fun e => hqp (snoc_inj e).1)]
  ·rw [new.1, new.2.1, ptrK, ptrK]; exact hL
 ·rintro q (hq | rfl)
  ·obtain ⟨-, o2, -⟩ := old q hq
   rw [o2]
   by_cases hqp : q = p
   ·subst hqp
    obtain ⟨f, h1, h2⟩ := hmap
    refine ⟨f, h1, fun u u1 u2 => ?_⟩
    rw [h2 u u1 u2]
    by_cases hut : u = t
    ·subst hut; rw [if_pos rfl, ptrN]
    ·rw [if_neg hut, ptrO _ (fun e => hut (snoc_inj e).2)]
   ·obtain ⟨f, h1, h2⟩ := h.map q hq
    refine ⟨f, (h1.keep (kM q hq hqp)).more (by omega), fun u u1 u2 => ?_⟩
    rw [h2 u u1 u2, ptrO _ (fun e => hqp (snoc_inj e).1)]
  ·rw [new.2.1]
   exact ⟨_, hM, fun u _ _ => (ptrK u).symm⟩
 ·rintro q u (hq | hq)
  ·obtain ⟨o1, -, o3, o4, -⟩ := old _ hq
   rw [o1, o3, o4, kN q u hq]; exact h.nod q u hq
  ·rw [hq, new.1, new.2.2.1, new.2.2.2.1]; exact hnod
 ·rintro q u (hq | hq)
  ·obtain ⟨-, -, -, o4, o5⟩ := old _ hq
   rw [o4, o5]
   exact ((h.sub q u hq).keep (kS q u hq)).more (by omega)
  ·rw [hq, new.2.2.2.1, new.2.2.2.2]; exact hsub
 ·rintro q r (hq | rfl) (hr | rfl) e
  ·rw [(old q hq).1, (old r hr).1] at e; exact h.injL q r hq hr e
  ·rw [(old q hq).1, new.1] at e; have := hF _ (h.fL q hq); omega
  ·rw [new.1, (old r hr).1] at e; have := hF _ (h.fL r hr); omega
  ·rfl
 ·rintro q r (hq | rfl) (hr | rfl) e
  ·rw [(old q hq).2.1, (old r hr).2.1] at e; exact h.injM q r hq hr e
  ·rw [(old q hq).2.1, new.2.1] at e; have := hF _ (h.fM q hq); omega
  ·rw [new.2.1, (old r hr).2.1] at e; have := hF _ (h.fM r hr); omega
  ·rfl
 ·rintro q r (hq | rfl) (hr | rfl) q0 r0 e
  ·rw [(old q hq).2.2.2.1, (old r hr).2.2.2.1] at e; exact h.injS q r hq hr q0 r0 e
  ·rw [(old q hq).2.2.2.1, new.2.2.2.1] at e
   obtain ⟨q', u, rfl⟩ := snoc_of q0
   have := hF _ (h.fS q' u hq); omega
  ·rw [new.2.2.2.1, (old r hr).2.2.2.1] at e
   obtain ⟨r', u, rfl⟩ := snoc_of r0
   have := hF _ (h.fS r' u hr); omega
  ·rfl
 ·rintro q r (hq | rfl) (hr | rfl) r0 e
  ·rw [(old q hq).2.1, (old r hr).2.2.2.1] at e; exact h.injMS q r hq hr r0 e
  ·rw [(old q hq).2.1, new.2.2.2.1] at e
   have := hF _ (h.fM q hq); omega
  ·rw [new.2.1, (old r hr).2.2.2.1] at e
   obtain ⟨r', u, rfl⟩ := snoc_of r0
   have := hF _ (h.fS r' u hr); omega
  ·rw [new.2.1, new.2.2.2.1] at e; exact hms e
 ·rintro q (hq | rfl)
  ·rw [(old q hq).1]; exact .inl (h.fL q hq)
  ·rw [new.1]; exact .inr (.inl rfl)
 ·rintro q (hq | rfl)
  ·rw [(old q hq).2.1]; exact .inl (h.fM q hq)
  ·rw [new.2.1]; exact .inr (.inr (.inl rfl))
 ·rintro q u (hq | hq)
  ·rw [(old _ hq).2.2.1]; exact .inl (h.fN q u hq)
  ·rw [hq, new.2.2.1]; exact .inr (.inr (.inr (.inl rfl)))
 ·rintro q u (hq | hq)
  ·rw [(old _ hq).2.2.2.1]; exact .inl (h.fS q u hq)
  ·rw [hq, new.2.2.2.1]; exact .inr (.inr (.inr (.inr rfl)))
/-- Entries at a path. -/
noncomputable def Trie.fill (T : Trie) (q : Path) (m : Nat) : Trie := { T with V := open Classical in fun x => if x = q then m else T.V x }
theorem TrieOK.fill {T : Trie} {F : Nat → Prop} {n m : Nat} {w w' : World} {q : Path} (h : TrieOK T F n w) (hq : T.N q) (q0 : q ≠ []) (hs : MapN w' (T.aS q) (n + 1) m) (keep : ∀ k, F k → k ≠ T.aS q → w'.heap[k]? = w.heap[k]?) :
  TrieOK (T.fill q m) F (n + 1) w' := by
 have hp : ∀ x, (T.fill q m).ptr x = T.ptr x := fun x => rfl
 obtain ⟨q', u', rfl⟩ := snoc_of q0
 refine { root := h.root, pref := h.pref, lev := fun p hN => ?_, map := fun p hN => ?_, nod := fun p t hN => ?_, sub := fun p t hN => ?_, injL := h.injL, injM := h.injM, injS := h.injS, injMS := h.injMS, fL := h.fL, fM := h.fM, fN := h.fN, fS := h.fS }
 ·rw [hp, hp]
  exact (keep _ (h.fL p hN) ((h.sub q' u' hq).ne (h.lev p hN)).symm).trans (h.lev p hN)
 ·obtain ⟨f, h1, h2⟩ := h.map p hN
  exact ⟨f, (h1.keep (keep _ (h.fM p hN) (h.injMS p _ hN hq q0))).more (by omega), fun t t1 t2 => (h2 t t1 t2).trans (hp _).symm⟩
 ·exact (keep _ (h.fN p t hN) ((h.sub q' u' hq).ne (h.nod p t hN)).symm).trans (h.nod p t hN)
 ·by_cases e : p ++ [t] = q' ++ [u']
  ·show MapN w' (T.aS (p ++ [t])) (n + 1) (if p ++ [t] = q' ++ [u'] then m else T.V (p ++ [t]))
   rw [if_pos e, e]; exact hs
  ·show MapN w' (T.aS (p ++ [t])) (n + 1) (if p ++ [t] = q' ++ [u'] then m else T.V (p ++ [t]))
   rw [if_neg e]
   exact ((h.sub p t hN).keep (keep _ (h.fS p t hN) (fun x => e (h.injS _ _ hN hq (snoc_ne _ _) q0 x)))).more (by omega)
end Go.Proofs.YtehlmjecbljafaaGreatDoor
namespace Go.Proofs.YtehlmjecbljafaaGreatDoor
open Go Go.RowKit
/-- Tokens, each with a dot behind it. -/
def dots (l : List (List UInt8)) : List UInt8 := l.flatMap fun t => t ++ [46]
theorem joinD_one (t : List UInt8) : joinD [t] = t := rfl
theorem dots_snoc (l : List (List UInt8)) (t : List UInt8) : dots (l ++ [t]) = dots l ++ t ++ [46] := by simp [dots]
theorem splitDot_none : ∀ t : List UInt8, 46 ∉ t → splitDot t = [t]
 | [], _ => rfl
 | c :: r, h => by
  have hc : c ≠ 46 := fun e => h (by simp [e])
  have ih := splitDot_none r (fun hm => h (by simp [hm]))
  unfold splitDot
  rw [if_neg hc, ih]
theorem splitDot_dot : ∀ (t r : List UInt8), 46 ∉ t → splitDot (t ++ 46 :: r) = t :: splitDot r
 | [], r, _ => by
  rw [List.nil_append]
  conv => lhs; unfold splitDot
  rw [if_pos rfl]
 | c :: t, r, h => by
  have hc : c ≠ 46 := fun e => h (by simp [e])
  have ih := splitDot_dot t r (fun hm => h (by simp [hm]))
  rw [List.cons_append]
  conv => lhs; unfold splitDot
  rw [if_neg hc, ih]
theorem map_mk_bs (l : List (List UInt8)) : (l.map mk).map bs = l := by
 rw [List.map_map]
 conv => rhs; rw [← List.map_id l]
 apply List.map_congr_left
 intro t _
 exact bs_mk t
theorem splitDot_nodot {l t : List UInt8} (h : t ∈ splitDot l) : 46 ∉ t := by
 induction l generalizing t with
 | nil => simp [splitDot] at h; subst h; simp
 | cons c r ih =>
  unfold splitDot at h
  split at h
  ·rcases List.mem_cons.1 h with rfl | h
   ·simp
   ·exact ih h
  ·rename_i hc
   split at h
   ·rename_i u us e
    rcases List.mem_cons.1 h with rfl | h
    ·have := ih (t := u) (by rw [e]; simp)
     simp only [List.mem_cons, not_or]
     exact ⟨fun e => hc e.symm, this⟩
    ·exact ih (t := t) (by rw [e]; simp [h])
   ·simp at h; subst h; simp only [List.mem_cons, List.not_mem_nil, or_false]; exact fun e => hc e.symm
theorem toks_pos (s : ByteArray) : 0 < (toks s).length := by
 unfold toks; rw [List.length_map]; exact List.length_pos_iff.2 (splitDot_ne _)
end Go.Proofs.YtehlmjecbljafaaGreatDoor
