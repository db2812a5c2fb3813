/- A subject tree of one leaf: how it is made. A subject tree of one leaf: made by deeds. -/
import Derived.Test.YtehlmjecbljafaaGreatDoorR7
import Derived.Test.YtehlmjecbljafaaGreatDoorR10
import Derived.WalkSpells
namespace Go.Proofs.YtehlmjecbljafaaGreatDoor
open Go Go.RowKit
set_option maxRecDepth 100000 in
set_option maxHeartbeats 800000 in
theorem newLeaf_any (v : Value) (l : List UInt8) (n : Int) (w : World) (hv : Sl w 1 v l.length (u8s l)) :
  Calls Tryz.prog 199 #[v, .int .i64 n] w fun e w' => e = .returned (.pointer (some ⟨w.heap.size, 0, none⟩)) ∧ w' = w.alloc (.cells #[.int .i64 n, .string (mk l)] 199) := by
 obtain ⟨a, cap, rfl⟩ := hv.form
 have hc := conv_text hv
 clear hv
 go_enter Tryz.func199, Tryz.ntmps199
 go_wp2
 go_ret
 exact ⟨rfl, rfl⟩
/-- A pointer to a number, or none. -/
def OldP (w : World) (v : Value) : Prop := v = .pointer none ∨ ∃ b o x, v = .pointer (some ⟨b, o, none⟩) ∧ w.cell? ⟨b, o, none⟩ = some (.int .i64 x)
set_option maxRecDepth 100000 in
set_option maxHeartbeats 800000 in
theorem told_any (v : Value) (b : Bool) (w : World) (hv : OldP w v) :
  Calls Tryz.prog 110 #[v, .bool b] w fun e w' => (∃ x, e = .returned (.agg #[.bool b, .int .i64 x])) ∧ Below w.heap.size w w' := by
 rcases hv with rfl | ⟨b', o, x, rfl, hc⟩
 ·go_enter Tryz.func110, Tryz.ntmps110
  go_wp2
  refine bodyPost_ret (results_cell_row rfl _ _ w.heap.size 150 _ (0, 0) _ rfl (heap_alloc_new w _) Tryz.underlying150 rfl (by kernel_rfl)) rfl ?_
  exact ⟨⟨0, rfl⟩, (Below.refl _ w).alloc (Nat.le_refl _) _⟩
 ·have hlt := World.block_lt_of_cell? _ _ hc
  go_enter Tryz.func110, Tryz.ntmps110
  go_wp2
  refine bodyPost_ret (results_cell_row rfl _ _ w.heap.size 150 _ (0, 0) _ rfl (heap_alloc_new w _) Tryz.underlying150 rfl (by kernel_rfl)) rfl ?_
  exact ⟨⟨x, rfl⟩, (Below.refl _ w).alloc (Nat.le_refl _) _⟩
set_option maxRecDepth 100000 in
set_option maxHeartbeats 1600000 in
/-- The first leaf. -/
theorem insertNil_any (t v : Value) (l : List UInt8) (n : Int) (b o : Nat) (w : World) (hr : w.cell? ⟨b, o, none⟩ = some .nilIface) (hf : w.frozen? ⟨b, o, none⟩ = false) (hv : Sl w 1 v l.length (u8s l)) :
  Calls Tryz.prog 157 #[t, .pointer (some ⟨b, o, none⟩), v, .int .i64 n, .int .i64 0] w fun e w' => e = .returned (.tuple #[.pointer none, .bool false]) ∧
   w' = (w.setCell ⟨b, o, none⟩ (.iface 197 (.pointer (some ⟨w.heap.size, 0, none⟩)))).alloc (.cells #[.int .i64 n, .string (mk l)] 199) := by
 have hlt := World.block_lt_of_cell? _ _ hr
 go_enter Tryz.func157, Tryz.ntmps157
 go_wp2_with fail
 refine (newLeaf_any _ l n _ hv).mono ?_
 rintro e w1 ⟨rfl, rfl⟩
 have hr' := cell_alloc (.cells #[.int .i64 n, .string (mk l)] 199) hr
 have hf' : (w.alloc (.cells #[.int .i64 n, .string (mk l)] 199)).frozen? ⟨b, o, none⟩ = false := by
  rw [← hf]; unfold World.frozen?; rw [((Below.refl _ w).alloc (Nat.le_refl _) _).block b hlt]
 go_wp2
 go_ret2
 exact ⟨rfl, rfl⟩
/-- A tree of one leaf lies in blocks b and L. -/
structure OneLeaf (w : World) (b L : Nat) (n : Int) (l : List UInt8) : Prop where
 tree : w.heap[b]? = some (.cells #[.iface 197 (.pointer (some ⟨L, 0, none⟩)), .int .i64 1] 139 (0, 0))
 leaf : w.heap[L]? = some (.cells #[.int .i64 n, .string (mk l)] 199 (0, 0))
set_option maxRecDepth 100000 in
set_option maxHeartbeats 1600000 in
theorem insertOne_any (v : Value) (l : List UInt8) (n : Int) (b : Nat) (w : World) (hr : w.heap[b]? = some (.cells #[.nilIface, .int .i64 0] 139 (0, 0))) (hv : Sl w 1 v l.length (u8s l)) (h127 : 127 ∉ l) (hl0 : l ≠ []) :
  Calls Tryz.prog 109 #[.pointer (some ⟨b, 0, none⟩), v, .int .i64 n] w fun e w' => e = .returned (.tuple #[.pointer none, .bool false]) ∧ OneLeaf w' b w.heap.size n l ∧ Only (· = b) w w' := by
 obtain ⟨a, cap, rfl⟩ := hv.form
 obtain ⟨bb, oo, rfl, hb⟩ := slBytes hv hl0
 have hc0 := (cell_row (j := 0) hr).trans (show _ = some Value.nilIface from rfl)
 have hc1 := (cell_row (j := 1) hr).trans (show _ = some (Value.int .i64 0) from rfl)
 have hf := frozen_row (j := 0) hr
 have hf1 := frozen_row (j := 1) hr
 have hlt := World.block_lt_of_cell? _ _ hc0
 have hix := Tryz.bytes_IndexByte bb oo l.length cap (l.map fun c => (c.toNat : Int)) 127 w (by simp) fun i hi => by
  rw [hb i _ (List.getElem?_eq_getElem hi)]
  simp [List.getD, List.getElem?_eq_getElem hi]
 have hno : Lib.indexByte (Lib.bytesOf (l.map fun c => (c.toNat : Int))) ((127 : Int).toNat.toUInt8) = -1 := by
  have e : Lib.bytesOf (l.map fun c => (c.toNat : Int)) = l := by simp [Lib.bytesOf, Function.comp_def]
  rw [e]; exact indexByte_no h127
 rw [hno] at hix
 have hin := insertNil_any (.pointer (some ⟨b, 0, none⟩)) _ l n b 0 w hc0 hf hv
 have HV := Lib.hid hv; clear hv
 go_enter Tryz.func109, Tryz.ntmps109
 go_wp2_with fail
 refine hix.mono ?_
 rintro e w2 ⟨rfl, rfl⟩
 go_wp2_with fail
 refine hin.mono ?_
 rintro e w3 ⟨rfl, rfl⟩
 go_wp2
 go_ret2
 have hs0 := heap_setCell_same w2 b 0 _ 139 (.iface 197 (.pointer (some ⟨w2.heap.size, 0, none⟩))) hr
 have hs1 := heap_setCell_same (w2.setCell ⟨b, 0, none⟩ (.iface 197 (.pointer (some ⟨w2.heap.size, 0, none⟩)))) b 1 _ 139 (.int .i64 1) hs0
 have hz : ((w2.setCell ⟨b, 0, none⟩ (.iface 197 (.pointer (some ⟨w2.heap.size, 0, none⟩)))).setCell ⟨b, 1, none⟩ (.int .i64 1)).heap.size = w2.heap.size := by rw [size_setCell, size_setCell]
 refine ⟨rfl, ⟨?_, ?_⟩, ?_⟩
 ·rw [((Below.refl _ _).alloc (Nat.le_refl _) _).block b (by rw [hz]; exact hlt), hs1]; rfl
 ·have := heap_alloc_new ((w2.setCell ⟨b, 0, none⟩ (.iface 197 (.pointer (some ⟨w2.heap.size, 0, none⟩)))).setCell ⟨b, 1, none⟩ (.int .i64 1)) (.cells #[.int .i64 n, .string (mk l)] 199)
  rw [hz] at this; exact this
 ·exact (((Only.refl (fun x => x = b) w2).set (.inl rfl) _).set (.inl rfl) _).alloc _
/-- What a tree is to whoever grows it: T k F: k deeds are done, its blocks are those of F. -/
structure TreeP (ds : List Deed) (b B : Nat) (T : Nat → (Nat → Prop) → World → Prop) : Prop where
 stable : ∀ k F w w', T k F w → (∀ x, F x → w'.heap[x]? = w.heap[x]?) → T k F w'
 range : ∀ k F w, T k F w → ∀ x, F x → B ≤ x ∧ x < w.heap.size
 ins : ∀ (k : Nat) (d : Deed) F w v, ds[k]? = some d → T k F w → Sl w 1 v d.subj.size (u8s (bs d.subj)) → Calls Tryz.prog 109 #[.pointer (some ⟨b, 0, none⟩), v, .int .i64 d.val] w fun e w' =>
  ∃ o u F', e = .returned (.tuple #[o, .bool u]) ∧ OldP w' o ∧ T (k + 1) F' w' ∧ Only F w w' ∧ ∀ x, F' x → F x ∨ w.heap.size ≤ x
theorem et75 : ET Tryz.prog 75 150 2 16 (.agg #[.bool false, .int .i64 0]) := ⟨Tryz.underlying75, by kernel_rfl, rfl, by decide, by decide⟩
set_option maxRecDepth 100000 in
set_option maxHeartbeats 3200000 in
theorem grow_any (v : Value) (ds : List Deed) (T : Nat → (Nat → Prop) → World → Prop) (F0 : Nat → Prop) (w0 w : World) (hd : DeedsAt w0 v ds) (hop : ∀ d ∈ ds, d.op = 0 ∧ d.subj.size ≤ maxLen) (hn : ds.length ≤ 274877906944)
  (hP : TreeP ds w0.heap.size w0.heap.size T) (h0 : T 0 F0 w) (hb0 : Below w0.heap.size w0 w) :
  Calls Tryz.prog 78 #[.pointer (some ⟨w0.heap.size, 0, none⟩), v] w fun e w' => ∃ u xs F, e = .returned u ∧ T ds.length F w' ∧ Own w' w0.heap.size 2 u ds.length xs ∧ Below w0.heap.size w0 w' := by
 obtain ⟨a, cap, rfl⟩ := Sl.form hd
 generalize hN : w0.heap.size = N at *
 have HD := Lib.hid hd; clear hd
 have HP := Lib.hid hP; clear hP
 have HO := Lib.hid hop; clear hop
 have hcv := fun (w : World) (s : ByteArray) => conv_bytes w s
 go_enter Tryz.func78, Tryz.ntmps78
 go_wp2
 go_loopw [5, 6] (fun o i wr => ∃ (k : Nat) (xs : List Value) (F : Nat → Prop), k ≤ ds.length ∧ i = .int .i64 k ∧ Own wr N 2 o k xs ∧ T k F wr ∧ (∀ x, o.ownBlock = some x → ¬ F x) ∧ Below N w0 wr) (fun _ i _ => ds.length - (intOf i).toNat)
 case atStart => exact ⟨0, [], F0, Nat.zero_le _, rfl, Own.nil _ _ _, h0, (fun x hx => by cases hx), hb0⟩
 case round =>
  obtain ⟨k, xs, F, hk, rfl, hown, hT, hF, hb⟩ := hrel
  obtain ⟨oa, oc, rfl, -⟩ := hown.form
  by_cases hlt : k < ds.length
  ·obtain ⟨bd, od, d, rfl, Hd, c0, c1, c2⟩ := HD.out.at' (by rw [hN]; exact hb) hlt
   have hlb := World.block_lt_of_cell? _ _ c0
   obtain ⟨e0, esz⟩ := HO.out d (List.mem_of_getElem? Hd.out)
   rw [e0] at c0
   have c2' := cell_bel (a := ⟨wr.heap.size, 2, none⟩) (x := .int .i64 d.val) ((cell_row (heap_alloc_new wr (.cells #[.int .i64 0, .string d.subj, .int .i64 d.val] 39))).trans rfl) (bytesWorld_below (wr.alloc (.cells #[.int .i64 0, .string d.subj, .int .i64 d.val] 39)) d.subj)
   go_wp2_with fail
   have hW := bel2 ((Below.refl wr.heap.size wr).alloc (Nat.le_refl _) (.cells #[.int .i64 0, .string d.subj, .int .i64 d.val] 39)) (bytesWorld_below (wr.alloc (.cells #[.int .i64 0, .string d.subj, .int .i64 d.val] 39)) d.subj)
   have hsl := conv_sl (wr.alloc (.cells #[.int .i64 0, .string d.subj, .int .i64 d.val] 39)) d.subj esz
   rw [show (wr.alloc (.cells #[.int .i64 0, .string d.subj, .int .i64 d.val] 39)).heap.size = wr.heap.size + 1 by simp] at hsl
   have hrg := HP.out.range k F wr hT
   have hT1 := HP.out.stable k F wr (Lib.bytesWorld (wr.alloc (.cells #[.int .i64 0, .string d.subj, .int .i64 d.val] 39)) 5 d.subj) hT fun x hx => hW.block x (hrg x hx).2
   have hins := HP.out.ins k d F _ _ Hd.out hT1 hsl
   have hown1 := hown.keep hW
   have hsz0 : N ≤ wr.heap.size := by have := hb.size; omega
   have hb1 := hb.trans (hW.mono hsz0)
   have hsz1 := hW.size
   clear hsl hT1 c2' c0 c1 c2
   refine hins.mono ?_
   rintro e W2 ⟨o, u, F', rfl, hold, hT2, honly, hF2⟩
   have hrg2 := HP.out.range (k + 1) F' W2 hT2
   have hown2 := hown1.only honly hF
   have hF3 : ∀ x, Value.ownBlock (.slice oa k oc) = some x → ¬ F' x := fun x hx hf => by
    rcases hF2 x hf with h | h
    ·exact hF x hx h
    ·have := (hown1.lt x hx).2; omega
   have hb2 := hb1.trans (honly.below (fun x hx => (hrg x hx).1) (Nat.le_trans hsz0 hsz1))
   have hsz2 := honly.size
   have hsN : N ≤ W2.heap.size := by omega
   clear honly hins hb1 hown1 hW hsz1 hsz2 hrg hF2 hT hown hF
   go_wp2_with fail
   refine (told_any o u W2 hold).mono ?_
   rintro e W3 ⟨⟨x, rfl⟩, hb3⟩
   have hT3 := HP.out.stable (k + 1) F' W2 W3 hT2 fun x hx => hb3.block x (hrg2 x hx).2
   have hown3 := hown2.keep hb3
   have hb4 := hb2.trans (hb3.mono hsN)
   have hrg3 := HP.out.range (k + 1) F' W3 hT3
   have hsN3 : N ≤ W3.heap.size := Nat.le_trans hsN hb3.size
   clear hT2 hown2 hb2 hrg2 hold hb3 hsN
   go_wp2_with (at_builtin; go_must (refine wpList_appX et75 rfl _ _ rfl N F' (v := .slice oa k oc) (n := k) (xs := xs) (by rfl) hown3 hF3 (fun x hx => (hrg3 x hx).2) [.bool u, .int .i64 x] (by rfl) rfl (by simp [Value.oneCell']) (by omega) hsN3 ?_); intro v' w5 hown5 hF5 honly5)
   go_roundw
   case rel => exact ⟨k + 1, _, F', hlt, by go_num, hown5, HP.out.stable _ _ _ _ hT3 (fun x hx => honly5.block x (hrg3 x hx).2 fun h => hF3 x h hx), hF5, hb4.trans (honly5.below (fun x hx => (hown3.lt x hx).1) hsN3)⟩
   case measure => simp [intOf]; omega
  ·obtain rfl : k = ds.length := by omega
   go_wp2
   go_ret
   exact ⟨_, _, _, rfl, hT, hown, hb⟩
end Go.Proofs.YtehlmjecbljafaaGreatDoor
namespace Go.Proofs.YtehlmjecbljafaaGreatDoor
open Go Go.RowKit
set_option maxRecDepth 100000 in
set_option maxHeartbeats 800000 in
theorem newTree_any (w : World) : Calls Tryz.prog 77 #[] w fun e w' => e = .returned (.pointer (some ⟨w.heap.size, 0, none⟩)) ∧ w' = w.alloc (.cells #[.nilIface, .int .i64 0] 139) := by
 go_enter Tryz.func77, Tryz.ntmps77
 go_wp2
 go_ret
 exact ⟨rfl, rfl⟩
set_option maxRecDepth 100000 in
set_option maxHeartbeats 800000 in
theorem treeSize_any (b : Nat) (r : Value) (n : Int) (w : World) (h : w.heap[b]? = some (.cells #[r, .int .i64 n] 139 (0, 0))) :
  Calls Tryz.prog 79 #[.pointer (some ⟨b, 0, none⟩)] w fun e w' => e = .returned (.int .i64 n) ∧ w' = w := by
 have hc1 := (cell_row (j := 1) h).trans (show _ = some (Value.int .i64 n) from rfl)
 go_enter Tryz.func79, Tryz.ntmps79
 go_wp2
 go_ret
 exact ⟨rfl, rfl⟩
set_option maxRecDepth 100000 in
set_option maxHeartbeats 800000 in
theorem treeRun_any (v : Value) (ds : List Deed) (T : Nat → (Nat → Prop) → World → Prop) (w : World) (n : Int) (hd : DeedsAt w v ds) (hop : ∀ d ∈ ds, d.op = 0 ∧ d.subj.size ≤ maxLen) (hn : ds.length ≤ 274877906944)
  (hP : TreeP ds w.heap.size w.heap.size T) (h0 : T 0 (· = w.heap.size) (w.alloc (.cells #[.nilIface, .int .i64 0] 139)))
  (hT : ∀ F W, T ds.length F W → ∃ r, W.heap[w.heap.size]? = some (.cells #[r, .int .i64 n] 139 (0, 0))) :
  Calls Tryz.prog 43 #[v] w fun e w' => ∃ a c, e = .returned (.tuple #[.slice a ds.length c, .int .i64 n]) ∧ Below w.heap.size w w' := by
 have hg := grow_any v ds T _ w _ hd hop hn hP h0 ((Below.refl _ w).alloc (Nat.le_refl _) _)
 have HD := Lib.hid hd; clear hd
 go_enter Tryz.func43, Tryz.ntmps43
 go_wp2_with fail
 refine (newTree_any w).mono ?_
 rintro e w1 ⟨rfl, rfl⟩
 go_wp2_with fail
 refine hg.mono ?_
 rintro e w2 ⟨u, xs, F, rfl, hT2, ho, hb⟩
 obtain ⟨r, hr⟩ := hT F w2 hT2
 obtain ⟨a, c, rfl, -⟩ := ho.form
 go_wp2_with fail
 refine (treeSize_any _ r n w2 hr).mono ?_
 rintro e w3 ⟨rfl, rfl⟩
 go_wp2
 go_ret2
 exact ⟨a, c, rfl, hb⟩
/-- The tree of one deed, ahead of it and behind it. -/
def LeafT (b : Nat) (d : Deed) : Nat → (Nat → Prop) → World → Prop
 | 0, F, w => (∀ x, F x ↔ x = b) ∧ w.heap[b]? = some (.cells #[.nilIface, .int .i64 0] 139 (0, 0))
 | 1, F, w => ∃ L, b < L ∧ (∀ x, F x ↔ x = b ∨ x = L) ∧ OneLeaf w b L d.val (bs d.subj)
 | _, _, _ => False
theorem leaf_tree (b : Nat) (d : Deed) (h127 : 127 ∉ bs d.subj) (h0 : bs d.subj ≠ []) : TreeP [d] b b (LeafT b d) := by
 refine ⟨?_, ?_, ?_⟩
 ·intro k F w w' h hF
  match k, h with
  | 0, ⟨h1, h2⟩ => exact ⟨h1, by rw [hF b ((h1 b).2 rfl)]; exact h2⟩
  | 1, ⟨L, h1, h2, h3⟩ => exact ⟨L, h1, h2, ⟨by rw [hF b ((h2 b).2 (.inl rfl))]; exact h3.tree, by rw [hF L ((h2 L).2 (.inr rfl))]; exact h3.leaf⟩⟩
 ·intro k F w h x hx
  match k, h with
  | 0, ⟨h1, h2⟩ =>
   obtain rfl := (h1 x).1 hx
   exact ⟨Nat.le_refl _, (Array.getElem?_eq_some_iff.1 h2).1⟩
  | 1, ⟨L, h1, h2, h3⟩ =>
   rcases (h2 x).1 hx with rfl | rfl
   ·exact ⟨Nat.le_refl _, (Array.getElem?_eq_some_iff.1 h3.tree).1⟩
   ·exact ⟨by omega, (Array.getElem?_eq_some_iff.1 h3.leaf).1⟩
 ·intro k d' F w v hk h hv
  match k, h with
  | 0, ⟨h1, h2⟩ =>
   have e : d = d' := by simpa using hk
   subst e
   have hlt := (Array.getElem?_eq_some_iff.1 h2).1
   rw [← bs_len] at hv
   refine (insertOne_any v (bs d.subj) d.val b w h2 hv h127 h0).mono ?_
   rintro e w' ⟨rfl, h3, h4⟩
   exact ⟨_, _, fun x => x = b ∨ x = w.heap.size, rfl, .inl rfl, ⟨w.heap.size, hlt, fun x => Iff.rfl, h3⟩, h4.mono fun x hx => (h1 x).2 hx, fun x hx => hx.imp (h1 x).2 (fun e => by omega)⟩
  | k + 1, _ => simp at hk
end Go.Proofs.YtehlmjecbljafaaGreatDoor
