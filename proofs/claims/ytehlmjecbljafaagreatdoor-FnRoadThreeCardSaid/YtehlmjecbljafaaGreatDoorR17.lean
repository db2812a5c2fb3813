/- A subject tree's nodes of 48 kids; nodes grow. A subject tree's nodes grow; new nodes. Appending a text to a row of bytes with room. A subject tree's small functions: pivots, common beginnings, new nodes, leaves. A subject tree of one leaf: the match. -/
import Derived.Test.YtehlmjecbljafaaGreatDoorR7
import Derived.Test.YtehlmjecbljafaaGreatDoorR10
import Derived.Test.YtehlmjecbljafaaGreatDoorR14
import Derived.Test.YtehlmjecbljafaaGreatDoorR16
import Derived.Lib.AppendStr
namespace Go.Proofs.YtehlmjecbljafaaGreatDoor
open Go Go.RowKit
set_option maxRecDepth 100000 in
set_option maxHeartbeats 1600000 in
theorem addChild48 (b : Nat) (pre : List UInt8) (n : Nat) (key : Nat → UInt8) (kid : Nat → Art) (c : UInt8) (t : Art) (w : World) (hb : w.heap[b]? = some (.cells (rowN .k48 pre n key kid).toArray 400 (0, 0))) (hn : n < 48) :
  Calls Tryz.prog 338 #[.pointer (some ⟨b, 0, none⟩), .int .u8 (c.toNat : Nat), t.ref] w fun e w' => e = .returned (.tuple #[]) ∧ w'.heap[b]? = some (.cells (rowN .k48 pre (n + 1) (upd key n c) (upd kid n t)).toArray 400 (0, 0)) ∧ Only (· = b) w w' := by
 obtain ⟨ty, tb, e⟩ := t.ref_form
 have hs : w.cell? ⟨b, 49, none⟩ = some (.int .u16 (n : Nat)) := row_at hb rowN_size
 have hk : w.cell? ⟨b, 50 + c.toNat, none⟩ = some (.int .u8 (slotOf n key c : Nat)) := row_at hb ((rowN_key (k := .k48) (i := c.toNat)).trans (keyCells48 c))
 have hc : w.cell? ⟨b, n, none⟩ = some .nilIface := row_at hb ((rowN_kid (k := .k48) hn).trans (by rw [if_neg (by omega)]))
 have f5 := frozen_row (j := 49) hb
 have f6 := frozen_row (j := 50 + c.toNat) hb
 have fn := frozen_row (j := n) hb
 have i1 : (n : Int) < 48 := by omega
 have i0 : (0 : Int) ≤ (n : Int) := by omega
 have hc256 := UInt8.toNat_lt c
 have j1 : (c.toNat : Int) < 256 := by omega
 have j0 : (0 : Int) ≤ (c.toNat : Int) := by omega
 rw [e]
 go_enter Tryz.func338, Tryz.ntmps338
 go_wp2
 go_region
 go_wp2
 go_region
 go_wp2
 go_end0
 refine ⟨rfl, ?_, ((((Only.refl (· = b) w).set (.inl rfl) _).set (.inl rfl) _).set (.inl rfl) _).drew2.drew2⟩
 rw [← e]
 exact row_eq (heap_set_list (heap_set_list (heap_set_list hb))) (rowN_add48 hn)
set_option maxRecDepth 100000 in
set_option maxHeartbeats 1600000 in
theorem findChild48 (b : Nat) (pre : List UInt8) (n : Nat) (key : Nat → UInt8) (kid : Nat → Art) (c : UInt8) (w : World) (hb : w.heap[b]? = some (.cells (rowN .k48 pre n key kid).toArray 400 (0, 0))) (hn : n ≤ 48) :
  Calls Tryz.prog 342 #[.pointer (some ⟨b, 0, none⟩), .int .u8 (c.toNat : Nat)] w fun e w' => Found n key c b e ∧ w = w' := by
 have hk : w.cell? ⟨b, 50 + c.toNat, none⟩ = some (.int .u8 (slotOf n key c : Nat)) := row_at hb ((rowN_key (k := .k48) (i := c.toNat)).trans (keyCells48 c))
 have hc256 := UInt8.toNat_lt c
 have j1 : (c.toNat : Int) < 256 := by omega
 have j0 : (0 : Int) ≤ (c.toNat : Int) := by omega
 cases hm : slotOf n key c with
 | zero =>
  have hno := slotOf_none hm
  have HM := Lib.hid hno; clear hno
  rw [hm] at hk
  clear hm
  go_enter Tryz.func342, Tryz.ntmps342
  go_wp2
  go_ret
  exact ⟨.inr ⟨HM.out, rfl⟩, rfl⟩
 | succ m =>
  obtain ⟨h1, h2⟩ := slotOf_some hm
  have HM := Lib.hid h2; clear h2
  rw [hm] at hk
  clear hm
  have e0 : (((m + 1 : Nat) : Int) == 0) = false := by rw [beq_eq_false_iff_ne]; omega
  have m1 : (m : Int) < 48 := by omega
  have m0 : (0 : Int) ≤ (m : Int) := by omega
  go_enter Tryz.func342, Tryz.ntmps342
  go_wp2
  go_ret
  exact ⟨.inl ⟨m, h1, HM.out, rfl⟩, rfl⟩
set_option maxRecDepth 100000 in
set_option maxHeartbeats 800000 in
theorem isFull48 (b : Nat) (pre : List UInt8) (n : Nat) (key : Nat → UInt8) (kid : Nat → Art) (w : World) (hb : w.heap[b]? = some (.cells (rowN .k48 pre n key kid).toArray 400 (0, 0))) :
  Calls Tryz.prog 344 #[.pointer (some ⟨b, 0, none⟩)] w fun e w' => e = .returned (.bool (decide (48 ≤ n))) ∧ w = w' := by
 have hs : w.cell? ⟨b, 49, none⟩ = some (.int .u16 (n : Nat)) := row_at hb rowN_size
 have hd : decide ((n : Int) ≥ 48) = decide (48 ≤ n) := by rw [decide_eq_decide]; omega
 go_enter Tryz.func344, Tryz.ntmps344
 go_wp2
 go_ret
 exact ⟨by rw [← hd]; rfl, rfl⟩
set_option maxRecDepth 100000 in
set_option maxHeartbeats 800000 in
theorem children48 (b : Nat) (pre : List UInt8) (n : Nat) (key : Nat → UInt8) (kid : Nat → Art) (w : World) (hb : w.heap[b]? = some (.cells (rowN .k48 pre n key kid).toArray 400 (0, 0))) (hn : n ≤ 48) :
  Calls Tryz.prog 340 #[.pointer (some ⟨b, 0, none⟩)] w fun e w' => e = .returned (.slice (some ⟨b, 0, none⟩) n 48) ∧ ∃ m, w' = w.drewN m := by
 have hs : w.cell? ⟨b, 49, none⟩ = some (.int .u16 (n : Nat)) := row_at hb rowN_size
 have i1 : (n : Int) ≤ 48 := by omega
 have i0 : (0 : Int) ≤ (n : Int) := by omega
 go_enter Tryz.func340, Tryz.ntmps340
 go_wp2
 go_quiet (fail)
 go_wp2
 go_ret
 exact ⟨rfl, _, rfl⟩
/-- All kinds. -/
theorem addChild_any (k : Kd) (b : Nat) (pre : List UInt8) (n : Nat) (key : Nat → UInt8) (kid : Nat → Art) (c : UInt8) (t : Art) (w : World) (hb : w.heap[b]? = some (.cells (rowN k pre n key kid).toArray (tyN k) (0, 0))) (hn : n < k.cap) :
  Calls Tryz.prog (addF k) #[.pointer (some ⟨b, 0, none⟩), .int .u8 (c.toNat : Nat), t.ref] w fun e w' => e = .returned (.tuple #[]) ∧ w'.heap[b]? = some (.cells (rowN k pre (n + 1) (upd key n c) (upd kid n t)).toArray (tyN k) (0, 0)) ∧ Only (· = b) w w' := by
 cases k
 ·exact addChild4 b pre n key kid c t w hb hn
 ·exact addChild10 b pre n key kid c t w hb hn
 ·exact addChild16 b pre n key kid c t w hb hn
 ·exact addChild48 b pre n key kid c t w hb hn
theorem findChild_any (k : Kd) (b : Nat) (pre : List UInt8) (n : Nat) (key : Nat → UInt8) (kid : Nat → Art) (c : UInt8) (w : World) (hb : w.heap[b]? = some (.cells (rowN k pre n key kid).toArray (tyN k) (0, 0))) (hn : n ≤ k.cap) :
  Calls Tryz.prog (findF k) #[.pointer (some ⟨b, 0, none⟩), .int .u8 (c.toNat : Nat)] w fun e w' => Found n key c b e ∧ w = w' := by
 cases k
 ·exact findChild4 b pre n key kid c w hb hn
 ·exact findChild10 b pre n key kid c w hb hn
 ·exact findChild16 b pre n key kid c w hb hn
 ·exact findChild48 b pre n key kid c w hb hn
theorem isFull_any (k : Kd) (b : Nat) (pre : List UInt8) (n : Nat) (key : Nat → UInt8) (kid : Nat → Art) (w : World) (hb : w.heap[b]? = some (.cells (rowN k pre n key kid).toArray (tyN k) (0, 0))) :
  Calls Tryz.prog (fullF k) #[.pointer (some ⟨b, 0, none⟩)] w fun e w' => e = .returned (.bool (decide (k.cap ≤ n))) ∧ w = w' := by
 cases k
 ·exact isFull4 b pre n key kid w hb
 ·exact isFull10 b pre n key kid w hb
 ·exact isFull16 b pre n key kid w hb
 ·exact isFull48 b pre n key kid w hb
theorem children_any (k : Kd) (b : Nat) (pre : List UInt8) (n : Nat) (key : Nat → UInt8) (kid : Nat → Art) (w : World) (hb : w.heap[b]? = some (.cells (rowN k pre n key kid).toArray (tyN k) (0, 0))) (hn : n ≤ k.cap) :
  Calls Tryz.prog (kidsF k) #[.pointer (some ⟨b, 0, none⟩)] w fun e w' => e = .returned (.slice (some ⟨b, 0, none⟩) n k.cap) ∧ ∃ m, w' = w.drewN m := by
 cases k
 ·exact children4 b pre n key kid w hb hn
 ·exact children10 b pre n key kid w hb hn
 ·exact children16 b pre n key kid w hb hn
 ·exact children48 b pre n key kid w hb hn
end Go.Proofs.YtehlmjecbljafaaGreatDoor
namespace Go.Proofs.YtehlmjecbljafaaGreatDoor
open Go Go.RowKit
/-- An empty node. -/
def row0 (k : Kd) : Array Value := (rowN k [] 0 (fun _ => 0) (fun _ => .leaf 0 0 [])).toArray
theorem built0 (k : Kd) : Tryz.prog.built (tyN k) [] = some (row0 k) := by cases k <;> kernel_rfl
theorem rowN_zero (k : Kd) (pre : List UInt8) (key key' : Nat → UInt8) (kid kid' : Nat → Art) : rowN k pre 0 key kid = rowN k pre 0 key' kid' := by
 unfold rowN
 congr 1
theorem row0_pre (k : Kd) (pre : List UInt8) (key : Nat → UInt8) (kid : Nat → Art) : ((rowN k [] 0 (fun _ => 0) (fun _ => .leaf 0 0 [])).set k.cap (.string (mk pre))) = rowN k pre 0 key kid := by
 rw [rowN_zero k pre key (fun _ => 0) kid (fun _ => .leaf 0 0 [])]
 unfold rowN
 rw [List.set_append_right _ _ (by simp)]
 simp
section
variable {P : Program} {ops : Array Oper} {rest : List Oper} {o1 o2 : Oper} {a : Act} {w : World} {Q : Exit → Act → World → Prop}
/-- '&T{}' by one law. -/
theorem wpList_boxZ (T : TypeId) (Z : Array Value) (x : Operand) (hb : P.built T [] = some Z) (g1 : o1.guard = none) (g2 : o2.guard = none) (e1 : o1.op = .build T #[]) (e2 : o2.op = .box T x)
  (hx : (a.put o1.dst (.agg Z)).eval x = .agg Z)
  (h : wpList P ops Q rest ((a.put o1.dst (.agg Z)).put o2.dst (.pointer (some ⟨w.heap.size, 0, none⟩))) (w.alloc (.cells Z T))) : wpList P ops Q (o1 :: o2 :: rest) a w := by
 refine wpList_plain g1 fun K hK => ?_
 have r1 : (execOp a.eval o1).run P w = .ok (.value (.agg Z)) w := by
  unfold execOp
  simp only [e1, Sem.run_bind]
  have := run_build (P := P) w T #[] Z hb
  simp only [List.map_toArray, List.map_nil]
  rw [this]; rfl
 unfold Oper.wp
 rw [r1, Oper.upon_value]
 refine hK _ _ (wpList_plain g2 fun K hK => ?_)
 have r2 : (execOp (a.put o1.dst (.agg Z)).eval o2).run P w = .ok (.value (.pointer (some ⟨w.heap.size, 0, none⟩))) (w.alloc (.cells Z T)) := by
  unfold execOp
  simp [e2, Instr.box, hx, newVar, Value.cells, newRow, newObj]
  rfl
 unfold Oper.wp
 rw [r2, Oper.upon_value]
 exact hK _ _ h
end
theorem upd_self {α : Type} (f : Nat → α) (i : Nat) : upd f i (f i) = f := by
 funext j; unfold upd; split
 ·rename_i h; rw [h]
 ·rfl
set_option maxRecDepth 100000 in
set_option maxHeartbeats 3200000 in
theorem grow4 (b : Nat) (pre : List UInt8) (key : Nat → UInt8) (kid : Nat → Art) (w : World) (hb : w.heap[b]? = some (.cells (rowN .k4 pre 4 key kid).toArray 335 (0, 0))) :
  Calls Tryz.prog 306 #[.pointer (some ⟨b, 0, none⟩)] w fun e w' => e = .returned (.iface 383 (.pointer (some ⟨w.heap.size, 0, none⟩))) ∧ w'.heap[w.heap.size]? = some (.cells (rowN .k10 pre 4 key kid).toArray 387 (0, 0)) ∧ Below w.heap.size w w' := by
 have hlt := (Array.getElem?_eq_some_iff.1 hb).1
 generalize hZ : row0 .k10 = Z
 have hbz : Tryz.prog.built 387 [] = some Z := by rw [← hZ]; exact built0 .k10
 have hp : w.cell? ⟨b, 4, none⟩ = some (.string (mk pre)) := row_at hb rowN_pre
 have hp2 := cell_alloc (.cells Z 387) hp
 have hn : (w.alloc (.cells Z 387)).heap[w.heap.size]? = some (.cells (rowN .k10 [] 0 (fun _ => 0) (fun _ => .leaf 0 0 [])).toArray 387 (0, 0)) := by rw [← hZ]; exact heap_alloc_new w _
 have hnc : (w.alloc (.cells Z 387)).cell? ⟨w.heap.size, 10, none⟩ = some (.string ⟨#[]⟩) := row_at hn (rowN_pre (k := .k10))
 have hnf : (w.alloc (.cells Z 387)).frozen? ⟨w.heap.size, 10, none⟩ = false := frozen_row hn
 clear hp
 go_enter Tryz.func306, Tryz.ntmps306
 go_wp2_with (refine wpList_boxZ 387 Z _ hbz rfl rfl rfl rfl rfl ?_)
 refine wp_any (fun W => W.heap[w.heap.size]? = some (.cells (rowN .k10 pre 0 key kid).toArray 387 (0, 0)) ∧ Below w.heap.size w W) ⟨?_, ?_⟩ ?_
 ·rw [heap_alloc_new, ← hZ, row0, List.setIfInBounds_toArray]; exact congrArg (fun l : List Value => some (Obj.cells l.toArray 387 (0, 0))) (row0_pre .k10 pre key kid)
 ·exact (Below.refl _ w).alloc (Nat.le_refl _) _
 rintro W ⟨hW, hbW⟩
 clear hn hnc hnf hp2 hbz hZ
 go_wp2
 go_loopw [4] (fun i wr => ∃ k : Nat, k ≤ 4 ∧ i = .int .i64 k ∧ wr.heap[w.heap.size]? = some (.cells (rowN .k10 pre k key kid).toArray 387 (0, 0)) ∧ Below w.heap.size w wr) (fun i _ => 4 - (intOf i).toNat)
 case atStart => exact ⟨0, Nat.zero_le _, rfl, hW, hbW⟩
 case round =>
  obtain ⟨k, hk, rfl, hr, hbr⟩ := hrel
  by_cases hlt2 : k < 4
  ·have hbb := (hbr.block b hlt).trans hb
   have ck : wr.cell? ⟨b, 6 + k, none⟩ = some (.int .u8 ((key k).toNat : Nat)) := row_at hbb ((rowN_key (k := .k4) (i := k)).trans ((keyCells_at (k := .k4) (by decide) hlt2).trans (by rw [if_pos hlt2])))
   have cc : wr.cell? ⟨b, k, none⟩ = some (kid k).ref := row_at hbb ((rowN_kid (k := .k4) hlt2).trans (by rw [if_pos hlt2]))
   have i1 : (k : Int) < 4 := by omega
   have i0 : (0 : Int) ≤ (k : Int) := by omega
   have hadd := addChild10 w.heap.size pre k key kid (key k) (kid k) wr.drew hr (by omega)
   rw [upd_self, upd_self] at hadd
   go_wp2_with fail
   refine wp_region_L [0, 1, 2, 3, 4, 5, 6, 7, 8, 9, 10, 11, 12] (fun W' => W'.cell? ⟨b, 6 + k, none⟩ = some (.int .u8 ((key k).toNat : Nat)) ∧ W'.cell? ⟨b, k, none⟩ = some (kid k).ref) (by kernel_rfl) (by kernel_rfl) ⟨ck, cc⟩ (fun ne => ?_)
   have S0 := fun x : SubC (fun W' => W'.cell? ⟨b, 6 + k, none⟩ = some (.int .u8 ((key k).toNat : Nat)) ∧ W'.cell? ⟨b, k, none⟩ = some (kid k).ref) => x.ok.1
   have S1 := fun x : SubC (fun W' => W'.cell? ⟨b, 6 + k, none⟩ = some (.int .u8 ((key k).toNat : Nat)) ∧ W'.cell? ⟨b, k, none⟩ = some (kid k).ref) => x.ok.2
   repeat (refine wpCL_q rfl rfl ?_; go_big_quiet_step (fail); refine wpQuiet_nil ?_)
   refine wpCL_n rfl rfl rfl rfl ?_
   go_simp
   repeat (refine wpCL_q rfl rfl ?_; go_big_quiet_step (fail); refine wpQuiet_nil ?_)
   refine wpCL_n rfl rfl rfl rfl ?_
   go_simp
   repeat (refine wpCL_q rfl rfl ?_; go_big_quiet_step (fail); refine wpQuiet_nil ?_)
   refine wpCL_last ?_
   go_wp2_with fail
   refine hadd.mono ?_
   rintro e w3 ⟨rfl, h3, ho3⟩
   go_wp2
   go_roundw
   case rel => exact ⟨k + 1, hlt2, by go_num, h3, hbr.drew.trans (ho3.below (fun x hx => by omega) hbr.size)⟩
   case measure => simp [intOf]; omega
  ·obtain rfl : k = 4 := by omega
   go_wp2
   go_ret
   exact ⟨rfl, hr, hbr⟩
set_option maxRecDepth 100000 in
set_option maxHeartbeats 3200000 in
theorem grow10 (b : Nat) (pre : List UInt8) (key : Nat → UInt8) (kid : Nat → Art) (w : World) (hb : w.heap[b]? = some (.cells (rowN .k10 pre 10 key kid).toArray 387 (0, 0))) :
  Calls Tryz.prog 324 #[.pointer (some ⟨b, 0, none⟩)] w fun e w' => e = .returned (.iface 392 (.pointer (some ⟨w.heap.size, 0, none⟩))) ∧ w'.heap[w.heap.size]? = some (.cells (rowN .k16 pre 10 key kid).toArray 396 (0, 0)) ∧ Below w.heap.size w w' := by
 have hlt := (Array.getElem?_eq_some_iff.1 hb).1
 generalize hZ : row0 .k16 = Z
 have hbz : Tryz.prog.built 396 [] = some Z := by rw [← hZ]; exact built0 .k16
 have hp : w.cell? ⟨b, 10, none⟩ = some (.string (mk pre)) := row_at hb rowN_pre
 have hp2 := cell_alloc (.cells Z 396) hp
 have hn : (w.alloc (.cells Z 396)).heap[w.heap.size]? = some (.cells (rowN .k16 [] 0 (fun _ => 0) (fun _ => .leaf 0 0 [])).toArray 396 (0, 0)) := by rw [← hZ]; exact heap_alloc_new w _
 have hnc : (w.alloc (.cells Z 396)).cell? ⟨w.heap.size, 16, none⟩ = some (.string ⟨#[]⟩) := row_at hn (rowN_pre (k := .k16))
 have hnf : (w.alloc (.cells Z 396)).frozen? ⟨w.heap.size, 16, none⟩ = false := frozen_row hn
 clear hp
 go_enter Tryz.func324, Tryz.ntmps324
 go_wp2_with (refine wpList_boxZ 396 Z _ hbz rfl rfl rfl rfl rfl ?_)
 refine wp_any (fun W => W.heap[w.heap.size]? = some (.cells (rowN .k16 pre 0 key kid).toArray 396 (0, 0)) ∧ Below w.heap.size w W) ⟨?_, ?_⟩ ?_
 ·rw [heap_alloc_new, ← hZ, row0, List.setIfInBounds_toArray]; exact congrArg (fun l : List Value => some (Obj.cells l.toArray 396 (0, 0))) (row0_pre .k16 pre key kid)
 ·exact (Below.refl _ w).alloc (Nat.le_refl _) _
 rintro W ⟨hW, hbW⟩
 clear hn hnc hnf hp2 hbz hZ
 go_wp2
 go_loopw [4] (fun i wr => ∃ k : Nat, k ≤ 10 ∧ i = .int .i64 k ∧ wr.heap[w.heap.size]? = some (.cells (rowN .k16 pre k key kid).toArray 396 (0, 0)) ∧ Below w.heap.size w wr) (fun i _ => 10 - (intOf i).toNat)
 case atStart => exact ⟨0, Nat.zero_le _, rfl, hW, hbW⟩
 case round =>
  obtain ⟨k, hk, rfl, hr, hbr⟩ := hrel
  by_cases hlt2 : k < 10
  ·have hbb := (hbr.block b hlt).trans hb
   have ck : wr.cell? ⟨b, 12 + k, none⟩ = some (.int .u8 ((key k).toNat : Nat)) := row_at hbb ((rowN_key (k := .k10) (i := k)).trans ((keyCells_at (k := .k10) (by decide) hlt2).trans (by rw [if_pos hlt2])))
   have cc : wr.cell? ⟨b, k, none⟩ = some (kid k).ref := row_at hbb ((rowN_kid (k := .k10) hlt2).trans (by rw [if_pos hlt2]))
   have i1 : (k : Int) < 10 := by omega
   have i0 : (0 : Int) ≤ (k : Int) := by omega
   have hadd := addChild16 w.heap.size pre k key kid (key k) (kid k) wr.drew hr (by omega)
   rw [upd_self, upd_self] at hadd
   go_wp2_with fail
   refine wp_region_L [0, 1, 2, 3, 4, 5, 6, 7, 8, 9, 10, 11, 12] (fun W' => W'.cell? ⟨b, 12 + k, none⟩ = some (.int .u8 ((key k).toNat : Nat)) ∧ W'.cell? ⟨b, k, none⟩ = some (kid k).ref) (by kernel_rfl) (by kernel_rfl) ⟨ck, cc⟩ (fun ne => ?_)
   have S0 := fun x : SubC (fun W' => W'.cell? ⟨b, 12 + k, none⟩ = some (.int .u8 ((key k).toNat : Nat)) ∧ W'.cell? ⟨b, k, none⟩ = some (kid k).ref) => x.ok.1
   have S1 := fun x : SubC (fun W' => W'.cell? ⟨b, 12 + k, none⟩ = some (.int .u8 ((key k).toNat : Nat)) ∧ W'.cell? ⟨b, k, none⟩ = some (kid k).ref) => x.ok.2
   repeat (refine wpCL_q rfl rfl ?_; go_big_quiet_step (fail); refine wpQuiet_nil ?_)
   refine wpCL_n rfl rfl rfl rfl ?_
   go_simp
   repeat (refine wpCL_q rfl rfl ?_; go_big_quiet_step (fail); refine wpQuiet_nil ?_)
   refine wpCL_n rfl rfl rfl rfl ?_
   go_simp
   repeat (refine wpCL_q rfl rfl ?_; go_big_quiet_step (fail); refine wpQuiet_nil ?_)
   refine wpCL_last ?_
   go_wp2_with fail
   refine hadd.mono ?_
   rintro e w3 ⟨rfl, h3, ho3⟩
   go_wp2
   go_roundw
   case rel => exact ⟨k + 1, hlt2, by go_num, h3, hbr.drew.trans (ho3.below (fun x hx => by omega) hbr.size)⟩
   case measure => simp [intOf]; omega
  ·obtain rfl : k = 10 := by omega
   go_wp2
   go_ret
   exact ⟨rfl, hr, hbr⟩
set_option maxRecDepth 100000 in
set_option maxHeartbeats 3200000 in
theorem grow16 (b : Nat) (pre : List UInt8) (key : Nat → UInt8) (kid : Nat → Art) (w : World) (hb : w.heap[b]? = some (.cells (rowN .k16 pre 16 key kid).toArray 396 (0, 0))) :
  Calls Tryz.prog 333 #[.pointer (some ⟨b, 0, none⟩)] w fun e w' => e = .returned (.iface 397 (.pointer (some ⟨w.heap.size, 0, none⟩))) ∧ w'.heap[w.heap.size]? = some (.cells (rowN .k48 pre 16 key kid).toArray 400 (0, 0)) ∧ Below w.heap.size w w' := by
 have hlt := (Array.getElem?_eq_some_iff.1 hb).1
 generalize hZ : row0 .k48 = Z
 have hbz : Tryz.prog.built 400 [] = some Z := by rw [← hZ]; exact built0 .k48
 have hp : w.cell? ⟨b, 16, none⟩ = some (.string (mk pre)) := row_at hb rowN_pre
 have hp2 := cell_alloc (.cells Z 400) hp
 have hn : (w.alloc (.cells Z 400)).heap[w.heap.size]? = some (.cells (rowN .k48 [] 0 (fun _ => 0) (fun _ => .leaf 0 0 [])).toArray 400 (0, 0)) := by rw [← hZ]; exact heap_alloc_new w _
 have hnc : (w.alloc (.cells Z 400)).cell? ⟨w.heap.size, 48, none⟩ = some (.string ⟨#[]⟩) := row_at hn (rowN_pre (k := .k48))
 have hnf : (w.alloc (.cells Z 400)).frozen? ⟨w.heap.size, 48, none⟩ = false := frozen_row hn
 clear hp
 go_enter Tryz.func333, Tryz.ntmps333
 go_wp2_with (refine wpList_boxZ 400 Z _ hbz rfl rfl rfl rfl rfl ?_)
 refine wp_any (fun W => W.heap[w.heap.size]? = some (.cells (rowN .k48 pre 0 key kid).toArray 400 (0, 0)) ∧ Below w.heap.size w W) ⟨?_, ?_⟩ ?_
 ·rw [heap_alloc_new, ← hZ, row0, List.setIfInBounds_toArray]; exact congrArg (fun l : List Value => some (Obj.cells l.toArray 400 (0, 0))) (row0_pre .k48 pre key kid)
 ·exact (Below.refl _ w).alloc (Nat.le_refl _) _
 rintro W ⟨hW, hbW⟩
 clear hn hnc hnf hp2 hbz hZ
 go_wp2
 go_loopw [4] (fun i wr => ∃ k : Nat, k ≤ 16 ∧ i = .int .i64 k ∧ wr.heap[w.heap.size]? = some (.cells (rowN .k48 pre k key kid).toArray 400 (0, 0)) ∧ Below w.heap.size w wr) (fun i _ => 16 - (intOf i).toNat)
 case atStart => exact ⟨0, Nat.zero_le _, rfl, hW, hbW⟩
 case round =>
  obtain ⟨k, hk, rfl, hr, hbr⟩ := hrel
  by_cases hlt2 : k < 16
  ·have hbb := (hbr.block b hlt).trans hb
   have ck : wr.cell? ⟨b, 18 + k, none⟩ = some (.int .u8 ((key k).toNat : Nat)) := row_at hbb ((rowN_key (k := .k16) (i := k)).trans ((keyCells_at (k := .k16) (by decide) hlt2).trans (by rw [if_pos hlt2])))
   have cc : wr.cell? ⟨b, k, none⟩ = some (kid k).ref := row_at hbb ((rowN_kid (k := .k16) hlt2).trans (by rw [if_pos hlt2]))
   have i1 : (k : Int) < 16 := by omega
   have i0 : (0 : Int) ≤ (k : Int) := by omega
   have hadd := addChild48 w.heap.size pre k key kid (key k) (kid k) wr.drew hr (by omega)
   rw [upd_self, upd_self] at hadd
   go_wp2_with fail
   refine wp_region_L [0, 1, 2, 3, 4, 5, 6, 7, 8, 9, 10, 11, 12] (fun W' => W'.cell? ⟨b, 18 + k, none⟩ = some (.int .u8 ((key k).toNat : Nat)) ∧ W'.cell? ⟨b, k, none⟩ = some (kid k).ref) (by kernel_rfl) (by kernel_rfl) ⟨ck, cc⟩ (fun ne => ?_)
   have S0 := fun x : SubC (fun W' => W'.cell? ⟨b, 18 + k, none⟩ = some (.int .u8 ((key k).toNat : Nat)) ∧ W'.cell? ⟨b, k, none⟩ = some (kid k).ref) => x.ok.1
   have S1 := fun x : SubC (fun W' => W'.cell? ⟨b, 18 + k, none⟩ = some (.int .u8 ((key k).toNat : Nat)) ∧ W'.cell? ⟨b, k, none⟩ = some (kid k).ref) => x.ok.2
   repeat (refine wpCL_q rfl rfl ?_; go_big_quiet_step (fail); refine wpQuiet_nil ?_)
   refine wpCL_n rfl rfl rfl rfl ?_
   go_simp
   repeat (refine wpCL_q rfl rfl ?_; go_big_quiet_step (fail); refine wpQuiet_nil ?_)
   refine wpCL_n rfl rfl rfl rfl ?_
   go_simp
   repeat (refine wpCL_q rfl rfl ?_; go_big_quiet_step (fail); refine wpQuiet_nil ?_)
   refine wpCL_last ?_
   go_wp2_with fail
   refine hadd.mono ?_
   rintro e w3 ⟨rfl, h3, ho3⟩
   go_wp2
   go_roundw
   case rel => exact ⟨k + 1, hlt2, by go_num, h3, hbr.drew.trans (ho3.below (fun x hx => by omega) hbr.size)⟩
   case measure => simp [intOf]; omega
  ·obtain rfl : k = 16 := by omega
   go_wp2
   go_ret
   exact ⟨rfl, hr, hbr⟩
end Go.Proofs.YtehlmjecbljafaaGreatDoor
namespace Go.Proofs.YtehlmjecbljafaaGreatDoor
open Go Go.RowKit
theorem run_appRoom {P : Program} (w : World) (t u ty e t0 : TypeId) (i : TypeInfo) (ht : P.underlying t = some (.slice e)) (hu : P.underlying u = some .string) (hi : P.info? e = some i) (hs1 : i.size = 1)
  (g sLen sCap : Nat) (cur : Array Value) (hg : w.heap[g]? = some (.cells cur t0 (0, 0))) (s : ByteArray) (hroom : sLen + s.size ≤ sCap) (hfit : sLen + s.size ≤ cur.size) :
  (Builtin.append_ #[t, u] ty #[.slice (some ⟨g, 0, none⟩) sLen sCap, .string s]).run P w =
   .ok (.slice (some ⟨g, 0, none⟩) (sLen + s.size) sCap) (w.setRow g (cur.toList.take sLen ++ Lib.strCells s ++ cur.toList.drop (sLen + s.size)).toArray) := by
 have hf := Lib.run_firstCells_string (P := P) w 1 s
 have hst := run_storeCells_at P g sLen t0 (Lib.strCells s) 0 cur w hg (by simpa [Lib.strCells_length] using hfit) (Lib.strCells_oneCell s)
 simp only [Nat.add_zero, Lib.strCells_length] at hst
 simp [Builtin.append_, run_underlying ht, run_underlying hu, sizeOf, typeInfo, hi, hs1, Builtin.lenOf, hroom, hf, Addr.add_lit, hst]
theorem info5 : (Tryz.prog.info? 5).map (fun i => (i.zero, i.size, i.bytes)) = some (some (.int .u8 0), 1, 1) := by kernel_rfl
theorem app_str {t0 : TypeId} (W : World) (Bp cap : Nat) (cur : Array Value) (pre : List UInt8) (str : ByteArray) (ty : TypeId) (hg : W.heap[Bp]? = some (.cells cur t0 (0, 0))) (hpre : BsAt W Bp 0 pre) (hroom : pre.length + str.size ≤ cap) (hfit : pre.length + str.size ≤ cur.size) :
  ∃ W' cur', (Builtin.append_ #[94, 9] ty #[.slice (some ⟨Bp, 0, none⟩) pre.length cap, .string str]).run Tryz.prog W = .ok (.slice (some ⟨Bp, 0, none⟩) (pre.length + str.size) cap) W' ∧ W'.heap[Bp]? = some (.cells cur' t0 (0, 0)) ∧ cur'.size = cur.size ∧
   BsAt W' Bp 0 (pre ++ bs str) ∧ Only (· = Bp) W W' := by
 obtain ⟨i, hi, -, h1, -⟩ := info_parts info5
 have hr := run_appRoom (P := Tryz.prog) W 94 9 ty 5 t0 i Tryz.underlying94 Tryz.underlying9 hi h1 Bp pre.length cap cur hg str hroom hfit
 have hsl : (Lib.strCells str).length = str.size := Lib.strCells_length str
 have hh := setRow_heap W Bp cur (cur.toList.take pre.length ++ Lib.strCells str ++ cur.toList.drop (pre.length + str.size)).toArray t0 (0, 0) hg
 refine ⟨_, _, hr, hh, by simp [hsl]; omega, fun j c hj => ?_, ⟨rfl, rfl, rfl, by simp, fun k _ hk => setRow_other W Bp k _ hk⟩⟩
 rw [Nat.zero_add, cell_row hh]
 have htl : (cur.toList.take pre.length).length = pre.length := by simp; omega
 rcases Nat.lt_or_ge j pre.length with h | h
 ·rw [List.getElem?_append_left h] at hj
  have := hpre j c hj
  rw [Nat.zero_add, cell_row hg] at this
  simp only [List.append_assoc, List.getElem?_toArray]
  rw [List.getElem?_append_left (by omega), List.getElem?_take, if_pos h]
  simpa using this
 ·rw [List.getElem?_append_right h] at hj
  have hjl := (List.getElem?_eq_some_iff.1 hj).1
  rw [bs_len] at hjl
  simp only [List.append_assoc, List.getElem?_toArray]
  rw [List.getElem?_append_right (by omega), htl, List.getElem?_append_left (by omega)]
  unfold Lib.strCells
  rw [List.getElem?_map]
  unfold bs at hj
  rw [hj]; rfl
theorem runs_appStr {t0 : TypeId} {o : Oper} {a : Act} {K : Value → World → Prop} {W : World} (s x : Operand) (ho : o.op = .call { callee := .builtin .append, args := #[s, x], argTypes := #[94, 9] })
  (Bp cap n : Nat) (cur : Array Value) (pre : List UInt8) (str : ByteArray) (hn : pre.length = n) (hs : a.eval s = .slice (some ⟨Bp, 0, none⟩) n cap) (hx : a.eval x = .string str) (hg : W.heap[Bp]? = some (.cells cur t0 (0, 0))) (hpre : BsAt W Bp 0 pre)
  (hroom : n + str.size ≤ cap) (hfit : n + str.size ≤ cur.size)
  (h : ∀ W' cur', W'.heap[Bp]? = some (.cells cur' t0 (0, 0)) → cur'.size = cur.size → BsAt W' Bp 0 (pre ++ bs str) → Only (· = Bp) W W' → K (.slice (some ⟨Bp, 0, none⟩) (n + str.size) cap) W') :
  runsTo Tryz.prog K ((execOp a.eval o).run Tryz.prog W) := by
 subst hn
 obtain ⟨W', cur', hrun, h1, h2, h3, h4⟩ := app_str W Bp cap cur pre str o.type hg hpre hroom hfit
 unfold execOp
 simp only [ho, resolve, invoke, builtin, Sem.run_bind, Sem.run_pure, Result.andThen_ok, List.map_toArray, List.map_cons, List.map_nil, hs, hx, hrun]
 exact h W' cur' h1 h2 h3 h4
end Go.Proofs.YtehlmjecbljafaaGreatDoor
namespace Go.Proofs.YtehlmjecbljafaaGreatDoor
open Go Go.RowKit
set_option maxRecDepth 100000 in
set_option maxHeartbeats 800000 in
theorem s2b_any (s : ByteArray) (w : World) (hs : s.size ≤ maxLen) : Calls Tryz.prog 202 #[.string s] w fun e w' => ∃ a c, e = .returned (.slice a s.size c) ∧ Sl w' 1 (.slice a s.size c) s.size (u8s (bs s)) ∧ Below w.heap.size w w' := by
 have hcv := fun (w : World) (s : ByteArray) => conv_bytes w s
 go_enter Tryz.func202, Tryz.ntmps202
 go_wp2
 go_ret
 exact ⟨_, _, rfl, conv_sl w s hs, bytesWorld_below w s⟩
set_option maxRecDepth 100000 in
set_option maxHeartbeats 800000 in
theorem pivot_any (v : Value) (l : List UInt8) (p : Nat) (w : World) (hv : Sl w 1 v l.length (u8s l)) : Calls Tryz.prog 128 #[v, .int .i64 p] w fun e w' => e = .returned (.int .u8 ((piv (l.drop p)).toNat : Nat)) ∧ w = w' := by
 obtain ⟨a, cap, rfl⟩ := hv.form
 by_cases h : p < l.length
 ·obtain ⟨b, o, rfl, hc⟩ := Sl.cell hv (Below.refl _ w) (by unfold u8s; rw [List.length_map]; omega)
  have c0 := hc p (.int .u8 ((l[p]).toNat : Nat)) (by unfold u8s; rw [List.getElem?_map, List.getElem?_eq_getElem h]; rfl)
  have e : piv (l.drop p) = l[p] := by rw [List.drop_eq_getElem_cons h]; rfl
  have h1 : (p : Int) < (l.length : Int) := by omega
  have h0 : (0 : Int) ≤ (p : Int) := by omega
  rw [e]
  clear hc hv
  go_enter Tryz.func128, Tryz.ntmps128
  go_wp2
  go_ret
  exact ⟨rfl, rfl⟩
 ·have e : piv (l.drop p) = 127 := by rw [List.drop_of_length_le (by omega)]; rfl
  have h1 : ¬ (p : Int) < (l.length : Int) := by omega
  rw [e]
  clear hv
  go_enter Tryz.func128, Tryz.ntmps128
  go_wp2
  go_ret
  exact ⟨rfl, rfl⟩
theorem cpl_eq : ∀ {l r : List UInt8} {k : Nat}, k ≤ l.length → k ≤ r.length → (∀ j, j < k → l[j]? = r[j]?) → (k < l.length → k < r.length → l[k]? ≠ r[k]?) → cpl l r = k
 | [], r, k, h1, _, _, _ => by simp at h1; subst h1; simp [cpl]
 | a :: l, [], k, _, h2, _, _ => by simp at h2; subst h2; simp [cpl]
 | a :: l, b :: r, 0, _, _, _, h => by
  have := h (by simp) (by simp)
  rw [cpl, if_neg (fun e => this (by simp [e]))]
 | a :: l, b :: r, k + 1, h1, h2, h3, h4 => by
  have e : a = b := by have := h3 0 (by omega); simpa using this
  rw [cpl, if_pos e, cpl_eq (l := l) (r := r) (k := k) (by simpa using h1) (by simpa using h2) (fun j hj => by have := h3 (j + 1) (by omega); simpa using this) (fun a b => by have := h4 (by simp; omega) (by simp; omega); simpa using this)]
theorem Sl.byte {w wr : World} {n cap : Nat} {a : Option Addr} {l : List UInt8} (h : Sl w 1 (.slice a n cap) n (u8s l)) (hb : Below w.heap.size w wr) {k : Nat} (hk : k < l.length) :
  ∃ b o, a = some ⟨b, o, none⟩ ∧ wr.cell? ⟨b, o + k, none⟩ = some (.int .u8 ((l[k]).toNat : Nat)) := by
 obtain ⟨b, o, rfl, hc⟩ := h.cell hb (by unfold u8s; rw [List.length_map]; omega)
 exact ⟨b, o, rfl, hc k _ (by unfold u8s; rw [List.getElem?_map, List.getElem?_eq_getElem hk]; rfl)⟩
set_option maxRecDepth 100000 in
set_option maxHeartbeats 1600000 in
theorem cpl_any (v1 v2 : Value) (l r : List UInt8) (w : World) (h1 : Sl w 1 v1 l.length (u8s l)) (h2 : Sl w 1 v2 r.length (u8s r)) : Calls Tryz.prog 201 #[v1, v2] w fun e w' => e = .returned (.int .i64 (cpl l r : Nat)) ∧ Below w.heap.size w w' := by
 obtain ⟨a1, c1, rfl⟩ := h1.form
 obtain ⟨a2, c2, rfl⟩ := h2.form
 have hl1 := h1.len
 have hl2 := h2.len
 have HA := Lib.hid h1; clear h1
 have HB := Lib.hid h2; clear h2
 have hmin : ∃ m : Nat, m = min l.length r.length := ⟨_, rfl⟩
 obtain ⟨m, hm⟩ := hmin
 have hmi : min (l.length : Int) (r.length : Int) = (m : Int) := by omega
 have hml : m ≤ l.length := by omega
 have hmr : m ≤ r.length := by omega
 have HM := Lib.hid hm; clear hm
 go_enter Tryz.func201, Tryz.ntmps201
 go_wp2
 go_loopw [6] (fun i wr => ∃ k : Nat, k ≤ m ∧ i = .int .i64 k ∧ Hid (∀ j, j < k → l[j]? = r[j]?) ∧ Below w.heap.size w wr) (fun i _ => m - (intOf i).toNat)
 case atStart => exact ⟨0, Nat.zero_le _, rfl, fun j hj => by omega, Below.refl _ _⟩
 case round =>
  obtain ⟨k, hk, rfl, hj, hb⟩ := hrel
  by_cases hlt : k < m
  ·obtain ⟨b1, o1, rfl, k1⟩ := HA.out.byte hb.drew (k := k) (by omega)
   obtain ⟨b2, o2, rfl, k2⟩ := HB.out.byte hb.drew (k := k) (by omega)
   have g1 : (k : Int) < (l.length : Int) := by omega
   have g2 : (k : Int) < (r.length : Int) := by omega
   have g0 : (0 : Int) ≤ (k : Int) := by omega
   have q1 : wr.cell? ⟨b1, o1 + k, none⟩ = some (.int .u8 ((l[k]'(by omega)).toNat : Nat)) := k1
   have q2 : wr.cell? ⟨b2, o2 + k, none⟩ = some (.int .u8 ((r[k]'(by omega)).toNat : Nat)) := k2
   clear k1 k2
   by_cases he : l[k]'(by omega) = r[k]'(by omega)
   ·have en : ((((l[k]'(by omega)).toNat : Nat) : Int) != (((r[k]'(by omega)).toNat : Nat) : Int)) = false := by rw [he]; simp
    have HE := Lib.hid he; clear he
    go_wp2
    go_quiet (fail)
    go_wp2
    go_roundw
    case rel => exact ⟨k + 1, hlt, by go_num, fun j hj' => by
     by_cases e : j = k
     ·subst e; rw [List.getElem?_eq_getElem (by omega), List.getElem?_eq_getElem (by omega), HE.out]
     ·exact hj.out j (by omega), below_drewN hb _⟩
    case measure => simp [intOf]; omega
   ·have en : ((((l[k]'(by omega)).toNat : Nat) : Int) != (((r[k]'(by omega)).toNat : Nat) : Int)) = true := by
     rw [bne_iff_ne]; intro e; exact he (UInt8.toNat_inj.1 (by omega))
    have HE := Lib.hid he; clear he
    go_wp2
    go_quiet (fail)
    go_wp2
    go_ret
    refine ⟨?_, below_drewN hb _⟩
    rw [cpl_eq (l := l) (r := r) (k := k) (by omega) (by omega) hj.out (fun _ _ e => HE.out (by rw [List.getElem?_eq_getElem (by omega), List.getElem?_eq_getElem (by omega)] at e; exact Option.some.inj e))]
    rfl
  ·obtain rfl : k = m := by omega
   go_wp2
   go_ret
   refine ⟨?_, hb⟩
   have := HM.out
   rw [cpl_eq (l := l) (r := r) (k := k) (by omega) (by omega) hj.out (fun _ _ => by omega)]
   rfl
theorem rowN_setpre {k : Kd} {pre pre' : List UInt8} {n : Nat} {key : Nat → UInt8} {kid : Nat → Art} : (rowN k pre n key kid).set k.cap (.string (mk pre')) = rowN k pre' n key kid := by
 unfold rowN
 rw [List.set_append_right _ _ (by simp)]
 simp
set_option maxRecDepth 100000 in
set_option maxHeartbeats 800000 in
theorem setPrefix_any (b c : Nat) (cs : List Value) (t : TypeId) (s : ByteArray) (v : Value) (l : List UInt8) (w : World) (hb : w.heap[b]? = some (.cells cs.toArray t (0, 0))) (hc : cs[c]? = some (.string s)) (hv : Sl w 1 v l.length (u8s l)) :
  Calls Tryz.prog 232 #[.pointer (some ⟨b, c, none⟩), v] w fun e w' => e = .returned (.tuple #[]) ∧ w'.heap[b]? = some (.cells (cs.set c (.string (mk l))).toArray t (0, 0)) ∧ Only (· = b) w w' := by
 obtain ⟨a, cap, rfl⟩ := hv.form
 have hcv := conv_text hv
 have h0 := row_at hb hc
 have hf := frozen_row (j := c) hb
 clear hv
 go_enter Tryz.func232, Tryz.ntmps232
 go_wp2
 go_end0
 exact ⟨rfl, heap_set_list hb, (Only.refl (· = b) w).set (.inl rfl) _⟩
set_option maxRecDepth 100000 in
set_option maxHeartbeats 1600000 in
theorem newNode4_any (v : Value) (l : List UInt8) (w : World) (hv : Sl w 1 v l.length (u8s l)) :
  Calls Tryz.prog 203 #[v] w fun e w' => e = .returned (.pointer (some ⟨w.heap.size, 0, none⟩)) ∧ (∀ key kid, w'.heap[w.heap.size]? = some (.cells (rowN .k4 l 0 key kid).toArray 335 (0, 0))) ∧ Below w.heap.size w w' := by
 generalize hZ : row0 .k4 = Z
 have hbz : Tryz.prog.built 335 [] = some Z := by rw [← hZ]; exact built0 .k4
 have hn : (w.alloc (.cells Z 335)).heap[w.heap.size]? = some (.cells (rowN .k4 [] 0 (fun _ => 0) (fun _ => .leaf 0 0 [])).toArray 335 (0, 0)) := by rw [← hZ]; exact heap_alloc_new w _
 have hsp := setPrefix_any w.heap.size 4 _ 335 ⟨#[]⟩ v l (w.alloc (.cells Z 335)) hn (rowN_pre (k := .k4)) (hv.keep ((Below.refl _ w).alloc (Nat.le_refl _) _))
 obtain ⟨a, cap, rfl⟩ := hv.form
 clear hv
 go_enter Tryz.func203, Tryz.ntmps203
 go_wp2_with (refine wpList_boxZ 335 Z _ hbz rfl rfl rfl rfl rfl ?_)
 refine hsp.mono ?_
 rintro e w1 ⟨rfl, h1, h2⟩
 go_wp2
 go_ret
 refine ⟨rfl, fun key kid => row_eq h1 (row0_pre .k4 l key kid), ?_⟩
 exact ((Below.refl _ w).alloc (Nat.le_refl _) _).trans (h2.below (fun x hx => by omega) (by simp))
set_option maxRecDepth 100000 in
set_option maxHeartbeats 800000 in
theorem leafMatch_any (L : Nat) (x : Value) (s : ByteArray) (v : Value) (l : List UInt8) (w : World) (h : w.heap[L]? = some (.cells #[x, .string s] 199 (0, 0))) (hv : Sl w 1 v l.length (u8s l)) :
  Calls Tryz.prog 200 #[.pointer (some ⟨L, 0, none⟩), v] w fun e w' => e = .returned (.bool (decide (l = bs s))) ∧ Below w.heap.size w w' := by
 obtain ⟨a, cap, rfl⟩ := hv.form
 have hcq := conv_quiet hv
 have hc1 := (cell_row (j := 1) h).trans (show _ = some (Value.string s) from rfl)
 by_cases he : l = bs s
 ·have e1 : mk l = s := by rw [he, mk_bs]
  have hd : decide (l = bs s) = true := by simpa using he
  rw [hd]
  clear hd he hv
  go_enter Tryz.func200, Tryz.ntmps200
  go_wp2
  go_quiet (fail)
  go_wp2
  go_ret
  exact ⟨by simp, below_drewN (Below.refl _ _) _⟩
 ·have e1 : ¬ mk l = s := fun e => he (by rw [← e, bs_mk])
  have hd : decide (l = bs s) = false := by simpa using he
  rw [hd]
  have HN := Lib.hid he
  clear hd he hv
  go_enter Tryz.func200, Tryz.ntmps200
  go_wp2
  go_quiet (fail)
  go_wp2
  go_ret
  exact ⟨by simp [toList_bs, HN.out], below_drewN (Below.refl _ _) _⟩
set_option maxRecDepth 100000 in
set_option maxHeartbeats 800000 in
theorem setSuffix_any (L : Nat) (x : Value) (s : ByteArray) (v : Value) (l : List UInt8) (w : World) (h : w.heap[L]? = some (.cells #[x, .string s] 199 (0, 0))) (hv : Sl w 1 v l.length (u8s l)) :
  Calls Tryz.prog 204 #[.pointer (some ⟨L, 0, none⟩), v] w fun e w' => e = .returned (.tuple #[]) ∧ w'.heap[L]? = some (.cells #[x, .string (mk l)] 199 (0, 0)) ∧ Only (· = L) w w' := by
 obtain ⟨a, cap, rfl⟩ := hv.form
 have hcv := conv_text hv
 have hc1 := (cell_row (j := 1) h).trans (show _ = some (Value.string s) from rfl)
 have hf := frozen_row (j := 1) h
 clear hv
 go_enter Tryz.func204, Tryz.ntmps204
 go_wp2
 go_end0
 exact ⟨rfl, heap_setCell_same w L 1 _ 199 _ h, (Only.refl (· = L) w).set (.inl rfl) _⟩
set_option maxRecDepth 100000 in
set_option maxHeartbeats 800000 in
theorem base_any (p : Value) (w : World) : Calls Tryz.prog 298 #[p] w fun e w' => e = .returned p ∧ w = w' := by
 go_enter Tryz.func298, Tryz.ntmps298
 go_wp2
 go_ret
 exact ⟨rfl, rfl⟩
set_option maxRecDepth 100000 in
set_option maxHeartbeats 800000 in
theorem nodeIs_any (p : Value) (w : World) : Calls Tryz.prog 299 #[p] w fun e w' => e = .returned (.bool false) ∧ w = w' := by
 go_enter Tryz.func299, Tryz.ntmps299
 go_wp2
 go_ret
 exact ⟨rfl, rfl⟩
set_option maxRecDepth 100000 in
set_option maxHeartbeats 800000 in
theorem nodePath_any (b c : Nat) (s : ByteArray) (w : World) (h : w.cell? ⟨b, c, none⟩ = some (.string s)) : Calls Tryz.prog 301 #[.pointer (some ⟨b, c, none⟩)] w fun e w' => e = .returned (.string s) ∧ w = w' := by
 go_enter Tryz.func301, Tryz.ntmps301
 go_wp2
 go_ret
 exact ⟨rfl, rfl⟩
end Go.Proofs.YtehlmjecbljafaaGreatDoor
namespace Go.Proofs.YtehlmjecbljafaaGreatDoor
open Go Go.RowKit
set_option maxRecDepth 100000 in
set_option maxHeartbeats 800000 in
theorem leafPath_any (L : Nat) (x : Value) (s : ByteArray) (w : World) (h : w.heap[L]? = some (.cells #[x, .string s] 199 (0, 0))) :
  Calls Tryz.prog 295 #[.pointer (some ⟨L, 0, none⟩)] w fun e w' => e = .returned (.string s) ∧ w' = w := by
 have hc1 := (cell_row (j := 1) h).trans (show _ = some (Value.string s) from rfl)
 go_enter Tryz.func295, Tryz.ntmps295
 go_wp2
 go_ret
 exact ⟨rfl, rfl⟩
set_option maxRecDepth 100000 in
set_option maxHeartbeats 800000 in
theorem leafIs_any (a : Option Addr) (w : World) : Calls Tryz.prog 291 #[.pointer a] w fun e w' => e = .returned (.bool true) ∧ w' = w := by
 go_enter Tryz.func291, Tryz.ntmps291
 go_wp2
 go_ret
 exact ⟨rfl, rfl⟩
theorem leafAs (v : Value) (w : World) : (Instr.typeAssert (.iface 197 v) 137 197 false).run Tryz.prog w = .ok v w := by kernel_rfl
end Go.Proofs.YtehlmjecbljafaaGreatDoor
