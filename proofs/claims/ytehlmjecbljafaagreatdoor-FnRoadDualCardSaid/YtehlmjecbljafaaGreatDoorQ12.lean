/- A subject tree's nodes grow; new nodes. Appending a text to a row of bytes with room. -/
import Derived.Test.YtehlmjecbljafaaGreatDoorQ6
import Derived.Test.YtehlmjecbljafaaGreatDoorQ10
import Derived.Test.YtehlmjecbljafaaGreatDoorQ11
import Derived.Lib.AppendStr
namespace Go.Proofs.YtehlmjecbljafaaGreatDoor
open Go Go.RowKit
/-- An empty node. -/
def row0 (k : Kd) : Array Value := (rowN k [] 0 (fun _ => 0) (fun _ => .leaf 0 0 [])).toArray
theorem built0 (k : Kd) : Tryz.prog.built (tyN k) [] = some (row0 k) := by cases k <;> kernel_rfl
theorem rowN_zero (k : Kd) (pre : List UInt8) (key key' : Nat → UInt8) (kid kid' : Nat → Art) : rowN k pre 0 key kid = rowN k pre 0 key' kid' := by
  unfold rowN
  congr 1
theorem row0_pre (k : Kd) (pre : List UInt8) (key : Nat → UInt8) (kid : Nat → Art) : ((rowN k [] 0 (fun _ => 0) (fun _ => .leaf 0 0 [])).set k.cap (.string (mk pre))) = rowN k pre 0 key kid := by
  rw [rowN_zero k pre key (fun _ => 0) kid (fun _ => .leaf 0 0 [])]
  unfold rowN
  rw [List.set_append_right _ _ (by simp)]
  simp
section
variable {P : Program} {ops : Array Oper} {rest : List Oper} {o1 o2 : Oper} {a : Act} {w : World} {Q : Exit → Act → World → Prop}
/-- '&T{}' by one law. -/
theorem wpList_boxZ (T : TypeId) (Z : Array Value) (x : Operand) (hb : P.built T [] = some Z) (g1 : o1.guard = none) (g2 : o2.guard = none) (e1 : o1.op = .build T #[]) (e2 : o2.op = .box T x)
    (hx : (a.put o1.dst (.agg Z)).eval x = .agg Z)
    (h : wpList P ops Q rest ((a.put o1.dst (.agg Z)).put o2.dst (.pointer (some ⟨w.heap.size, 0, none⟩))) (w.alloc (.cells Z T))) : wpList P ops Q (o1 :: o2 :: rest) a w := by
  refine wpList_plain g1 fun K hK => ?_
  have r1 : (execOp a.eval o1).run P w = .ok (.value (.agg Z)) w := by
    unfold execOp
    simp only [e1, Sem.run_bind]
    have := run_build (P := P) w T #[] Z hb
    simp only [List.map_toArray, List.map_nil]
    rw [this]; rfl
  unfold Oper.wp
  rw [r1, Oper.upon_value]
  refine hK _ _ (wpList_plain g2 fun K hK => ?_)
  have r2 : (execOp (a.put o1.dst (.agg Z)).eval o2).run P w = .ok (.value (.pointer (some ⟨w.heap.size, 0, none⟩))) (w.alloc (.cells Z T)) := by
    unfold execOp
    simp [e2, Instr.box, hx, newVar, Value.cells, newRow, newObj]
    rfl
  unfold Oper.wp
  rw [r2, Oper.upon_value]
  exact hK _ _ h
end
theorem upd_self {α : Type} (f : Nat → α) (i : Nat) : upd f i (f i) = f := by
  funext j; unfold upd; split
  · rename_i h; rw [h]
  · rfl
set_option maxRecDepth 100000 in
set_option maxHeartbeats 3200000 in
theorem grow4 (b : Nat) (pre : List UInt8) (key : Nat → UInt8) (kid : Nat → Art) (w : World) (hb : w.heap[b]? = some (.cells (rowN .k4 pre 4 key kid).toArray 335 (0, 0))) :
    Calls Tryz.prog 306 #[.pointer (some ⟨b, 0, none⟩)] w fun e w' => e = .returned (.iface 383 (.pointer (some ⟨w.heap.size, 0, none⟩))) ∧ w'.heap[w.heap.size]? = some (.cells (rowN .k10 pre 4 key kid).toArray 387 (0, 0)) ∧ Below w.heap.size w w' := by
  have hlt := (Array.getElem?_eq_some_iff.1 hb).1
  generalize hZ : row0 .k10 = Z
  have hbz : Tryz.prog.built 387 [] = some Z := by rw [← hZ]; exact built0 .k10
  have hp : w.cell? ⟨b, 4, none⟩ = some (.string (mk pre)) := row_at hb rowN_pre
  have hp2 := cell_alloc (.cells Z 387) hp
  have hn : (w.alloc (.cells Z 387)).heap[w.heap.size]? = some (.cells (rowN .k10 [] 0 (fun _ => 0) (fun _ => .leaf 0 0 [])).toArray 387 (0, 0)) := by rw [← hZ]; exact heap_alloc_new w _
  have hnc : (w.alloc (.cells Z 387)).cell? ⟨w.heap.size, 10, none⟩ = some (.string ⟨#[]⟩) := row_at hn (rowN_pre (k := .k10))
  have hnf : (w.alloc (.cells Z 387)).frozen? ⟨w.heap.size, 10, none⟩ = false := frozen_row hn
  clear hp
  go_enter Tryz.func306, Tryz.ntmps306
  go_wp2_with (refine wpList_boxZ 387 Z _ hbz rfl rfl rfl rfl rfl ?_)
  refine wp_any (fun W => W.heap[w.heap.size]? = some (.cells (rowN .k10 pre 0 key kid).toArray 387 (0, 0)) ∧ Below w.heap.size w W) ⟨?_, ?_⟩ ?_
  · rw [heap_alloc_new, ← hZ, row0, List.setIfInBounds_toArray]; exact congrArg (fun l : List Value => some (Obj.cells l.toArray 387 (0, 0))) (row0_pre .k10 pre key kid)
  · exact (Below.refl _ w).alloc (Nat.le_refl _) _
  rintro W ⟨hW, hbW⟩
  clear hn hnc hnf hp2 hbz hZ
  go_wp2
  go_loopw [4] (fun i wr => ∃ k : Nat, k ≤ 4 ∧ i = .int .i64 k ∧ wr.heap[w.heap.size]? = some (.cells (rowN .k10 pre k key kid).toArray 387 (0, 0)) ∧ Below w.heap.size w wr) (fun i _ => 4 - (intOf i).toNat)
  case atStart => exact ⟨0, Nat.zero_le _, rfl, hW, hbW⟩
  case round =>
    obtain ⟨k, hk, rfl, hr, hbr⟩ := hrel
    by_cases hlt2 : k < 4
    · have hbb := (hbr.block b hlt).trans hb
      have ck : wr.cell? ⟨b, 6 + k, none⟩ = some (.int .u8 ((key k).toNat : Nat)) := row_at hbb ((rowN_key (k := .k4) (i := k)).trans ((keyCells_at (k := .k4) (by decide) hlt2).trans (by rw [if_pos hlt2])))
      have cc : wr.cell? ⟨b, k, none⟩ = some (kid k).ref := row_at hbb ((rowN_kid (k := .k4) hlt2).trans (by rw [if_pos hlt2]))
      have i1 : (k : Int) < 4 := by omega
      have i0 : (0 : Int) ≤ (k : Int) := by omega
      have hadd := addChild10 w.heap.size pre k key kid (key k) (kid k) wr.drew hr (by omega)
      rw [upd_self, upd_self] at hadd
      go_wp2_with fail
      refine wp_region_L [0, 1, 2, 3, 4, 5, 6, 7, 8, 9, 10, 11, 12] (fun W' => W'.cell? ⟨b, 6 + k, none⟩ = some (.int .u8 ((key k).toNat : Nat)) ∧ W'.cell? ⟨b, k, none⟩ = some (kid k).ref) (by kernel_rfl) (by kernel_rfl) ⟨ck, cc⟩ (fun ne => ?_)
      have S0 := fun x : SubC (fun W' => W'.cell? ⟨b, 6 + k, none⟩ = some (.int .u8 ((key k).toNat : Nat)) ∧ W'.cell? ⟨b, k, none⟩ = some (kid k).ref) => x.ok.1
      have S1 := fun x : SubC (fun W' => W'.cell? ⟨b, 6 + k, none⟩ = some (.int .u8 ((key k).toNat : Nat)) ∧ W'.cell? ⟨b, k, none⟩ = some (kid k).ref) => x.ok.2
      repeat (refine wpCL_q rfl rfl ?_; go_big_quiet_step (fail); refine wpQuiet_nil ?_)
      refine wpCL_n rfl rfl rfl rfl ?_
      go_simp
      repeat (refine wpCL_q rfl rfl ?_; go_big_quiet_step (fail); refine wpQuiet_nil ?_)
      refine wpCL_n rfl rfl rfl rfl ?_
      go_simp
      repeat (refine wpCL_q rfl rfl ?_; go_big_quiet_step (fail); refine wpQuiet_nil ?_)
      refine wpCL_last ?_
      go_wp2_with fail
      refine hadd.mono ?_
      rintro e w3 ⟨rfl, h3, ho3⟩
      go_wp2
      go_roundw
      case rel => exact ⟨k + 1, hlt2, by go_num, h3, hbr.drew.trans (ho3.below (fun x hx => by omega) hbr.size)⟩
      case measure => simp [intOf]; omega
    · obtain rfl : k = 4 := by omega
      go_wp2
      go_ret
      exact ⟨rfl, hr, hbr⟩
set_option maxRecDepth 100000 in
set_option maxHeartbeats 3200000 in
theorem grow10 (b : Nat) (pre : List UInt8) (key : Nat → UInt8) (kid : Nat → Art) (w : World) (hb : w.heap[b]? = some (.cells (rowN .k10 pre 10 key kid).toArray 387 (0, 0))) :
    Calls Tryz.prog 324 #[.pointer (some ⟨b, 0, none⟩)] w fun e w' => e = .returned (.iface 392 (.pointer (some ⟨w.heap.size, 0, none⟩))) ∧ w'.heap[w.heap.size]? = some (.cells (rowN .k16 pre 10 key kid).toArray 396 (0, 0)) ∧ Below w.heap.size w w' := by
  have hlt := (Array.getElem?_eq_some_iff.1 hb).1
  generalize hZ : row0 .k16 = Z
  have hbz : Tryz.prog.built 396 [] = some Z := by rw [← hZ]; exact built0 .k16
  have hp : w.cell? ⟨b, 10, none⟩ = some (.string (mk pre)) := row_at hb rowN_pre
  have hp2 := cell_alloc (.cells Z 396) hp
  have hn : (w.alloc (.cells Z 396)).heap[w.heap.size]? = some (.cells (rowN .k16 [] 0 (fun _ => 0) (fun _ => .leaf 0 0 [])).toArray 396 (0, 0)) := by rw [← hZ]; exact heap_alloc_new w _
  have hnc : (w.alloc (.cells Z 396)).cell? ⟨w.heap.size, 16, none⟩ = some (.string ⟨#[]⟩) := row_at hn (rowN_pre (k := .k16))
  have hnf : (w.alloc (.cells Z 396)).frozen? ⟨w.heap.size, 16, none⟩ = false := frozen_row hn
  clear hp
  go_enter Tryz.func324, Tryz.ntmps324
  go_wp2_with (refine wpList_boxZ 396 Z _ hbz rfl rfl rfl rfl rfl ?_)
  refine wp_any (fun W => W.heap[w.heap.size]? = some (.cells (rowN .k16 pre 0 key kid).toArray 396 (0, 0)) ∧ Below w.heap.size w W) ⟨?_, ?_⟩ ?_
  · rw [heap_alloc_new, ← hZ, row0, List.setIfInBounds_toArray]; exact congrArg (fun l : List Value => some (Obj.cells l.toArray 396 (0, 0))) (row0_pre .k16 pre key kid)
  · exact (Below.refl _ w).alloc (Nat.le_refl _) _
  rintro W ⟨hW, hbW⟩
  clear hn hnc hnf hp2 hbz hZ
  go_wp2
  go_loopw [4] (fun i wr => ∃ k : Nat, k ≤ 10 ∧ i = .int .i64 k ∧ wr.heap[w.heap.size]? = some (.cells (rowN .k16 pre k key kid).toArray 396 (0, 0)) ∧ Below w.heap.size w wr) (fun i _ => 10 - (intOf i).toNat)
  case atStart => exact ⟨0, Nat.zero_le _, rfl, hW, hbW⟩
  case round =>
    obtain ⟨k, hk, rfl, hr, hbr⟩ := hrel
    by_cases hlt2 : k < 10
    · have hbb := (hbr.block b hlt).trans hb
      have ck : wr.cell? ⟨b, 12 + k, none⟩ = some (.int .u8 ((key k).toNat : Nat)) := row_at hbb ((rowN_key (k := .k10) (i := k)).trans ((keyCells_at (k := .k10) (by decide) hlt2).trans (by rw [if_pos hlt2])))
      have cc : wr.cell? ⟨b, k, none⟩ = some (kid k).ref := row_at hbb ((rowN_kid (k := .k10) hlt2).trans (by rw [if_pos hlt2]))
      have i1 : (k : Int) < 10 := by omega
      have i0 : (0 : Int) ≤ (k : Int) := by omega
      have hadd := addChild16 w.heap.size pre k key kid (key k) (kid k) wr.drew hr (by omega)
      rw [upd_self, upd_self] at hadd
      go_wp2_with fail
      refine wp_region_L [0, 1, 2, 3, 4, 5, 6, 7, 8, 9, 10, 11, 12] (fun W' => W'.cell? ⟨b, 12 + k, none⟩ = some (.int .u8 ((key k).toNat : Nat)) ∧ W'.cell? ⟨b, k, none⟩ = some (kid k).ref) (by kernel_rfl) (by kernel_rfl) ⟨ck, cc⟩ (fun ne => ?_)
      have S0 := fun x : SubC (fun W' => W'.cell? ⟨b, 12 + k, none⟩ = some (.int .u8 ((key k).toNat : Nat)) ∧ W'.cell? ⟨b, k, none⟩ = some (kid k).ref) => x.ok.1
      have S1 := fun x : SubC (fun W' => W'.cell? ⟨b, 12 + k, none⟩ = some (.int .u8 ((key k).toNat : Nat)) ∧ W'.cell? ⟨b, k, none⟩ = some (kid k).ref) => x.ok.2
      repeat (refine wpCL_q rfl rfl ?_; go_big_quiet_step (fail); refine wpQuiet_nil ?_)
      refine wpCL_n rfl rfl rfl rfl ?_
      go_simp
      repeat (refine wpCL_q rfl rfl ?_; go_big_quiet_step (fail); refine wpQuiet_nil ?_)
      refine wpCL_n rfl rfl rfl rfl ?_
      go_simp
      repeat (refine wpCL_q rfl rfl ?_; go_big_quiet_step (fail); refine wpQuiet_nil ?_)
      refine wpCL_last ?_
      go_wp2_with fail
      refine hadd.mono ?_
      rintro e w3 ⟨rfl, h3, ho3⟩
      go_wp2
      go_roundw
      case rel => exact ⟨k + 1, hlt2, by go_num, h3, hbr.drew.trans (ho3.below (fun x hx => by omega) hbr.size)⟩
      case measure => simp [intOf]; omega
    · obtain rfl : k = 10 := by omega
      go_wp2
      go_ret
      exact ⟨rfl, hr, hbr⟩
set_option maxRecDepth 100000 in
set_option maxHeartbeats 3200000 in
theorem grow16 (b : Nat) (pre : List UInt8) (key : Nat → UInt8) (kid : Nat → Art) (w : World) (hb : w.heap[b]? = some (.cells (rowN .k16 pre 16 key kid).toArray 396 (0, 0))) :
    Calls Tryz.prog 333 #[.pointer (some ⟨b, 0, none⟩)] w fun e w' => e = .returned (.iface 397 (.pointer (some ⟨w.heap.size, 0, none⟩))) ∧ w'.heap[w.heap.size]? = some (.cells (rowN .k48 pre 16 key kid).toArray 400 (0, 0)) ∧ Below w.heap.size w w' := by
  have hlt := (Array.getElem?_eq_some_iff.1 hb).1
  generalize hZ : row0 .k48 = Z
  have hbz : Tryz.prog.built 400 [] = some Z := by rw [← hZ]; exact built0 .k48
  have hp : w.cell? ⟨b, 16, none⟩ = some (.string (mk pre)) := row_at hb rowN_pre
  have hp2 := cell_alloc (.cells Z 400) hp
  have hn : (w.alloc (.cells Z 400)).heap[w.heap.size]? = some (.cells (rowN .k48 [] 0 (fun _ => 0) (fun _ => .leaf 0 0 [])).toArray 400 (0, 0)) := by rw [← hZ]; exact heap_alloc_new w _
  have hnc : (w.alloc (.cells Z 400)).cell? ⟨w.heap.size, 48, none⟩ = some (.string ⟨#[]⟩) := row_at hn (rowN_pre (k := .k48))
  have hnf : (w.alloc (.cells Z 400)).frozen? ⟨w.heap.size, 48, none⟩ = false := frozen_row hn
  clear hp
  go_enter Tryz.func333, Tryz.ntmps333
  go_wp2_with (refine wpList_boxZ 400 Z _ hbz rfl rfl rfl rfl rfl ?_)
  refine wp_any (fun W => W.heap[w.heap.size]? = some (.cells (rowN .k48 pre 0 key kid).toArray 400 (0, 0)) ∧ Below w.heap.size w W) ⟨?_, ?_⟩ ?_
  · rw [heap_alloc_new, ← hZ, row0, List.setIfInBounds_toArray]; exact congrArg (fun l : List Value => some (Obj.cells l.toArray 400 (0, 0))) (row0_pre .k48 pre key kid)
  · exact (Below.refl _ w).alloc (Nat.le_refl _) _
  rintro W ⟨hW, hbW⟩
  clear hn hnc hnf hp2 hbz hZ
  go_wp2
  go_loopw [4] (fun i wr => ∃ k : Nat, k ≤ 16 ∧ i = .int .i64 k ∧ wr.heap[w.heap.size]? = some (.cells (rowN .k48 pre k key kid).toArray 400 (0, 0)) ∧ Below w.heap.size w wr) (fun i _ => 16 - (intOf i).toNat)
  case atStart => exact ⟨0, Nat.zero_le _, rfl, hW, hbW⟩
  case round =>
    obtain ⟨k, hk, rfl, hr, hbr⟩ := hrel
    by_cases hlt2 : k < 16
    · have hbb := (hbr.block b hlt).trans hb
      have ck : wr.cell? ⟨b, 18 + k, none⟩ = some (.int .u8 ((key k).toNat : Nat)) := row_at hbb ((rowN_key (k := .k16) (i := k)).trans ((keyCells_at (k := .k16) (by decide) hlt2).trans (by rw [if_pos hlt2])))
      have cc : wr.cell? ⟨b, k, none⟩ = some (kid k).ref := row_at hbb ((rowN_kid (k := .k16) hlt2).trans (by rw [if_pos hlt2]))
      have i1 : (k : Int) < 16 := by omega
      have i0 : (0 : Int) ≤ (k : Int) := by omega
      have hadd := addChild48 w.heap.size pre k key kid (key k) (kid k) wr.drew hr (by omega)
      rw [upd_self, upd_self] at hadd
      go_wp2_with fail
      refine wp_region_L [0, 1, 2, 3, 4, 5, 6, 7, 8, 9, 10, 11, 12] (fun W' => W'.cell? ⟨b, 18 + k, none⟩ = some (.int .u8 ((key k).toNat : Nat)) ∧ W'.cell? ⟨b, k, none⟩ = some (kid k).ref) (by kernel_rfl) (by kernel_rfl) ⟨ck, cc⟩ (fun ne => ?_)
      have S0 := fun x : SubC (fun W' => W'.cell? ⟨b, 18 + k, none⟩ = some (.int .u8 ((key k).toNat : Nat)) ∧ W'.cell? ⟨b, k, none⟩ = some (kid k).ref) => x.ok.1
      have S1 := fun x : SubC (fun W' => W'.cell? ⟨b, 18 + k, none⟩ = some (.int .u8 ((key k).toNat : Nat)) ∧ W'.cell? ⟨b, k, none⟩ = some (kid k).ref) => x.ok.2
      repeat (refine wpCL_q rfl rfl ?_; go_big_quiet_step (fail); refine wpQuiet_nil ?_)
      refine wpCL_n rfl rfl rfl rfl ?_
      go_simp
      repeat (refine wpCL_q rfl rfl ?_; go_big_quiet_step (fail); refine wpQuiet_nil ?_)
      refine wpCL_n rfl rfl rfl rfl ?_
      go_simp
      repeat (refine wpCL_q rfl rfl ?_; go_big_quiet_step (fail); refine wpQuiet_nil ?_)
      refine wpCL_last ?_
      go_wp2_with fail
      refine hadd.mono ?_
      rintro e w3 ⟨rfl, h3, ho3⟩
      go_wp2
      go_roundw
      case rel => exact ⟨k + 1, hlt2, by go_num, h3, hbr.drew.trans (ho3.below (fun x hx => by omega) hbr.size)⟩
      case measure => simp [intOf]; omega
    · obtain rfl : k = 16 := by omega
      go_wp2
      go_ret
      exact ⟨rfl, hr, hbr⟩
end Go.Proofs.YtehlmjecbljafaaGreatDoor
namespace Go.Proofs.YtehlmjecbljafaaGreatDoor
open Go Go.RowKit
theorem run_appRoom {P : Program} (w : World) (t u ty e t0 : TypeId) (i : TypeInfo) (ht : P.underlying t = some (.slice e)) (hu : P.underlying u = some .string) (hi : P.info? e = some i) (hs1 : i.size = 1)
    (g sLen sCap : Nat) (cur : Array Value) (hg : w.heap[g]? = some (.cells cur t0 (0, 0))) (s : ByteArray) (hroom : sLen + s.size ≤ sCap) (hfit : sLen + s.size ≤ cur.size) :
    (Builtin.append_ #[t, u] ty #[.slice (some ⟨g, 0, none⟩) sLen sCap, .string s]).run P w =
      .ok (.slice (some ⟨g, 0, none⟩) (sLen + s.size) sCap) (w.setRow g (cur.toList.take sLen ++ Lib.strCells s ++ cur.toList.drop (sLen + s.size)).toArray) := by
  have hf := Lib.run_firstCells_string (P := P) w 1 s
  have hst := run_storeCells_at P g sLen t0 (Lib.strCells s) 0 cur w hg (by simpa [Lib.strCells_length] using hfit) (Lib.strCells_oneCell s)
  simp only [Nat.add_zero, Lib.strCells_length] at hst
  simp [Builtin.append_, run_underlying ht, run_underlying hu, sizeOf, typeInfo, hi, hs1, Builtin.lenOf, hroom, hf, Addr.add_lit, hst]
theorem info5 : (Tryz.prog.info? 5).map (fun i => (i.zero, i.size, i.bytes)) = some (some (.int .u8 0), 1, 1) := by kernel_rfl
theorem app_str {t0 : TypeId} (W : World) (Bp cap : Nat) (cur : Array Value) (pre : List UInt8) (str : ByteArray) (ty : TypeId) (hg : W.heap[Bp]? = some (.cells cur t0 (0, 0))) (hpre : BsAt W Bp 0 pre) (hroom : pre.length + str.size ≤ cap) (hfit : pre.length + str.size ≤ cur.size) :
    ∃ W' cur', (Builtin.append_ #[94, 9] ty #[.slice (some ⟨Bp, 0, none⟩) pre.length cap, .string str]).run Tryz.prog W = .ok (.slice (some ⟨Bp, 0, none⟩) (pre.length + str.size) cap) W' ∧ W'.heap[Bp]? = some (.cells cur' t0 (0, 0)) ∧ cur'.size = cur.size ∧
      BsAt W' Bp 0 (pre ++ bs str) ∧ Only (· = Bp) W W' := by
  obtain ⟨i, hi, -, h1, -⟩ := info_parts info5
  have hr := run_appRoom (P := Tryz.prog) W 94 9 ty 5 t0 i Tryz.underlying94 Tryz.underlying9 hi h1 Bp pre.length cap cur hg str hroom hfit
  have hsl : (Lib.strCells str).length = str.size := Lib.strCells_length str
  have hh := setRow_heap W Bp cur (cur.toList.take pre.length ++ Lib.strCells str ++ cur.toList.drop (pre.length + str.size)).toArray t0 (0, 0) hg
  refine ⟨_, _, hr, hh, by simp [hsl]; omega, fun j c hj => ?_, ⟨rfl, rfl, rfl, by simp, fun k _ hk => setRow_other W Bp k _ hk⟩⟩
  rw [Nat.zero_add, cell_row hh]
  have htl : (cur.toList.take pre.length).length = pre.length := by simp; omega
  rcases Nat.lt_or_ge j pre.length with h | h
  · rw [List.getElem?_append_left h] at hj
    have := hpre j c hj
    rw [Nat.zero_add, cell_row hg] at this
    simp only [List.append_assoc, List.getElem?_toArray]
    rw [List.getElem?_append_left (by omega), List.getElem?_take, if_pos h]
    simpa using this
  · rw [List.getElem?_append_right h] at hj
    have hjl := (List.getElem?_eq_some_iff.1 hj).1
    rw [bs_len] at hjl
    simp only [List.append_assoc, List.getElem?_toArray]
    rw [List.getElem?_append_right (by omega), htl, List.getElem?_append_left (by omega)]
    unfold Lib.strCells
    rw [List.getElem?_map]
    unfold bs at hj
    rw [hj]; rfl
theorem runs_appStr {t0 : TypeId} {o : Oper} {a : Act} {K : Value → World → Prop} {W : World} (s x : Operand) (ho : o.op = .call { callee := .builtin .append, args := #[s, x], argTypes := #[94, 9] })
    (Bp cap n : Nat) (cur : Array Value) (pre : List UInt8) (str : ByteArray) (hn : pre.length = n) (hs : a.eval s = .slice (some ⟨Bp, 0, none⟩) n cap) (hx : a.eval x = .string str) (hg : W.heap[Bp]? = some (.cells cur t0 (0, 0))) (hpre : BsAt W Bp 0 pre)
    (hroom : n + str.size ≤ cap) (hfit : n + str.size ≤ cur.size)
    (h : ∀ W' cur', W'.heap[Bp]? = some (.cells cur' t0 (0, 0)) → cur'.size = cur.size → BsAt W' Bp 0 (pre ++ bs str) → Only (· = Bp) W W' → K (.slice (some ⟨Bp, 0, none⟩) (n + str.size) cap) W') :
    runsTo Tryz.prog K ((execOp a.eval o).run Tryz.prog W) := by
  subst hn
  obtain ⟨W', cur', hrun, h1, h2, h3, h4⟩ := app_str W Bp cap cur pre str o.type hg hpre hroom hfit
  unfold execOp
  simp only [ho, resolve, invoke, builtin, Sem.run_bind, Sem.run_pure, Result.andThen_ok, List.map_toArray, List.map_cons, List.map_nil, hs, hx, hrun]
  exact h W' cur' h1 h2 h3 h4
end Go.Proofs.YtehlmjecbljafaaGreatDoor
