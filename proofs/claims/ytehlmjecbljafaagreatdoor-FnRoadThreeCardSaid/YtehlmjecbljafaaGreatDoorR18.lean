/- A subject tree: what an insertion must show; at a leaf. -/
import Derived.Test.YtehlmjecbljafaaGreatDoorR10
import Derived.Test.YtehlmjecbljafaaGreatDoorR17
namespace Go.Proofs.YtehlmjecbljafaaGreatDoor
open Go Go.RowKit
theorem wpCL_mf {P : Program} {l : List Oper} {Q : Exit → Act → World → Prop} {C : World → Prop} {rd : Nat → Bool} {i : Nat} {rest : List Oper} {o o2 : Oper} {a : Act} {w : World} {x : Operand} {name : String} {v : Value}
  (hop : o.op = .makeFunc (.method name) #[x] #[]) (hx : a.eval x = v) (hr : rd i = true) (hw : Region.wanted o (yielded l.toArray a.tmps) = true)
  (h : wpCL P l rd C Q (i + 1) (o2 :: rest) (a.put o.dst (.func (.method name) #[v] #[])) w) : wpCL P l rd C Q i (o :: o2 :: rest) a w := fun hd => by
 obtain ⟨h1, h2⟩ := drop_at hd
 simp only [List.length_cons, List.range'_succ]
 refine wpC_rd h1 hr fun K hK => ?_
 rw [if_pos hw]
 refine ⟨_, fun w' _ => ?_, hK _ (by simpa [List.range'_succ] using h h2)⟩
 unfold execOp
 simp [hop, hx, Instr.makeFunc]
theorem wpCL_nm {P : Program} {l : List Oper} {Q : Exit → Act → World → Prop} {C : World → Prop} {rd : Nat → Bool} {i : Nat} {rest : List Oper} {o o2 : Oper} {a : Act} {w : World} {x : Operand} {name : String} {t : TypeId} {v : Value}
  (hop : o.op = .nilCheck x) (hx : a.eval x = .func (.method name) #[.iface t v] #[]) (hn : ∀ w', (nilAhead (P.types.size + Made.depth) t v name).run P w' = .ok (some false) w') (hr : rd i = true) (hw : Region.wanted o (yielded l.toArray a.tmps) = true)
  (h : wpCL P l rd C Q (i + 1) (o2 :: rest) (a.put o.dst (.func (.method name) #[.iface t v] #[])) w) : wpCL P l rd C Q i (o :: o2 :: rest) a w := fun hd => by
 obtain ⟨h1, h2⟩ := drop_at hd
 simp only [List.length_cons, List.range'_succ]
 refine wpC_rd h1 hr fun K hK => ?_
 rw [if_pos hw]
 refine ⟨_, fun w' _ => ?_, hK _ (by simpa [List.range'_succ] using h h2)⟩
 unfold execOp
 simp only [hop, hx]
 have hp : ∀ w, (program : Sem Program).run P w = .ok P w := fun _ => rfl
 simp [hp, hn, Result.andThen]
theorem nilFind (k : Kd) (b : Nat) (w : World) : (nilAhead (Tryz.prog.types.size + Made.depth) (tyP k) (.pointer (some ⟨b, 0, none⟩)) "pub-tokenroad/pub/natsserver/server/stree.findChild").run Tryz.prog w = .ok (some false) w := by
 cases k <;> kernel_rfl
theorem nilAdd (k : Kd) (b : Nat) (w : World) : (nilAhead (Tryz.prog.types.size + Made.depth) (tyP k) (.pointer (some ⟨b, 0, none⟩)) "pub-tokenroad/pub/natsserver/server/stree.addChild").run Tryz.prog w = .ok (some false) w := by
 cases k <;> kernel_rfl
theorem nilPre (k : Kd) (b : Nat) (w : World) : (nilAhead (Tryz.prog.types.size + Made.depth) (tyP k) (.pointer (some ⟨b, 0, none⟩)) "pub-tokenroad/pub/natsserver/server/stree.setPrefix").run Tryz.prog w = .ok (some false) w := by
 cases k <;> kernel_rfl
/-- What stands ahead of an insertion at the slot ⟨sb, so⟩ of the text l0 from si on. -/
structure InsH (T : Art) (l0 : List UInt8) (si : Nat) (v : Value) (sb so : Nat) (cs : Array Value) (ty : TypeId) (w : World) : Prop where
 row : w.heap[sb]? = some (.cells cs ty (0, 0))
 slot : cs[so]? = some T.ref
 at' : T.At w
 sep : T.Sep
 wf : T.WF
 nsb : ¬ T.Fp sb
 small : T.Small
 n127 : ∀ e ∈ T.ents, 127 ∉ e.1
 m127 : 127 ∉ l0
 txt : Sl w 1 v l0.length (u8s l0)
 far : ∀ b o n c, v = .slice (some ⟨b, o, none⟩) n c → ¬ T.Fp b ∧ b ≠ sb
 le : si ≤ l0.length
 size : l0.length ≤ 100000
/-- What an insertion shows. -/
def InsC (T : Art) (l : List UInt8) (n : Int) (sb so : Nat) (cs : Array Value) (ty : TypeId) (w : World) (e : Ending) (w' : World) : Prop :=
 ∃ o u T', e = .returned (.tuple #[o, .bool u]) ∧ OldP w' o ∧ w'.heap[sb]? = some (.cells (cs.setIfInBounds so T'.ref) ty (0, 0)) ∧ T'.At w' ∧ T'.Sep ∧ InsR T l n T' ∧ (u = true ↔ ∃ x, (l, x) ∈ T.ents) ∧
  (∀ x, T'.Fp x → T.Fp x ∨ w.heap.size ≤ x) ∧ Only (fun k => T.Fp k ∨ k = sb) w w'
theorem InsH.cell {T : Art} {l0 : List UInt8} {si : Nat} {v : Value} {sb so : Nat} {cs : Array Value} {ty : TypeId} {w : World} (h : InsH T l0 si v sb so cs ty w) : w.cell? ⟨sb, so, none⟩ = some T.ref := (cell_row h.row).trans h.slot
theorem size5 (w : World) : (sizeOf 5).run Tryz.prog w = .ok 1 w := by kernel_rfl
theorem elem94 : Tryz.prog.elem 94 = 5 := by kernel_rfl
theorem Sl.cut {w : World} {n cap : Nat} {a : Option Addr} {l : List UInt8} (h : Sl w 1 (.slice a n cap) n (u8s l)) (hn : n = l.length) {j k : Nat} (hj : j ≤ k) (hk : k ≤ n) :
  Sl w 1 (.slice (if cap = j then a else a.map (·.add j)) (k - j) (cap - j)) (k - j) (u8s ((l.take k).drop j)) := by
 obtain ⟨h1, a', cap', e, h2, h3, h4⟩ := h
 cases e
 have hl : ((l.take k).drop j).length = k - j := by rw [List.length_drop, List.length_take]; omega
 refine ⟨by unfold u8s; rw [List.length_map, hl]; omega, _, _, rfl, by omega, by omega, fun h0 => ?_⟩
 have hjk : j < k := by unfold u8s at h0; rw [List.length_map, hl] at h0; omega
 obtain ⟨b, o, rfl, hc⟩ := h4 (by unfold u8s; rw [List.length_map]; omega)
 rw [if_neg (by omega)]
 refine ⟨b, o + j, by rw [Option.map_some, add0], fun i x hx => ?_⟩
 unfold u8s at hx
 rw [List.getElem?_map, List.getElem?_drop, List.getElem?_take] at hx
 split at hx
 ·have := hc (j + i) x (by unfold u8s; rw [List.getElem?_map]; exact hx)
  rw [Nat.add_assoc]; exact this
 ·cases hx
theorem from_run (a : Option Addr) (n cap j : Nat) (hj : j ≤ n) : ∃ sa, (∀ w, (Instr.slice 94 (.slice a n cap) (some (.int .i64 j)) none none).run Tryz.prog w = .ok (.slice sa (n - j) (cap - j)) w) ∧
  ∀ w l, Sl w 1 (.slice a n cap) n (u8s l) → n = l.length → Sl w 1 (.slice sa (n - j) (cap - j)) (l.drop j).length (u8s (l.drop j)) := by
 refine ⟨if cap = j then a else a.map (·.add j), fun w => ?_, fun w l h hn => ?_⟩
 ·rw [run_slice_l w 94 a n cap (by rw [elem94]; exact Tryz.underlying94) .i64 j (by omega) (by omega), elem94, size5]
  simp [Result.andThen, sliced]
 ·have := h.cut hn (j := j) (k := n) hj (Nat.le_refl _)
  rw [hn, List.take_length] at this
  rw [List.length_drop, ← hn]
  rw [← hn] at this; exact this
theorem upto_run (a : Option Addr) (n cap j k : Nat) (hj : j ≤ k) (hk : k ≤ n) (hc : n ≤ cap) : ∃ sa, (∀ w, (Instr.slice 94 (.slice a n cap) (some (.int .i64 j)) (some (.int .i64 k)) none).run Tryz.prog w = .ok (.slice sa (k - j) (cap - j)) w) ∧
  ∀ w l, Sl w 1 (.slice a n cap) n (u8s l) → n = l.length → Sl w 1 (.slice sa (k - j) (cap - j)) ((l.take k).drop j).length (u8s ((l.take k).drop j)) := by
 refine ⟨if cap = j then a else a.map (·.add j), fun w => ?_, fun w l h hn => ?_⟩
 ·rw [run_slice_lh w 94 a n cap (by rw [elem94]; exact Tryz.underlying94) .i64 .i64 j k (by omega) (by omega) (by omega), elem94, size5]
  simp [Result.andThen, sliced]
 ·have := h.cut hn (j := j) (k := k) hj hk
  have hl : ((l.take k).drop j).length = k - j := by rw [List.length_drop, List.length_take]; omega
  rw [hl]; exact this
theorem set_self {cs : Array Value} {i : Nat} {v : Value} (h : cs[i]? = some v) : cs.setIfInBounds i v = cs := by
 apply Array.ext_getElem?
 intro j
 rw [Array.getElem?_setIfInBounds]
 by_cases e : i = j
 ·subst e; rw [if_pos rfl, if_pos (Array.getElem?_eq_some_iff.1 h).1, h]
 ·rw [if_neg e]
theorem leafAsP (v : Value) (w : World) : (Instr.typeAssert (.iface 197 v) 137 197 false).run Tryz.prog w = .ok v w := by kernel_rfl
set_option maxRecDepth 100000 in
set_option maxHeartbeats 3200000 in
theorem insSame_any (t : Value) (L : Nat) (x0 n : Int) (l0 : List UInt8) (si : Nat) (v : Value) (sb so : Nat) (cs : Array Value) (ty : TypeId) (w : World) (h : InsH (.leaf L x0 (l0.drop si)) l0 si v sb so cs ty w) :
  Calls Tryz.prog 157 #[t, .pointer (some ⟨sb, so, none⟩), v, .int .i64 n, .int .i64 si] w (InsC (.leaf L x0 (l0.drop si)) (l0.drop si) n sb so cs ty w) := by
 obtain ⟨a, cap, rfl⟩ := h.txt.form
 have hsc : w.cell? ⟨sb, so, none⟩ = some (.iface 197 (.pointer (some ⟨L, 0, none⟩))) := h.cell
 have hL : w.heap[L]? = some (.cells #[.int .i64 x0, .string (mk (l0.drop si))] 199 (0, 0)) := h.at'
 have hlt := (Array.getElem?_eq_some_iff.1 hL).1
 have hle := h.le
 have hsz := h.size
 obtain ⟨sa, hrun, hsub⟩ := from_run a l0.length cap si hle
 have hlm := leafMatch_any L (.int .i64 x0) (mk (l0.drop si)) _ (l0.drop si) w hL (hsub w l0 h.txt rfl)
 rw [bs_mk, show decide (l0.drop si = l0.drop si) = true by simp] at hlm
 have iL : ∀ w, (method 508 197 (.pointer (some ⟨L, 0, none⟩)) "pub-tokenroad/pub/natsserver/server/stree.isLeaf").run Tryz.prog w = .ok (291, .pointer (some ⟨L, 0, none⟩)) w := fun w => isLeafM _ w
 have iA : ∀ w, (Instr.typeAssert (.iface 197 (.pointer (some ⟨L, 0, none⟩))) 137 197 false).run Tryz.prog w = .ok (.pointer (some ⟨L, 0, none⟩)) w := fun w => leafAsP _ w
 have HH := Lib.hid h; clear h
 clear hsub
 go_enter Tryz.func157, Tryz.ntmps157
 go_wp2_with fail
 refine (leafIs_any _ w).mono ?_
 rintro e w1 ⟨rfl, rfl⟩
 go_wp2_with fail
 refine hlm.mono ?_
 rintro e w2 ⟨rfl, hb2⟩
 have hL2 := (hb2.block L hlt).trans hL
 have c0 := (cell_row (j := 0) hL2).trans (show _ = some (Value.int .i64 x0) from rfl)
 have f0 := frozen_row (j := 0) hL2
 have hz2 := hb2.size
 have hl2 := World.block_lt_of_cell? _ _ c0
 clear hlm hL hsc
 go_wp2
 go_ret2
 have hnb : sb ≠ L := HH.out.nsb
 have hsl := (Array.getElem?_eq_some_iff.1 HH.out.row).1
 have hrow2 := (hb2.block sb hsl).trans HH.out.row
 have hz : (w2.setCell ⟨L, 0, none⟩ (.int .i64 n)).heap.size = w2.heap.size := size_setCell _ _ _
 have hbl := fun k (hk : k < w2.heap.size) => ((Below.refl _ (w2.setCell ⟨L, 0, none⟩ (.int .i64 n))).alloc (Nat.le_refl _) (.cells #[.int .i64 x0] 3)).block k (by rw [hz]; exact hk)
 have ha := heap_alloc_new (w2.setCell ⟨L, 0, none⟩ (.int .i64 n)) (.cells #[.int .i64 x0] 3)
 rw [hz] at ha
 refine ⟨.pointer (some ⟨w2.heap.size, 0, none⟩), true, .leaf L n (l0.drop si), rfl, .inr ⟨w2.heap.size, 0, x0, rfl, (cell_row ha).trans rfl⟩, ?_, ?_, trivial, ins_same _ _ _ _, ⟨fun _ => ⟨x0, by simp [Art.ents]⟩, fun _ => rfl⟩, fun x hx => .inl hx, ?_⟩
 ·rw [set_self (show cs[so]? = some (Art.leaf L n (l0.drop si)).ref from HH.out.slot), hbl sb (by omega), heap_setCell_other _ _ _ _ hnb]
  exact hrow2
 ·show _ = some _
  rw [hbl L hl2]
  exact heap_setCell_same w2 L 0 _ 199 (.int .i64 n) hL2
 ·exact ((Only.of hb2).set (.inl (.inl rfl)) _).alloc _
theorem s2bL (l : List UInt8) (w : World) (hs : l.length ≤ 100000) : Calls Tryz.prog 202 #[.string (mk l)] w fun e w' => ∃ a c, e = .returned (.slice a l.length c) ∧ Sl w' 1 (.slice a l.length c) l.length (u8s l) ∧ Below w.heap.size w w' := by
 have := s2b_any (mk l) w (by rw [mk_size]; unfold maxLen; omega)
 rw [mk_size, bs_mk] at this
 exact this
theorem pivot0 (v : Value) (l : List UInt8) (w : World) (hv : Sl w 1 v l.length (u8s l)) : Calls Tryz.prog 128 #[v, .int .i64 0] w fun e w' => e = .returned (.int .u8 ((piv l).toNat : Nat)) ∧ w = w' := pivot_any v l 0 w hv
theorem newLeaf_abs (v : Value) (l : List UInt8) (n : Int) (w : World) (hv : Sl w 1 v l.length (u8s l)) :
  Calls Tryz.prog 199 #[v, .int .i64 n] w fun e w' => e = .returned (.pointer (some ⟨w.heap.size, 0, none⟩)) ∧ w'.heap[w.heap.size]? = some (.cells #[.int .i64 n, .string (mk l)] 199 (0, 0)) ∧ Below w.heap.size w w' := by
 refine (newLeaf_any v l n w hv).mono ?_
 rintro e w' ⟨rfl, rfl⟩
 exact ⟨rfl, heap_alloc_new _ _, (Below.refl _ w).alloc (Nat.le_refl _) _⟩
theorem sep_two {NB : Nat} {pre : List UInt8} {k0 : Nat → UInt8} {c0 c1 : UInt8} {kd : Nat → Art} {T0 T1 : Art} (h0 : T0.Sep) (h1 : T1.Sep) (n0 : ¬ T0.Fp NB) (n1 : ¬ T1.Fp NB) (hd : ∀ x, T0.Fp x → ¬ T1.Fp x) :
  (Art.node .k4 NB pre 2 (upd (upd k0 0 c0) 1 c1) (upd (upd kd 0 T0) 1 T1)).Sep := by
 have a0 : upd (upd kd 0 T0) 1 T1 0 = T0 := by rw [upd_ne _ _ (by decide), upd_same]
 refine ⟨fun i hi => ?_, fun i j hi hj hij x => ?_⟩
 ·match i, hi with
  | 0, _ => rw [a0]; exact ⟨h0, n0⟩
  | 1, _ => rw [upd_same]; exact ⟨h1, n1⟩
 ·match i, hi, j, hj with
  | 0, _, 0, _ => exact absurd rfl hij
  | 1, _, 1, _ => exact absurd rfl hij
  | 0, _, 1, _ => rw [a0, upd_same]; exact hd x
  | 1, _, 0, _ => rw [a0, upd_same]; exact fun h h' => hd x h' h
theorem fp_two {NB x : Nat} {pre : List UInt8} {k0 : Nat → UInt8} {c0 c1 : UInt8} {kd : Nat → Art} {T0 T1 : Art} (h : (Art.node .k4 NB pre 2 (upd (upd k0 0 c0) 1 c1) (upd (upd kd 0 T0) 1 T1)).Fp x) : x = NB ∨ T0.Fp x ∨ T1.Fp x := by
 rcases h with h | ⟨i, hi, h⟩
 ·exact .inl h
 ·match i, hi with
  | 0, _ => rw [upd_ne _ _ (by decide), upd_same] at h; exact .inr (.inl h)
  | 1, _ => rw [upd_same] at h; exact .inr (.inr h)
theorem extract_mk (l : List UInt8) (j : Nat) : (mk l).extract j (mk l).size = mk (l.drop j) := by
 apply bs_inj; rw [bs_extract_end, bs_mk, bs_mk]
set_option maxRecDepth 100000 in
set_option maxHeartbeats 12800000 in
theorem insLeaf_any (t : Value) (L : Nat) (x0 n : Int) (sl l0 : List UInt8) (si : Nat) (v : Value) (sb so : Nat) (cs : Array Value) (ty : TypeId) (w : World) (h : InsH (.leaf L x0 sl) l0 si v sb so cs ty w) (hne : sl ≠ l0.drop si) (hsl : sl.length ≤ 100000) :
  Calls Tryz.prog 157 #[t, .pointer (some ⟨sb, so, none⟩), v, .int .i64 n, .int .i64 si] w (InsC (.leaf L x0 sl) (l0.drop si) n sb so cs ty w) := by
 obtain ⟨a, cap, rfl⟩ := h.txt.form
 have hsc : w.cell? ⟨sb, so, none⟩ = some (.iface 197 (.pointer (some ⟨L, 0, none⟩))) := h.cell
 have hL : w.heap[L]? = some (.cells #[.int .i64 x0, .string (mk sl)] 199 (0, 0)) := h.at'
 have hlt := (Array.getElem?_eq_some_iff.1 hL).1
 have hslt := (Array.getElem?_eq_some_iff.1 h.row).1
 have hle := h.le
 have hsz := h.size
 have hcle := cpl_le sl (l0.drop si)
 have hpv := cpl_piv hne (h.n127 (sl, x0) (by simp [Art.ents])) (fun hm => h.m127 (List.mem_of_mem_drop hm))
 generalize hc : cpl sl (l0.drop si) = c at *
 rw [List.length_drop, List.drop_drop] at *
 obtain ⟨sa, hrun, hsub⟩ := from_run a l0.length cap si hle
 obtain ⟨sb2, hrun2, hsub2⟩ := upto_run a l0.length cap si (si + c) (by omega) (by omega) (by
  obtain ⟨-, a', cap', e, h2, -⟩ := h.txt; cases e; exact h2)
 obtain ⟨sc, hrun3, hsub3⟩ := from_run a l0.length cap (si + c) (by omega)
 rw [Int.natCast_add] at hrun2 hrun3
 simp only [List.drop_take, Nat.add_sub_cancel_left] at hrun2 hsub2
 have hlm := leafMatch_any L (.int .i64 x0) (mk sl) _ (l0.drop si) w hL (hsub w l0 h.txt rfl)
 rw [bs_mk, show decide (l0.drop si = sl) = false by simp; exact fun e => hne e.symm] at hlm
 have iL : ∀ w, (method 508 197 (.pointer (some ⟨L, 0, none⟩)) "pub-tokenroad/pub/natsserver/server/stree.isLeaf").run Tryz.prog w = .ok (291, .pointer (some ⟨L, 0, none⟩)) w := fun w => isLeafM _ w
 have iA : ∀ w, (Instr.typeAssert (.iface 197 (.pointer (some ⟨L, 0, none⟩))) 137 197 false).run Tryz.prog w = .ok (.pointer (some ⟨L, 0, none⟩)) w := fun w => leafAsP _ w
 have HH := Lib.hid h; clear h
 have HP := Lib.hid hpv; clear hpv
 have HC := Lib.hid hc; clear hc
 have HS2 := Lib.hid hsub2; clear hsub2
 have HS3 := Lib.hid hsub3; clear hsub3
 have HS1 := Lib.hid hsub; clear hsub
 have HNE := Lib.hid hne; clear hne
 go_enter Tryz.func157, Tryz.ntmps157
 go_wp2_with fail
 refine (leafIs_any _ w).mono ?_
 rintro e w1 ⟨rfl, rfl⟩
 go_wp2_with fail
 refine hlm.mono ?_
 rintro e w2 ⟨rfl, hb2⟩
 have hL2 := (hb2.block L hlt).trans hL
 have c1 := (cell_row (j := 1) hL2).trans (show _ = some (Value.string (mk sl)) from rfl)
 have hz2 := hb2.size
 have hl2 := World.block_lt_of_cell? _ _ c1
 clear hlm hL hsc
 go_wp2_with fail
 refine wp_region_L [0, 1, 2, 3, 5, 6, 7] (fun W' => W'.cell? ⟨L, 1, none⟩ = some (.string (mk sl))) (by kernel_rfl) (by kernel_rfl) c1 (fun ne => ?_)
 have S0 := fun x : SubC (fun W' => W'.cell? ⟨L, 1, none⟩ = some (.string (mk sl))) => x.ok
 repeat (refine wpCL_q rfl rfl ?_; go_big_quiet_step (fail); refine wpQuiet_nil ?_)
 refine wpCL_n rfl rfl rfl rfl ?_
 go_simp
 repeat (refine wpCL_q rfl rfl ?_; go_big_quiet_step (fail); refine wpQuiet_nil ?_)
 refine wpCL_ch rfl rfl (fun K hK => ?_)
 go_simp
 simp only [runsTo_enter]
 refine (s2bL sl w2.drew hsl).mono ?_
 rintro e w3 ⟨a3, c3, rfl, hs3, hb3⟩
 have hb3 := bel_drew hb3
 refine ⟨_, rfl, hK _ _ ⟨⟨w3, cell_bel c1 hb3⟩, rfl⟩ ?_⟩
 clear hK K
 go_simp
 repeat (refine wpCL_q rfl rfl ?_; go_big_quiet_step (fail); refine wpQuiet_nil ?_)
 refine wpCL_ch rfl rfl (fun K hK => ?_)
 go_simp
 simp only [runsTo_enter]
 have hbw3 := bel2 hb2 hb3
 refine (cpl_any _ _ sl (l0.drop si) w3 hs3 (HS1.out w3 l0 (HH.out.txt.keep hbw3) rfl)).mono ?_
 rintro e w4 ⟨rfl, hb4⟩
 rw [HC.out]
 have hbw4 := bel2 hbw3 hb4
 have c4 := cell_bel (cell_bel c1 hb3) hb4
 refine ⟨_, rfl, hK _ _ ⟨⟨w4, c4⟩, rfl⟩ ?_⟩
 clear hK K S0 ne hs3 hb3 hb4 hbw3 c1
 go_simp
 refine wpCL_last ?_
 go_wp2_with fail
 refine (newNode4_any _ ((l0.drop si).take c) w4 (HS2.out w4 l0 (HH.out.txt.keep hbw4) rfl)).mono ?_
 rintro e w5 ⟨rfl, h5, hb5⟩
 have hL4 := (hbw4.block L hlt).trans HH.out.at'
 have hL5 := (hb5.block L (by have := hbw4.size; omega)).trans hL4
 have hbw5 := bel2 hbw4 hb5
 have hz4 := hbw4.size
 have hz5 : w4.heap.size < w5.heap.size := (Array.getElem?_eq_some_iff.1 (h5 (fun _ => 0) (fun _ => .leaf 0 0 []))).1
 generalize hNB : w4.heap.size = NB at *
 have HN5 := Lib.hid (h5 (fun _ => 0) (fun _ => .leaf 0 0 [])); clear h5
 have c5 := (cell_row (j := 1) hL5).trans (show _ = some (Value.string (mk sl)) from rfl)
 have hex := extract_mk sl c
 have hsdl : (sl.drop c).length ≤ 100000 := by rw [List.length_drop]; omega
 generalize hsd : sl.drop c = sd at *
 have hcs : (c : Int) ≤ ((mk sl).size : Int) := by rw [mk_size]; omega
 have hc0 : (0 : Int) ≤ (c : Int) := by omega
 have HSD := Lib.hid hsd; clear hsd
 clear c4 hL2 hL4 hbw4 hrun2 hb5 hNB hrun
 go_wp2_with fail
 refine (s2bL sd w5 hsdl).mono ?_
 rintro e w6 ⟨a6, c6, rfl, hs6, hb6⟩
 have hL6 := (hb6.block L (by omega)).trans hL5
 have hbw6 := bel2 hbw5 hb6
 have hz6 := hb6.size
 clear c5 hex hcs hL5
 go_wp2_with fail
 refine (setSuffix_any L (.int .i64 x0) (mk sl) _ sd w6 hL6 hs6).mono ?_
 rintro e w7 ⟨rfl, hL7, ho7⟩
 have hz7 := ho7.size
 have HN7 := (ho7.block NB (by omega) (by omega)).trans ((hb6.block NB hz5).trans HN5.out)
 have HN7 := Lib.hid HN7
 have ho6 : Only (· = L) w1 w7 := ((Only.of hbw6).trans ho7 fun b hb => .inl hb)
 clear HN5 hs6 hL6 ho7
 have c7 := (cell_row (j := 1) hL7).trans (show _ = some (Value.string (mk sd)) from rfl)
 have HL7 := Lib.hid hL7; clear hL7
 go_wp2_with fail
 refine (s2bL sd w7 hsdl).mono ?_
 rintro e w8 ⟨a8, c8, rfl, hs8, hb8⟩
 go_wp2_with fail
 refine (pivot0 _ sd w8 hs8).mono ?_
 rintro e w8' ⟨rfl, rfl⟩
 have hz8 := hb8.size
 have ho8 : Only (· = L) w1 w8 := ho6.trans (Only.of (F := (· = L)) hb8) fun b hb => .inl hb
 have HL8 := (hb8.block L (by omega)).trans HL7.out
 have HL8 := Lib.hid HL8
 have HN8 := Lib.hid ((hb8.block NB (by omega)).trans HN7.out)
 have htx8 : Sl w8 1 (.slice a l0.length cap) l0.length (u8s l0) := HH.out.txt.only ho8 (fun b o e hbL => (HH.out.far b o _ _ (by rw [e])).1 hbL)
 have HT8 := Lib.hid htx8; clear htx8
 clear HL7 HN7 hs8 hb8 ho6
 have c8 := (cell_row (j := 1) HL8.out).trans (show _ = some (Value.string (mk sd)) from rfl)
 have hlL8 := World.block_lt_of_cell? _ _ c8
 have hdl : (l0.drop (si + c)).length = l0.length - (si + c) := by rw [List.length_drop]
 have hdl2 : (l0.drop (si + c)).length ≤ 100000 := by rw [hdl]; omega
 have hpiv : (l0.drop (si + c)) = (l0.drop si).drop c := by rw [List.drop_drop]
 obtain ⟨ld, hld⟩ : ∃ ld, ld = l0.drop (si + c) := ⟨_, rfl⟩
 rw [← hld] at hdl2 hpiv
 clear hdl
 have hn8 := newLeaf_abs _ ld n w8 (by rw [hld]; exact HS3.out w8 l0 HT8.out rfl)
 have HLD := Lib.hid hld; clear hld
 have HPV := Lib.hid hpiv; clear hpiv
 have hcases : (¬ (c : Int) > 0) ∨ ((c : Int) > 0 ∧ ¬ ((si : Int) + (c : Int) < (l0.length : Int))) ∨ ((c : Int) > 0 ∧ (si : Int) + (c : Int) < (l0.length : Int) ∧ ∃ b o, a = some ⟨b, o, none⟩ ∧ ∃ y : UInt8, w8.cell? ⟨b, o + (si + c), none⟩ = some (.int .u8 (y.toNat : Nat)) ∧ (((piv sd).toNat : Int) == (y.toNat : Int)) = false) := by
  by_cases h1 : 0 < c
  ·by_cases h2 : si + c < l0.length
   ·refine .inr (.inr ⟨by omega, by omega, ?_⟩)
    obtain ⟨b, o, e, hc⟩ := HT8.out.byte (Below.refl _ w8) h2
    refine ⟨b, o, e, _, hc, ?_⟩
    rw [beq_eq_false_iff_ne]
    intro e2
    have hp := HP.out
    rw [List.drop_eq_getElem_cons h2, piv_cons] at hp
    exact hp (UInt8.toNat_inj.1 (by omega))
   ·exact .inr (.inl ⟨by omega, by omega⟩)
  ·exact .inl (by omega)
 rcases hcases with k1 | ⟨k1, k2⟩ | ⟨k1, k2, bt, ot, rfl, y, cy, ky⟩
 all_goals
  go_wp2_with fail
  refine hn8.mono ?_
  rintro e w9 ⟨rfl, hN9, hb9⟩
  have hzN : w8.heap.size < w9.heap.size := (Array.getElem?_eq_some_iff.1 hN9).1
  have HL9 := Lib.hid ((hb9.block L (by omega)).trans HL8.out)
  have HN9 := Lib.hid ((hb9.block NB (by omega)).trans HN8.out)
  have ho9 : Only (· = L) w1 w9 := ho8.trans (Only.of (F := (· = L)) hb9) fun b hb => .inl hb
  have hz9 := hb9.size
  generalize hNL : w8.heap.size = NL at *
  have c9 := (cell_row (j := 1) hN9).trans (show _ = some (Value.string (mk ld)) from rfl)
  have HF9 := Lib.hid hN9; clear hN9
  clear c8 hlL8 hn8 ho8
  go_wp2_with fail
  refine (s2bL ld w9 hdl2).mono ?_
  rintro e w10 ⟨a10, c10, rfl, hs10, hb10⟩
  go_wp2_with fail
  refine (pivot0 _ ld w10 hs10).mono ?_
  rintro e w10' ⟨rfl, rfl⟩
  have hz10 := hb10.size
  have HL10 := Lib.hid ((hb10.block L (by omega)).trans HL9.out)
  have HN10 := Lib.hid ((hb10.block NB (by omega)).trans HN9.out)
  have HF10 := Lib.hid ((hb10.block NL (by omega)).trans HF9.out)
  have ho10 : Only (· = L) w1 w10 := ho9.trans (Only.of (F := (· = L)) hb10) fun b hb => .inl hb
  have had1 : Calls Tryz.prog 205 #[.pointer (some ⟨NB, 0, none⟩), .int .u8 ((piv ld).toNat : Nat), .iface 197 (.pointer (some ⟨NL, 0, none⟩))] w10 _ := addChild4 NB ((l0.drop si).take c) 0 (fun _ => 0) (fun _ => .leaf 0 0 []) (piv ld) (.leaf NL n ld) w10 HN10.out (by omega)
  clear hs10 hb10 c9 HL9 HN9 HF9 ho9
  go_wp2_with fail
  refine had1.mono ?_
  rintro e w11 ⟨rfl, hN11, ho11⟩
  have hz11 := ho11.size
  have HL11 := (ho11.block L (by omega) (by omega)).trans HL10.out
  have c11 := (cell_row (j := 1) HL11).trans (show _ = some (Value.string (mk sd)) from rfl)
  have HL11 := Lib.hid HL11
  have HN11 := Lib.hid hN11; clear hN11
  have HF11 := Lib.hid ((ho11.block NL (by omega) (by omega)).trans HF10.out)
  have hw11 : Only (· = L) w1 w11 := ho10.trans ho11 fun b hb => .inr (by omega)
  clear HL10 HN10 HF10 ho10 had1 ho11
  go_wp2_with fail
  refine (s2bL sd w11 hsdl).mono ?_
  rintro e w12 ⟨a12, c12, rfl, hs12, hb12⟩
  go_wp2_with fail
  refine (pivot0 _ sd w12 hs12).mono ?_
  rintro e w12' ⟨rfl, rfl⟩
  have hz12 := hb12.size
  have HL12 := Lib.hid ((hb12.block L (by omega)).trans HL11.out)
  have HF12 := Lib.hid ((hb12.block NL (by omega)).trans HF11.out)
  have hN12 := (hb12.block NB (by omega)).trans HN11.out
  have hw12 : Only (· = L) w1 w12 := hw11.trans (Only.of (F := (· = L)) hb12) fun b hb => .inl hb
  have had2 : Calls Tryz.prog 205 #[.pointer (some ⟨NB, 0, none⟩), .int .u8 ((piv sd).toNat : Nat), .iface 197 (.pointer (some ⟨L, 0, none⟩))] w12 _ := addChild4 NB ((l0.drop si).take c) 1 _ _ (piv sd) (.leaf L x0 sd) w12 hN12 (by omega)
  clear hs12 hb12 c11 HL11 HN11 HF11 hw11 hN12
  go_wp2_with fail
  refine had2.mono ?_
  rintro e w13 ⟨rfl, hN13, ho13⟩
  have hz13 := ho13.size
  have HL13 := Lib.hid ((ho13.block L (by omega) (by omega)).trans HL12.out)
  have HF13 := Lib.hid ((ho13.block NL (by omega) (by omega)).trans HF12.out)
  have HN13 := Lib.hid hN13; clear hN13
  have hw13 : Only (· = L) w1 w13 := hw12.trans ho13 fun b hb => .inr (by omega)
  clear HL12 HF12 hw12 had2 ho13
  have hr13 := (hw13.block sb hslt (HH.out.nsb)).trans HH.out.row
  have cs13 := (cell_row (j := so) hr13).trans HH.out.slot
  have fs13 := frozen_row (j := so) hr13
  have HR13 := Lib.hid hr13; clear hr13
  go_wp2
  go_ret2
  have hNe : sb ≠ NB := by omega
  have hNe2 : sb ≠ NL := by omega
  have hNe3 : sb ≠ L := HH.out.nsb
  have hins := ins_leaf (b := L) (nb := NB) (nl := NL) (v0 := x0) (v := n) (k0 := fun _ => 0) (kd := fun _ => .leaf 0 0 []) (HH.out.n127 (sl, x0) (by simp [Art.ents])) (fun hm => HH.out.m127 (List.mem_of_mem_drop hm)) HNE.out
  rw [HC.out, HSD.out, ← HPV.out] at hins
  have hoth := fun k (hk : k ≠ sb) => heap_setCell_other w13 ⟨sb, so, none⟩ k (.iface 302 (.pointer (some ⟨NB, 0, none⟩))) hk
  refine ⟨.pointer none, false, _, rfl, .inl rfl, heap_setCell_same w13 sb so cs ty _ HR13.out, ?_, ?_, hins, ⟨(fun h => nomatch h), ?_⟩, ?_, ?_⟩
  ·refine ⟨(hoth NB (by omega)).trans HN13.out, fun i hi => ?_⟩
   match i, hi with
   | 0, _ => rw [upd_ne _ _ (by decide), upd_same]; exact (hoth NL (by omega)).trans HF13.out
   | 1, _ => rw [upd_same]; exact (hoth L (by omega)).trans HL13.out
  ·refine sep_two (T0 := .leaf NL n ld) (T1 := .leaf L x0 sd) trivial trivial (fun h => ?_) (fun h => ?_) fun x h h' => ?_
   ·have h : NB = NL := h; omega
   ·have h : NB = L := h; omega
   ·have h : x = NL := h
    have h' : x = L := h'; omega
  ·rintro ⟨x, hx⟩
   simp only [Art.ents, List.mem_singleton, Prod.mk.injEq] at hx
   exact absurd hx.1.symm HNE.out
  ·intro x hx
   rcases fp_two hx with rfl | h | h
   ·exact .inr (by omega)
   ·have h : x = NL := h; exact .inr (by omega)
   ·exact .inl h
  ·exact (hw13.mono (F' := fun k => (Art.leaf L x0 sl).Fp k ∨ k = sb) fun k hk => Or.inl hk).set (.inl (.inr rfl)) _
end Go.Proofs.YtehlmjecbljafaaGreatDoor
