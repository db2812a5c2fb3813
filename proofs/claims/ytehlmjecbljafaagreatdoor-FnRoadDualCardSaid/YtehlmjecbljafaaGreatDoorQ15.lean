/- A subject tree of one leaf: made by deeds. A subject tree of one leaf: what a filter that matches finds. A subject tree of one leaf: the match. Maps by what they answer. The numbers under which this program holds sync.RWMutex's functions and types. The list of interest: its small functions. A tree of levels and nodes in memory, told by the paths that are there. -/
import Derived.Test.YtehlmjecbljafaaGreatDoorQ6
import Derived.Test.YtehlmjecbljafaaGreatDoorQ11
import Derived.Test.YtehlmjecbljafaaGreatDoorQ12
import Derived.Test.YtehlmjecbljafaaGreatDoorQ14
import Derived.Lib.AppendStr
import Derived.Maps.OwnSet
import Derived.Test.YtehlmjecbljafaaGreatDoorProg
import Derived.Conc.RwLoneW
import Derived.Conc.RwLib
import Derived.KernelRfl
namespace Go.Proofs.YtehlmjecbljafaaGreatDoor
open Go Go.RowKit
set_option maxRecDepth 100000 in
set_option maxHeartbeats 800000 in
theorem newTree_any (w : World) : Calls Tryz.prog 77 #[] w fun e w' => e = .returned (.pointer (some ⟨w.heap.size, 0, none⟩)) ∧ w' = w.alloc (.cells #[.nilIface, .int .i64 0] 139) := by
  go_enter Tryz.func77, Tryz.ntmps77
  go_wp2
  go_ret
  exact ⟨rfl, rfl⟩
set_option maxRecDepth 100000 in
set_option maxHeartbeats 800000 in
theorem treeSize_any (b : Nat) (r : Value) (n : Int) (w : World) (h : w.heap[b]? = some (.cells #[r, .int .i64 n] 139 (0, 0))) :
    Calls Tryz.prog 79 #[.pointer (some ⟨b, 0, none⟩)] w fun e w' => e = .returned (.int .i64 n) ∧ w' = w := by
  have hc1 := (cell_row (j := 1) h).trans (show _ = some (Value.int .i64 n) from rfl)
  go_enter Tryz.func79, Tryz.ntmps79
  go_wp2
  go_ret
  exact ⟨rfl, rfl⟩
set_option maxRecDepth 100000 in
set_option maxHeartbeats 800000 in
theorem treeRun_any (v : Value) (ds : List Deed) (T : Nat → (Nat → Prop) → World → Prop) (w : World) (n : Int) (hd : DeedsAt w v ds) (hop : ∀ d ∈ ds, d.op = 0 ∧ d.subj.size ≤ maxLen) (hn : ds.length ≤ 274877906944)
    (hP : TreeP ds w.heap.size w.heap.size T) (h0 : T 0 (· = w.heap.size) (w.alloc (.cells #[.nilIface, .int .i64 0] 139)))
    (hT : ∀ F W, T ds.length F W → ∃ r, W.heap[w.heap.size]? = some (.cells #[r, .int .i64 n] 139 (0, 0))) :
    Calls Tryz.prog 43 #[v] w fun e w' => ∃ a c, e = .returned (.tuple #[.slice a ds.length c, .int .i64 n]) ∧ Below w.heap.size w w' := by
  have hg := grow_any v ds T _ w _ hd hop hn hP h0 ((Below.refl _ w).alloc (Nat.le_refl _) _)
  have HD := Lib.hid hd; clear hd
  go_enter Tryz.func43, Tryz.ntmps43
  go_wp2_with fail
  refine (newTree_any w).mono ?_
  rintro e w1 ⟨rfl, rfl⟩
  go_wp2_with fail
  refine hg.mono ?_
  rintro e w2 ⟨u, xs, F, rfl, hT2, ho, hb⟩
  obtain ⟨r, hr⟩ := hT F w2 hT2
  obtain ⟨a, c, rfl, -⟩ := ho.form
  go_wp2_with fail
  refine (treeSize_any _ r n w2 hr).mono ?_
  rintro e w3 ⟨rfl, rfl⟩
  go_wp2
  go_ret2
  exact ⟨a, c, rfl, hb⟩
/-- The tree of one deed, ahead of it and behind it. -/
def LeafT (b : Nat) (d : Deed) : Nat → (Nat → Prop) → World → Prop
  | 0, F, w => (∀ x, F x ↔ x = b) ∧ w.heap[b]? = some (.cells #[.nilIface, .int .i64 0] 139 (0, 0))
  | 1, F, w => ∃ L, b < L ∧ (∀ x, F x ↔ x = b ∨ x = L) ∧ OneLeaf w b L d.val (bs d.subj)
  | _, _, _ => False
theorem leaf_tree (b : Nat) (d : Deed) (h127 : 127 ∉ bs d.subj) (h0 : bs d.subj ≠ []) : TreeP [d] b b (LeafT b d) := by
  refine ⟨?_, ?_, ?_⟩
  · intro k F w w' h hF
    match k, h with
    | 0, ⟨h1, h2⟩ => exact ⟨h1, by rw [hF b ((h1 b).2 rfl)]; exact h2⟩
    | 1, ⟨L, h1, h2, h3⟩ => exact ⟨L, h1, h2, ⟨by rw [hF b ((h2 b).2 (.inl rfl))]; exact h3.tree, by rw [hF L ((h2 L).2 (.inr rfl))]; exact h3.leaf⟩⟩
  · intro k F w h x hx
    match k, h with
    | 0, ⟨h1, h2⟩ =>
      obtain rfl := (h1 x).1 hx
      exact ⟨Nat.le_refl _, (Array.getElem?_eq_some_iff.1 h2).1⟩
    | 1, ⟨L, h1, h2, h3⟩ =>
      rcases (h2 x).1 hx with rfl | rfl
      · exact ⟨Nat.le_refl _, (Array.getElem?_eq_some_iff.1 h3.tree).1⟩
      · exact ⟨by omega, (Array.getElem?_eq_some_iff.1 h3.leaf).1⟩
  · intro k d' F w v hk h hv
    match k, h with
    | 0, ⟨h1, h2⟩ =>
      have e : d = d' := by simpa using hk
      subst e
      have hlt := (Array.getElem?_eq_some_iff.1 h2).1
      rw [← bs_len] at hv
      refine (insertOne_any v (bs d.subj) d.val b w h2 hv h127 h0).mono ?_
      rintro e w' ⟨rfl, h3, h4⟩
      exact ⟨_, _, fun x => x = b ∨ x = w.heap.size, rfl, .inl rfl, ⟨w.heap.size, hlt, fun x => Iff.rfl, h3⟩, h4.mono fun x hx => (h1 x).2 hx, fun x hx => hx.imp (h1 x).2 (fun e => by omega)⟩
    | k + 1, _ => simp at hk
end Go.Proofs.YtehlmjecbljafaaGreatDoor
namespace Go.Proofs.YtehlmjecbljafaaGreatDoor
open Go Go.RowKit
theorem isLeafM (a : Option Addr) (w : World) : (method 508 197 (.pointer a) "pub-tokenroad/pub/natsserver/server/stree.isLeaf").run Tryz.prog w = .ok (291, .pointer a) w := by
  kernel_rfl
theorem pathM (a : Option Addr) (w : World) : (method 508 197 (.pointer a) "pub-tokenroad/pub/natsserver/server/stree.path").run Tryz.prog w = .ok (295, .pointer a) w := by
  kernel_rfl
theorem et41 : ET Tryz.prog 41 44 2 24 (.agg #[.string ⟨#[]⟩, .int .i64 0]) := ⟨Tryz.underlying41, by kernel_rfl, rfl, by decide, by decide⟩
theorem cell_only {F : Nat → Prop} {w w' : World} {a : Addr} {x : Value} (h : w.cell? a = some x) (ho : Only F w w') (hF : ¬ F a.block) : w'.cell? a = some x :=
  (World.cell?_of_block (ho.block a.block (World.block_lt_of_cell? _ _ h) hF)).trans h
theorem Sl.only {F : Nat → Prop} {w w' : World} {sz n cap : Nat} {a : Option Addr} {xs : List Value} (h : Sl w sz (.slice a n cap) n xs) (ho : Only F w w') (hF : ∀ b o, a = some ⟨b, o, none⟩ → ¬ F b) : Sl w' sz (.slice a n cap) n xs := by
  obtain ⟨h1, a', cap', e, h2, h3, h4⟩ := h
  cases e
  refine ⟨h1, _, _, rfl, h2, h3, fun hp => ?_⟩
  obtain ⟨b, o, rfl, hc⟩ := h4 hp
  exact ⟨b, o, rfl, fun j x hj => cell_only (hc j x hj) ho (hF b o rfl)⟩
theorem Only.drewL {F : Nat → Prop} {w w' : World} (h : Only F w.drew w') : Only F w w' := ⟨h.os, h.tape, h.output, h.size, h.block⟩
set_option maxRecDepth 100000 in
set_option maxHeartbeats 1600000 in
/-- The callback puts down one entry more. -/
theorem cb55_any (v : Value) (l : List UInt8) (bv ov : Nat) (n : Int) (Bo : Nat) (o : Value) (cnt : Nat) (xs : List Value) (F : Nat → Prop) (w : World) (hv : Sl w 1 v l.length (u8s l)) (hval : w.cell? ⟨bv, ov, none⟩ = some (.int .i64 n))
    (hBo : w.heap[Bo]? = some (.cells #[o] 41 (0, 0))) (hown : Own w (Bo + 1) 2 o cnt xs) (hF : ∀ k, o.ownBlock = some k → ¬ F k) (hlt : ∀ k, F k → k < w.heap.size) (hn : cnt < 549755813888)
    (hFv : F bv) (hFs : ∀ b o n c, v = .slice (some ⟨b, o, none⟩) n c → F b) :
    Calls Tryz.prog 55 #[v, .pointer (some ⟨bv, ov, none⟩), .pointer (some ⟨Bo, 0, none⟩)] w fun e w' => e = .returned (.tuple #[]) ∧ ∃ o', w'.heap[Bo]? = some (.cells #[o'] 41 (0, 0)) ∧ Own w' (Bo + 1) 2 o' (cnt + 1) (xs ++ [.string (mk l), .int .i64 n]) ∧
      (∀ k, o'.ownBlock = some k → ¬ F k) ∧ Only (fun k => k = Bo ∨ o.ownBlock = some k) w w' := by
  obtain ⟨a, cap, rfl⟩ := hv.form
  obtain ⟨oa, oc, rfl, -⟩ := hown.form
  have hlo := (Array.getElem?_eq_some_iff.1 hBo).1
  have hlv := World.block_lt_of_cell? _ _ hval
  have hc0 := (cell_row (j := 0) hBo).trans (show _ = some (Value.slice oa cnt oc) from rfl)
  have hfz := frozen_row (j := 0) hBo
  have hob : ∀ k, (Value.slice oa cnt oc).ownBlock = some k → k ≠ Bo := fun k hk e => by have := (hown.lt k hk).1; omega
  have hvb : ∀ b o, a = some ⟨b, o, none⟩ → ¬ (Value.slice oa cnt oc).ownBlock = some b := fun b o e h => hF b h (hFs b o l.length cap (by rw [e]))
  have hnb : ¬ (Value.slice oa cnt oc).ownBlock = some bv := fun h => hF bv h hFv
  have HV := Lib.hid hv; clear hv
  have HW := Lib.hid hown; clear hown
  have HS : ∀ o, (fun W' : World => W'.cell? ⟨Bo, 0, none⟩ = some (.slice oa cnt oc) ∧ W'.cell? ⟨bv, ov, none⟩ = some (.int .i64 n) ∧ Sl W' 1 (.slice a l.length cap) l.length (u8s l)) (w.drew.alloc o) := fun o =>
    ⟨cell_alloc o hc0, cell_alloc o hval, (HV.out.keep (Below.refl _ w).drew).keep ((Below.refl _ _).alloc (Nat.le_refl _) o)⟩
  go_enter Tryz.func55, Tryz.ntmps55
  go_wp2_with fail
  refine wp_region_L [0, 1, 2, 3, 4, 5] (fun W' => W'.cell? ⟨Bo, 0, none⟩ = some (.slice oa cnt oc) ∧ W'.cell? ⟨bv, ov, none⟩ = some (.int .i64 n) ∧ Sl W' 1 (.slice a l.length cap) l.length (u8s l)) (by kernel_rfl) (by kernel_rfl) ⟨hc0, hval, HV.out.keep (Below.refl _ w).drew⟩ (fun ne => ?_)
  have S0 := fun x : SubC (fun W' => W'.cell? ⟨Bo, 0, none⟩ = some (.slice oa cnt oc) ∧ W'.cell? ⟨bv, ov, none⟩ = some (.int .i64 n) ∧ Sl W' 1 (.slice a l.length cap) l.length (u8s l)) => x.ok.1
  have S1 := fun x : SubC (fun W' => W'.cell? ⟨Bo, 0, none⟩ = some (.slice oa cnt oc) ∧ W'.cell? ⟨bv, ov, none⟩ = some (.int .i64 n) ∧ Sl W' 1 (.slice a l.length cap) l.length (u8s l)) => x.ok.2.1
  have S2 := fun x : SubC (fun W' => W'.cell? ⟨Bo, 0, none⟩ = some (.slice oa cnt oc) ∧ W'.cell? ⟨bv, ov, none⟩ = some (.int .i64 n) ∧ Sl W' 1 (.slice a l.length cap) l.length (u8s l)) => conv_text x.ok.2.2
  repeat (refine wpCL_q rfl rfl ?_; go_big_quiet_step (fail); refine wpQuiet_nil ?_)
  refine wpCL_n rfl rfl rfl rfl ?_
  go_simp
  repeat (refine wpCL_q rfl rfl ?_; go_big_quiet_step (fail); refine wpQuiet_nil ?_)
  refine wpCL_w rfl rfl ?_
  go_wp2
  refine ⟨⟨⟨w.drew, hc0, hval, HV.out.keep (Below.refl _ w).drew⟩, rfl⟩, ?_⟩
  refine wpCL_w rfl rfl ?_
  go_wp2_with fail
  refine ⟨⟨⟨_, HS _⟩, rfl⟩, ?_⟩
  refine wpCL_ch rfl rfl (fun K hK => ?_)
  refine runs_appX (W := w.drew) (v := .slice oa cnt oc) (n := cnt) (xs := xs) et41 _ _ rfl (Bo + 1) (fun k => F k ∨ k = Bo) rfl (HW.out.keep (Below.refl _ w).drew) (fun k hk => by
    rintro (h | h)
    · exact hF k hk h
    · exact hob k hk h) (fun k hk => by rcases hk with h | h; exact hlt k h; exact h ▸ hlo) [.string (mk l), .int .i64 n] rfl rfl (by simp [Value.oneCell']) hn (by exact hlo) ?_
  intro v' w1 hown1 hF1 honly
  have honly1 := honly.drewL
  obtain ⟨va', vc', rfl, -⟩ := hown1.form
  clear honly
  have k0 := cell_only hc0 honly1 (fun h => hob Bo h rfl)
  have k1 := cell_only hval honly1 hnb
  have kf : w1.frozen? ⟨Bo, 0, none⟩ = false := by
    rw [← hfz]; unfold World.frozen?; rw [honly1.block Bo hlo (fun h => hob Bo h rfl)]
  have kh := (honly1.block Bo hlo (fun h => hob Bo h rfl)).trans hBo
  refine hK _ _ ⟨⟨w1, k0, k1, HV.out.only honly1 hvb⟩, rfl⟩ ?_
  clear hK K
  go_simp
  refine wpCL_last ?_
  go_wp2
  go_end0
  refine ⟨rfl, .slice va' (cnt + 1) vc', ?_, ?_, fun k hk h => hF1 k hk (.inl h), ?_⟩
  · have := heap_setCell_same w1 Bo 0 _ 41 (.slice va' (cnt + 1) vc') kh
    exact this
  · exact hown1.kept fun k hk => heap_setCell_other _ _ _ _ (fun e => hF1 k hk (.inr e))
  · exact (honly1.mono fun k hk => .inr hk).set (.inl (.inl rfl)) _
set_option maxRecDepth 100000 in
set_option maxHeartbeats 1600000 in
/-- The same through the tree's own callback. -/
theorem cb93_any (v : Value) (l : List UInt8) (bv ov : Nat) (n : Int) (Bo Bc : Nat) (o : Value) (cnt : Nat) (xs : List Value) (F : Nat → Prop) (w : World) (hv : Sl w 1 v l.length (u8s l)) (hval : w.cell? ⟨bv, ov, none⟩ = some (.int .i64 n))
    (hBc : w.heap[Bc]? = some (.cells #[.func (.func 55) #[] #[.pointer (some ⟨Bo, 0, none⟩)]] 96 (0, 0)))
    (hBo : w.heap[Bo]? = some (.cells #[o] 41 (0, 0))) (hown : Own w (Bo + 1) 2 o cnt xs) (hF : ∀ k, o.ownBlock = some k → ¬ F k) (hlt : ∀ k, F k → k < w.heap.size) (hn : cnt < 549755813888)
    (hFv : F bv) (hFs : ∀ b o n c, v = .slice (some ⟨b, o, none⟩) n c → F b) :
    Calls Tryz.prog 93 #[v, .pointer (some ⟨bv, ov, none⟩), .pointer (some ⟨Bc, 0, none⟩)] w fun e w' => e = .returned (.bool true) ∧ ∃ o', w'.heap[Bo]? = some (.cells #[o'] 41 (0, 0)) ∧ Own w' (Bo + 1) 2 o' (cnt + 1) (xs ++ [.string (mk l), .int .i64 n]) ∧
      (∀ k, o'.ownBlock = some k → ¬ F k) ∧ Only (fun k => k = Bo ∨ o.ownBlock = some k) w w' := by
  have hcb := cb55_any v l bv ov n Bo o cnt xs F w hv hval hBo hown hF hlt hn hFv hFs
  have hc0 := (cell_row (j := 0) hBc).trans (show _ = some (Value.func (.func 55) #[] #[.pointer (some ⟨Bo, 0, none⟩)]) from rfl)
  obtain ⟨a, cap, rfl⟩ := hv.form
  clear hBo hown hF hlt hn hFv hFs hv
  go_enter Tryz.func93, Tryz.ntmps93
  go_wp2_with fail
  refine hcb.mono ?_
  rintro e w1 ⟨rfl, h⟩
  go_wp2
  go_ret
  exact ⟨rfl, h⟩
end Go.Proofs.YtehlmjecbljafaaGreatDoor
namespace Go.Proofs.YtehlmjecbljafaaGreatDoor
open Go Go.RowKit
set_option maxRecDepth 100000 in
set_option maxHeartbeats 800000 in
theorem leafPath_any (L : Nat) (x : Value) (s : ByteArray) (w : World) (h : w.heap[L]? = some (.cells #[x, .string s] 199 (0, 0))) :
    Calls Tryz.prog 295 #[.pointer (some ⟨L, 0, none⟩)] w fun e w' => e = .returned (.string s) ∧ w' = w := by
  have hc1 := (cell_row (j := 1) h).trans (show _ = some (Value.string s) from rfl)
  go_enter Tryz.func295, Tryz.ntmps295
  go_wp2
  go_ret
  exact ⟨rfl, rfl⟩
set_option maxRecDepth 100000 in
set_option maxHeartbeats 800000 in
theorem leafIs_any (a : Option Addr) (w : World) : Calls Tryz.prog 291 #[.pointer a] w fun e w' => e = .returned (.bool true) ∧ w' = w := by
  go_enter Tryz.func291, Tryz.ntmps291
  go_wp2
  go_ret
  exact ⟨rfl, rfl⟩
theorem leafAs (v : Value) (w : World) : (Instr.typeAssert (.iface 197 v) 137 197 false).run Tryz.prog w = .ok v w := by kernel_rfl
end Go.Proofs.YtehlmjecbljafaaGreatDoor
namespace Go.Proofs.YtehlmjecbljafaaGreatDoor
open Go Go.RowKit Go.Maps
/-- An element, whatever it is. -/
def heldR : Value → Option (DataW Value × List MemPlace) := fun v => some (.held v, [])
theorem law9 : Keyed Tryz.prog 9 := string_keyed Tryz.underlying9
theorem law3 : Keyed Tryz.prog 3 := int_keyed Tryz.underlying3
/-- Block b is a map by texts that answers f. -/
def MapS (w : World) (b n : Nat) (z : Value) (f : List UInt8 → Value) : Prop := ∃ D : DataW Value, w.ownsMap Tryz.prog 9 heldR b n D ∧ ∀ t : List UInt8, D.atKey (.string t) (.held z) = .held (f t)
/-- Block b is a map by numbers of m entries. -/
def MapN (w : World) (b n m : Nat) : Prop := ∃ D : DataW Value, w.ownsMap Tryz.prog 3 heldR b n D ∧ Maps.size D = m
theorem MapS.made (w : World) (z : Value) : MapS (w.alloc (.map #[] 0)) w.heap.size 0 z (fun _ => z) := ⟨.map [], World.ownsMap_made w _ _ _, fun _t => atKey_of_not_has rfl _⟩
theorem MapN.made (w : World) : MapN (w.alloc (.map #[] 0)) w.heap.size 0 0 := ⟨.map [], World.ownsMap_made w _ _ _, rfl⟩
theorem MapS.lt {w : World} {b n : Nat} {z : Value} {f : List UInt8 → Value} (h : MapS w b n z f) : b < w.heap.size := by obtain ⟨D, h, -⟩ := h; exact h.lt
theorem MapN.lt {w : World} {b n m : Nat} (h : MapN w b n m) : b < w.heap.size := by obtain ⟨D, h, -⟩ := h; exact h.lt
theorem ownsMap_at {w w' : World} {k : TypeId} {b n : Nat} {D : DataW Value} (h : w.ownsMap Tryz.prog k heldR b n D) (e : w'.heap[b]? = w.heap[b]?) : w'.ownsMap Tryz.prog k heldR b n D := by
  obtain ⟨es, clock, hb, F, hs, hd⟩ := h
  exact ⟨es, clock, e.trans hb, F, hs, hd⟩
theorem MapS.keep {w w' : World} {b n : Nat} {z : Value} {f : List UInt8 → Value} (h : MapS w b n z f) (e : w'.heap[b]? = w.heap[b]?) : MapS w' b n z f := by
  obtain ⟨D, h1, h2⟩ := h; exact ⟨D, ownsMap_at h1 e, h2⟩
theorem MapN.keep {w w' : World} {b n m : Nat} (h : MapN w b n m) (e : w'.heap[b]? = w.heap[b]?) : MapN w' b n m := by
  obtain ⟨D, h1, h2⟩ := h; exact ⟨D, ownsMap_at h1 e, h2⟩
theorem MapS.look {w : World} {b n t e : Nat} {z : Value} {f : List UInt8 → Value} (h : MapS w b n z f) (ht : Tryz.prog.underlying t = some (.map 9 e)) (hz : (zeroValue e).run Tryz.prog w = .ok z w) (s : ByteArray) (hs : s.size ≤ maxLen) :
    (Instr.lookup t (.map (some b)) (.string s) false).run Tryz.prog w = .ok (f (bs s)) w := by
  obtain ⟨D, h1, h2⟩ := h
  obtain ⟨v, ps, hr, hv⟩ := h1.lookup law9 ht hz (zd := .held z) (zp := []) rfl (Go.WideMaps.keyOf_string_mk Tryz.underlying9 hs)
  have := h2 (bs s)
  unfold bs at this
  rw [this] at hv
  simp only [heldR, Option.some.injEq, Prod.mk.injEq, DataW.held.injEq] at hv
  rw [hr, hv.1]; rfl
theorem MapS.store {w : World} {b n t e : Nat} {z : Value} {f : List UInt8 → Value} (h : MapS w b n z f) (ht : Tryz.prog.underlying t = some (.map 9 e)) (hn : n < maxLen) (s : ByteArray) (hs : s.size ≤ maxLen) (v : Value) :
    ∃ w', (Instr.mapUpdate t (.map (some b)) (.string s) v).run Tryz.prog w = .ok () w' ∧ MapS w' b (n + 1) z (fun u => if u = bs s then v else f u) ∧ Only (· = b) w w' := by
  obtain ⟨D, h1, h2⟩ := h
  obtain ⟨w', hr, ho, hg⟩ := h1.update law9 ht hn (d := .held v) (ps := []) (Go.WideMaps.keyOf_string_mk Tryz.underlying9 hs) rfl
  refine ⟨w', hr, ⟨_, ho, fun u => ?_⟩, ⟨hg.os, hg.tape, hg.output, hg.size, fun k hk hb => hg.block k hk fun e => hb (Option.some.inj e)⟩⟩
  show _ = DataW.held (if u = bs s then v else f u)
  by_cases hu : u = bs s
  · rw [if_pos hu, hu]
    exact atKey_put_same h1.isMap (show WideAt.IsKeyLit (.string _) from trivial) _ _
  · rw [if_neg hu, atKey_put_other (fun e => hu (by injection e))]
    exact h2 u
theorem MapN.len {w : World} {b n m t e : Nat} (h : MapN w b n m) (ht : Tryz.prog.underlying t = some (.map 3 e)) (ty : TypeId) : (Builtin.len_ #[t] ty #[.map (some b)]).run Tryz.prog w = .ok (.int .i64 m) w := by
  obtain ⟨D, h1, h2⟩ := h
  rw [h1.len ht ty, h2]
theorem MapN.store {w : World} {b n m t e : Nat} (h : MapN w b n m) (ht : Tryz.prog.underlying t = some (.map 3 e)) (hn : n < maxLen) (x : Int) (hx : (Lit.int .i64 x).wf = true) (v : Value) :
    ∃ w' m', (Instr.mapUpdate t (.map (some b)) (.int .i64 x) v).run Tryz.prog w = .ok () w' ∧ MapN w' b (n + 1) m' ∧ 0 < m' ∧ m' ≤ m + 1 ∧ Only (· = b) w w' := by
  obtain ⟨D, h1, h2⟩ := h
  obtain ⟨w', hr, ho, hg⟩ := h1.update law3 ht hn (d := .held v) (ps := []) (keyOf_int_mk Tryz.underlying3 hx) rfl
  refine ⟨w', _, hr, ⟨_, ho, rfl⟩, ?_, (by rw [size_put (h1.tidy law3), ← h2]; split <;> omega), ⟨hg.os, hg.tape, hg.output, hg.size, fun k hk hb => hg.block k hk fun e => hb (Option.some.inj e)⟩⟩
  rw [size_put (h1.tidy law3)]
  split
  · rename_i hh
    obtain ⟨es, he⟩ := h1.isMap
    rw [he] at hh ⊢
    rw [size_eq]
    rw [has_eq] at hh
    cases es with
    | nil => simp at hh
    | cons a r => simp
  · omega
end Go.Proofs.YtehlmjecbljafaaGreatDoor
namespace Go.Proofs.YtehlmjecbljafaaGreatDoor
open Go.Proofs
abbrev muLink : Go.Conc.Locks.MuLink := { lock := 175, unlock := 180, ilock := 212, iunlock := 213, lockSlow := 235, unlockSlow := 236, disable := 160, enable := 163, acquire := 164, relMerge := 165, cas32 := 223, add32 := 206, tMutex := 170, tIMutex := 168, tPMutex := 257, tPIMutex := 338, tPI32 := 310, tUP := 256, tNoCopy := 166, tU32 := 122 }
theorem muLib : Go.Conc.Locks.MuLib Tryz.prog muLink :=
  ⟨Tryz.func175, Tryz.func180, Tryz.func212, Tryz.func213, Tryz.func160, Tryz.func163, Tryz.func164, Tryz.func165, Tryz.func223, Tryz.func206, Tryz.underlying168, Tryz.runUnderlying168, Tryz.sizeOf168, Tryz.isAgg168, Tryz.zeroValue168, Tryz.underlying170, Tryz.runUnderlying170, Tryz.sizeOf170, Tryz.isAgg170, Tryz.zeroValue170, Tryz.underlying257, Tryz.runUnderlying257, Tryz.sizeOf257, Tryz.isAgg257, Tryz.zeroValue257, Tryz.underlying338, Tryz.runUnderlying338, Tryz.sizeOf338, Tryz.isAgg338, Tryz.zeroValue338, Tryz.underlying310, Tryz.runUnderlying310, Tryz.sizeOf310, Tryz.isAgg310, Tryz.zeroValue310, Tryz.underlying256, Tryz.runUnderlying256, Tryz.sizeOf256, Tryz.isAgg256, Tryz.zeroValue256, Tryz.underlying166, Tryz.runUnderlying166, Tryz.sizeOf166, Tryz.isAgg166, Tryz.zeroValue166, Tryz.underlying21, Tryz.runUnderlying21, Tryz.sizeOf21, Tryz.isAgg21, Tryz.zeroValue21, (by kernel_rfl)⟩
abbrev rwLink : Go.Conc.Locks.RwLink := { lock := 175, unlock := 180, ilock := 212, iunlock := 213, lockSlow := 235, unlockSlow := 236, disable := 160, enable := 163, acquire := 164, relMerge := 165, cas32 := 223, add32 := 206, tMutex := 170, tIMutex := 168, tPMutex := 257, tPIMutex := 338, tPI32 := 310, tUP := 256, tNoCopy := 166, tU32 := 122, rlock := 112, runlock := 113, wlock := 130, wunlock := 132, i32add := 161, raceRead := 159, release := 177, rUnlockSlow := 166, semacqR := 162, semacqW := 176, semrel := 179, sfatal := 178, tRW := 175, tPRW := 254, tAI32 := 173, tPAI32 := 308, tPU32 := 260, tANoCopy := 171 }
theorem rwCore : Go.Conc.Locks.RwCore Tryz.prog rwLink :=
  ⟨Tryz.func161, Tryz.func159, Tryz.func160, Tryz.func163, Tryz.func164, Tryz.func165, Tryz.func206, Tryz.underlying175, Tryz.runUnderlying175, Tryz.sizeOf175, Tryz.isAgg175, Tryz.zeroValue175, Tryz.underlying173, Tryz.runUnderlying173, Tryz.sizeOf173, Tryz.isAgg173, Tryz.zeroValue173, Tryz.underlying254, Tryz.runUnderlying254, Tryz.sizeOf254, Tryz.isAgg254, Tryz.zeroValue254, Tryz.underlying308, Tryz.runUnderlying308, Tryz.sizeOf308, Tryz.isAgg308, Tryz.zeroValue308, Tryz.underlying260, Tryz.runUnderlying260, Tryz.sizeOf260, Tryz.isAgg260, Tryz.zeroValue260, Tryz.underlying171, Tryz.runUnderlying171, Tryz.sizeOf171, Tryz.isAgg171, Tryz.zeroValue171, Tryz.underlying122, Tryz.runUnderlying122, Tryz.sizeOf122, Tryz.isAgg122, Tryz.zeroValue122, Tryz.underlying170, Tryz.runUnderlying170, Tryz.sizeOf170, Tryz.isAgg170, Tryz.zeroValue170, Tryz.underlying257, Tryz.runUnderlying257, Tryz.sizeOf257, Tryz.isAgg257, Tryz.zeroValue257, Tryz.underlying310, Tryz.runUnderlying310, Tryz.sizeOf310, Tryz.isAgg310, Tryz.zeroValue310, Tryz.underlying256, Tryz.runUnderlying256, Tryz.sizeOf256, Tryz.isAgg256, Tryz.zeroValue256, Tryz.underlying21, Tryz.runUnderlying21, Tryz.sizeOf21, Tryz.isAgg21, Tryz.zeroValue21, (by kernel_rfl), (by kernel_rfl)⟩
theorem rwRLib : Go.Conc.Locks.RwRLib Tryz.prog rwLink := ⟨rwCore, Tryz.func112, Tryz.func113⟩
theorem rwWLib : Go.Conc.Locks.RwWLib Tryz.prog rwLink := ⟨rwCore, muLib, Tryz.func130, Tryz.func132, Tryz.func177, Tryz.underlying3, Tryz.runUnderlying3, Tryz.sizeOf3, Tryz.isAgg3, Tryz.zeroValue3⟩
end Go.Proofs.YtehlmjecbljafaaGreatDoor
namespace Go.Proofs.YtehlmjecbljafaaGreatDoor
open Go Go.RowKit
set_option maxRecDepth 100000 in
set_option maxHeartbeats 800000 in
theorem gslSplit_any (s : ByteArray) (w : World) (hs : s.size ≤ 274877906944) :
    Calls Tryz.prog 131 #[.string s, .string ⟨#[46]⟩] w fun e w' => ∃ v, e = .returned v ∧ Own w' w.heap.size 1 v (toks s).length ((toks s).map Value.string) ∧ Below w.heap.size w w' := by
  go_enter Tryz.func131, Tryz.ntmps131
  go_wp2
  go_loopw [5, 6, 7] (fun v f i wr => ∃ (k kf : Nat) (ss : List ByteArray), k ≤ s.size ∧ kf ≤ k ∧ i = .int .i64 k ∧ f = .int .i64 kf ∧ Hid (Done s kf k ss) ∧ Own wr w.heap.size 1 v ss.length (ss.map Value.string) ∧ Below w.heap.size w wr) (fun _ _ i _ => s.size - (intOf i).toNat)
  case atStart => exact ⟨0, 0, [], by omega, by omega, rfl, rfl, done_start s, Own.nil _ _ _, Below.refl _ _⟩
  case round =>
    obtain ⟨k, kf, ss, hk, hkf, rfl, rfl, HD, hown, hbel⟩ := hrel
    have hB := hbel.size
    have hssl := done_len HD.out hk
    by_cases hlt : k < s.size
    · go_wp2
      go_quiet (fail)
      have hownq := hown.keep (below_drewN (Below.refl _ wr) nq)
      have hbq := below_drewN hbel nq
      have hBq := hbq.size
      go_wp2_with (at_builtin; go_must (refine wpList_app1 et32 rfl _ _ rfl w.heap.size rfl hownq [_] rfl rfl (by simp [Value.oneCell']) (by omega) hBq ?_); intro v' w1 hown1 hgrow)
      · have hc : s[k] = 46 := byt ‹_› rfl
        go_roundw
        case rel => exact ⟨k+1, k+1, _, hlt, Nat.le_refl _, by go_num, by go_num, done_dot HD.out hlt hc, by simpa using hown1, bel_app hbq hgrow hownq hBq⟩
        case measure => simp [intOf]; omega
      · have hc : s[k] ≠ 46 := byf ‹_› rfl
        go_roundw
        case rel => exact ⟨k+1, kf, ss, hlt, by omega, by go_num, rfl, done_no HD.out hlt hkf hc, hownq, hbq⟩
        case measure => simp [intOf]; omega
    · obtain rfl : k = s.size := by omega
      go_wp2_with (at_builtin; go_must (refine wpList_app1 et32 rfl _ _ rfl w.heap.size rfl hown [_] rfl rfl (by simp [Value.oneCell']) (by omega) hB ?_); intro v' w1 hown1 hgrow)
      go_ret
      refine ⟨_, rfl, ?_, bel_app hbel hgrow hown hB⟩
      rw [← done_end HD.out]
      simpa using hown1
set_option maxRecDepth 100000 in
set_option maxHeartbeats 800000 in
theorem newLevel_any (w : World) : Calls Tryz.prog 129 #[] w fun e w' => e = .returned (.pointer (some ⟨w.heap.size + 1, 0, none⟩)) ∧ w' = (w.alloc (.map #[] 0)).alloc (.cells #[.map (some w.heap.size), .pointer none, .pointer none] 215) := by
  have hmm := @run_makeMap Tryz.prog
  go_enter Tryz.func129, Tryz.ntmps129
  go_wp2
  go_ret
  exact ⟨by simp, rfl⟩
set_option maxRecDepth 100000 in
set_option maxHeartbeats 800000 in
theorem newNode_any (w : World) : Calls Tryz.prog 133 #[] w fun e w' => e = .returned (.pointer (some ⟨w.heap.size + 1, 0, none⟩)) ∧ w' = (w.alloc (.map #[] 0)).alloc (.cells #[.pointer none, .map (some w.heap.size)] 219) := by
  have hmm := @run_makeMap Tryz.prog
  go_enter Tryz.func133, Tryz.ntmps133
  go_wp2
  go_ret
  exact ⟨by simp, rfl⟩
/-- The cells of a list of interest, its lock free. -/
def gslCells (root : Nat) (n : Int) : Array Value := #[.int .i32 0, .int .u32 0, .int .u32 0, .int .u32 0, .int .i32 0, .int .i32 0, .pointer (some ⟨root, 0, none⟩), .int .u32 n]
set_option maxRecDepth 100000 in
set_option maxHeartbeats 800000 in
theorem newSublist_any (w : World) : Calls Tryz.prog 94 #[] w fun e w' => e = .returned (.pointer (some ⟨w.heap.size + 2, 0, none⟩)) ∧
    w' = ((w.alloc (.map #[] 0)).alloc (.cells #[.map (some w.heap.size), .pointer none, .pointer none] 215)).alloc (.cells (gslCells (w.heap.size + 1) 0) 178) := by
  go_enter Tryz.func94, Tryz.ntmps94
  go_wp2_with fail
  refine (newLevel_any w).mono ?_
  rintro e w1 ⟨rfl, rfl⟩
  go_wp2
  go_ret
  exact ⟨by simp, rfl⟩
end Go.Proofs.YtehlmjecbljafaaGreatDoor
namespace Go.Proofs.YtehlmjecbljafaaGreatDoor
open Go Go.RowKit
abbrev Path := List (List UInt8)
/-- Which paths are there, where their levels, maps, nodes and entries lie, and how many entries there are. -/
structure Trie where
  N : Path → Prop
  aL : Path → Nat
  aM : Path → Nat
  aN : Path → Nat
  aS : Path → Nat
  V : Path → Nat
open Classical in
noncomputable def Trie.ptr (T : Trie) (q : Path) : Value := if T.N q then .pointer (some ⟨T.aN q, 0, none⟩) else .pointer none
theorem Trie.ptr_yes {T : Trie} {q : Path} (h : T.N q) : T.ptr q = .pointer (some ⟨T.aN q, 0, none⟩) := by unfold Trie.ptr; rw [if_pos h]
theorem Trie.ptr_no {T : Trie} {q : Path} (h : ¬ T.N q) : T.ptr q = .pointer none := by unfold Trie.ptr; rw [if_neg h]
structure TrieOK (T : Trie) (F : Nat → Prop) (n : Nat) (w : World) : Prop where
  root : T.N []
  pref : ∀ p t, T.N (p ++ [t]) → T.N p
  lev : ∀ p, T.N p → w.heap[T.aL p]? = some (.cells #[.map (some (T.aM p)), T.ptr (p ++ [[42]]), T.ptr (p ++ [[62]])] 215 (0, 0))
  map : ∀ p, T.N p → ∃ f, MapS w (T.aM p) n (.pointer none) f ∧ ∀ t, t ≠ [42] → t ≠ [62] → f t = T.ptr (p ++ [t])
  nod : ∀ p t, T.N (p ++ [t]) → w.heap[T.aN (p ++ [t])]? = some (.cells #[.pointer (some ⟨T.aL (p ++ [t]), 0, none⟩), .map (some (T.aS (p ++ [t])))] 219 (0, 0))
  sub : ∀ p t, T.N (p ++ [t]) → MapN w (T.aS (p ++ [t])) n (T.V (p ++ [t]))
  injL : ∀ p q, T.N p → T.N q → T.aL p = T.aL q → p = q
  injM : ∀ p q, T.N p → T.N q → T.aM p = T.aM q → p = q
  injS : ∀ p q, T.N p → T.N q → p ≠ [] → q ≠ [] → T.aS p = T.aS q → p = q
  injMS : ∀ p q, T.N p → T.N q → q ≠ [] → T.aM p ≠ T.aS q
  fL : ∀ p, T.N p → F (T.aL p)
  fM : ∀ p, T.N p → F (T.aM p)
  fN : ∀ p t, T.N (p ++ [t]) → F (T.aN (p ++ [t]))
  fS : ∀ p t, T.N (p ++ [t]) → F (T.aS (p ++ [t]))
theorem MapS.more {w : World} {b n n' : Nat} {z : Value} {f : List UInt8 → Value} (h : MapS w b n z f) (hn : n ≤ n') : MapS w b n' z f := by obtain ⟨D, h1, h2⟩ := h; exact ⟨D, h1.mono hn, h2⟩
theorem MapN.more {w : World} {b n n' m : Nat} (h : MapN w b n m) (hn : n ≤ n') : MapN w b n' m := by obtain ⟨D, h1, h2⟩ := h; exact ⟨D, h1.mono hn, h2⟩
theorem TrieOK.keep {T : Trie} {F : Nat → Prop} {n : Nat} {w w' : World} (h : TrieOK T F n w) (hk : ∀ k, F k → w'.heap[k]? = w.heap[k]?) : TrieOK T F n w' :=
  { h with
    lev := fun p hp => (hk _ (h.fL p hp)).trans (h.lev p hp)
    map := fun p hp => by obtain ⟨f, h1, h2⟩ := h.map p hp; exact ⟨f, h1.keep (hk _ (h.fM p hp)), h2⟩
    nod := fun p t hp => (hk _ (h.fN p t hp)).trans (h.nod p t hp)
    sub := fun p t hp => (h.sub p t hp).keep (hk _ (h.fS p t hp)) }
theorem snoc_inj {p q : Path} {t u : List UInt8} (h : p ++ [t] = q ++ [u]) : p = q ∧ t = u := by
  have := List.append_inj' h rfl
  exact ⟨this.1, by simpa using this.2⟩
theorem snoc_of {q : Path} (h : q ≠ []) : ∃ p t, q = p ++ [t] := ⟨q.dropLast, q.getLast h, (List.dropLast_concat_getLast h).symm⟩
theorem snoc_ne (p : Path) (t : List UInt8) : p ++ [t] ≠ [] := by simp
theorem cells_ne {w : World} {a b : Nat} {cs cs' : Array Value} {t t' : TypeId} (ha : w.heap[a]? = some (.cells cs t (0, 0))) (hb : w.heap[b]? = some (.cells cs' t' (0, 0))) (ht : t ≠ t') : a ≠ b := by
  rintro rfl; rw [ha] at hb; cases hb; exact ht rfl
theorem MapS.ne {w : World} {a b n : Nat} {z : Value} {f : List UInt8 → Value} {cs : Array Value} {t : TypeId} (ha : MapS w a n z f) (hb : w.heap[b]? = some (.cells cs t (0, 0))) : a ≠ b := by
  rintro rfl; obtain ⟨D, ⟨es, c, h, -⟩, -⟩ := ha; rw [hb] at h; cases h
theorem MapN.ne {w : World} {a b n m : Nat} {cs : Array Value} {t : TypeId} (ha : MapN w a n m) (hb : w.heap[b]? = some (.cells cs t (0, 0))) : a ≠ b := by
  rintro rfl; obtain ⟨D, ⟨es, c, h, -⟩, -⟩ := ha; rw [hb] at h; cases h
open Classical in
/-- One path more. -/
noncomputable def Trie.add (T : Trie) (q : Path) (l m a s : Nat) : Trie where
  N := fun x => T.N x ∨ x = q
  aL := fun x => if x = q then l else T.aL x
  aM := fun x => if x = q then m else T.aM x
  aN := fun x => if x = q then a else T.aN x
  aS := fun x => if x = q then s else T.aS x
  V := fun x => if x = q then 0 else T.V x
theorem TrieOK.grow {T : Trie} {F : Nat → Prop} {n : Nat} {w w' : World} {p : Path} {t : List UInt8} {l m a s : Nat} (h : TrieOK T F n w) (hp : T.N p) (hnew : ¬ T.N (p ++ [t]))
    (hF : ∀ k, F k → k < w.heap.size) (hl : w.heap.size ≤ l) (hm : w.heap.size ≤ m) (_ha : w.heap.size ≤ a) (hs : w.heap.size ≤ s) (hms : m ≠ s)
    (hlev : w'.heap[T.aL p]? = some (.cells #[.map (some (T.aM p)), if t = [42] then .pointer (some ⟨a, 0, none⟩) else T.ptr (p ++ [[42]]), if t = [62] then .pointer (some ⟨a, 0, none⟩) else T.ptr (p ++ [[62]])] 215 (0, 0)))
    (hmap : ∃ f, MapS w' (T.aM p) (n + 1) (.pointer none) f ∧ ∀ u, u ≠ [42] → u ≠ [62] → f u = if u = t then .pointer (some ⟨a, 0, none⟩) else T.ptr (p ++ [u]))
    (hnod : w'.heap[a]? = some (.cells #[.pointer (some ⟨l, 0, none⟩), .map (some s)] 219 (0, 0))) (hsub : MapN w' s (n + 1) 0)
    (hL : w'.heap[l]? = some (.cells #[.map (some m), .pointer none, .pointer none] 215 (0, 0))) (hM : MapS w' m (n + 1) (.pointer none) (fun _ => .pointer none))
    (keep : ∀ k, F k → k ≠ T.aL p → k ≠ T.aM p → w'.heap[k]? = w.heap[k]?) :
    TrieOK (T.add (p ++ [t]) l m a s) (fun k => F k ∨ k = l ∨ k = m ∨ k = a ∨ k = s) (n + 1) w' := by
  have kid : ∀ u, ¬ T.N (p ++ [t] ++ [u]) := fun u hu => hnew (h.pref _ _ hu)
  have ne0 : ∀ x, T.N x → x ≠ p ++ [t] := fun x hx e => hnew (e ▸ hx)
  have ptrO : ∀ q : Path, q ≠ p ++ [t] → (T.add (p ++ [t]) l m a s).ptr q = T.ptr q := by
    intro q hq
    by_cases hN : T.N q
    · rw [Trie.ptr_yes hN, Trie.ptr_yes (T := T.add (p ++ [t]) l m a s) (.inl hN)]
      simp only [Trie.add, if_neg hq]
    · rw [Trie.ptr_no hN, Trie.ptr_no (T := T.add (p ++ [t]) l m a s) (by rintro (h | h); exact hN h; exact hq h)]
  have ptrN : (T.add (p ++ [t]) l m a s).ptr (p ++ [t]) = .pointer (some ⟨a, 0, none⟩) := by
    rw [Trie.ptr_yes (T := T.add (p ++ [t]) l m a s) (.inr rfl)]
    simp [Trie.add]
  have ptrK : ∀ u, (T.add (p ++ [t]) l m a s).ptr (p ++ [t] ++ [u]) = .pointer none := by
    intro u
    rw [ptrO _ (fun e => by have := congrArg List.length e; simp at this), Trie.ptr_no (kid u)]
  have kL : ∀ q, T.N q → q ≠ p → w'.heap[T.aL q]? = w.heap[T.aL q]? := fun q hq hne => keep _ (h.fL q hq) (fun e => hne (h.injL q p hq hp e)) (by
    obtain ⟨f, h1, -⟩ := h.map p hp
    exact (h1.ne (h.lev q hq)).symm)
  have kM : ∀ q, T.N q → q ≠ p → w'.heap[T.aM q]? = w.heap[T.aM q]? := fun q hq hne => keep _ (h.fM q hq) (by
    obtain ⟨f, h1, -⟩ := h.map q hq
    exact h1.ne (h.lev p hp)) (fun e => hne (h.injM q p hq hp e))
  have kN : ∀ q u, T.N (q ++ [u]) → w'.heap[T.aN (q ++ [u])]? = w.heap[T.aN (q ++ [u])]? := fun q u hq => keep _ (h.fN q u hq) (cells_ne (h.nod q u hq) (h.lev p hp) (by decide)) (by
    obtain ⟨f, h1, -⟩ := h.map p hp
    exact (h1.ne (h.nod q u hq)).symm)
  have kS : ∀ q u, T.N (q ++ [u]) → w'.heap[T.aS (q ++ [u])]? = w.heap[T.aS (q ++ [u])]? := fun q u hq => keep _ (h.fS q u hq) ((h.sub q u hq).ne (h.lev p hp)) (fun e => h.injMS p _ hp hq (snoc_ne _ _) e.symm)
  have old : ∀ q, T.N q → (T.add (p ++ [t]) l m a s).aL q = T.aL q ∧ (T.add (p ++ [t]) l m a s).aM q = T.aM q ∧ (T.add (p ++ [t]) l m a s).aN q = T.aN q ∧ (T.add (p ++ [t]) l m a s).aS q = T.aS q ∧ (T.add (p ++ [t]) l m a s).V q = T.V q := by
    intro q hq
    simp only [Trie.add, if_neg (ne0 q hq), and_self]
  have new : (T.add (p ++ [t]) l m a s).aL (p ++ [t]) = l ∧ (T.add (p ++ [t]) l m a s).aM (p ++ [t]) = m ∧ (T.add (p ++ [t]) l m a s).aN (p ++ [t]) = a ∧ (T.add (p ++ [t]) l m a s).aS (p ++ [t]) = s ∧ (T.add (p ++ [t]) l m a s).V (p ++ [t]) = 0 := by
    simp [Trie.add]
  have hpne : p ≠ p ++ [t] := fun e => by have := congrArg List.length e; simp at this
  refine ⟨.inl h.root, ?_, ?_, ?_, ?_, ?_, ?_, ?_, ?_, ?_, ?_, ?_, ?_, ?_⟩
  · rintro q u (hq | hq)
    · exact .inl (h.pref q u hq)
    · obtain ⟨rfl, rfl⟩ := snoc_inj hq; exact .inl hp
  · rintro q (hq | rfl)
    · obtain ⟨o1, o2, -⟩ := old q hq
      rw [o1, o2]
      by_cases hqp : q = p
      · subst hqp
        have e42 : (if t = [42] then Value.pointer (some ⟨a, 0, none⟩) else T.ptr (q ++ [[42]])) = (T.add (q ++ [t]) l m a s).ptr (q ++ [[42]]) := by
          by_cases ht : t = [42]
          · subst ht; rw [if_pos rfl, ptrN]
          · rw [if_neg ht, ptrO _ (fun e => ht (snoc_inj e).2.symm)]
        have e62 : (if t = [62] then Value.pointer (some ⟨a, 0, none⟩) else T.ptr (q ++ [[62]])) = (T.add (q ++ [t]) l m a s).ptr (q ++ [[62]]) := by
          by_cases ht : t = [62]
          · subst ht; rw [if_pos rfl, ptrN]
          · rw [if_neg ht, ptrO _ (fun e => ht (snoc_inj e).2.symm)]
        rw [hlev, e42, e62]
      · rw [kL q hq hqp, h.lev q hq, ptrO _ (fun e => hqp (snoc_inj e).1), ptrO _ (fun e => hqp (snoc_inj e).1)]
    · rw [new.1, new.2.1, ptrK, ptrK]; exact hL
  · rintro q (hq | rfl)
    · obtain ⟨-, o2, -⟩ := old q hq
      rw [o2]
      by_cases hqp : q = p
      · subst hqp
        obtain ⟨f, h1, h2⟩ := hmap
        refine ⟨f, h1, fun u u1 u2 => ?_⟩
        rw [h2 u u1 u2]
        by_cases hut : u = t
        · subst hut; rw [if_pos rfl, ptrN]
        · rw [if_neg hut, ptrO _ (fun e => hut (snoc_inj e).2)]
      · obtain ⟨f, h1, h2⟩ := h.map q hq
        refine ⟨f, (h1.keep (kM q hq hqp)).more (by omega), fun u u1 u2 => ?_⟩
        rw [h2 u u1 u2, ptrO _ (fun e => hqp (snoc_inj e).1)]
    · rw [new.2.1]
      exact ⟨_, hM, fun u _ _ => (ptrK u).symm⟩
  · rintro q u (hq | hq)
    · obtain ⟨o1, -, o3, o4, -⟩ := old _ hq
      rw [o1, o3, o4, kN q u hq]; exact h.nod q u hq
    · rw [hq, new.1, new.2.2.1, new.2.2.2.1]; exact hnod
  · rintro q u (hq | hq)
    · obtain ⟨-, -, -, o4, o5⟩ := old _ hq
      rw [o4, o5]
      exact ((h.sub q u hq).keep (kS q u hq)).more (by omega)
    · rw [hq, new.2.2.2.1, new.2.2.2.2]; exact hsub
  · rintro q r (hq | rfl) (hr | rfl) e
    · rw [(old q hq).1, (old r hr).1] at e; exact h.injL q r hq hr e
    · rw [(old q hq).1, new.1] at e; have := hF _ (h.fL q hq); omega
    · rw [new.1, (old r hr).1] at e; have := hF _ (h.fL r hr); omega
    · rfl
  · rintro q r (hq | rfl) (hr | rfl) e
    · rw [(old q hq).2.1, (old r hr).2.1] at e; exact h.injM q r hq hr e
    · rw [(old q hq).2.1, new.2.1] at e; have := hF _ (h.fM q hq); omega
    · rw [new.2.1, (old r hr).2.1] at e; have := hF _ (h.fM r hr); omega
    · rfl
  · rintro q r (hq | rfl) (hr | rfl) q0 r0 e
    · rw [(old q hq).2.2.2.1, (old r hr).2.2.2.1] at e; exact h.injS q r hq hr q0 r0 e
    · rw [(old q hq).2.2.2.1, new.2.2.2.1] at e
      obtain ⟨q', u, rfl⟩ := snoc_of q0
      have := hF _ (h.fS q' u hq); omega
    · rw [new.2.2.2.1, (old r hr).2.2.2.1] at e
      obtain ⟨r', u, rfl⟩ := snoc_of r0
      have := hF _ (h.fS r' u hr); omega
    · rfl
  · rintro q r (hq | rfl) (hr | rfl) r0 e
    · rw [(old q hq).2.1, (old r hr).2.2.2.1] at e; exact h.injMS q r hq hr r0 e
    · rw [(old q hq).2.1, new.2.2.2.1] at e
      have := hF _ (h.fM q hq); omega
    · rw [new.2.1, (old r hr).2.2.2.1] at e
      obtain ⟨r', u, rfl⟩ := snoc_of r0
      have := hF _ (h.fS r' u hr); omega
    · rw [new.2.1, new.2.2.2.1] at e; exact hms e
  · rintro q (hq | rfl)
    · rw [(old q hq).1]; exact .inl (h.fL q hq)
    · rw [new.1]; exact .inr (.inl rfl)
  · rintro q (hq | rfl)
    · rw [(old q hq).2.1]; exact .inl (h.fM q hq)
    · rw [new.2.1]; exact .inr (.inr (.inl rfl))
  · rintro q u (hq | hq)
    · rw [(old _ hq).2.2.1]; exact .inl (h.fN q u hq)
    · rw [hq, new.2.2.1]; exact .inr (.inr (.inr (.inl rfl)))
  · rintro q u (hq | hq)
    · rw [(old _ hq).2.2.2.1]; exact .inl (h.fS q u hq)
    · rw [hq, new.2.2.2.1]; exact .inr (.inr (.inr (.inr rfl)))
/-- Entries at a path. -/
noncomputable def Trie.fill (T : Trie) (q : Path) (m : Nat) : Trie := { T with V := open Classical in fun x => if x = q then m else T.V x }
theorem TrieOK.fill {T : Trie} {F : Nat → Prop} {n m : Nat} {w w' : World} {q : Path} (h : TrieOK T F n w) (hq : T.N q) (q0 : q ≠ []) (hs : MapN w' (T.aS q) (n + 1) m) (keep : ∀ k, F k → k ≠ T.aS q → w'.heap[k]? = w.heap[k]?) :
    TrieOK (T.fill q m) F (n + 1) w' := by
  have hp : ∀ x, (T.fill q m).ptr x = T.ptr x := fun x => rfl
  obtain ⟨q', u', rfl⟩ := snoc_of q0
  refine { root := h.root, pref := h.pref, lev := fun p hN => ?_, map := fun p hN => ?_, nod := fun p t hN => ?_, sub := fun p t hN => ?_, injL := h.injL, injM := h.injM, injS := h.injS, injMS := h.injMS, fL := h.fL, fM := h.fM, fN := h.fN, fS := h.fS }
  · rw [hp, hp]
    exact (keep _ (h.fL p hN) ((h.sub q' u' hq).ne (h.lev p hN)).symm).trans (h.lev p hN)
  · obtain ⟨f, h1, h2⟩ := h.map p hN
    exact ⟨f, (h1.keep (keep _ (h.fM p hN) (h.injMS p _ hN hq q0))).more (by omega), fun t t1 t2 => (h2 t t1 t2).trans (hp _).symm⟩
  · exact (keep _ (h.fN p t hN) ((h.sub q' u' hq).ne (h.nod p t hN)).symm).trans (h.nod p t hN)
  · by_cases e : p ++ [t] = q' ++ [u']
    · show MapN w' (T.aS (p ++ [t])) (n + 1) (if p ++ [t] = q' ++ [u'] then m else T.V (p ++ [t]))
      rw [if_pos e, e]; exact hs
    · show MapN w' (T.aS (p ++ [t])) (n + 1) (if p ++ [t] = q' ++ [u'] then m else T.V (p ++ [t]))
      rw [if_neg e]
      exact ((h.sub p t hN).keep (keep _ (h.fS p t hN) (fun x => e (h.injS _ _ hN hq (snoc_ne _ _) q0 x)))).more (by omega)
end Go.Proofs.YtehlmjecbljafaaGreatDoor
