/- The tree's filters: parts against a text. A subject tree of one leaf: what a filter that matches finds. The server's list of subscriptions: its small functions; what a script keeps of it. The list of interest: callbacks for all that match. The list of interest: how many match, below a path. The list of interest: the walk over all that match. The list of interest: interest in what begins so. The list of interest: interest in what begins so, level by level. The list of interest: HasInterestStartingIn. -/
import Derived.Test.YtehlmjecbljafaaGreatDoorR6
import Derived.Test.YtehlmjecbljafaaGreatDoorR8
import Derived.Test.YtehlmjecbljafaaGreatDoorR9
import Derived.Test.YtehlmjecbljafaaGreatDoorR10
import Derived.Test.YtehlmjecbljafaaGreatDoorR11
import Derived.Test.YtehlmjecbljafaaGreatDoorR12
import Derived.Test.YtehlmjecbljafaaGreatDoorR13
import Derived.Lib.AppendStr
import Derived.Laws.LoneSync
import Derived.Deep.DeepCutAuto
import Derived.Deep.RegionHeld3
namespace Go.Proofs.YtehlmjecbljafaaGreatDoor
open Go Go.RowKit
theorem first_dot : ∀ {r : List UInt8}, 46 ∈ r → ∃ t r2, r = t ++ 46 :: r2 ∧ 46 ∉ t
 | [], h => by cases h
 | c :: r, h => by
  by_cases hc : c = 46
  ·exact ⟨[], r, by rw [hc]; rfl, by simp⟩
  ·obtain ⟨t, r2, e, ht⟩ := first_dot (r := r) (by
    rcases List.mem_cons.1 h with h | h
    ·exact absurd h.symm hc
    ·exact h)
   exact ⟨c :: t, r2, by rw [e]; rfl, by simp only [List.mem_cons, not_or]; exact ⟨fun e => hc e.symm, ht⟩⟩
theorem conv_quiet {w : World} {a : Option Addr} {n cap : Nat} {l : List UInt8} (h : Sl w 1 (.slice a n cap) n (u8s l)) (m : Nat) : (convert 94 9 (.slice a n cap)).run Tryz.prog (w.drewN m) = .ok (.string (mk l)) (w.drewN m) :=
 conv_text (h.keep (below_drewN (Below.refl _ _) m))
end Go.Proofs.YtehlmjecbljafaaGreatDoor
namespace Go.Proofs.YtehlmjecbljafaaGreatDoor
open Go Go.RowKit
theorem isLeafM (a : Option Addr) (w : World) : (method 508 197 (.pointer a) "pub-tokenroad/pub/natsserver/server/stree.isLeaf").run Tryz.prog w = .ok (291, .pointer a) w := by
 kernel_rfl
theorem pathM (a : Option Addr) (w : World) : (method 508 197 (.pointer a) "pub-tokenroad/pub/natsserver/server/stree.path").run Tryz.prog w = .ok (295, .pointer a) w := by
 kernel_rfl
theorem et41 : ET Tryz.prog 41 44 2 24 (.agg #[.string ⟨#[]⟩, .int .i64 0]) := ⟨Tryz.underlying41, by kernel_rfl, rfl, by decide, by decide⟩
theorem cell_only {F : Nat → Prop} {w w' : World} {a : Addr} {x : Value} (h : w.cell? a = some x) (ho : Only F w w') (hF : ¬ F a.block) : w'.cell? a = some x :=
 (World.cell?_of_block (ho.block a.block (World.block_lt_of_cell? _ _ h) hF)).trans h
theorem Sl.only {F : Nat → Prop} {w w' : World} {sz n cap : Nat} {a : Option Addr} {xs : List Value} (h : Sl w sz (.slice a n cap) n xs) (ho : Only F w w') (hF : ∀ b o, a = some ⟨b, o, none⟩ → ¬ F b) : Sl w' sz (.slice a n cap) n xs := by
 obtain ⟨h1, a', cap', e, h2, h3, h4⟩ := h
 cases e
 refine ⟨h1, _, _, rfl, h2, h3, fun hp => ?_⟩
 obtain ⟨b, o, rfl, hc⟩ := h4 hp
 exact ⟨b, o, rfl, fun j x hj => cell_only (hc j x hj) ho (hF b o rfl)⟩
theorem Only.drewL {F : Nat → Prop} {w w' : World} (h : Only F w.drew w') : Only F w w' := ⟨h.os, h.tape, h.output, h.size, h.block⟩
set_option maxRecDepth 100000 in
set_option maxHeartbeats 1600000 in
/-- The callback puts down one entry more. -/
theorem cb55_any (v : Value) (l : List UInt8) (bv ov : Nat) (n : Int) (Bo : Nat) (o : Value) (cnt : Nat) (xs : List Value) (F : Nat → Prop) (w : World) (hv : Sl w 1 v l.length (u8s l)) (hval : w.cell? ⟨bv, ov, none⟩ = some (.int .i64 n))
  (hBo : w.heap[Bo]? = some (.cells #[o] 41 (0, 0))) (hown : Own w (Bo + 1) 2 o cnt xs) (hF : ∀ k, o.ownBlock = some k → ¬ F k) (hlt : ∀ k, F k → k < w.heap.size) (hn : cnt < 549755813888)
  (hFv : F bv) (hFs : ∀ b o n c, v = .slice (some ⟨b, o, none⟩) n c → F b) :
  Calls Tryz.prog 55 #[v, .pointer (some ⟨bv, ov, none⟩), .pointer (some ⟨Bo, 0, none⟩)] w fun e w' => e = .returned (.tuple #[]) ∧ ∃ o', w'.heap[Bo]? = some (.cells #[o'] 41 (0, 0)) ∧ Own w' (Bo + 1) 2 o' (cnt + 1) (xs ++ [.string (mk l), .int .i64 n]) ∧
   (∀ k, o'.ownBlock = some k → ¬ F k) ∧ Only (fun k => k = Bo ∨ o.ownBlock = some k) w w' := by
 obtain ⟨a, cap, rfl⟩ := hv.form
 obtain ⟨oa, oc, rfl, -⟩ := hown.form
 have hlo := (Array.getElem?_eq_some_iff.1 hBo).1
 have hlv := World.block_lt_of_cell? _ _ hval
 have hc0 := (cell_row (j := 0) hBo).trans (show _ = some (Value.slice oa cnt oc) from rfl)
 have hfz := frozen_row (j := 0) hBo
 have hob : ∀ k, (Value.slice oa cnt oc).ownBlock = some k → k ≠ Bo := fun k hk e => by have := (hown.lt k hk).1; omega
 have hvb : ∀ b o, a = some ⟨b, o, none⟩ → ¬ (Value.slice oa cnt oc).ownBlock = some b := fun b o e h => hF b h (hFs b o l.length cap (by rw [e]))
 have hnb : ¬ (Value.slice oa cnt oc).ownBlock = some bv := fun h => hF bv h hFv
 have HV := Lib.hid hv; clear hv
 have HW := Lib.hid hown; clear hown
 have HS : ∀ o, (fun W' : World => W'.cell? ⟨Bo, 0, none⟩ = some (.slice oa cnt oc) ∧ W'.cell? ⟨bv, ov, none⟩ = some (.int .i64 n) ∧ Sl W' 1 (.slice a l.length cap) l.length (u8s l)) (w.drew.alloc o) := fun o =>
  ⟨cell_alloc o hc0, cell_alloc o hval, (HV.out.keep (Below.refl _ w).drew).keep ((Below.refl _ _).alloc (Nat.le_refl _) o)⟩
 go_enter Tryz.func55, Tryz.ntmps55
 go_wp2_with fail
 refine wp_region_L [0, 1, 2, 3, 4, 5] (fun W' => W'.cell? ⟨Bo, 0, none⟩ = some (.slice oa cnt oc) ∧ W'.cell? ⟨bv, ov, none⟩ = some (.int .i64 n) ∧ Sl W' 1 (.slice a l.length cap) l.length (u8s l)) (by kernel_rfl) (by kernel_rfl) ⟨hc0, hval, HV.out.keep (Below.refl _ w).drew⟩ (fun ne => ?_)
 have S0 := fun x : SubC (fun W' => W'.cell? ⟨Bo, 0, none⟩ = some (.slice oa cnt oc) ∧ W'.cell? ⟨bv, ov, none⟩ = some (.int .i64 n) ∧ Sl W' 1 (.slice a l.length cap) l.length (u8s l)) => x.ok.1
 have S1 := fun x : SubC (fun W' => W'.cell? ⟨Bo, 0, none⟩ = some (.slice oa cnt oc) ∧ W'.cell? ⟨bv, ov, none⟩ = some (.int .i64 n) ∧ Sl W' 1 (.slice a l.length cap) l.length (u8s l)) => x.ok.2.1
 have S2 := fun x : SubC (fun W' => W'.cell? ⟨Bo, 0, none⟩ = some (.slice oa cnt oc) ∧ W'.cell? ⟨bv, ov, none⟩ = some (.int .i64 n) ∧ Sl W' 1 (.slice a l.length cap) l.length (u8s l)) => conv_text x.ok.2.2
 repeat (refine wpCL_q rfl rfl ?_; go_big_quiet_step (fail); refine wpQuiet_nil ?_)
 refine wpCL_n rfl rfl rfl rfl ?_
 go_simp
 repeat (refine wpCL_q rfl rfl ?_; go_big_quiet_step (fail); refine wpQuiet_nil ?_)
 refine wpCL_w rfl rfl ?_
 go_wp2
 refine ⟨⟨⟨w.drew, hc0, hval, HV.out.keep (Below.refl _ w).drew⟩, rfl⟩, ?_⟩
 refine wpCL_w rfl rfl ?_
 go_wp2_with fail
 refine ⟨⟨⟨_, HS _⟩, rfl⟩, ?_⟩
 refine wpCL_ch rfl rfl (fun K hK => ?_)
 refine runs_appX (W := w.drew) (v := .slice oa cnt oc) (n := cnt) (xs := xs) et41 _ _ rfl (Bo + 1) (fun k => F k ∨ k = Bo) rfl (HW.out.keep (Below.refl _ w).drew) (fun k hk => by
  rintro (h | h)
  ·exact hF k hk h
  ·exact hob k hk h) (fun k hk => by rcases hk with h | h; exact hlt k h; exact h ▸ hlo) [.string (mk l), .int .i64 n] rfl rfl (by simp [Value.oneCell']) hn (by exact hlo) ?_
 intro v' w1 hown1 hF1 honly
 have honly1 := honly.drewL
 obtain ⟨va', vc', rfl, -⟩ := hown1.form
 clear honly
 have k0 := cell_only hc0 honly1 (fun h => hob Bo h rfl)
 have k1 := cell_only hval honly1 hnb
 have kf : w1.frozen? ⟨Bo, 0, none⟩ = false := by
  rw [← hfz]; unfold World.frozen?; rw [honly1.block Bo hlo (fun h => hob Bo h rfl)]
 have kh := (honly1.block Bo hlo (fun h => hob Bo h rfl)).trans hBo
 refine hK _ _ ⟨⟨w1, k0, k1, HV.out.only honly1 hvb⟩, rfl⟩ ?_
 clear hK K
 go_simp
 refine wpCL_last ?_
 go_wp2
 go_end0
 refine ⟨rfl, .slice va' (cnt + 1) vc', ?_, ?_, fun k hk h => hF1 k hk (.inl h), ?_⟩
 ·have := heap_setCell_same w1 Bo 0 _ 41 (.slice va' (cnt + 1) vc') kh
  exact this
 ·exact hown1.kept fun k hk => heap_setCell_other _ _ _ _ (fun e => hF1 k hk (.inr e))
 ·exact (honly1.mono fun k hk => .inr hk).set (.inl (.inl rfl)) _
set_option maxRecDepth 100000 in
set_option maxHeartbeats 1600000 in
/-- The same through the tree's own callback. -/
theorem cb93_any (v : Value) (l : List UInt8) (bv ov : Nat) (n : Int) (Bo Bc : Nat) (o : Value) (cnt : Nat) (xs : List Value) (F : Nat → Prop) (w : World) (hv : Sl w 1 v l.length (u8s l)) (hval : w.cell? ⟨bv, ov, none⟩ = some (.int .i64 n))
  (hBc : w.heap[Bc]? = some (.cells #[.func (.func 55) #[] #[.pointer (some ⟨Bo, 0, none⟩)]] 96 (0, 0)))
  (hBo : w.heap[Bo]? = some (.cells #[o] 41 (0, 0))) (hown : Own w (Bo + 1) 2 o cnt xs) (hF : ∀ k, o.ownBlock = some k → ¬ F k) (hlt : ∀ k, F k → k < w.heap.size) (hn : cnt < 549755813888)
  (hFv : F bv) (hFs : ∀ b o n c, v = .slice (some ⟨b, o, none⟩) n c → F b) :
  Calls Tryz.prog 93 #[v, .pointer (some ⟨bv, ov, none⟩), .pointer (some ⟨Bc, 0, none⟩)] w fun e w' => e = .returned (.bool true) ∧ ∃ o', w'.heap[Bo]? = some (.cells #[o'] 41 (0, 0)) ∧ Own w' (Bo + 1) 2 o' (cnt + 1) (xs ++ [.string (mk l), .int .i64 n]) ∧
   (∀ k, o'.ownBlock = some k → ¬ F k) ∧ Only (fun k => k = Bo ∨ o.ownBlock = some k) w w' := by
 have hcb := cb55_any v l bv ov n Bo o cnt xs F w hv hval hBo hown hF hlt hn hFv hFs
 have hc0 := (cell_row (j := 0) hBc).trans (show _ = some (Value.func (.func 55) #[] #[.pointer (some ⟨Bo, 0, none⟩)]) from rfl)
 obtain ⟨a, cap, rfl⟩ := hv.form
 clear hBo hown hF hlt hn hFv hFs hv
 go_enter Tryz.func93, Tryz.ntmps93
 go_wp2_with fail
 refine hcb.mono ?_
 rintro e w1 ⟨rfl, h⟩
 go_wp2
 go_ret
 exact ⟨rfl, h⟩
end Go.Proofs.YtehlmjecbljafaaGreatDoor
namespace Go.Proofs.YtehlmjecbljafaaGreatDoor
open Go Go.RowKit
/-- The cells of a server's list, its lock free. -/
def slCells (root : Nat) (cache : Value) (g m h i r sw c : Int) : Array Value :=
 #[.int .i32 0, .int .u32 0, .int .u32 0, .int .u32 0, .int .i32 0, .int .i32 0, .int .u64 g, .int .u64 m, .int .u64 h, .int .u64 i, .int .u64 r, .pointer (some ⟨root, 0, none⟩), cache, .int .i32 sw, .int .u32 c]
theorem et116 : ET Tryz.prog 116 231 1 8 (.pointer none) := ⟨Tryz.underlying116, by kernel_rfl, rfl, by decide, by decide⟩
theorem z276 (w : World) : (zeroValue 277).run Tryz.prog w = .ok (.pointer none) w := by kernel_rfl
theorem info282 : (Tryz.prog.info? 282).map (·.size) = some 4 := by kernel_rfl
set_option maxRecDepth 100000 in
set_option maxHeartbeats 800000 in
theorem sLevel_any (w : World) : Calls Tryz.prog 138 #[] w fun e w' => e = .returned (.pointer (some ⟨w.heap.size + 1, 0, none⟩)) ∧ w' = (w.alloc (.map #[] 0)).alloc (.cells #[.map (some w.heap.size), .pointer none, .pointer none] 279) := by
 have hmm := @run_makeMap Tryz.prog
 go_enter Tryz.func138, Tryz.ntmps138
 go_wp2
 go_ret
 exact ⟨by simp, rfl⟩
set_option maxRecDepth 100000 in
set_option maxHeartbeats 800000 in
theorem sNode_any (w : World) : Calls Tryz.prog 185 #[] w fun e w' => e = .returned (.pointer (some ⟨w.heap.size + 1, 0, none⟩)) ∧ w' = (w.alloc (.map #[] 0)).alloc (.cells #[.pointer none, .map (some w.heap.size), .map none, .slice none 0 0] 287) := by
 have hmm := @run_makeMap Tryz.prog
 go_enter Tryz.func185, Tryz.ntmps185
 go_wp2
 go_ret
 exact ⟨by simp, rfl⟩
theorem sLevel_abs (w : World) : Calls Tryz.prog 138 #[] w fun e w' => ∃ l m, e = .returned (.pointer (some ⟨l, 0, none⟩)) ∧ w.heap.size ≤ l ∧ w.heap.size ≤ m ∧ w'.heap[l]? = some (.cells #[.map (some m), .pointer none, .pointer none] 279 (0, 0)) ∧
  MapE w' m [] ∧ Below w.heap.size w w' := by
 refine (sLevel_any w).mono ?_
 rintro e w' ⟨rfl, rfl⟩
 have h := heap_alloc_new (w.alloc (.map #[] 0)) (.cells #[.map (some w.heap.size), .pointer none, .pointer none] 279)
 have hz : (w.alloc (.map #[] 0)).heap.size = w.heap.size + 1 := by simp
 rw [hz] at h
 exact ⟨_, w.heap.size, rfl, by omega, Nat.le_refl _, h, (MapE.made w).keep (((Below.refl _ _).alloc (Nat.le_refl _) _).block _ (by rw [hz]; omega)), ((Below.refl _ w).alloc (Nat.le_refl _) _).alloc (by rw [hz]; omega) _⟩
theorem sNode_abs (w : World) : Calls Tryz.prog 185 #[] w fun e w' => ∃ a s, e = .returned (.pointer (some ⟨a, 0, none⟩)) ∧ w.heap.size ≤ a ∧ w.heap.size ≤ s ∧ w'.heap[a]? = some (.cells #[.pointer none, .map (some s), .map none, .slice none 0 0] 287 (0, 0)) ∧
  MapE w' s [] ∧ Below w.heap.size w w' := by
 refine (sNode_any w).mono ?_
 rintro e w' ⟨rfl, rfl⟩
 have h := heap_alloc_new (w.alloc (.map #[] 0)) (.cells #[.pointer none, .map (some w.heap.size), .map none, .slice none 0 0] 287)
 have hz : (w.alloc (.map #[] 0)).heap.size = w.heap.size + 1 := by simp
 rw [hz] at h
 exact ⟨_, w.heap.size, rfl, by omega, Nat.le_refl _, h, (MapE.made w).keep (((Below.refl _ _).alloc (Nat.le_refl _) _).block _ (by rw [hz]; omega)), ((Below.refl _ w).alloc (Nat.le_refl _) _).alloc (by rw [hz]; omega) _⟩
/-- A new list: where it lies, its level, its map, its cache. -/
def SlNew (cache : Bool) (w : World) (e : Ending) (w' : World) : Prop := ∃ b l m cm, e = .returned (.pointer (some ⟨b, 0, none⟩)) ∧ w'.heap[b]? = some (.cells (slCells l (.map cm) 0 0 0 0 0 0 0) 229 (0, 0)) ∧ w'.heap[l]? = some (.cells #[.map (some m), .pointer none, .pointer none] 279 (0, 0)) ∧ MapE w' m [] ∧
 (cache = false → cm = none) ∧ (cache = true → ∃ c, cm = some c) ∧ (∀ c, cm = some c → MapE w' c [] ∧ w.heap.size ≤ c ∧ c ≠ m ∧ c ≠ l ∧ c ≠ b) ∧ w.heap.size ≤ b ∧ w.heap.size ≤ l ∧ w.heap.size ≤ m ∧ Below w.heap.size w w'
set_option maxRecDepth 100000 in
set_option maxHeartbeats 1600000 in
theorem sNew_any (cache : Bool) (w : World) : Calls Tryz.prog 102 #[.bool cache] w (SlNew cache w) := by
 have hmm := @run_makeMap Tryz.prog
 cases cache
 ·go_enter Tryz.func102, Tryz.ntmps102
  go_wp2_with fail
  refine (sLevel_abs w).mono ?_
  rintro e w1 ⟨l, m, rfl, hl1, hm1, hl, hm, hb⟩
  go_wp2
  go_ret
  have hz := hb.size
  have hll := (Array.getElem?_eq_some_iff.1 hl).1
  have hml := hm.lt
  have hbb := heap_alloc_new w1 (.cells (slCells l (.map none) 0 0 0 0 0 0 0) 229)
  have hbel := (Below.refl w1.heap.size w1).alloc (Nat.le_refl _) (.cells (slCells l (.map none) 0 0 0 0 0 0 0) 229)
  exact ⟨w1.heap.size, l, m, none, rfl, hbb, (hbel.block l hll).trans hl, hm.keep (hbel.block m hml), fun _ => rfl, (fun h => by cases h), (fun c h => by cases h), by omega, hl1, hm1, bel2 hb hbel⟩
 ·go_enter Tryz.func102, Tryz.ntmps102
  go_wp2_with fail
  refine (sLevel_abs w).mono ?_
  rintro e w1 ⟨l, m, rfl, hl1, hm1, hl, hm, hb⟩
  go_wp2
  go_ret
  have hz := hb.size
  have hll := (Array.getElem?_eq_some_iff.1 hl).1
  have hml := hm.lt
  have hz2 : (w1.alloc (.map #[] 0)).heap.size = w1.heap.size + 1 := by simp
  have hbb := heap_alloc_new (w1.alloc (.map #[] 0)) (.cells (slCells l (.map (some w1.heap.size)) 0 0 0 0 0 0 0) 229)
  have hbel := ((Below.refl w1.heap.size w1).alloc (Nat.le_refl _) (.map #[] 0)).alloc (by rw [hz2]; omega) (.cells (slCells l (.map (some w1.heap.size)) 0 0 0 0 0 0 0) 229)
  have hcm := (MapE.made w1).keep (((Below.refl _ (w1.alloc (.map #[] 0))).alloc (Nat.le_refl _) (.cells (slCells l (.map (some w1.heap.size)) 0 0 0 0 0 0 0) 229)).block w1.heap.size (by rw [hz2]; omega))
  rw [hz2] at hbb
  refine ⟨w1.heap.size + 1, l, m, some w1.heap.size, by simp, hbb, (hbel.block l hll).trans hl, hm.keep (hbel.block m hml), (fun h => by cases h), (fun _ => ⟨_, rfl⟩), (fun c h => by cases h; exact ⟨hcm, by omega, by omega, by omega, by omega⟩), by omega, hl1, hm1, bel2 hb hbel⟩
/-- Block a is a subscription of a subject, in no queue; it and its text lie from B on. -/
def SubAt (w : World) (B a : Nat) (s : ByteArray) : Prop := B ≤ a ∧ ∃ g cap, B ≤ g ∧ w.heap[a]? = some (.cells #[.pointer none, .slice (some ⟨g, 0, none⟩) s.size cap, .slice none 0 0, .int .i32 0] 282 (0, 0)) ∧ BsAt w g 0 (bs s) ∧ s.size ≤ cap ∧ cap ≤ maxLen
theorem SubAt.only {F : Nat → Prop} {w w' : World} {B a : Nat} {s : ByteArray} (h : SubAt w B a s) (ho : Only F w w') (hF : ∀ k, F k → k < B) : SubAt w' B a s := by
 obtain ⟨hB, g, cap, hg, h1, h2, h3, h4⟩ := h
 refine ⟨hB, g, cap, hg, (ho.block a (Array.getElem?_eq_some_iff.1 h1).1 (fun h => by have := hF a h; omega)).trans h1, fun j c hj => cell_only (h2 j c hj) ho (fun h => by have := hF g h; omega), h3, h4⟩
theorem SubAt.mono {w : World} {B B' a : Nat} {s : ByteArray} (h : SubAt w B a s) (hB : B' ≤ B) : SubAt w B' a s := by
 obtain ⟨h0, g, cap, h1, h2⟩ := h; exact ⟨by omega, g, cap, by omega, h2⟩
theorem SubAt.lt {w : World} {B a : Nat} {s : ByteArray} (h : SubAt w B a s) : a < w.heap.size := by obtain ⟨-, g, cap, -, h1, -⟩ := h; exact (Array.getElem?_eq_some_iff.1 h1).1
set_option maxRecDepth 100000 in
set_option maxHeartbeats 1600000 in
theorem newSub_any (s : ByteArray) (w : World) (hs : s.size ≤ 100000) : Calls Tryz.prog 188 #[.string s, .string ⟨#[]⟩] w fun e w' => ∃ a, e = .returned (atBlk a) ∧ SubAt w' w.heap.size a s ∧ Below w.heap.size w w' := by
 have hcv := fun (w : World) (s : ByteArray) => conv_bytes w s
 go_enter Tryz.func188, Tryz.ntmps188
 go_wp2
 go_ret
 have hb := bytesWorld_below w s
 have hz := hb.size
 have hal := (Below.refl (Lib.bytesWorld w 5 s).heap.size (Lib.bytesWorld w 5 s)).alloc (Nat.le_refl _) (.cells #[.pointer none, .slice (some ⟨w.heap.size, 0, none⟩) s.size (grownCap w s.size 0 5), .slice none 0 0, .int .i32 0] 282)
 exact ⟨_, rfl, ⟨hz, w.heap.size, grownCap w s.size 0 5, Nat.le_refl _, heap_alloc_new _ _, (bytesWorld_at w s).bel hal, grownCap_ge w _ _ _, grownCap_le_maxLen w _ _ _ (by unfold maxLen; omega)⟩, bel2 hb hal⟩
/-- append(v, x): v's row is what it was, or a new one. -/
theorem wpList_appZ {P : Program} {ops : Array Oper} {rest : List Oper} {o : Oper} {a : Act} {Q : Exit → Act → World → Prop} {W : World} {T E sz bytes : Nat} {z : Value} (et : ET P T E sz bytes z) (hgd : o.guard = none) (s x : Operand)
  (ho : o.op = .call { callee := .builtin .append, args := #[s, x], argTypes := #[T, T] })
  (B : Nat) {v : Value} {n : Nat} {xs : List Value} (hs : a.eval s = v) (hown : Own W B sz v n xs)
  (news : List Value) (hx : a.eval x = .slice (some ⟨W.heap.size, 0, none⟩) 1 1) (hl : news.length = sz) (h1 : ∀ u ∈ news, u.oneCell' = true)
  (hsm : n < 549755813888) (hbase : B ≤ W.heap.size)
  (h : ∀ v' w', Own w' B sz v' (n + 1) (xs ++ news) → (∀ k, v'.ownBlock = some k → v.ownBlock = some k ∨ W.heap.size ≤ k) → Only (fun k => v.ownBlock = some k) W w' → wpList P ops Q rest (a.put o.dst v') w') : wpList P ops Q (o :: rest) a (W.alloc (.cells news.toArray E)) :=
 wpList_appX et hgd s x ho B (fun k => k < W.heap.size ∧ v.ownBlock ≠ some k) hs hown (fun k hk hF => hF.2 hk) (fun k hk => hk.1) news hx hl h1 hsm hbase fun v' w' k1 k2 k3 => h v' w' k1 (fun k hk => by
  have := k2 k hk
  by_cases e : v.ownBlock = some k
  ·exact .inl e
  ·exact .inr (Nat.le_of_not_lt fun hlt => this ⟨hlt, e⟩)) k3
theorem runs_appZ {P : Program} {o : Oper} {a : Act} {K : Value → World → Prop} {W : World} {T E sz bytes : Nat} {z : Value} (et : ET P T E sz bytes z) (s x : Operand)
  (ho : o.op = .call { callee := .builtin .append, args := #[s, x], argTypes := #[T, T] })
  (B : Nat) {v : Value} {n : Nat} {xs : List Value} (hs : a.eval s = v) (hown : Own W B sz v n xs)
  (news : List Value) (hx : a.eval x = .slice (some ⟨W.heap.size, 0, none⟩) 1 1) (hl : news.length = sz) (h1 : ∀ u ∈ news, u.oneCell' = true)
  (hsm : n < 549755813888) (hbase : B ≤ W.heap.size)
  (h : ∀ v' w', Own w' B sz v' (n + 1) (xs ++ news) → (∀ k, v'.ownBlock = some k → v.ownBlock = some k ∨ W.heap.size ≤ k) → Only (fun k => v.ownBlock = some k) W w' → K v' w') : runsTo P K ((execOp a.eval o).run P (W.alloc (.cells news.toArray E))) :=
 runs_appX et s x ho B (fun k => k < W.heap.size ∧ v.ownBlock ≠ some k) hs hown (fun k hk hF => hF.2 hk) (fun k hk => hk.1) news hx hl h1 hsm hbase fun v' w' k1 k2 k3 => h v' w' k1 (fun k hk => by
  have := k2 k hk
  by_cases e : v.ownBlock = some k
  ·exact .inl e
  ·exact .inr (Nat.le_of_not_lt fun hlt => this ⟨hlt, e⟩)) k3
/-- What a script keeps: its list, the numbers and the subscriptions. -/
structure PlayAt (w : World) (P b : Nat) (vi vs : Value) (ids : List Int) (subs : List Nat) : Prop where
 row : w.heap[P]? = some (.cells #[.pointer (some ⟨b, 0, none⟩), vi, vs] 118 (0, 0))
 own1 : Own w (P + 1) 1 vi ids.length (ints ids)
 own2 : Own w (P + 1) 1 vs subs.length (subs.map atBlk)
 ne : ∀ k, vi.ownBlock = some k → vs.ownBlock ≠ some k
 len : ids.length = subs.length
/-- The blocks of a script. -/
def PB (P : Nat) (vi vs : Value) (k : Nat) : Prop := k = P ∨ vi.ownBlock = some k ∨ vs.ownBlock = some k
theorem PlayAt.keepIf {w w' : World} {P b : Nat} {vi vs : Value} {ids : List Int} {subs : List Nat} (h : PlayAt w P b vi vs ids subs) (hk : ∀ k, PB P vi vs k → w'.heap[k]? = w.heap[k]?) : PlayAt w' P b vi vs ids subs :=
 ⟨(hk P (.inl rfl)).trans h.row, h.own1.kept fun k e => hk k (.inr (.inl e)), h.own2.kept fun k e => hk k (.inr (.inr e)), h.ne, h.len⟩
theorem PlayAt.lt {w : World} {P b : Nat} {vi vs : Value} {ids : List Int} {subs : List Nat} (h : PlayAt w P b vi vs ids subs) {k : Nat} (hk : PB P vi vs k) : P ≤ k ∧ k < w.heap.size := by
 rcases hk with rfl | hk | hk
 ·exact ⟨Nat.le_refl _, (Array.getElem?_eq_some_iff.1 h.row).1⟩
 ·have := h.own1.lt k hk; omega
 ·have := h.own2.lt k hk; omega
theorem PlayAt.keep {w w' : World} {P b : Nat} {vi vs : Value} {ids : List Int} {subs : List Nat} (h : PlayAt w P b vi vs ids subs) (hb : Below w.heap.size w w') : PlayAt w' P b vi vs ids subs := h.keepIf fun k hk => hb.block k (h.lt hk).2
end Go.Proofs.YtehlmjecbljafaaGreatDoor
namespace Go.Proofs.YtehlmjecbljafaaGreatDoor
open Go Go.RowKit Go.MapKept
open Go.WideElems (Fit rd rg pl rd_key rd_val rg_of)
end Go.Proofs.YtehlmjecbljafaaGreatDoor
namespace Go.Proofs.YtehlmjecbljafaaGreatDoor
open Go Go.RowKit
end Go.Proofs.YtehlmjecbljafaaGreatDoor
namespace Go.Proofs.YtehlmjecbljafaaGreatDoor
open Go Go.RowKit
open Classical in
theorem Trie.ptr_form (T : Trie) (q : Path) : ∃ po, T.ptr q = .pointer po ∧ (T.N q → po = some ⟨T.aN q, 0, none⟩) ∧ (¬ T.N q → po = none) := by
 by_cases h : T.N q
 ·exact ⟨_, Trie.ptr_yes h, fun _ => rfl, fun h' => absurd h h'⟩
 ·exact ⟨_, Trie.ptr_no h, fun h' => absurd h' h, fun _ => rfl⟩
theorem ptrNe212 (po : Option Addr) (w : World) : (binOp .neq 212 (.pointer po) (.pointer none)).run Tryz.prog w = .ok (.bool po.isSome) w := by cases po with
 | none => kernel_rfl
 | some a => obtain ⟨b, o, c⟩ := a; kernel_rfl
end Go.Proofs.YtehlmjecbljafaaGreatDoor
namespace Go.Proofs.YtehlmjecbljafaaGreatDoor
open Go Go.RowKit
set_option maxRecDepth 100000 in
set_option maxHeartbeats 1600000 in
theorem tok230_any (s : ByteArray) (v : Value) (B : Nat) (w : World) (hown0 : Own w B 1 v 0 []) (hB0 : B ≤ w.heap.size) (hs : s.size ≤ 100000) :
  Calls Tryz.prog 230 #[v, .string s] w fun e w' => ∃ v', e = .returned v' ∧ Own w' B 1 v' (toks s).length ((toks s).map Value.string) ∧ Below B w w' := by
 obtain ⟨va, vc, rfl, -⟩ := hown0.form
 go_enter Tryz.func230, Tryz.ntmps230
 go_wp2
 go_loopw [0, 5, 6] (fun v f i wr => ∃ (k kf : Nat) (ss : List ByteArray), k ≤ s.size ∧ kf ≤ k ∧ i = .int .i64 k ∧ f = .int .i64 kf ∧ Hid (Done s kf k ss) ∧ Own wr B 1 v ss.length (ss.map Value.string) ∧ Below B w wr) (fun _ _ i _ => s.size - (intOf i).toNat)
 case atStart => exact ⟨0, 0, [], by omega, by omega, rfl, rfl, done_start s, hown0, Below.refl _ _⟩
 case round =>
  obtain ⟨k, kf, ss, hk, hkf, rfl, rfl, HD, hown, hbel⟩ := hrel
  have hB : B ≤ wr.heap.size := Nat.le_trans hB0 hbel.size
  have hssl := done_len HD.out hk
  by_cases hlt : k < s.size
  ·by_cases hc : s[k] = 46
   ·have hd2 := done_dot HD.out hlt hc
    have hcb : (((s[k]).toNat : Int) == 46) = true := by rw [hc]; rfl
    have HD2 := Lib.hid hd2; clear hd2 hc
    go_wp2_with (at_builtin; go_must (refine wpList_app1 et32 rfl _ _ rfl B rfl hown [_] rfl rfl (by simp [Value.oneCell']) (by omega) hB ?_); intro v' w1 hown1 hgrow)
    go_roundw
    case rel => exact ⟨k+1, k+1, _, hlt, Nat.le_refl _, by go_num, by go_num, HD2.out, by simpa using hown1, bel_app hbel hgrow hown hB⟩
    case measure => simp [intOf]; omega
   ·have hcb : (((s[k]).toNat : Int) == 46) = false := by
     rw [beq_eq_false_iff_ne]; intro e; exact hc (UInt8.toNat_inj.1 (show (s[k]).toNat = 46 by omega))
    have hd2 := done_no HD.out hlt hkf hc
    have HD2 := Lib.hid hd2; clear hd2 hc
    go_wp2
    go_roundw
    case rel => exact ⟨k+1, kf, ss, hlt, by omega, by go_num, rfl, HD2.out, hown, hbel⟩
    case measure => simp [intOf]; omega
  ·obtain rfl : k = s.size := by omega
   have hend := done_end HD.out
   have HE := Lib.hid hend; clear hend
   go_wp2_with (at_builtin; go_must (refine wpList_app1 et32 rfl _ _ rfl B rfl hown [_] rfl rfl (by simp [Value.oneCell']) (by omega) hB ?_); intro v' w1 hown1 hgrow)
   go_ret
   have hlen : ss.length + 1 = (toks s).length := by
    have := congrArg List.length HE.out
    simpa using this
   have hts : ss.map Value.string ++ [Value.string (s.extract kf s.size)] = (toks s).map Value.string := by rw [← HE.out]; simp
   rw [hts, hlen] at hown1
   exact ⟨_, rfl, hown1, bel_app hbel hgrow hown hB⟩
end Go.Proofs.YtehlmjecbljafaaGreatDoor
namespace Go.Proofs.YtehlmjecbljafaaGreatDoor
open Go Go.RowKit
theorem elem32 : Tryz.prog.elem 32 = 9 := by kernel_rfl
theorem size9 (w : World) : (sizeOf 9).run Tryz.prog w = .ok 1 w := by kernel_rfl
theorem strs_from1 (kb ko n cap : Nat) : ∃ sa, (∀ w, (Instr.slice 32 (.slice (some ⟨kb, ko, none⟩) (n + 1) cap) (some (.int .i64 1)) none none).run Tryz.prog w = .ok (.slice sa n (cap - 1)) w) ∧
  ∀ w xs, Sl w 1 (.slice (some ⟨kb, ko, none⟩) (n + 1) cap) (n + 1) xs → Sl w 1 (.slice sa n (cap - 1)) n (xs.drop 1) := by
 refine ⟨if cap = 1 then some ⟨kb, ko, none⟩ else (some ⟨kb, ko, none⟩ : Option Addr).map (·.add (1 * 1)), fun w => ?_, fun w xs h => ?_⟩
 ·have := run_slice_l w 32 (some ⟨kb, ko, none⟩) (n + 1) cap (by rw [elem32]; exact Tryz.underlying32) .i64 1 (by omega) (by omega)
  rw [elem32, size9] at this
  rw [this]
  simp [Result.andThen, sliced]
 ·have := h.dropIf (j := 1) (by omega)
  simpa [add0, Addr.add] using this
set_option maxRecDepth 100000 in
set_option maxHeartbeats 3200000 in
theorem start_any : ∀ (ts : List ByteArray) (p : Path) (v : Value) (T : Trie) (F : Nat → Prop) (n : Nat) (w : World), T.N p → TrieOK T F n w → (∀ k, F k → k < w.heap.size) → Sl w 1 v ts.length (ts.map Value.string) →
  (∀ t ∈ ts, bs t ≠ [42] ∧ bs t ≠ [62] ∧ t.size ≤ maxLen) → ts.length ≤ 1000000 →
  Calls Tryz.prog 231 #[.pointer (some ⟨T.aL p, 0, none⟩), v] w (RBj (startT T p (ts.map bs)) w) := by
 intro ts
 induction ts with
 | nil =>
  intro p v T F n w hp hT hF hv hlit hn
  obtain ⟨va, vc, rfl⟩ := hv.form
  clear hv hlit hT hF
  go_enter Tryz.func231, Tryz.ntmps231
  go_wp2
  go_ret
  exact ⟨true, rfl, ⟨fun _ => trivial, fun _ => rfl⟩, Below.refl _ _⟩
 | cons t r ih =>
  intro p v T F n w hp hT hF hv hlit hn
  obtain ⟨va, vc, rfl⟩ := hv.form
  have HV := Lib.hid hv; clear hv
  have HL := Lib.hid hlit; clear hlit
  have HT := Lib.hid hT; clear hT
  have HF := Lib.hid hF; clear hF
  have IH := Lib.hid ih; clear ih
  obtain ⟨kb, ko, t', rfl, Ht, hct⟩ := HV.out.str (Below.refl _ w) (k := 0) (by simp)
  obtain rfl : t' = t := by have := Ht.out; simpa using this.symm
  obtain ⟨n42, n62, htM⟩ := HL.out t' (List.mem_cons_self ..)
  have hlev := HT.out.lev p hp
  have hc0 := (cell_row (j := 0) hlev).trans (show _ = some (Value.map (some (T.aM p))) from rfl)
  have hc1 := (cell_row (j := 1) hlev).trans (show _ = some (T.ptr (p ++ [[42]])) from rfl)
  have hc2 := (cell_row (j := 2) hlev).trans (show _ = some (T.ptr (p ++ [[62]])) from rfl)
  have hrl : r.length ≤ 1000000 := by rw [List.length_cons] at hn; omega
  have hlen : (t' :: r).length = r.length + 1 := rfl
  have e0 : ((((r.length + 1 : Nat)) : Int) == 0) = false := by rw [beq_eq_false_iff_ne]; omega
  rw [hlen]
  rw [Nat.add_zero] at hct
  obtain ⟨sa, hcut1, hcut2⟩ := strs_from1 kb ko r.length vc
  have hsl : ∀ W, Below w.heap.size w W → Sl W 1 (.slice sa r.length (vc - 1)) r.length (r.map Value.string) := fun W hW => by
   have h := hcut2 _ _ (HV.out.keep hW)
   simpa using h
  clear hcut2
  have HSL := Lib.hid hsl; clear hsl
  clear hlev hlen
  by_cases h62 : T.N (p ++ [[62]])
  ·rw [Trie.ptr_yes h62] at hc2
   clear hc0 hc1
   go_enter Tryz.func231, Tryz.ntmps231
   go_wp2
   go_ret
   exact ⟨true, rfl, ⟨fun _ => .inl h62, fun _ => rfl⟩, Below.refl _ _⟩
  ·rw [Trie.ptr_no h62] at hc2
   have H62 := Lib.hid h62; clear h62
   obtain ⟨po, hpo, hp1, hp2⟩ := T.ptr_form (p ++ [[42]])
   rw [hpo] at hc1
   have hne := fun w => ptrNe212 po w
   go_enter Tryz.func231, Tryz.ntmps231
   go_upto_if 27 with fail
   clear hne
   go_cut [6] (fun f wc => ∃ bl, f = .bool bl ∧ (bl = true ↔ (T.N (p ++ [[42]]) ∧ startT T (p ++ [[42]]) (r.map bs))) ∧ Below w.heap.size w wc)
   case first =>
    clear hc0
    by_cases h42 : T.N (p ++ [[42]])
    ·have hn0 := HT.out.nod p [42] h42
     obtain rfl := hp1 h42
     have hnx := (cell_row (j := 0) hn0).trans (show _ = some (Value.pointer (some ⟨T.aL (p ++ [[42]]), 0, none⟩)) from rfl)
     have hnx : w.drew.cell? ⟨T.aN (p ++ [[42]]), 0, none⟩ = some (Value.pointer (some ⟨T.aL (p ++ [[42]]), 0, none⟩)) := hnx
     have hbd : Below w.heap.size w w.drew := (Below.refl _ w).drew
     have hrec := IH.out (p ++ [[42]]) _ T F n w.drew h42 (HT.out.keep fun x hx => hbd.block x (HF.out x hx)) (fun x hx => Nat.lt_of_lt_of_le (HF.out x hx) hbd.size) (HSL.out _ hbd) (fun x hx => HL.out x (List.mem_cons_of_mem _ hx)) hrl
     have HBD := Lib.hid hbd
     clear hn0 hbd
     go_wp2_with fail
     go_region_held3 (fun w1 => w1.cell? ⟨T.aN (p ++ [[42]]), 0, none⟩ = some (Value.pointer (some ⟨T.aL (p ++ [[42]]), 0, none⟩))) (first | exact x1 | exact hnx) (first
      | (go_at_call 231; refine hrec.mono ?_; rintro e w5 ⟨b5, rfl, hbl5, hb5⟩; have x1 := cell_bel hnx hb5))
     have HB5 := Lib.hid (And.intro hbl5 (bel2 HBD.out hb5))
     clear hrec hbl5 hb5 x1
     go_wp2
     go_meet
     case rel => exact ⟨b5, rfl, HB5.out.1.trans ⟨fun h => ⟨h42, h⟩, fun h => h.2⟩, HB5.out.2⟩
    ·obtain rfl := hp2 h42
     go_wp2
     go_meet
     case rel => exact ⟨false, rfl, ⟨(fun h => by cases h), fun h => absurd h.1 h42⟩, Below.refl _ _⟩
   case rest =>
    obtain ⟨bl, rfl, hbl, hbw⟩ := hcut
    have HBL := Lib.hid hbl; clear hbl
    have hOK := HT.out.keep (w' := wc) fun x hx => hbw.block x (HF.out x hx)
    have hlev := hOK.lev p hp
    have hc0 := (cell_row (j := 0) hlev).trans (show _ = some (Value.map (some (T.aM p))) from rfl)
    obtain ⟨f, hmf, hff⟩ := hOK.map p hp
    have hlk := hmf.look Tryz.underlying213 (z213 wc) t' htM
    rw [hff (bs t') n42 n62] at hlk
    clear hff hmf hlev hc1 hc2 hct
    by_cases hN : T.N (p ++ [bs t'])
    ·rw [Trie.ptr_yes hN] at hlk
     have hn0 := hOK.nod p (bs t') hN
     have hnx : wc.drew.cell? ⟨T.aN (p ++ [bs t']), 0, none⟩ = some (Value.pointer (some ⟨T.aL (p ++ [bs t']), 0, none⟩)) := (cell_row (j := 0) hn0).trans (show _ = some (Value.pointer (some ⟨T.aL (p ++ [bs t']), 0, none⟩)) from rfl)
     have hbd : Below w.heap.size w wc.drew := hbw.drew
     have hrec := IH.out (p ++ [bs t']) _ T F n wc.drew hN (HT.out.keep fun x hx => hbd.block x (HF.out x hx)) (fun x hx => Nat.lt_of_lt_of_le (HF.out x hx) hbd.size) (HSL.out _ hbd) (fun x hx => HL.out x (List.mem_cons_of_mem _ hx)) hrl
     have HBD := Lib.hid hbd
     have HOK := Lib.hid hOK
     have HBW := Lib.hid hbw
     clear hn0 hbd hOK hbw
     cases bl with
     | false =>
      go_wp2_with fail
      go_region_held3 (fun w1 => w1.cell? ⟨T.aN (p ++ [bs t']), 0, none⟩ = some (Value.pointer (some ⟨T.aL (p ++ [bs t']), 0, none⟩))) (first | exact x1 | exact hnx) (first
       | (go_at_call 231; refine hrec.mono ?_; rintro e w5 ⟨b5, rfl, hbl5, hb5⟩; have x1 := cell_bel hnx hb5))
      have HB5 := Lib.hid (And.intro hbl5 (bel2 HBD.out hb5))
      clear hrec hbl5 hb5 x1
      go_wp2
      go_ret
      refine ⟨b5, rfl, HB5.out.1.trans ⟨fun h => .inr (.inr ⟨hN, h⟩), fun h => ?_⟩, HB5.out.2⟩
      rcases h with h | h | h
      ·exact absurd h H62.out
      ·exact absurd (HBL.out.2 h) (by simp)
      ·exact h.2
     | true =>
      clear hrec
      go_wp2_with fail
      go_quiet (fail)
      go_wp2
      go_ret
      exact ⟨true, rfl, ⟨fun _ => .inr (.inl (HBL.out.1 (by simp))), fun _ => rfl⟩, below_drewN HBW.out nq⟩
    ·rw [Trie.ptr_no hN] at hlk
     have HBW := Lib.hid hbw
     clear hbw hOK
     go_wp2
     go_ret
     refine ⟨bl, rfl, HBL.out.trans ⟨fun h => .inr (.inl h), fun h => ?_⟩, HBW.out⟩
     rcases h with h | h | h
     ·exact absurd h H62.out
     ·exact h
     ·exact absurd h.1 hN
end Go.Proofs.YtehlmjecbljafaaGreatDoor
namespace Go.Proofs.YtehlmjecbljafaaGreatDoor
open Go Go.RowKit
theorem calls_any {P : Program} {f : FuncId} {args : Array Value} {w : World} {Q : Ending → World → Prop} (S : World → Prop) (h : S w) (k : ∀ W, S W → Calls P f args W Q) : Calls P f args w Q := k w h
set_option maxRecDepth 100000 in
set_option maxHeartbeats 3200000 in
theorem startIn_any (b : Nat) (s : ByteArray) (c : Int) (T : Trie) (F : Nat → Prop) (n : Nat) (w : World) (hb : w.heap[b]? = some (.cells (gslCells (T.aL []) c) 178 (0, 0))) (hT : TrieOK T F n w) (hF : ∀ k, F k → k < w.heap.size) (hFb : ¬ F b)
  (hlit : ∀ t ∈ toks s, bs t ≠ [42] ∧ bs t ≠ [62]) (hs : s.size ≤ 100000) :
  Calls Tryz.prog 197 #[.pointer (some ⟨b, 0, none⟩), .string s] w fun e w' => ∃ bl, e = .returned (.bool bl) ∧ (bl = true ↔ startT T [] ((toks s).map bs)) ∧ Only (· = b) w w' ∧ w'.heap[b]? = w.heap[b]? := by
 have hlb := (Array.getElem?_eq_some_iff.1 hb).1
 have HG := Lib.hid hlit; clear hlit
 have hrl := RwLone.rlock_open rwRLib b 0 0 _ _ w ((cell_row (j := 0) hb).trans (show _ = some (Value.int .i32 0) from rfl)) ((cell_row (j := 3) hb).trans (show _ = some (Value.int .u32 0) from rfl)) ((cell_row (j := 4) hb).trans (show _ = some (Value.int .i32 0) from rfl)) (frozen_row (j := 4) hb) (by rw [wrap_up]; decide)
 have h4 : (w.setCell ⟨b, 4, none⟩ (.int .i32 1)).heap[b]? = some (.cells #[.int .i32 0, .int .u32 0, .int .u32 0, .int .u32 0, .int .i32 1, .int .i32 0, .pointer (some ⟨T.aL [], 0, none⟩), .int .u32 c] 178 (0, 0)) := heap_setCell_same w b 4 _ 178 (.int .i32 1) hb
 have ho4 : Only (· = b) w (w.setCell ⟨b, 4, none⟩ (.int .i32 1)) := (Only.refl (· = b) w).set (.inl rfl) _
 go_enter_defers Tryz.func197, Tryz.ntmps197
 go_wp2_with fail
 refine hrl.mono ?_
 rintro e w3 ⟨rfl, hw3⟩
 rw [wrap_up] at hw3
 simp only [Nat.zero_add] at hw3
 rw [← hw3] at h4 ho4
 have hT3 := hT.keep (w' := w3) fun x hx => ho4.block x (hF x hx) (fun e => hFb (e ▸ hx))
 have hF3 : ∀ k, F k → k < w3.heap.size := fun k hk => by have := hF k hk; have := ho4.size; omega
 clear hrl hw3 hT hF
 go_wp2_with fail
 refine calls_any (fun W => Own W w3.heap.size 1 (.slice (some ⟨w3.heap.size, 0, none⟩) 0 64) 0 [] ∧ Below w3.heap.size w3 W) ⟨⟨rfl, .inr ⟨w3.heap.size, 64, _, 330, rfl, Nat.le_refl _, heap_alloc_new _ _, by omega, by decide, by simp, rfl⟩⟩, (Below.refl _ w3).alloc (Nat.le_refl _) _⟩ ?_
 rintro W ⟨hown, hbW⟩
 refine (tok230_any s _ _ W hown hbW.size hs).mono ?_
 rintro e w4 ⟨v', rfl, hown4, hb4⟩
 have hb34 : Below w3.heap.size w3 w4 := hbW.trans hb4
 have hT4 := hT3.keep (w' := w4) fun x hx => hb34.block x (hF3 x hx)
 have hF4 : ∀ k, F k → k < w4.heap.size := fun k hk => Nat.lt_of_lt_of_le (hF3 k hk) hb34.size
 have h44 := (hb34.block b (Array.getElem?_eq_some_iff.1 h4).1).trans h4
 have r6 := (cell_row (j := 6) h44).trans (show _ = some (Value.pointer (some ⟨T.aL [], 0, none⟩)) from rfl)
 have hst := start_any (toks s) [] v' T F n w4 hT4.root hT4 hF4 hown4.sl (fun t ht => ⟨(HG.out t ht).1, (HG.out t ht).2, by have := toks_mem ht; unfold maxLen; omega⟩) (by have := toks_len s; omega)
 obtain ⟨va, vc, rfl, -⟩ := hown4.form
 have HB34 := Lib.hid hb34; clear hb34
 clear hT3 hF3 hT4 hF4 hown hown4 hbW hb4
 go_wp2_with fail
 refine hst.mono ?_
 rintro e w5 ⟨bl, rfl, hbl, hb5⟩
 have h5 := (hb5.block b (Array.getElem?_eq_some_iff.1 h44).1).trans h44
 clear hst
 go_wp2
 refine leaves_cons (f := 113) (args := #[.pointer (some ⟨b, 0, none⟩)]) (by simp) (by simp [go_sem]) ?_
 refine (RwLone.runlock_deferred rwRLib b 0 1 _ _ .returning w5 ((cell_row (j := 0) h5).trans (show _ = some (Value.int .i32 0) from rfl)) ((cell_row (j := 2) h5).trans (show _ = some (Value.int .u32 0) from rfl)) ((cell_row (j := 4) h5).trans (show _ = some (Value.int .i32 1) from rfl)) (frozen_row (j := 4) h5) (by rw [wrap_down]; decide)).mono ?_
 rintro e u' w9 ⟨rfl, rfl, rfl⟩
 refine ⟨_, results_tmp rfl _ _ _, bl, rfl, hbl, ?_, ?_⟩
 ·have o3 := ho4.trans (Only.of (F := (· = b)) HB34.out) fun k hk => .inl hk
  have o5 := o3.trans (Only.of (F := (· = b)) hb5) fun k hk => .inl hk
  exact o5.set (.inl rfl) _
 ·rw [hb]
  rw [wrap_down]
  exact heap_setCell_same w5 b 4 _ 178 (.int .i32 0) h5
end Go.Proofs.YtehlmjecbljafaaGreatDoor
