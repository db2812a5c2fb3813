/- The server's list: a node's subscriptions are put down. The server's list: all nodes below a level. The server's list: what a filter matches, below a level. The list of interest: Match. The server's list: ReverseMatch. A script's answers: Lists, numbers, found, Count. -/
import Derived.Test.YtehlmjecbljafaaGreatDoorR10
import Derived.Test.YtehlmjecbljafaaGreatDoorR11
import Derived.Test.YtehlmjecbljafaaGreatDoorR14
import Derived.Test.YtehlmjecbljafaaGreatDoorR16
import Derived.Test.YtehlmjecbljafaaGreatDoorR17
import Derived.Test.YtehlmjecbljafaaGreatDoorR31
import Derived.Laws.IdiomRangeMap
import Derived.Deep.DeepCutAuto
import Derived.LaidEqlPtr
namespace Go.Proofs.YtehlmjecbljafaaGreatDoor
open Go Go.RowKit
/-- What has been found: the subscriptions l; nothing of F has turned. -/
def ResS (F : Nat → Prop) (R : Nat) (l : List Nat) (w0 w : World) : Prop := (∃ ov, w.heap[R]? = some (.cells #[ov, .slice none 0 0, .slice none 0 0] 247 (0, 0)) ∧ Own w (R + 1) 1 ov l.length (l.map atBlk) ∧ ∀ k, ov.ownBlock = some k → ¬ F k) ∧ Only (fun k => ¬ F k ∧ R ≤ k) w0 w
theorem ResS.start {F : Nat → Prop} {R : Nat} {l : List Nat} {w0 w : World} (h : ResS F R l w0 w) : ResS F R l w w := ⟨h.1, Only.refl _ _⟩
theorem ResS.trans {F : Nat → Prop} {R : Nat} {l l' : List Nat} {w0 w w' : World} (h : ResS F R l w0 w) (k : ResS F R l' w w') : ResS F R l' w0 w' := ⟨k.1, h.2.trans k.2 fun _b hb => .inl hb⟩
theorem ResS.bel {F : Nat → Prop} {R : Nat} {l : List Nat} {w0 w w' : World} (h : ResS F R l w0 w) (hb : Below w.heap.size w w') : ResS F R l w0 w' := by
 obtain ⟨⟨ov, h1, h2, h3⟩, h4⟩ := h
 exact ⟨⟨ov, (hb.block _ (Array.getElem?_eq_some_iff.1 h1).1).trans h1, h2.keep hb, h3⟩, h4.trans (Only.of (F := fun _ => False) hb) fun k hk => hk.elim⟩
theorem ResS.kept {F : Nat → Prop} {R : Nat} {l : List Nat} {w0 w : World} (h : ResS F R l w0 w) (hF : ∀ k, F k → k < w0.heap.size) {k : Nat} (hk : F k) : w.heap[k]? = w0.heap[k]? := h.2.block k (hF k hk) fun e => e.1 hk
theorem ResS.size {F : Nat → Prop} {R : Nat} {l : List Nat} {w0 w : World} (h : ResS F R l w0 w) : w0.heap.size ≤ w.heap.size := h.2.size
theorem ResS.lt {F : Nat → Prop} {R : Nat} {l : List Nat} {w0 w : World} (h : ResS F R l w0 w) : R < w.heap.size := by obtain ⟨⟨ov, h1, -⟩, -⟩ := h; exact (Array.getElem?_eq_some_iff.1 h1).1
theorem ResS.more {F : Nat → Prop} {R r : Nat} {l : List Nat} {w w0 : World} (h : ResS F R l w w) (hb : Below w.heap.size w w0) (hr : w.heap.size ≤ r) : ResS (fun k => F k ∨ k = r) R l w0 w0 := by
 obtain ⟨⟨ov, h1, h2, h3⟩, -⟩ := h
 refine ⟨⟨ov, (hb.block R (Array.getElem?_eq_some_iff.1 h1).1).trans h1, h2.keep hb, fun k hk => ?_⟩, Only.refl _ _⟩
 rintro (e | rfl)
 ·exact h3 k hk e
 ·have := (h2.lt _ hk).2; omega
theorem ResS.turn {F : Nat → Prop} {R r : Nat} {l : List Nat} {w w1 : World} (h : ResS (fun k => F k ∨ k = r) R l w w) (ho : Only (· = r) w w1) (hr : R ≠ r) : ResS (fun k => F k ∨ k = r) R l w1 w1 := by
 obtain ⟨⟨ov, h1, h2, h3⟩, -⟩ := h
 exact ⟨⟨ov, (ho.block R (Array.getElem?_eq_some_iff.1 h1).1 hr).trans h1, h2.only ho (fun k hk e => h3 k hk (.inr e)), h3⟩, Only.refl _ _⟩
theorem ResS.less {F : Nat → Prop} {R r : Nat} {l : List Nat} {w w1 : World} (h : ResS (fun k => F k ∨ k = r) R l w w) (ho : Only (fun k => ¬ F k ∧ R ≤ k) w1 w) : ResS F R l w1 w := by
 obtain ⟨⟨ov, h1, h2, h3⟩, -⟩ := h
 exact ⟨⟨ov, h1, h2, fun k hk e => h3 k hk (.inl e)⟩, ho⟩
/-- One subscription more. -/
theorem ResS.put {F : Nat → Prop} {R : Nat} {l : List Nat} {w w1 : World} (h : ResS F R l w w) (hF : ∀ k, F k → k < w.heap.size) (hR : ¬ F R) {ov v' : Value} (b : Nat) (h1 : w.heap[R]? = some (.cells #[ov, .slice none 0 0, .slice none 0 0] 247 (0, 0)))
  (o1 : Own w1 (R + 1) 1 v' (l.length + 1) (l.map atBlk ++ [atBlk b])) (o2 : ∀ k, v'.ownBlock = some k → ov.ownBlock = some k ∨ w.heap.size ≤ k) (o3 : Only (fun k => ov.ownBlock = some k) w w1) : ResS F R (l ++ [b]) w (w1.setCell ⟨R, 0, none⟩ v') := by
 obtain ⟨⟨ov0, k1, k2, k3⟩, -⟩ := h
 rw [h1] at k1
 injection k1 with k1; injection k1 with k1
 have e0 : ov = ov0 := congrArg (fun a : Array Value => a[0]!) k1
 subst e0
 have hlo := (Array.getElem?_eq_some_iff.1 h1).1
 have r1 : w1.heap[R]? = some (.cells #[ov, .slice none 0 0, .slice none 0 0] 247 (0, 0)) := (o3.block R hlo (fun e => by have := (k2.lt R e).1; omega)).trans h1
 refine ⟨⟨v', heap_setCell_same w1 R 0 _ 247 _ r1, ?_, fun k hk hFk => ?_⟩, ?_⟩
 ·rw [List.length_append, List.map_append]
  exact o1.kept fun k hk => heap_setCell_other _ _ _ _ (by have := (o1.lt k hk).1; show k ≠ R; omega)
 ·rcases o2 k hk with h | h
  ·exact k3 k h hFk
  ·have := hF k hFk; omega
 ·refine (o3.mono fun k hk => ?_).set (.inl ⟨hR, Nat.le_refl _⟩) _
  exact ⟨k3 k hk, by have := (k2.lt k hk).1; omega⟩
def blkOf : Value → Nat
 | .pointer (some ⟨b, _, _⟩) => b
 | _ => 0
theorem subKV_back (l : List Nat) : (subKV l).map (fun p => blkOf p.1) = l := by
 unfold subKV
 rw [List.map_map]
 conv => rhs; rw [← List.map_id l]
 exact List.map_congr_left fun _ _ => rfl
theorem subKV_perm {l m : List Nat} (h : (subKV l).Perm (subKV m)) : l.Perm m := by
 have := h.map (fun p => blkOf p.1)
 rwa [subKV_back, subKV_back] at this
theorem subKV_len (l : List Nat) : (subKV l).length = l.length := by simp [subKV]
theorem nil116q (w : World) : (binOp .neq 116 (.slice none 0 0) (.slice none 0 0)).run Tryz.prog w = .ok (.bool false) w := nil116 w
set_option maxRecDepth 100000 in
set_option maxHeartbeats 3200000 in
theorem addNode_any (a lv s : Nat) (S : List Nat) (F : Nat → Prop) (R : Nat) (l : List Nat) (w : World) (ha : w.heap[a]? = some (.cells #[.pointer (some ⟨lv, 0, none⟩), .map (some s), .map none, .slice none 0 0] 287 (0, 0))) (hs : MapE w s (subKV S)) (hFa : F a) (hFs : F s) (h : ResS F R l w w) (hF : ∀ k, F k → k < w.heap.size) (hR : ¬ F R) (hn : l.length + S.length < 1000000) :
  Calls Tryz.prog 226 #[.pointer (some ⟨a, 0, none⟩), .pointer (some ⟨R, 0, none⟩)] w fun e w' => e = .returned (.tuple #[]) ∧ ∃ l2, l2.Perm S ∧ ResS F R (l ++ l2) w w' := by
 have hm : (subKV S).length = S.length := by simp [subKV]
 have HM := Lib.hid hm; clear hm
 have c3 := (cell_row (j := 3) ha).trans (show _ = some (Value.slice none 0 0) from rfl)
 have c1 := (cell_row (j := 1) ha).trans (show _ = some (Value.map (some s)) from rfl)
 have HA := Lib.hid ha
 have H := Lib.hid h
 have q2 := fun w => nil116q w
 clear ha h
 go_enter Tryz.func226, Tryz.ntmps226
 go_wp2_with (at_range; refine wpList_rangeE _ rfl _ 284 rfl _ _ Tryz.underlying284 s (subKV S) rfl hs ?_; intro w0 hit hb0 hz0)
 go_frame
 have HB0 := Lib.hid (And.intro hb0 hz0)
 have hz1 : w.heap.size < w0.heap.size := by omega
 clear hb0 hz0
 have HINV := Lib.hid (show ∀ p ∈ subKV S, ∃ (x : Nat) (y : Unit), p = (atBlk x, (fun _ => unitV) y) from fun p hp => by
  obtain ⟨x, hx, rfl⟩ := List.mem_map.1 hp
  exact ⟨x, (), rfl⟩)
 have hrF : ¬ F w.heap.size := fun e => by have := hF _ e; omega
 have hRl := H.out.lt
 have hrg : ∀ wx : World, (Instr.range 285 (.map none)).run Tryz.prog wx = _ := fun wx => run_range_nilMap wx 285 _ _ Tryz.underlying285
 have hnx : ∀ (wx : World) ty, (Instr.next (.pointer (some ⟨wx.heap.size, 0, none⟩)) false ty).run Tryz.prog (wx.alloc (.mapIter none 0 #[] 0)) = _ := fun wx ty => run_next_nilMap wx ty 0 0 #[]
 go_loopw [4] (fun _ wr => ∃ (done : List Nat) (left : List (Value × Value)), (subKV S).Perm (subKV done ++ left) ∧ IterE wr s w.heap.size (subKV S) left ∧ ResS (fun k => F k ∨ k = w.heap.size) R (l ++ done) wr wr ∧ Only (fun k => ¬ F k ∧ R ≤ k) w wr) (fun _ wr => wr.rangeLeft s w.heap.size)
 case atStart =>
  refine ⟨[], subKV S, List.Perm.refl _, hit, ?_, Only.of HB0.out.1⟩
  rw [List.append_nil]
  exact H.out.more HB0.out.1 (Nat.le_refl _)
 case round =>
  obtain ⟨done, left, hpm, hitr, hout, honw⟩ := hrel
  have hlen := hpm.length_eq
  rw [List.length_append, subKV_len, subKV_len] at hlen
  have HLEN := Lib.hid hlen; clear hlen
  have HPM := Lib.hid hpm; clear hpm
  have HO := Lib.hid (And.intro hout honw); clear hout honw
  have HI := Lib.hid hitr
  have hk2 := (HO.out.2.block a (Array.getElem?_eq_some_iff.1 HA.out).1 (fun e => e.1 hFa)).trans HA.out
  have d2 := (cell_row (j := 2) hk2).trans (show _ = some (Value.map none) from rfl)
  clear hk2
  go_wp2_with (at_next; refine wpList_nextKV _ atBlk (fun _ : Unit => unitV) rfl _ rfl s w.heap.size (subKV S) left HINV.out rfl hitr ?_ ?_)
  ·intro hl0
   have HL := Lib.hid hl0; clear hl0
   go_wp2
   go_loopw [5] (fun _ wz => wz = wr.alloc (Obj.mapIter none 0 #[] 0)) (fun _ _ => 0)
   case atStart => rfl
   case round =>
    obtain rfl := hrel
    go_wp2
    go_end0
    refine ⟨rfl, done, ?_, ?_⟩
    ·have hp := HPM.out
     rw [HL.out, List.append_nil] at hp
     exact (subKV_perm hp).symm
    ·have ho := HO.out.1.less HO.out.2
     exact ho.bel ((Below.refl _ _).alloc (Nat.le_refl _) _)
  ·intro x left' w1 hperm hit1 hon1 hz1' hen
   have hl2 := hperm.length_eq
   rw [List.length_cons] at hl2
   have hzw := HO.out.2.size
   have hz2 : w.heap.size ≤ w1.heap.size := by omega
   have hF1 : ∀ k, (F k ∨ k = w.heap.size) → k < w1.heap.size := fun k hk => by
    rcases hk with hk | rfl
    ·have := hF k hk; omega
    ·have := hit1.lt; omega
   have hR1 : ¬ (F R ∨ R = w.heap.size) := by rintro (e | e); exact hR e; omega
   have hres := HO.out.1.turn hon1 (by omega)
   obtain ⟨⟨ov, r1, r2, r3⟩, -⟩ := id hres
   obtain ⟨oa, oc, rfl, -⟩ := r2.form
   have hdl : (l ++ done).length < 1000000 := by rw [List.length_append]; have := HLEN.out; omega
   have hlR := (Array.getElem?_eq_some_iff.1 r1).1
   have hRl2 : R + 1 ≤ w1.heap.size := hlR
   have k0 := (cell_row (j := 0) r1).trans (show _ = some (Value.slice oa (l ++ done).length oc) from rfl)
   have HP := Lib.hid (And.intro hperm (And.intro hit1 (And.intro hon1 (And.intro hz1' hl2))))
   have HF1 := Lib.hid hF1
   have HRES := Lib.hid hres
   have HR1 := Lib.hid r1
   have HR2 := Lib.hid r2
   clear hperm hit1 hon1 hz1' hl2 hF1 hres r1 r3
   generalize hnl : (l ++ done).length = nl at *
   go_wp2_with (at_builtin; go_must (refine wpList_appZ et116 rfl _ _ rfl (R + 1) rfl r2 [_] rfl rfl (by simp [Value.oneCell']) (by omega) hRl2 ?_); intro v' w2 hown1 hf1 hon2; obtain ⟨va, vc, rfl, -⟩ := hown1.form; have k1 := (hon2.block R hlR (fun e => by have := (HR2.out.lt R e).1; omega)).trans HR1.out; have kc := (cell_row (j := 0) k1).trans (show _ = some (Value.slice oa nl oc) from rfl); have kf := frozen_row (j := 0) k1; have HO2 := Lib.hid (And.intro hown1 (And.intro hf1 hon2)); clear hown1 hf1 hon2)
   have hput : ResS (fun k => F k ∨ k = w.heap.size) R (l ++ done ++ [x]) w1 (w2.setCell ⟨R, 0, none⟩ (.slice va (nl + 1) vc)) :=
    ResS.put HRES.out HF1.out hR1 x HR1.out (by rw [hnl]; exact HO2.out.1) HO2.out.2.1 HO2.out.2.2
   have HPUT := Lib.hid hput
   clear hput hen
   go_roundw
   case rel =>
    obtain ⟨p1, p2, p3, p4, p5⟩ := HP.out
    refine ⟨done ++ [x], left', ?_, p2.keep (HPUT.out.kept HF1.out (.inl hFs)) (HPUT.out.kept HF1.out (.inr rfl)), ?_, ?_⟩
    ·refine HPM.out.trans ?_
     unfold subKV
     rw [List.map_append, List.append_assoc]
     exact p1.append_left _
    ·rw [← List.append_assoc]; exact HPUT.out.start
    ·have q1 := HO.out.2.trans (p3.mono (F' := fun k => ¬ F k ∧ R ≤ k) fun k hk => by subst hk; exact ⟨hrF, by omega⟩) fun k hk => .inl hk
     exact q1.trans HPUT.out.2 fun k hk => .inl ⟨fun e => hk.1 (.inl e), hk.2⟩
   case measure =>
    obtain ⟨p1, p2, p3, p4, p5⟩ := HP.out
    rw [(p2.keep (HPUT.out.kept HF1.out (.inl hFs)) (HPUT.out.kept HF1.out (.inr rfl))).left_eq, HI.out.left_eq]
    omega
end Go.Proofs.YtehlmjecbljafaaGreatDoor
namespace Go.Proofs.YtehlmjecbljafaaGreatDoor
open Go Go.RowKit
theorem STrieOK.wider {T : STrie} {F F' : Nat → Prop} {w : World} (h : STrieOK T F w) (hF : ∀ k, F k → F' k) : STrieOK T F' w :=
 { h with fL := fun p hp => hF _ (h.fL p hp), fM := fun p hp => hF _ (h.fM p hp), fN := fun p t hp => hF _ (h.fN p t hp), fS := fun p t hp => hF _ (h.fS p t hp) }
section
variable {T : STrie} {F : Nat → Prop} {R : Nat} {Q Q' : Path → Prop} {w0 w w' : World}
end
end Go.Proofs.YtehlmjecbljafaaGreatDoor
namespace Go.Proofs.YtehlmjecbljafaaGreatDoor
open Go Go.RowKit
end Go.Proofs.YtehlmjecbljafaaGreatDoor
namespace Go.Proofs.YtehlmjecbljafaaGreatDoor
open Go Go.RowKit
end Go.Proofs.YtehlmjecbljafaaGreatDoor
namespace Go.Proofs.YtehlmjecbljafaaGreatDoor
open Go Go.RowKit
/-- A list's row while one reads. -/
def slRead (root : Nat) (cache : Value) (g m h i r sw c : Int) : Array Value :=
 #[.int .i32 0, .int .u32 0, .int .u32 0, .int .u32 0, .int .i32 1, .int .i32 0, .int .u64 g, .int .u64 m, .int .u64 h, .int .u64 i, .int .u64 r, .pointer (some ⟨root, 0, none⟩), cache, .int .i32 sw, .int .u32 c]
/-- A result in memory. -/
def ResAt (w : World) (B R : Nat) (l : List Nat) : Prop := ∃ ov, w.heap[R]? = some (.cells #[ov, .slice none 0 0, .slice none 0 0] 247 (0, 0)) ∧ Own w (R + 1) 1 ov l.length (l.map atBlk) ∧ B ≤ R
end Go.Proofs.YtehlmjecbljafaaGreatDoor
namespace Go.Proofs.YtehlmjecbljafaaGreatDoor
open Go Go.RowKit
set_option maxRecDepth 100000 in
set_option maxHeartbeats 800000 in
theorem lists_any (R : Nat) (ov : Value) (w : World) (h : w.heap[R]? = some (.cells #[ov, .slice none 0 0, .slice none 0 0] 247 (0, 0))) :
  Calls Tryz.prog 189 #[.pointer (some ⟨R, 0, none⟩)] w fun e w' => e = .returned (.tuple #[ov, .slice none 0 0]) ∧ Below w.heap.size w w' := by
 have c0 := (cell_row (j := 0) h).trans (show _ = some ov from rfl)
 have c1 := (cell_row (j := 1) h).trans (show _ = some (Value.slice none 0 0) from rfl)
 go_enter Tryz.func189, Tryz.ntmps189
 go_wp2
 go_quiet (fail)
 go_wp2
 go_ret2
 exact ⟨rfl, below_drewN (Below.refl _ _) nq⟩
theorem ptr231 {W : World} {a b : Nat} {ca cb : Array Value} {ta tb : TypeId} (ha : W.heap[a]? = some (.cells ca ta (0, 0))) (hb : W.heap[b]? = some (.cells cb tb (0, 0))) :
  (binOp .eql 231 (.pointer (some ⟨a, 0, none⟩)) (.pointer (some ⟨b, 0, none⟩))).run Tryz.prog W = .ok (.bool (decide (a = b))) W := by
 obtain ⟨j, hj, hjs⟩ := Option.map_eq_some_iff.1 info282
 by_cases e : a = b
 ·subst e
  rw [run_eql_ptr_same (w := W) (hp := Tryz.underlying231) (hte := hj), decide_eq_true rfl]
 ·rw [run_eql_ptr_other W (a := ⟨a, 0, none⟩) (b := ⟨b, 0, none⟩) Tryz.underlying231 hj (by rw [hjs]; decide) (fun h => e (by cases h; rfl)) ha hb, decide_eq_false e]
/-- The numbers of subscriptions. -/
def NumsOf (ids : List Int) (subs l : List Nat) (out : List Int) : Prop := out.length = l.length ∧ ∀ (j b : Nat), l[j]? = some b → ∃ (k : Nat) (x : Int), subs[k]? = some b ∧ ids[k]? = some x ∧ out[j]? = some x
set_option maxRecDepth 100000 in
set_option maxHeartbeats 3200000 in
theorem numbers_any (P b : Nat) (vi vs lv : Value) (ids : List Int) (subs l : List Nat) (w : World) (h : PlayAt w P b vi vs ids subs) (hl : Sl w 1 lv l.length (l.map atBlk)) (hsub : ∀ x ∈ l, x ∈ subs) (hrow : ∀ x ∈ subs, ∃ c t, w.heap[x]? = some (.cells c t (0, 0))) (hn : ids.length ≤ 1000000) (hln : l.length ≤ 1000000) :
  Calls Tryz.prog 190 #[.pointer (some ⟨P, 0, none⟩), lv] w fun e w' => ∃ u out, e = .returned u ∧ Own w' w.heap.size 1 u out.length (ints out) ∧ NumsOf ids subs l out ∧ Below w.heap.size w w' := by
 obtain ⟨ia, ic, hvi, -⟩ := h.own1.form
 obtain ⟨sa, sc, hvs, -⟩ := h.own2.form
 subst hvi hvs
 obtain ⟨la, lc, rfl⟩ := hl.form
 have HP := Lib.hid h; clear h
 have HLV := Lib.hid hl; clear hl
 have HSUB := Lib.hid hsub; clear hsub
 have HROW := Lib.hid hrow; clear hrow
 go_enter Tryz.func190, Tryz.ntmps190
 go_wp2
 go_loopw [5, 6] (fun o i wr => ∃ (j : Nat) (out : List Int), j ≤ l.length ∧ i = .int .i64 j ∧ Own wr w.heap.size 1 o j (ints out) ∧ out.length = j ∧ Hid (NumsOf ids subs (l.take j) out) ∧ Below w.heap.size w wr) (fun _ i _ => l.length - (intOf i).toNat)
 case atStart => exact ⟨0, [], Nat.zero_le _, rfl, Own.nil _ _ _, rfl, Lib.hid ⟨rfl, fun j b h => by simp at h⟩, Below.refl _ _⟩
 case round =>
  obtain ⟨j, out, hj, rfl, hown, hol, HN, hbel⟩ := hrel
  obtain ⟨oa, oc, rfl, -⟩ := hown.form
  have HOL := Lib.hid hol; clear hol
  have hB := hbel.size
  by_cases hlt : j < l.length
  ·obtain ⟨x, hx⟩ : ∃ x, l[j]? = some x := ⟨_, List.getElem?_eq_getElem hlt⟩
   have HX := Lib.hid hx
   obtain ⟨wo, rfl⟩ : ∃ x : World, x = wr := ⟨_, rfl⟩
   have HOWN := Lib.hid hown
   go_wp2
   go_loopw [5, 7] (fun o i wr => ∃ k : Nat, k ≤ subs.length ∧ i = .int .i64 k ∧ o = .slice oa j oc ∧ Hid (x ∉ subs.take k) ∧ wr.heap = wo.heap ∧ Below w.heap.size w wr) (fun _ i _ => subs.length - (intOf i).toNat)
   case atStart => exact ⟨0, Nat.zero_le _, rfl, rfl, Lib.hid (by simp), rfl, hbel⟩
   case round =>
    obtain ⟨k, hk, rfl, rfl, HNX, hhp, hbk⟩ := hrel
    have HHP := Lib.hid hhp; clear hhp
    have hp := HP.out.keep hbk
    have hrowP := hp.row
    have HROWP := Lib.hid hrowP
    have c2 := (cell_row (j := 2) hrowP).trans (show _ = some (Value.slice sa subs.length sc) from rfl)
    have c1 := (cell_row (j := 1) hrowP).trans (show _ = some (Value.slice ia ids.length ic) from rfl)
    have HPK := Lib.hid hp
    have hlen := hp.len
    have HLEN := Lib.hid hlen
    have hownk := HOWN.out.kept (w' := wr) fun q _ => by rw [HHP.out]
    obtain ⟨lb, lo, hla, hlc⟩ := HLV.out.cell hbk (by simp; omega)
    have clx := hlc j (atBlk x) (by rw [List.getElem?_map, HX.out]; rfl)
    subst hla
    have hBk := hbk.size
    have hsn : subs.length ≤ 1000000 := by omega
    have hownd := hownk.keep (Below.refl wr.heap.size wr).drew
    have hBd : w.heap.size ≤ wr.drew.heap.size := hBk
    clear hrowP hp hlen hlc
    by_cases hkt : k < subs.length
    ·obtain ⟨y, hy⟩ : ∃ y, subs[k]? = some y := ⟨_, List.getElem?_eq_getElem hkt⟩
     have HY := Lib.hid hy
     obtain ⟨sb, so, hsa, hsc⟩ := HPK.out.own2.sl.cell (Below.refl _ wr) (by simp; omega)
     have csy := hsc k (atBlk y) (by rw [List.getElem?_map, HY.out]; rfl)
     subst hsa
     obtain ⟨cx, tx, hxr⟩ := HROW.out x (HSUB.out x (List.mem_of_getElem? HX.out))
     obtain ⟨cy, ty, hyr⟩ := HROW.out y (List.mem_of_getElem? HY.out)
     have hxr := (hbk.block x (Array.getElem?_eq_some_iff.1 hxr).1).trans hxr
     have hyr := (hbk.block y (Array.getElem?_eq_some_iff.1 hyr).1).trans hyr
     have hcmp : (binOp .eql 231 (.pointer (some ⟨y, 0, none⟩)) (.pointer (some ⟨x, 0, none⟩))).run Tryz.prog wr.drew = .ok (.bool (decide (y = x))) wr.drew := ptr231 hyr hxr
     clear hsc hy hx hxr hyr hown
     go_wp2_with fail
     refine wp_region_L [0, 1, 2, 3, 4, 5, 6, 7, 8, 9, 10] (fun W' => W'.cell? ⟨P, 2, none⟩ = some (.slice (some ⟨sb, so, none⟩) subs.length sc) ∧ W'.cell? ⟨sb, so + k, none⟩ = some (atBlk y) ∧ W'.cell? ⟨lb, lo + j, none⟩ = some (atBlk x)) (by kernel_rfl) (by kernel_rfl) ⟨c2, csy, clx⟩ (fun ne => ?_)
     have S0 := fun z : SubC (fun W' => W'.cell? ⟨P, 2, none⟩ = some (.slice (some ⟨sb, so, none⟩) subs.length sc) ∧ W'.cell? ⟨sb, so + k, none⟩ = some (atBlk y) ∧ W'.cell? ⟨lb, lo + j, none⟩ = some (atBlk x)) => z.ok.1
     have S1 := fun z : SubC (fun W' => W'.cell? ⟨P, 2, none⟩ = some (.slice (some ⟨sb, so, none⟩) subs.length sc) ∧ W'.cell? ⟨sb, so + k, none⟩ = some (atBlk y) ∧ W'.cell? ⟨lb, lo + j, none⟩ = some (atBlk x)) => z.ok.2.1
     have S2 := fun z : SubC (fun W' => W'.cell? ⟨P, 2, none⟩ = some (.slice (some ⟨sb, so, none⟩) subs.length sc) ∧ W'.cell? ⟨sb, so + k, none⟩ = some (atBlk y) ∧ W'.cell? ⟨lb, lo + j, none⟩ = some (atBlk x)) => z.ok.2.2
     repeat (refine wpCL_q rfl rfl ?_; go_big_quiet_step (fail); refine wpQuiet_nil ?_)
     refine wpCL_n rfl rfl rfl rfl ?_
     go_simp
     repeat (refine wpCL_q rfl rfl ?_; go_big_quiet_step (fail); refine wpQuiet_nil ?_)
     refine wpCL_last ?_
     clear S0 S1 S2 ne
     by_cases hyx : y = x
     ·rw [decide_eq_true hyx] at hcmp
      have hki : k < ids.length := by have := HLEN.out; omega
      obtain ⟨ib, io, z, rfl, Hz, cz, -⟩ := HPK.out.own1.sl.int (Below.refl _ _) hki
      have HYX := Lib.hid hyx; clear hyx
      go_wp2_with (at_builtin; go_must (refine wpList_app1 (W := wr.drew) (v := .slice oa j oc) (n := j) (xs := ints out) et33 rfl _ _ rfl w.heap.size (by rfl) hownd [_] rfl rfl (by simp [Value.oneCell']) (by omega) hBd ?_); intro v' w1 hown1 hgrow)
      have hbd2 := bel_app (w := w) (W := wr.drew) (below_drewN hbk 1) hgrow hownd hBd
      have HB2 := Lib.hid hbd2
      have HO2 := Lib.hid hown1
      clear hbd2 hown1 hgrow hownd hownk hcmp
      go_roundw
      case rel =>
       refine ⟨j + 1, out ++ [z], hlt, by go_num, ?_, ?_, Lib.hid ⟨?_, fun i c hi => ?_⟩, HB2.out⟩
       ·have := HO2.out
        rw [show ints (out ++ [z]) = ints out ++ [.int .i64 z] by simp [ints]]
        exact this
       ·rw [List.length_append, HOL.out]; rfl
       ·rw [List.length_append, HOL.out, List.length_take]; show j + 1 = _; omega
       ·rw [List.take_add_one, HX.out] at hi
        have htl : (l.take j).length = j := by rw [List.length_take]; omega
        by_cases hij : i < j
        ·rw [List.getElem?_append_left (by omega)] at hi
         obtain ⟨k', x', h1, h2, h3⟩ := HN.out.2 i c hi
         exact ⟨k', x', h1, h2, by rw [List.getElem?_append_left (by have := HOL.out; omega)]; exact h3⟩
        ·rw [List.getElem?_append_right (by omega), htl] at hi
         have hi0 : i - j = 0 := by
          rcases Nat.lt_or_ge (i - j) 1 with h | h
          ·omega
          ·rw [List.getElem?_eq_none (by simpa using h)] at hi; cases hi
         rw [hi0] at hi
         have hc : c = x := by simpa using hi.symm
         subst hc
         have hij2 : i = j := by omega
         subst hij2
         refine ⟨k, z, by rw [HY.out, HYX.out], Hz.out, ?_⟩
         rw [List.getElem?_append_right (by have := HOL.out; omega), HOL.out, Nat.sub_self]; rfl
      case measure => simp [intOf]; omega
     ·rw [decide_eq_false hyx] at hcmp
      have HYX := Lib.hid hyx; clear hyx
      go_wp2
      go_roundw
      case rel =>
       refine ⟨k + 1, hkt, by go_num, rfl, Lib.hid fun h => ?_, HHP.out, below_drewN hbk 1⟩
       rw [List.take_add_one, HY.out] at h
       rcases List.mem_append.1 h with h | h
       ·exact HNX.out h
       ·exact HYX.out (show x = y by simpa using h).symm
      case measure => simp [intOf]; omega
    ·exfalso
     apply HNX.out
     rw [List.take_of_length_le (show subs.length ≤ k by omega)]
     exact HSUB.out x (List.mem_of_getElem? HX.out)
  ·obtain rfl : j = l.length := by omega
   go_wp2
   go_ret
   refine ⟨_, out, rfl, (by rw [HOL.out]; exact hown), ?_, hbel⟩
   have := HN.out
   rwa [List.take_length] at this
set_option maxRecDepth 100000 in
set_option maxHeartbeats 3200000 in
theorem found_any (P b : Nat) (vi vs : Value) (ids : List Int) (subs l : List Nat) (B R : Nat) (w : World) (h : PlayAt w P b vi vs ids subs) (hR : ResAt w B R l) (hsub : ∀ x ∈ l, x ∈ subs) (hrow : ∀ x ∈ subs, ∃ c t, w.heap[x]? = some (.cells c t (0, 0))) (hn : ids.length ≤ 1000000) (hln : l.length ≤ 1000000) :
  Calls Tryz.prog 143 #[.pointer (some ⟨P, 0, none⟩), .pointer (some ⟨R, 0, none⟩)] w fun e w' => ∃ u out, e = .returned (.agg #[u, .slice none 0 0]) ∧ Own w' w.heap.size 1 u out.length (ints out) ∧ NumsOf ids subs l out ∧ Below w.heap.size w w' := by
 obtain ⟨ov, r1, r2, -⟩ := hR
 have HP := Lib.hid h; clear h
 have HSUB := Lib.hid hsub; clear hsub
 have HROW := Lib.hid hrow; clear hrow
 have hb0 := (Below.refl w.heap.size w).alloc (Nat.le_refl _) (.cells #[.slice none 0 0, .slice none 0 0] 59)
 have hz0 : (w.alloc (.cells #[.slice none 0 0, .slice none 0 0] 59)).heap.size = w.heap.size + 1 := by simp
 have hlR := (Array.getElem?_eq_some_iff.1 r1).1
 have hl1 := lists_any R ov (w.alloc (.cells #[.slice none 0 0, .slice none 0 0] 59)) ((hb0.block R hlR).trans r1)
 have HR2 := Lib.hid r2; clear r2
 go_enter Tryz.func143, Tryz.ntmps143
 go_wp2_with fail
 refine hl1.mono ?_
 rintro e w1 ⟨rfl, hb1⟩
 have hb2 := bel2 hb0 hb1
 have hrow1 : ∀ x ∈ subs, ∃ c t, w1.heap[x]? = some (.cells c t (0, 0)) := fun x hx => by
  obtain ⟨c, t, h⟩ := HROW.out x hx
  exact ⟨c, t, (hb2.block x (Array.getElem?_eq_some_iff.1 h).1).trans h⟩
 have hnum := numbers_any P b vi vs ov ids subs l w1 (HP.out.keep hb2) (HR2.out.keep hb2).sl HSUB.out hrow1 hn hln
 have HB2 := Lib.hid hb2
 have c4 := (hb1.block w.heap.size (by omega)).trans (heap_alloc_new w (.cells #[.slice none 0 0, .slice none 0 0] 59))
 clear hl1 hrow1 hb0 hb1 hb2
 go_wp2_with fail
 refine hnum.mono ?_
 rintro e w2 ⟨u, out, rfl, hou, hno, hb3⟩
 obtain ⟨ua, uc, rfl, -⟩ := hou.form
 have HOU := Lib.hid hou
 have HB3 := Lib.hid hb3
 have c42 := (hb3.block w.heap.size (Array.getElem?_eq_some_iff.1 c4).1).trans c4
 clear hnum hou hb3
 go_wp2
 go_loopw [8] (fun i wz => i = .int .i64 0 ∧ wz = w2.alloc (Obj.cells #[Value.slice ua out.length uc, Value.slice none 0 0] 59)) (fun _ _ => 0)
 case atStart => exact ⟨rfl, rfl⟩
 case round =>
  obtain ⟨rfl, rfl⟩ := hrel
  have hal := heap_alloc_new w2 (.cells #[Value.slice ua out.length uc, Value.slice none 0 0] 59)
  have hba := (Below.refl w2.heap.size w2).alloc (Nat.le_refl _) (.cells #[Value.slice ua out.length uc, Value.slice none 0 0] 59)
  have d0 := (cell_row (j := 0) hal).trans (show _ = some (Value.slice ua out.length uc) from rfl)
  have d1 := (cell_row (j := 1) hal).trans (show _ = some (Value.slice none 0 0) from rfl)
  have k4 := (hba.block w.heap.size (Array.getElem?_eq_some_iff.1 c42).1).trans c42
  have e0 := (cell_row (j := 0) k4).trans (show _ = some (Value.slice none 0 0) from rfl)
  have e1 := (cell_row (j := 1) k4).trans (show _ = some (Value.slice none 0 0) from rfl)
  have f0 := frozen_row (j := 0) k4
  have f1 := frozen_row (j := 1) k4
  go_wp2
  have s0 := heap_setCell_same _ w.heap.size 0 _ 59 (.slice ua out.length uc) k4
  have s1 := heap_setCell_same _ w.heap.size 1 _ 59 (.slice none 0 0) s0
  refine bodyPost_ret (results_cell_row rfl _ _ w.heap.size 59 _ (0, 0) _ rfl s1 Tryz.underlying59 rfl (by kernel_rfl)) rfl ?_
  have hz1 := HB2.out.size
  have hz2 := HB3.out.size
  refine ⟨_, out, rfl, ?_, hno, ?_⟩
  ·refine Own.mono (base := w1.heap.size) ?_ (by omega)
   refine (HOU.out.keep hba).kept fun k hk => ?_
   have := (HOU.out.lt k hk).1
   have hne : k ≠ w.heap.size := by have := (Array.getElem?_eq_some_iff.1 c4).1; omega
   exact (heap_setCell_other _ _ _ _ (show k ≠ w.heap.size from hne)).trans (heap_setCell_other _ _ _ _ (show k ≠ w.heap.size from hne))
  ·have o := (Only.of (F := (· = w.heap.size)) ((HB2.out.trans (HB3.out.mono hz1)).trans (hba.mono (by omega))))
   exact ((o.set (.inl rfl) _).set (.inl rfl) _).below (fun k hk => by omega) (by omega)
set_option maxRecDepth 100000 in
set_option maxHeartbeats 800000 in
theorem scount_any (b root : Nat) (cv : Value) (g m h i r sw c : Int) (w : World) (hbk : w.heap[b]? = some (.cells (slCells root cv g m h i r sw c) 229 (0, 0))) :
  Calls Tryz.prog 148 #[.pointer (some ⟨b, 0, none⟩)] w fun e w' => e = .returned (.int .u32 c) ∧ w'.heap[b]? = some (.cells (slCells root cv g m h i r sw c) 229 (0, 0)) ∧ Only (· = b) w w' := by
 have hrl := RwLone.rlock_open rwRLib b 0 0 _ _ w ((cell_row (j := 0) hbk).trans (show _ = some (Value.int .i32 0) from rfl)) ((cell_row (j := 3) hbk).trans (show _ = some (Value.int .u32 0) from rfl)) ((cell_row (j := 4) hbk).trans (show _ = some (Value.int .i32 0) from rfl)) (frozen_row (j := 4) hbk) (by rw [wrap_up]; decide)
 have h4 : (w.setCell ⟨b, 4, none⟩ (.int .i32 1)).heap[b]? = some (.cells (slRead root cv g m h i r sw c) 229 (0, 0)) := heap_setCell_same w b 4 _ 229 (.int .i32 1) hbk
 have ho4 : Only (· = b) w (w.setCell ⟨b, 4, none⟩ (.int .i32 1)) := (Only.refl (· = b) w).set (.inl rfl) _
 go_enter_defers Tryz.func148, Tryz.ntmps148
 go_wp2_with fail
 refine hrl.mono ?_
 rintro e w3 ⟨rfl, hw3⟩
 rw [wrap_up] at hw3
 simp only [Nat.zero_add] at hw3
 rw [← hw3] at h4 ho4
 have r14 := (cell_row (j := 14) h4).trans (show _ = some (Value.int .u32 c) from rfl)
 clear hrl hw3
 go_wp2
 refine leaves_cons (f := 113) (args := #[.pointer (some ⟨b, 0, none⟩)]) (by simp) (by simp [go_sem]) ?_
 refine (RwLone.runlock_deferred rwRLib b 0 1 _ _ .returning w3 ((cell_row (j := 0) h4).trans (show _ = some (Value.int .i32 0) from rfl)) ((cell_row (j := 2) h4).trans (show _ = some (Value.int .u32 0) from rfl)) ((cell_row (j := 4) h4).trans (show _ = some (Value.int .i32 1) from rfl)) (frozen_row (j := 4) h4) (by rw [wrap_down]; decide)).mono ?_
 rintro e u' w9 ⟨rfl, rfl, rfl⟩
 refine ⟨_, results_tmp rfl _ _ _, rfl, ?_, ?_⟩
 ·rw [wrap_down]; exact heap_setCell_same w3 b 4 _ 229 (.int .i32 0) h4
 ·exact ho4.set (.inl rfl) _
end Go.Proofs.YtehlmjecbljafaaGreatDoor
