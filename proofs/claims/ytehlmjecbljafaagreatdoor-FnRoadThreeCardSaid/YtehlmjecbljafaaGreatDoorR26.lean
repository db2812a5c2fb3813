/- Nodes are sorted: swaps and rotations. Nodes are sorted: insertion. Nodes are sorted: a merge in place. -/
import Derived.Test.YtehlmjecbljafaaGreatDoorR4
import Derived.Test.YtehlmjecbljafaaGreatDoorR25
import Derived.BigRegion
import Derived.Deep.RegionHeld3
namespace Go.Proofs.YtehlmjecbljafaaGreatDoor
open Go Go.RowKit
/-- A row of nodes: what it holds, and that nothing else that is old has turned. -/
structure SortSt (w0 : World) (g n cap : Nat) (vs : List Value) (W : World) : Prop where
 own : Own W 0 1 (.slice (some ⟨g, 0, none⟩) n cap) n vs
 only : Only (· = g) w0 W
/-- All are nodes. -/
def IfRefs (vs : List Value) : Prop := ∀ v ∈ vs, ∃ ty tb, v = .iface ty (.pointer (some ⟨tb, 0, none⟩))
theorem SortSt.len {w0 : World} {g n cap : Nat} {vs : List Value} {W : World} (h : SortSt w0 g n cap vs W) : vs.length = n := by have := h.own.1; omega
theorem SortSt.cell {w0 : World} {g n cap : Nat} {vs : List Value} {W : World} (h : SortSt w0 g n cap vs W) {i : Nat} {x : Value} (hi : vs[i]? = some x) : W.cell? ⟨g, i, none⟩ = some x ∧ W.frozen? ⟨g, i, none⟩ = false := by
 rcases h.own.2 with ⟨h1, -⟩ | ⟨g', cap', cur, t, e, -, hg, -, -, -, h4⟩
 ·cases h1
 ·cases e
  refine ⟨?_, frozen_row hg⟩
  rw [cell_row hg]
  rw [← h4, List.getElem?_take] at hi
  split at hi
  ·simpa using hi
  ·cases hi
theorem SortSt.at' {w0 : World} {g n cap : Nat} {vs : List Value} {W : World} (h : SortSt w0 g n cap vs W) (hr : IfRefs vs) {i : Nat} (hi : i < n) : ∃ ty tb, vs[i]? = some (.iface ty (.pointer (some ⟨tb, 0, none⟩))) ∧ W.cell? ⟨g, i, none⟩ = some (.iface ty (.pointer (some ⟨tb, 0, none⟩))) ∧ W.frozen? ⟨g, i, none⟩ = false := by
 have hl := h.len
 have hx : vs[i]? = some vs[i] := List.getElem?_eq_getElem (by omega)
 obtain ⟨ty, tb, e⟩ := hr _ (List.getElem_mem (by omega : i < vs.length))
 rw [e] at hx
 exact ⟨ty, tb, hx, h.cell hx⟩
theorem SortSt.bel {w0 : World} {g n cap : Nat} {vs : List Value} {W W' : World} (h : SortSt w0 g n cap vs W) (hb : Below W.heap.size W W') : SortSt w0 g n cap vs W' := ⟨h.own.keep hb, h.only.trans (Only.of (F := fun _ => False) hb) fun _b hb => nomatch hb⟩
theorem Own.setV {w : World} {B g n cap : Nat} {xs : List Value} (h : Own w B 1 (.slice (some ⟨g, 0, none⟩) n cap) n xs) (k : Nat) (y : Value) : Own (w.setCell ⟨g, k, none⟩ y) B 1 (.slice (some ⟨g, 0, none⟩) n cap) n (xs.set k y) := by
 refine ⟨by rw [List.length_set]; exact h.1, ?_⟩
 rcases h.2 with ⟨h1, -⟩ | ⟨g', cap', cur, t, e, hb, hg, h1, h2, h3, h4⟩
 ·cases h1
 ·cases e
  refine .inr ⟨g, cap, _, t, rfl, hb, heap_setCell_same w g k cur t y hg, h1, h2, by rw [Array.size_setIfInBounds]; exact h3, ?_⟩
  rw [Array.toList_setIfInBounds, List.take_set, h4]
theorem SortSt.swap {w0 : World} {g n cap : Nat} {vs : List Value} {W : World} (h : SortSt w0 g n cap vs W) {i j : Nat} {x y : Value} (hi : vs[i]? = some x) (hj : vs[j]? = some y) :
  SortSt w0 g n cap ((vs.set i y).set j x) ((W.setCell ⟨g, i, none⟩ y).setCell ⟨g, j, none⟩ x) ∧ ((vs.set i y).set j x).Perm vs := by
 refine ⟨⟨(h.own.setV i y).setV j x, (h.only.set (.inl rfl) _).set (.inl rfl) _⟩, ?_⟩
 obtain ⟨h1, rfl⟩ := List.getElem?_eq_some_iff.1 hi
 obtain ⟨h2, rfl⟩ := List.getElem?_eq_some_iff.1 hj
 exact List.set_set_perm h1 h2
theorem IfRefs.perm {a b : List Value} (h : IfRefs a) (hp : b.Perm a) : IfRefs b := fun v hv => h v (hp.mem_iff.1 hv)
/-- What a step of the sorting comes to: the same nodes in some order. -/
def SortC (w0 : World) (g n cap : Nat) (vs : List Value) (e : Ending) (W' : World) : Prop := e = .returned (.tuple #[]) ∧ ∃ vs', vs'.Perm vs ∧ SortSt w0 g n cap vs' W'
set_option maxRecDepth 100000 in
set_option maxHeartbeats 3200000 in
theorem swapRange_any (w0 : World) (g n cap : Nat) (cb : Value) (a b m : Nat) (vs : List Value) (w : World) (h : SortSt w0 g n cap vs w) (hr : IfRefs vs) (ha : a + m ≤ b) (hb : b + m ≤ n) (hn : n ≤ 100000) :
  Calls Tryz.prog 256 #[.slice (some ⟨g, 0, none⟩) n cap, .int .i64 a, .int .i64 b, .int .i64 m, cb] w (SortC w0 g n cap vs) := by
 have HS := Lib.hid h; clear h
 have HR := Lib.hid hr; clear hr
 go_enter Tryz.func256, Tryz.ntmps256
 go_wp2
 go_loopw [10] (fun i wr => ∃ (k : Nat) (us : List Value), k ≤ m ∧ i = .int .i64 (k : Nat) ∧ Hid (us.Perm vs) ∧ Hid (SortSt w0 g n cap us wr)) (fun i _ => m - (intOf i).toNat)
 case atStart => exact ⟨0, vs, Nat.zero_le _, rfl, Lib.hid (List.Perm.refl _), HS⟩
 case round =>
  obtain ⟨k, us, hk, rfl, HP, HU⟩ := hrel
  by_cases hlt : k < m
  ·obtain ⟨ty1, tb1, e1, c1, f1⟩ := HU.out.at' (HR.out.perm HP.out) (i := a + k) (by omega)
   obtain ⟨ty2, tb2, e2, c2, f2⟩ := HU.out.at' (HR.out.perm HP.out) (i := b + k) (by omega)
   have hsw := HU.out.swap e1 e2
   have HSW := Lib.hid hsw; clear hsw
   have E12 := Lib.hid (And.intro e1 e2); clear e1 e2
   have a1 : (0 : Int) ≤ (a : Int) + (k : Int) := by omega
   have a2 : (a : Int) + (k : Int) < (n : Int) := by omega
   have b1 : (0 : Int) ≤ (b : Int) + (k : Int) := by omega
   have b2 : (b : Int) + (k : Int) < (n : Int) := by omega
   have n1 : a + k ≠ b + k := by omega
   have n2 : b + k ≠ a + k := by omega
   go_wp2_with fail
   go_region
   go_wp2
   go_roundw
   case rel => exact ⟨k + 1, _, hlt, by go_num, Lib.hid (HSW.out.2.trans HP.out), Lib.hid (HSW.out.1.bel (Below.refl _ _).drew)⟩
   case measure => simp [intOf] <;> omega
  ·obtain rfl : k = m := by omega
   go_wp2
   go_end0
   exact ⟨rfl, us, HP.out, HU.out⟩
set_option maxRecDepth 100000 in
set_option maxHeartbeats 3200000 in
theorem rotate_any (w0 : World) (g n cap : Nat) (cb : Value) (a m b : Nat) (vs : List Value) (w : World) (h : SortSt w0 g n cap vs w) (hr : IfRefs vs) (ha : a < m) (hm : m < b) (hb : b ≤ n) (hn : n ≤ 100000) :
  Calls Tryz.prog 242 #[.slice (some ⟨g, 0, none⟩) n cap, .int .i64 a, .int .i64 m, .int .i64 b, cb] w (SortC w0 g n cap vs) := by
 have HS := Lib.hid h; clear h
 have HR := Lib.hid hr; clear hr
 go_enter Tryz.func242, Tryz.ntmps242
 go_wp2
 go_loopw [10, 11] (fun i j wr => ∃ (p q : Nat) (us : List Value), 0 < p ∧ 0 < q ∧ p ≤ m ∧ m + q ≤ n ∧ i = .int .i64 (p : Nat) ∧ j = .int .i64 (q : Nat) ∧ Hid (us.Perm vs) ∧ Hid (SortSt w0 g n cap us wr)) (fun i j _ => (intOf i).toNat + (intOf j).toNat)
 case atStart => exact ⟨m - a, b - m, vs, by omega, by omega, by omega, by omega, by go_num, by go_num, Lib.hid (List.Perm.refl _), HS⟩
 case round =>
  obtain ⟨p, q, us, hp, hq, hpm, hqn, rfl, rfl, HP, HU⟩ := hrel
  have c1 : ((m - p : Nat) : Int) = (m : Int) - (p : Int) := by omega
  by_cases heq : p = q
  ·subst heq
   have hsw := swapRange_any w0 g n cap cb (m - p) m p us wr HU.out (HR.out.perm HP.out) (by omega) hqn hn
   rw [c1] at hsw
   clear c1
   go_wp2_with fail
   refine hsw.mono ?_
   rintro e w2 ⟨rfl, vs', h1, h2⟩
   clear hsw
   have H12 := Lib.hid (And.intro h1 h2); clear h1 h2
   go_wp2
   go_end0
   exact ⟨rfl, vs', H12.out.1.trans HP.out, H12.out.2⟩
  ·have hne : ¬ ((p : Int) = (q : Int)) := by omega
   by_cases hgt : q < p
   ·have hsw := swapRange_any w0 g n cap cb (m - p) m q us wr HU.out (HR.out.perm HP.out) (by omega) hqn hn
    rw [c1] at hsw
    have hgt' : (p : Int) > (q : Int) := by omega
    clear c1
    go_wp2_with fail
    refine hsw.mono ?_
    rintro e w2 ⟨rfl, vs', h1, h2⟩
    clear hsw
    have H12 := Lib.hid (And.intro h1 h2); clear h1 h2
    go_wp2
    go_roundw
    case rel => exact ⟨p - q, q, vs', by omega, by omega, by omega, by omega, by go_num, rfl, Lib.hid (H12.out.1.trans HP.out), Lib.hid H12.out.2⟩
    case measure => simp [intOf] <;> omega
   ·have hsw := swapRange_any w0 g n cap cb (m - p) (m + q - p) p us wr HU.out (HR.out.perm HP.out) (by omega) (by omega) hn
    rw [c1, show ((m + q - p : Nat) : Int) = (m : Int) + (q : Int) - (p : Int) by omega] at hsw
    have hgt' : ¬ ((p : Int) > (q : Int)) := by omega
    clear c1
    go_wp2_with fail
    refine hsw.mono ?_
    rintro e w2 ⟨rfl, vs', h1, h2⟩
    clear hsw
    have H12 := Lib.hid (And.intro h1 h2); clear h1 h2
    go_wp2
    go_roundw
    case rel => exact ⟨p, q - p, vs', by omega, by omega, by omega, by omega, rfl, by go_num, Lib.hid (H12.out.1.trans HP.out), Lib.hid H12.out.2⟩
    case measure => simp [intOf] <;> omega
end Go.Proofs.YtehlmjecbljafaaGreatDoor
namespace Go.Proofs.YtehlmjecbljafaaGreatDoor
open Go Go.RowKit
abbrev cmpV : Value := .func (.func 150) #[] #[]
/-- Any two of the nodes can be compared, whatever stands in the row. -/
def CmpOK (w0 : World) (g : Nat) (vs : List Value) : Prop := ∀ W x y, Only (· = g) w0 W → x ∈ vs → y ∈ vs → Calls Tryz.prog 150 #[x, y] W fun e w' => ∃ i : Int, e = .returned (.int .i64 i) ∧ Below W.heap.size W w'
theorem CmpOK.perm {w0 : World} {g : Nat} {a b : List Value} (h : CmpOK w0 g a) (hp : b.Perm a) : CmpOK w0 g b := fun W x y ho hx hy => h W x y ho (hp.mem_iff.1 hx) (hp.mem_iff.1 hy)
set_option maxRecDepth 100000 in
set_option maxHeartbeats 6400000 in
theorem insertion_any (w0 : World) (g n cap : Nat) (a b : Nat) (vs : List Value) (w : World) (h : SortSt w0 g n cap vs w) (hr : IfRefs vs) (hc : CmpOK w0 g vs) (hb : b ≤ n) (hn : n ≤ 100000) (ha : a ≤ 100000) :
  Calls Tryz.prog 227 #[.slice (some ⟨g, 0, none⟩) n cap, .int .i64 a, .int .i64 b, cmpV] w (SortC w0 g n cap vs) := by
 have HS := Lib.hid h; clear h
 have HR := Lib.hid hr; clear hr
 have HC := Lib.hid hc; clear hc
 go_enter Tryz.func227, Tryz.ntmps227
 go_wp2
 go_loopw [8] (fun i wr => ∃ (k : Nat) (us : List Value), i = .int .i64 (k : Nat) ∧ k ≤ 200001 ∧ a < k ∧ Hid (us.Perm vs) ∧ Hid (SortSt w0 g n cap us wr)) (fun i _ => b - (intOf i).toNat)
 case atStart => exact ⟨a + 1, vs, by go_num, by omega, by omega, Lib.hid (List.Perm.refl _), HS⟩
 case round =>
  obtain ⟨k, us, rfl, hk2, hak, HP, HU⟩ := hrel
  by_cases hlt : k < b
  ·obtain ⟨wo, rfl⟩ : ∃ x : World, x = wr := ⟨_, rfl⟩
   go_wp2
   go_loopw [9] (fun j wr => ∃ (m : Nat) (us : List Value), j = .int .i64 (m : Nat) ∧ m ≤ k ∧ a ≤ m ∧ Hid (us.Perm vs) ∧ Hid (SortSt w0 g n cap us wr)) (fun j _ => (intOf j).toNat)
   case atStart => exact ⟨k, us, rfl, Nat.le_refl _, by omega, HP, HU⟩
   case round =>
    obtain ⟨m, us, rfl, hmk, ham, HP, HU⟩ := hrel
    by_cases hma : a < m
    ·obtain ⟨p, hp⟩ : ∃ p, p + 1 = m := ⟨m - 1, by omega⟩
     obtain ⟨ty1, tb1, e1, c1, f1⟩ := HU.out.at' (HR.out.perm HP.out) (i := m) (by omega)
     obtain ⟨ty2, tb2, e2, c2, f2⟩ := HU.out.at' (HR.out.perm HP.out) (i := p) (by omega)
     have hcm := (HC.out.perm HP.out) wr.drew _ _ (HU.out.bel (Below.refl _ _).drew).only (List.mem_of_getElem? e1) (List.mem_of_getElem? e2)
     have hsw := fun W hb => (HU.out.bel (W' := W) hb).swap e1 e2
     have HSW := Lib.hid hsw; clear hsw
     have E12 := Lib.hid (And.intro e1 e2); clear e1 e2
     have p1 : (m : Int) > (a : Int) := by omega
     have p2 : (0 : Int) ≤ (p : Int) := by omega
     have p3 : (p : Int) < (n : Int) := by omega
     have p4 : (m : Int) < (n : Int) := by omega
     have hwr : IntKind.i64.wrap ((m : Int) - 1) = (p : Int) := by rw [IntKind.wrap_i64]; omega
     have hx1 : wr.drew.cell? ⟨g, m, none⟩ = some (.iface ty1 (.pointer (some ⟨tb1, 0, none⟩))) := c1
     have hx2 : wr.drew.cell? ⟨g, p, none⟩ = some (.iface ty2 (.pointer (some ⟨tb2, 0, none⟩))) := c2
     have HPM := Lib.hid hp; clear hp
     go_wp2_with fail
     go_region_held3 (fun w1 => w1.cell? ⟨g, m, none⟩ = some (.iface ty1 (.pointer (some ⟨tb1, 0, none⟩))) ∧ w1.cell? ⟨g, p, none⟩ = some (.iface ty2 (.pointer (some ⟨tb2, 0, none⟩)))) (first | exact ⟨x15, x25⟩ | exact ⟨hx1, hx2⟩) (first
      | (go_at_call 150; refine hcm.mono ?_; rintro e w5 ⟨i5, rfl, hb5⟩; have x15 := cell_bel hx1 hb5; have x25 := cell_bel hx2 hb5))
     have hbw : Below wr.heap.size wr w5 := bel_drew hb5
     have hst := HU.out.bel hbw
     by_cases hneg : i5 < 0
     ·have f15 := (hst.cell (E12.out.1)).2
      have f25 := (hst.cell (E12.out.2)).2
      have hsw := HSW.out w5 hbw
      have HSS := Lib.hid hsw
      have n1 : p ≠ m := by have := HPM.out; omega
      have n2 : m ≠ p := fun e => n1 e.symm
      have hpa : a ≤ p := by have := HPM.out; omega
      have hpk : p ≤ k := by have := HPM.out; omega
      have hpm : p < m := by have := HPM.out; omega
      clear hcm hsw hst hbw hb5 c1 c2 f1 f2 hx1 hx2
      go_wp2_with fail
      go_region
      go_wp2
      go_roundw
      case rel => exact ⟨p, _, by go_num, hpk, hpa, Lib.hid (HSS.out.2.trans HP.out), Lib.hid (HSS.out.1.bel (Below.refl _ _).drew)⟩
      case measure => simp [intOf] <;> omega
     ·have HST := Lib.hid hst
      clear hcm hst hbw hb5 c1 c2 f1 f2 hx1 hx2 x15 x25
      go_wp2
      go_roundw
      case rel => exact ⟨k + 1, us, by go_num, by omega, by omega, HP, HST⟩
      case measure => simp [intOf] <;> omega
    ·have p1 : ¬ ((m : Int) > (a : Int)) := by omega
     go_wp2_with fail
     go_quiet (fail)
     go_wp2
     go_roundw
     case rel => exact ⟨k + 1, us, by go_num, by omega, by omega, HP, Lib.hid (HU.out.bel (below_drewN (Below.refl _ wr) nq))⟩
     case measure => simp [intOf] <;> omega
  ·have hlt' : ¬ ((k : Int) < (b : Int)) := by omega
   go_wp2
   go_end0
   exact ⟨rfl, us, HP.out, HU.out⟩
end Go.Proofs.YtehlmjecbljafaaGreatDoor
namespace Go.Proofs.YtehlmjecbljafaaGreatDoor
open Go Go.RowKit
set_option maxRecDepth 100000 in
set_option maxHeartbeats 6400000 in
theorem sym1_any (w0 : World) (g n cap : Nat) (a m b : Nat) (vs : List Value) (w : World) (h : SortSt w0 g n cap vs w) (hr : IfRefs vs) (hc : CmpOK w0 g vs) (hn : n ≤ 100000) (hbn : b ≤ n) (ham : a + 1 = m) (hmb : m < b) :
  Calls Tryz.prog 228 #[.slice (some ⟨g, 0, none⟩) n cap, .int .i64 a, .int .i64 m, .int .i64 b, cmpV] w (SortC w0 g n cap vs) := by
 have HS := Lib.hid h; clear h
 have HR := Lib.hid hr; clear hr
 have HC := Lib.hid hc; clear hc
 have e1 : (((m : Int) - (a : Int)) == 1) = true := by rw [beq_iff_eq]; omega
 have HAM := Lib.hid ham
 have ham1 : a < m := by omega
 have ham2 : m ≤ a + 1 := by omega
 clear ham
 go_enter Tryz.func228, Tryz.ntmps228
 go_wp2
 go_loopw [10, 11] (fun i j wr => ∃ p q : Nat, i = .int .i64 (p : Nat) ∧ j = .int .i64 (q : Nat) ∧ m ≤ p ∧ p ≤ q ∧ q ≤ b ∧ Hid (SortSt w0 g n cap vs wr)) (fun i j _ => (intOf j).toNat - (intOf i).toNat)
 case atStart => exact ⟨m, b, rfl, rfl, Nat.le_refl _, by omega, Nat.le_refl _, HS⟩
 case round =>
  obtain ⟨p, q, rfl, rfl, h1, h2, h3, HU⟩ := hrel
  have HP : Hid (vs.Perm vs) := Lib.hid (List.Perm.refl _)
  by_cases hpq : p < q
  ·obtain ⟨H, hH⟩ : ∃ H : Nat, ((p : Int) + (q : Int)) / 2 = (H : Int) := ⟨(p + q) / 2, by omega⟩
   have hH1 : p ≤ H ∧ H < q := by omega
   obtain ⟨hH1, hH2⟩ := hH1
   obtain ⟨ty1, tb1, e1, c1, f1⟩ := HU.out.at' (HR.out.perm HP.out) (i := H) (by omega)
   obtain ⟨ty2, tb2, e2, c2, f2⟩ := HU.out.at' (HR.out.perm HP.out) (i := a) (by omega)
   have hcm := (HC.out.perm HP.out) wr.drew _ _ (HU.out.bel (Below.refl _ _).drew).only (List.mem_of_getElem? e1) (List.mem_of_getElem? e2)
   have x1 : (0 : Int) ≤ (H : Int) := by omega
   have x2 : (H : Int) < (n : Int) := by omega
   have y1 : (0 : Int) ≤ (a : Int) := by omega
   have y2 : (a : Int) < (n : Int) := by omega
   have hx1 : wr.drew.cell? ⟨g, H, none⟩ = some (.iface ty1 (.pointer (some ⟨tb1, 0, none⟩))) := c1
   have hx2 : wr.drew.cell? ⟨g, a, none⟩ = some (.iface ty2 (.pointer (some ⟨tb2, 0, none⟩))) := c2
   clear e1 e2 f1 f2
   go_wp2_with fail
   go_region_held3 (fun w1 => w1.cell? ⟨g, H, none⟩ = some (.iface ty1 (.pointer (some ⟨tb1, 0, none⟩))) ∧ w1.cell? ⟨g, a, none⟩ = some (.iface ty2 (.pointer (some ⟨tb2, 0, none⟩)))) (first | exact ⟨x15, x25⟩ | exact ⟨hx1, hx2⟩) (first
    | (go_at_call 150; refine hcm.mono ?_; rintro e w5 ⟨i5, rfl, hb5⟩; have x15 := cell_bel hx1 hb5; have x25 := cell_bel hx2 hb5))
   have hbw : Below wr.heap.size wr w5 := bel_drew hb5
   have HST := Lib.hid (HU.out.bel hbw)
   clear hcm hbw hb5 c1 c2 hx1 hx2 x15 x25
   by_cases hneg : i5 < 0
   ·go_wp2
    go_roundw
    case rel => exact ⟨H + 1, q, by go_num, rfl, by omega, by omega, h3, HST⟩
    case measure => simp [intOf] <;> omega
   ·go_wp2
    go_roundw
    case rel => exact ⟨p, H, rfl, by go_num, h1, by omega, by omega, HST⟩
    case measure => simp [intOf] <;> omega
  ·obtain ⟨wo, rfl⟩ : ∃ x : World, x = wr := ⟨_, rfl⟩
   go_wp2
   go_loopw [13] (fun i wr => ∃ (k : Nat) (us : List Value), i = .int .i64 (k : Nat) ∧ k < p ∧ Hid (us.Perm vs) ∧ Hid (SortSt w0 g n cap us wr)) (fun i _ => p - (intOf i).toNat)
   case atStart => exact ⟨a, vs, rfl, by omega, HP, HU⟩
   case round =>
    obtain ⟨k, us, rfl, hkp, HP, HU⟩ := hrel
    by_cases hk : k + 1 < p
    ·have hk' : (k : Int) < (p : Int) - 1 := by omega
     obtain ⟨ty1, tb1, e1, c1, f1⟩ := HU.out.at' (HR.out.perm HP.out) (i := k) (by omega)
     obtain ⟨ty2, tb2, e2, c2, f2⟩ := HU.out.at' (HR.out.perm HP.out) (i := (k + 1)) (by omega)
     have HSS := Lib.hid (HU.out.swap e1 e2)
     have n1 : k ≠ (k + 1) := by omega
     have n2 : (k + 1) ≠ k := by omega
     have z1 : (0 : Int) ≤ (k : Int) := by omega
     have z2 : (k : Int) < (n : Int) := by omega
     have z3 : (0 : Int) ≤ ((((k + 1)) : Nat) : Int) := by omega
     have z4 : ((((k + 1)) : Nat) : Int) < (n : Int) := by omega
     clear e1 e2
     go_wp2_with fail
     go_region
     go_wp2
     go_roundw
     case rel => exact ⟨k + 1, _, by go_num, hk, Lib.hid (HSS.out.2.trans HP.out), Lib.hid (HSS.out.1.bel (Below.refl _ _).drew)⟩
     case measure => simp [intOf] <;> omega
    ·have hk' : ¬ ((k : Int) < (p : Int) - 1) := by omega
     go_wp2
     refine bodyPost_ret (results_none rfl _ _ _) rfl ⟨rfl, us, HP.out, HU.out⟩
set_option maxRecDepth 100000 in
set_option maxHeartbeats 6400000 in
theorem sym2_any (w0 : World) (g n cap : Nat) (a m b : Nat) (vs : List Value) (w : World) (h : SortSt w0 g n cap vs w) (hr : IfRefs vs) (hc : CmpOK w0 g vs) (hn : n ≤ 100000) (hbn : b ≤ n) (ham : a + 1 < m) (hmb : m + 1 = b) :
  Calls Tryz.prog 228 #[.slice (some ⟨g, 0, none⟩) n cap, .int .i64 a, .int .i64 m, .int .i64 b, cmpV] w (SortC w0 g n cap vs) := by
 have HS := Lib.hid h; clear h
 have HR := Lib.hid hr; clear hr
 have HC := Lib.hid hc; clear hc
 have e1 : (((m : Int) - (a : Int)) == 1) = false := by rw [beq_eq_false_iff_ne]; omega
 have e2 : (((b : Int) - (m : Int)) == 1) = true := by rw [beq_iff_eq]; omega
 have hmb1 : m < b := by omega
 clear hmb
 go_enter Tryz.func228, Tryz.ntmps228
 go_wp2
 go_loopw [14, 15] (fun i j wr => ∃ p q : Nat, i = .int .i64 (p : Nat) ∧ j = .int .i64 (q : Nat) ∧ a ≤ p ∧ p ≤ q ∧ q ≤ m ∧ Hid (SortSt w0 g n cap vs wr)) (fun i j _ => (intOf j).toNat - (intOf i).toNat)
 case atStart => exact ⟨a, m, rfl, rfl, Nat.le_refl _, by omega, Nat.le_refl _, HS⟩
 case round =>
  obtain ⟨p, q, rfl, rfl, h1, h2, h3, HU⟩ := hrel
  have HP : Hid (vs.Perm vs) := Lib.hid (List.Perm.refl _)
  by_cases hpq : p < q
  ·obtain ⟨H, hH⟩ : ∃ H : Nat, ((p : Int) + (q : Int)) / 2 = (H : Int) := ⟨(p + q) / 2, by omega⟩
   have hH1 : p ≤ H ∧ H < q := by omega
   obtain ⟨hH1, hH2⟩ := hH1
   obtain ⟨ty1, tb1, e1, c1, f1⟩ := HU.out.at' (HR.out.perm HP.out) (i := m) (by omega)
   obtain ⟨ty2, tb2, e2, c2, f2⟩ := HU.out.at' (HR.out.perm HP.out) (i := H) (by omega)
   have hcm := (HC.out.perm HP.out) wr.drew _ _ (HU.out.bel (Below.refl _ _).drew).only (List.mem_of_getElem? e1) (List.mem_of_getElem? e2)
   have x1 : (0 : Int) ≤ (m : Int) := by omega
   have x2 : (m : Int) < (n : Int) := by omega
   have y1 : (0 : Int) ≤ (H : Int) := by omega
   have y2 : (H : Int) < (n : Int) := by omega
   have hx1 : wr.drew.cell? ⟨g, m, none⟩ = some (.iface ty1 (.pointer (some ⟨tb1, 0, none⟩))) := c1
   have hx2 : wr.drew.cell? ⟨g, H, none⟩ = some (.iface ty2 (.pointer (some ⟨tb2, 0, none⟩))) := c2
   clear e1 e2 f1 f2
   go_wp2_with fail
   go_region_held3 (fun w1 => w1.cell? ⟨g, m, none⟩ = some (.iface ty1 (.pointer (some ⟨tb1, 0, none⟩))) ∧ w1.cell? ⟨g, H, none⟩ = some (.iface ty2 (.pointer (some ⟨tb2, 0, none⟩)))) (first | exact ⟨x15, x25⟩ | exact ⟨hx1, hx2⟩) (first
    | (go_at_call 150; refine hcm.mono ?_; rintro e w5 ⟨i5, rfl, hb5⟩; have x15 := cell_bel hx1 hb5; have x25 := cell_bel hx2 hb5))
   have hbw : Below wr.heap.size wr w5 := bel_drew hb5
   have HST := Lib.hid (HU.out.bel hbw)
   clear hcm hbw hb5 c1 c2 hx1 hx2 x15 x25
   by_cases hneg : i5 < 0
   ·have hz : ¬ (0 ≤ i5) := by omega
    have hnt : (!decide (i5 < 0)) = false := by simp [hneg]
    rw [hnt]
    go_wp2
    go_roundw
    case rel => exact ⟨p, H, rfl, by go_num, h1, by omega, by omega, HST⟩
    case measure => simp [intOf] <;> omega
   ·have hz : 0 ≤ i5 := by omega
    have hnt : (!decide (i5 < 0)) = true := by simp [hneg]
    rw [hnt]
    go_wp2
    go_roundw
    case rel => exact ⟨H + 1, q, by go_num, rfl, by omega, by omega, h3, HST⟩
    case measure => simp [intOf] <;> omega
  ·obtain ⟨wo, rfl⟩ : ∃ x : World, x = wr := ⟨_, rfl⟩
   go_wp2
   go_loopw [17] (fun i wr => ∃ (k : Nat) (us : List Value), i = .int .i64 (k : Nat) ∧ p ≤ k ∧ k ≤ m ∧ Hid (us.Perm vs) ∧ Hid (SortSt w0 g n cap us wr)) (fun i _ => (intOf i).toNat)
   case atStart => exact ⟨m, vs, rfl, by omega, Nat.le_refl _, HP, HU⟩
   case round =>
    obtain ⟨k, us, rfl, hpk, hkm, HP, HU⟩ := hrel
    by_cases hk : p < k
    ·have hk' : (k : Int) > (p : Int) := by omega
     have hr3 : p ≤ k - 1 := by omega
     obtain ⟨ty1, tb1, e1, c1, f1⟩ := HU.out.at' (HR.out.perm HP.out) (i := k) (by omega)
     obtain ⟨ty2, tb2, e2, c2, f2⟩ := HU.out.at' (HR.out.perm HP.out) (i := (k - 1)) (by omega)
     have HSS := Lib.hid (HU.out.swap e1 e2)
     have n1 : k ≠ (k - 1) := by omega
     have n2 : (k - 1) ≠ k := by omega
     have z1 : (0 : Int) ≤ (k : Int) := by omega
     have z2 : (k : Int) < (n : Int) := by omega
     have z3 : (0 : Int) ≤ ((((k - 1)) : Nat) : Int) := by omega
     have z4 : ((((k - 1)) : Nat) : Int) < (n : Int) := by omega
     clear e1 e2
     go_wp2_with fail
     go_region
     go_wp2
     go_roundw
     case rel => exact ⟨k - 1, _, by go_num, hr3, by omega, Lib.hid (HSS.out.2.trans HP.out), Lib.hid (HSS.out.1.bel (Below.refl _ _).drew)⟩
     case measure => simp [intOf] <;> omega
    ·have hk' : ¬ ((k : Int) > (p : Int)) := by omega
     go_wp2
     refine bodyPost_ret (results_none rfl _ _ _) rfl ⟨rfl, us, HP.out, HU.out⟩
end Go.Proofs.YtehlmjecbljafaaGreatDoor
