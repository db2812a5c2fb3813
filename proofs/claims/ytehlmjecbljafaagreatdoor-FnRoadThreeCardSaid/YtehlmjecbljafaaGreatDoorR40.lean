/- A subject tree's nodes: a kid of a node of 48 is deleted. A subject tree's nodes: a node becomes smaller. A subject tree's nodes: a node of 48 becomes smaller. A subject tree's nodes: deleteChild and shrink, whatever the kind. A subject tree: a deletion below a node; what it comes to. -/
import Derived.Test.YtehlmjecbljafaaGreatDoorR6
import Derived.Test.YtehlmjecbljafaaGreatDoorR17
import Derived.Test.YtehlmjecbljafaaGreatDoorR19
import Derived.Test.YtehlmjecbljafaaGreatDoorR25
import Derived.Test.YtehlmjecbljafaaGreatDoorR39
import Derived.BigRegion
namespace Go.Proofs.YtehlmjecbljafaaGreatDoor
open Go Go.RowKit
set_option maxRecDepth 100000 in
set_option maxHeartbeats 3200000 in
theorem delChild48 (b : Nat) (pre : List UInt8) (m : Nat) (key : Nat → UInt8) (kid : Nat → Art) (c : Nat) (w : World) (hb : w.heap[b]? = some (.cells (rowN .k48 pre (m + 1) key kid).toArray 400 (0, 0))) (hm : m < 48) (hc : c ≤ m) (hinj : ∀ i j, i < m + 1 → j < m + 1 → key i = key j → i = j) :
  Calls Tryz.prog 341 #[.pointer (some ⟨b, 0, none⟩), .int .u8 ((key c).toNat : Nat)] w fun e w' => e = .returned (.tuple #[]) ∧ w'.heap[b]? = some (.cells (rowN .k48 pre m (upd key c (key m)) (upd kid c (kid m))).toArray 400 (0, 0)) ∧ Only (· = b) w w' := by
 obtain ⟨tym, tbm, em⟩ := (kid m).ref_form
 obtain ⟨tyc, tbc, ec⟩ := (kid c).ref_form
 have hs : w.cell? ⟨b, 49, none⟩ = some (.int .u16 ((m : Int) + 1)) := row_at hb (rowN_size (k := .k48) (n := m + 1))
 have hk : w.cell? ⟨b, 50 + (key c).toNat, none⟩ = some (.int .u8 ((c : Int) + 1)) := by
  have := row_at hb ((rowN_key (k := .k48) (i := (key c).toNat)).trans (keyCells48 (key c)))
  rw [slotOf_at hinj (by omega)] at this
  exact this
 have hcm : w.cell? ⟨b, m, none⟩ = some (.iface tym (.pointer (some ⟨tbm, 0, none⟩))) := row_at hb ((rowN_kid (k := .k48) hm).trans (by rw [if_pos (by omega), em]))
 have hcc : w.cell? ⟨b, c, none⟩ = some (.iface tyc (.pointer (some ⟨tbc, 0, none⟩))) := row_at hb ((rowN_kid (k := .k48) (by show c < 48; omega)).trans (by rw [if_pos (by omega), ec]))
 have hc256 := UInt8.toNat_lt (key c)
 have hm256 := UInt8.toNat_lt (key m)
 have j1 : ((key c).toNat : Int) < 256 := by omega
 have j0 : (0 : Int) ≤ ((key c).toNat : Int) := by omega
 have m1 : (m : Int) < 48 := by omega
 have m0 : (0 : Int) ≤ (m : Int) := by omega
 have c1 : (c : Int) < 48 := by omega
 have c0 : (0 : Int) ≤ (c : Int) := by omega
 have e0 : (((c : Int) + 1) == 0) = false := by rw [beq_eq_false_iff_ne]; omega
 have f49 := frozen_row (j := 49) hb
 have fkc := frozen_row (j := 50 + (key c).toNat) hb
 have fm := frozen_row (j := m) hb
 have fc := frozen_row (j := c) hb
 have hlb := (Array.getElem?_eq_some_iff.1 hb).1
 have HB := Lib.hid hb; clear hb
 have HI := Lib.hid hinj; clear hinj
 go_enter Tryz.func341, Tryz.ntmps341
 by_cases hl : c < m
 ·have hli : (c : Int) < (m : Int) := by omega
  go_wp2
  go_region
  have hb2 : (w.setCell ⟨b, c, none⟩ (.iface tym (.pointer (some ⟨tbm, 0, none⟩)))).drew.heap[b]? = some (.cells ((rowN .k48 pre (m + 1) key kid).set c (kid m).ref).toArray 400 (0, 0)) := by rw [em]; exact heap_set_list HB.out
  have hon2 := ((Only.refl (· = b) w).set (b := b) (i := c) (.inl rfl) (.iface tym (.pointer (some ⟨tbm, 0, none⟩)))).drew2
  generalize (w.setCell ⟨b, c, none⟩ (.iface tym (.pointer (some ⟨tbm, 0, none⟩)))).drew = w2 at *
  have hL : (rowN .k48 pre (m + 1) key kid).length = 48 + 2 + 256 := by rw [rowN_len, keyCells_len]; rfl
  have hq : ∀ q : UInt8, w2.cell? ⟨b, 50 + q.toNat, none⟩ = some (.int .u8 (slotOf (m + 1) key q : Nat)) := fun q => row_at hb2 (by
   rw [List.getElem?_set_ne (by omega)]
   exact (rowN_key (k := .k48) (i := q.toNat)).trans (keyCells48 q))
  have hs2 : w2.cell? ⟨b, 49, none⟩ = some (.int .u16 ((m : Int) + 1)) := row_at hb2 (by
   rw [List.getElem?_set_ne (by omega)]
   exact rowN_size (k := .k48) (n := m + 1))
  have hm2 : w2.cell? ⟨b, m, none⟩ = some (.iface tym (.pointer (some ⟨tbm, 0, none⟩))) := row_at hb2 (by
   rw [List.getElem?_set_ne (by omega)]
   exact (rowN_kid (k := .k48) hm).trans (by rw [if_pos (by omega), em]))
  have g49 := frozen_row (j := 49) hb2
  have gkc := frozen_row (j := 50 + (key c).toNat) hb2
  have gkm := frozen_row (j := 50 + (key m).toNat) hb2
  have gm := frozen_row (j := m) hb2
  have hkc2 := hq (key c)
  rw [slotOf_at HI.out (by omega)] at hkc2
  have hkm2 := hq (key m)
  rw [slotOf_at HI.out (by omega)] at hkm2
  have HQ := Lib.hid hq; clear hq
  have HB2 := Lib.hid hb2; clear hb2
  have hkne : key c ≠ key m := fun e => by have := HI.out c m (by omega) (by omega) e; omega
  have hkn1 : (key c).toNat ≠ (key m).toNat := fun e => hkne (UInt8.toNat_inj.1 e)
  have hkn2 : (key m).toNat ≠ (key c).toNat := fun e => hkn1 e.symm
  clear hkne hL
  go_wp2
  go_loop [6] (fun i => ∃ q : Nat, q ≤ (key m).toNat ∧ i = .int .i64 (q : Nat)) (fun i => (key m).toNat - (intOf i).toNat)
  case atStart => exact ⟨0, Nat.zero_le _, rfl⟩
  case round =>
   obtain ⟨q, hqm, rfl⟩ := hrel
   have q1 : (q : Int) < 256 := by omega
   have q0 : (0 : Int) ≤ (q : Int) := by omega
   by_cases hqk : q = (key m).toNat
   ·subst hqk
    have ek : (((m : Int) + 1) == ((m : Int) + 1)) = true := by simp
    go_wp2
    go_end0
    refine ⟨rfl, ?_, (((hon2.set (.inl rfl) _).set (.inl rfl) _).set (.inl rfl) _).set (.inl rfl) _⟩
    exact row_eq (heap_set_list (heap_set_list (heap_set_list (heap_set_list HB2.out)))) (rowN_del48 hm hl HI.out)
   ·obtain ⟨d, hd⟩ : ∃ d : UInt8, d.toNat = q := ⟨UInt8.ofNat q, by simp; omega⟩
    have hcq := HQ.out d
    rw [hd] at hcq
    have hne : slotOf (m + 1) key d ≠ m + 1 := fun e => by
     have := (slotOf_some e).2
     exact hqk (by rw [this, hd])
    have ek : (((slotOf (m + 1) key d : Nat) : Int) == ((m : Int) + 1)) = false := by rw [beq_eq_false_iff_ne]; omega
    clear hd hne
    go_wp2
    go_round
    case rel => exact ⟨q + 1, by omega, by go_num⟩
    case measure => simp [intOf]; omega
 ·obtain rfl : c = m := by omega
  go_wp2
  go_end0
  refine ⟨rfl, ?_, (((Only.refl (· = b) w).set (.inl rfl) _).set (.inl rfl) _).set (.inl rfl) _⟩
  exact row_eq (heap_set_list (heap_set_list (heap_set_list HB.out))) (rowN_delLast48 hm HI.out)
end Go.Proofs.YtehlmjecbljafaaGreatDoor
namespace Go.Proofs.YtehlmjecbljafaaGreatDoor
open Go Go.RowKit
theorem nil_sl (w : World) : Sl w 1 (.slice none 0 0) ([] : List UInt8).length (u8s []) := ⟨rfl, _, _, rfl, Nat.le_refl _, by decide, fun h => absurd h (by decide)⟩
set_option maxRecDepth 100000 in
set_option maxHeartbeats 1600000 in
theorem newNode10_any (v : Value) (l : List UInt8) (w : World) (hv : Sl w 1 v l.length (u8s l)) :
  Calls Tryz.prog 339 #[v] w fun e w' => e = .returned (.pointer (some ⟨w.heap.size, 0, none⟩)) ∧ (∀ key kid, w'.heap[w.heap.size]? = some (.cells (rowN .k10 l 0 key kid).toArray 387 (0, 0))) ∧ Below w.heap.size w w' := by
 generalize hZ : row0 .k10 = Z
 have hbz : Tryz.prog.built 387 [] = some Z := by rw [← hZ]; exact built0 .k10
 have hn : (w.alloc (.cells Z 387)).heap[w.heap.size]? = some (.cells (rowN .k10 [] 0 (fun _ => 0) (fun _ => .leaf 0 0 [])).toArray 387 (0, 0)) := by rw [← hZ]; exact heap_alloc_new w _
 have hsp := setPrefix_any w.heap.size 10 _ 387 ⟨#[]⟩ v l (w.alloc (.cells Z 387)) hn (rowN_pre (k := .k10)) (hv.keep ((Below.refl _ w).alloc (Nat.le_refl _) _))
 obtain ⟨a, cap, rfl⟩ := hv.form
 clear hv
 go_enter Tryz.func339, Tryz.ntmps339
 go_wp2_with (refine wpList_boxZ 387 Z _ hbz rfl rfl rfl rfl rfl ?_)
 refine hsp.mono ?_
 rintro e w1 ⟨rfl, h1, h2⟩
 go_wp2
 go_ret
 refine ⟨rfl, fun key kid => row_eq h1 (row0_pre .k10 l key kid), ?_⟩
 exact ((Below.refl _ w).alloc (Nat.le_refl _) _).trans (h2.below (fun x hx => by omega) (by simp))
set_option maxRecDepth 100000 in
set_option maxHeartbeats 1600000 in
theorem newNode16_any (v : Value) (l : List UInt8) (w : World) (hv : Sl w 1 v l.length (u8s l)) :
  Calls Tryz.prog 349 #[v] w fun e w' => e = .returned (.pointer (some ⟨w.heap.size, 0, none⟩)) ∧ (∀ key kid, w'.heap[w.heap.size]? = some (.cells (rowN .k16 l 0 key kid).toArray 396 (0, 0))) ∧ Below w.heap.size w w' := by
 generalize hZ : row0 .k16 = Z
 have hbz : Tryz.prog.built 396 [] = some Z := by rw [← hZ]; exact built0 .k16
 have hn : (w.alloc (.cells Z 396)).heap[w.heap.size]? = some (.cells (rowN .k16 [] 0 (fun _ => 0) (fun _ => .leaf 0 0 [])).toArray 396 (0, 0)) := by rw [← hZ]; exact heap_alloc_new w _
 have hsp := setPrefix_any w.heap.size 16 _ 396 ⟨#[]⟩ v l (w.alloc (.cells Z 396)) hn (rowN_pre (k := .k16)) (hv.keep ((Below.refl _ w).alloc (Nat.le_refl _) _))
 obtain ⟨a, cap, rfl⟩ := hv.form
 clear hv
 go_enter Tryz.func349, Tryz.ntmps349
 go_wp2_with (refine wpList_boxZ 396 Z _ hbz rfl rfl rfl rfl rfl ?_)
 refine hsp.mono ?_
 rintro e w1 ⟨rfl, h1, h2⟩
 go_wp2
 go_ret
 refine ⟨rfl, fun key kid => row_eq h1 (row0_pre .k16 l key kid), ?_⟩
 exact ((Below.refl _ w).alloc (Nat.le_refl _) _).trans (h2.below (fun x hx => by omega) (by simp))
set_option maxRecDepth 100000 in
set_option maxHeartbeats 1600000 in
theorem shrink4_no (b : Nat) (pre : List UInt8) (n : Nat) (key : Nat → UInt8) (kid : Nat → Art) (w : World) (hb : w.heap[b]? = some (.cells (rowN .k4 pre n key kid).toArray 335 (0, 0))) (hn : n ≠ 1) (_hn4 : n ≤ 4) :
  Calls Tryz.prog 310 #[.pointer (some ⟨b, 0, none⟩)] w fun e w' => e = .returned .nilIface ∧ w' = w := by
 have hs : w.cell? ⟨b, 5, none⟩ = some (.int .u16 (n : Nat)) := row_at hb (rowN_size (k := .k4) (n := n))
 have e1 : ((n : Int) == 1) = false := by rw [beq_eq_false_iff_ne]; omega
 clear hb hn
 go_enter Tryz.func310, Tryz.ntmps310
 go_wp2
 go_ret
 exact ⟨rfl, rfl⟩
set_option maxRecDepth 100000 in
set_option maxHeartbeats 1600000 in
theorem shrink4_yes (b : Nat) (pre : List UInt8) (key : Nat → UInt8) (kid : Nat → Art) (w : World) (hb : w.heap[b]? = some (.cells (rowN .k4 pre 1 key kid).toArray 335 (0, 0))) :
  Calls Tryz.prog 310 #[.pointer (some ⟨b, 0, none⟩)] w fun e w' => e = .returned (kid 0).ref ∧ w' = w := by
 have hs : w.cell? ⟨b, 5, none⟩ = some (.int .u16 1) := row_at hb (rowN_size (k := .k4) (n := 1))
 have hc : w.cell? ⟨b, 0, none⟩ = some (kid 0).ref := row_at hb ((rowN_kid (k := .k4) (i := 0) (by decide)).trans (by rw [if_pos (by omega)]))
 obtain ⟨ty, tb, e⟩ := (kid 0).ref_form
 rw [e] at hc ⊢
 clear hb
 go_enter Tryz.func310, Tryz.ntmps310
 go_wp2
 go_ret
 exact ⟨rfl, rfl⟩
set_option maxRecDepth 100000 in
set_option maxHeartbeats 1600000 in
theorem shrink10_no (b : Nat) (pre : List UInt8) (n : Nat) (key : Nat → UInt8) (kid : Nat → Art) (w : World) (hb : w.heap[b]? = some (.cells (rowN .k10 pre n key kid).toArray 387 (0, 0))) (hn : 4 < n) :
  Calls Tryz.prog 328 #[.pointer (some ⟨b, 0, none⟩)] w fun e w' => e = .returned .nilIface ∧ w' = w := by
 have hs : w.cell? ⟨b, 11, none⟩ = some (.int .u16 (n : Nat)) := row_at hb (rowN_size (k := .k10) (n := n))
 have e1 : (n : Int) > 4 := by omega
 clear hb hn
 go_enter Tryz.func328, Tryz.ntmps328
 go_wp2
 go_ret
 exact ⟨rfl, rfl⟩
set_option maxRecDepth 100000 in
set_option maxHeartbeats 1600000 in
theorem shrink16_no (b : Nat) (pre : List UInt8) (n : Nat) (key : Nat → UInt8) (kid : Nat → Art) (w : World) (hb : w.heap[b]? = some (.cells (rowN .k16 pre n key kid).toArray 396 (0, 0))) (hn : 10 < n) :
  Calls Tryz.prog 337 #[.pointer (some ⟨b, 0, none⟩)] w fun e w' => e = .returned .nilIface ∧ w' = w := by
 have hs : w.cell? ⟨b, 17, none⟩ = some (.int .u16 (n : Nat)) := row_at hb (rowN_size (k := .k16) (n := n))
 have e1 : (n : Int) > 10 := by omega
 clear hb hn
 go_enter Tryz.func337, Tryz.ntmps337
 go_wp2
 go_ret
 exact ⟨rfl, rfl⟩
set_option maxRecDepth 100000 in
set_option maxHeartbeats 1600000 in
theorem shrink48_no (b : Nat) (pre : List UInt8) (n : Nat) (key : Nat → UInt8) (kid : Nat → Art) (w : World) (hb : w.heap[b]? = some (.cells (rowN .k48 pre n key kid).toArray 400 (0, 0))) (hn : 16 < n) :
  Calls Tryz.prog 347 #[.pointer (some ⟨b, 0, none⟩)] w fun e w' => e = .returned .nilIface ∧ w' = w := by
 have hs : w.cell? ⟨b, 49, none⟩ = some (.int .u16 (n : Nat)) := row_at hb (rowN_size (k := .k48) (n := n))
 have e1 : (n : Int) > 16 := by omega
 clear hb hn
 go_enter Tryz.func347, Tryz.ntmps347
 go_wp2
 go_ret
 exact ⟨rfl, rfl⟩
set_option maxRecDepth 100000 in
set_option maxHeartbeats 3200000 in
theorem shrink10_yes (b : Nat) (pre : List UInt8) (n : Nat) (key : Nat → UInt8) (kid : Nat → Art) (w : World) (hb : w.heap[b]? = some (.cells (rowN .k10 pre n key kid).toArray 387 (0, 0))) (hn : n ≤ 4) :
  Calls Tryz.prog 328 #[.pointer (some ⟨b, 0, none⟩)] w fun e w' => e = .returned (.iface 302 (.pointer (some ⟨w.heap.size, 0, none⟩))) ∧ w'.heap[w.heap.size]? = some (.cells (rowN .k4 [] n key kid).toArray 335 (0, 0)) ∧ Below w.heap.size w w' := by
 have hlt := (Array.getElem?_eq_some_iff.1 hb).1
 have hs : w.cell? ⟨b, 11, none⟩ = some (.int .u16 (n : Nat)) := row_at hb (rowN_size (k := .k10) (n := n))
 have e1 : ¬ ((n : Int) > 4) := by omega
 have hnn := newNode4_any (.slice none 0 0) [] w (nil_sl w)
 have HB := Lib.hid hb; clear hb
 go_enter Tryz.func328, Tryz.ntmps328
 go_wp2_with fail
 refine hnn.mono ?_
 rintro e w1 ⟨rfl, hrow, hb1⟩
 clear hnn
 have hr0 := hrow key kid
 clear hrow
 have HR := Lib.hid hr0; clear hr0
 go_wp2
 go_loopw [4] (fun i wr => ∃ k : Nat, k ≤ n ∧ i = .int .u16 (k : Nat) ∧ Hid (wr.heap[w.heap.size]? = some (.cells (rowN .k4 [] k key kid).toArray 335 (0, 0))) ∧ Below w.heap.size w wr) (fun i _ => n - (intOf i).toNat)
 case atStart => exact ⟨0, Nat.zero_le _, rfl, HR, hb1⟩
 case round =>
  obtain ⟨k, hk, rfl, hr, hbr⟩ := hrel
  have hbb := (hbr.block b hlt).trans HB.out
  have cs : wr.cell? ⟨b, 11, none⟩ = some (.int .u16 (n : Nat)) := row_at hbb (rowN_size (k := .k10) (n := n))
  by_cases hlt2 : k < n
  ·have ck : wr.cell? ⟨b, 12 + k, none⟩ = some (.int .u8 ((key k).toNat : Nat)) := row_at hbb ((rowN_key (k := .k10) (i := k)).trans ((keyCells_at (k := .k10) (by decide) (show k < 10 by omega)).trans (by rw [if_pos hlt2])))
   have cc : wr.cell? ⟨b, k, none⟩ = some (kid k).ref := row_at hbb ((rowN_kid (k := .k10) (show k < 10 by omega)).trans (by rw [if_pos hlt2]))
   have i1 : (k : Int) < 10 := by omega
   have i0 : (0 : Int) ≤ (k : Int) := by omega
   have hadd := addChild4 w.heap.size [] k key kid (key k) (kid k) wr.drew hr.out (by omega)
   rw [upd_self, upd_self] at hadd
   clear hbb
   go_wp2_with fail
   refine wp_region_L [0, 1, 2, 3, 4, 5, 6, 7, 8, 9, 10, 11, 12] (fun W' => W'.cell? ⟨b, 12 + k, none⟩ = some (.int .u8 ((key k).toNat : Nat)) ∧ W'.cell? ⟨b, k, none⟩ = some (kid k).ref) (by kernel_rfl) (by kernel_rfl) ⟨ck, cc⟩ (fun ne => ?_)
   have S0 := fun x : SubC (fun W' => W'.cell? ⟨b, 12 + k, none⟩ = some (.int .u8 ((key k).toNat : Nat)) ∧ W'.cell? ⟨b, k, none⟩ = some (kid k).ref) => x.ok.1
   have S1 := fun x : SubC (fun W' => W'.cell? ⟨b, 12 + k, none⟩ = some (.int .u8 ((key k).toNat : Nat)) ∧ W'.cell? ⟨b, k, none⟩ = some (kid k).ref) => x.ok.2
   repeat (refine wpCL_q rfl rfl ?_; go_big_quiet_step (fail); refine wpQuiet_nil ?_)
   refine wpCL_n rfl rfl rfl rfl ?_
   go_simp
   repeat (refine wpCL_q rfl rfl ?_; go_big_quiet_step (fail); refine wpQuiet_nil ?_)
   refine wpCL_n rfl rfl rfl rfl ?_
   go_simp
   repeat (refine wpCL_q rfl rfl ?_; go_big_quiet_step (fail); refine wpQuiet_nil ?_)
   refine wpCL_last ?_
   go_wp2_with fail
   refine hadd.mono ?_
   rintro e w3 ⟨rfl, h3, ho3⟩
   have H3 := Lib.hid h3; clear h3 hadd
   go_wp2
   go_roundw
   case rel => exact ⟨k + 1, hlt2, by go_num, H3, hbr.drew.trans (ho3.below (fun x hx => by omega) hbr.size)⟩
   case measure => simp [intOf]; omega
  ·obtain rfl : k = n := by omega
   clear hbb
   go_wp2
   go_ret
   exact ⟨rfl, hr.out, hbr⟩
set_option maxRecDepth 100000 in
set_option maxHeartbeats 3200000 in
theorem shrink16_yes (b : Nat) (pre : List UInt8) (n : Nat) (key : Nat → UInt8) (kid : Nat → Art) (w : World) (hb : w.heap[b]? = some (.cells (rowN .k16 pre n key kid).toArray 396 (0, 0))) (hn : n ≤ 10) :
  Calls Tryz.prog 337 #[.pointer (some ⟨b, 0, none⟩)] w fun e w' => e = .returned (.iface 383 (.pointer (some ⟨w.heap.size, 0, none⟩))) ∧ w'.heap[w.heap.size]? = some (.cells (rowN .k10 [] n key kid).toArray 387 (0, 0)) ∧ Below w.heap.size w w' := by
 have hlt := (Array.getElem?_eq_some_iff.1 hb).1
 have hs : w.cell? ⟨b, 17, none⟩ = some (.int .u16 (n : Nat)) := row_at hb (rowN_size (k := .k16) (n := n))
 have e1 : ¬ ((n : Int) > 10) := by omega
 have hnn := newNode10_any (.slice none 0 0) [] w (nil_sl w)
 have HB := Lib.hid hb; clear hb
 go_enter Tryz.func337, Tryz.ntmps337
 go_wp2_with fail
 refine hnn.mono ?_
 rintro e w1 ⟨rfl, hrow, hb1⟩
 clear hnn
 have hr0 := hrow key kid
 clear hrow
 have HR := Lib.hid hr0; clear hr0
 go_wp2
 go_loopw [4] (fun i wr => ∃ k : Nat, k ≤ n ∧ i = .int .u16 (k : Nat) ∧ Hid (wr.heap[w.heap.size]? = some (.cells (rowN .k10 [] k key kid).toArray 387 (0, 0))) ∧ Below w.heap.size w wr) (fun i _ => n - (intOf i).toNat)
 case atStart => exact ⟨0, Nat.zero_le _, rfl, HR, hb1⟩
 case round =>
  obtain ⟨k, hk, rfl, hr, hbr⟩ := hrel
  have hbb := (hbr.block b hlt).trans HB.out
  have cs : wr.cell? ⟨b, 17, none⟩ = some (.int .u16 (n : Nat)) := row_at hbb (rowN_size (k := .k16) (n := n))
  by_cases hlt2 : k < n
  ·have ck : wr.cell? ⟨b, 18 + k, none⟩ = some (.int .u8 ((key k).toNat : Nat)) := row_at hbb ((rowN_key (k := .k16) (i := k)).trans ((keyCells_at (k := .k16) (by decide) (show k < 16 by omega)).trans (by rw [if_pos hlt2])))
   have cc : wr.cell? ⟨b, k, none⟩ = some (kid k).ref := row_at hbb ((rowN_kid (k := .k16) (show k < 16 by omega)).trans (by rw [if_pos hlt2]))
   have i1 : (k : Int) < 16 := by omega
   have i0 : (0 : Int) ≤ (k : Int) := by omega
   have hadd := addChild10 w.heap.size [] k key kid (key k) (kid k) wr.drew hr.out (by omega)
   rw [upd_self, upd_self] at hadd
   clear hbb
   go_wp2_with fail
   refine wp_region_L [0, 1, 2, 3, 4, 5, 6, 7, 8, 9, 10, 11, 12] (fun W' => W'.cell? ⟨b, 18 + k, none⟩ = some (.int .u8 ((key k).toNat : Nat)) ∧ W'.cell? ⟨b, k, none⟩ = some (kid k).ref) (by kernel_rfl) (by kernel_rfl) ⟨ck, cc⟩ (fun ne => ?_)
   have S0 := fun x : SubC (fun W' => W'.cell? ⟨b, 18 + k, none⟩ = some (.int .u8 ((key k).toNat : Nat)) ∧ W'.cell? ⟨b, k, none⟩ = some (kid k).ref) => x.ok.1
   have S1 := fun x : SubC (fun W' => W'.cell? ⟨b, 18 + k, none⟩ = some (.int .u8 ((key k).toNat : Nat)) ∧ W'.cell? ⟨b, k, none⟩ = some (kid k).ref) => x.ok.2
   repeat (refine wpCL_q rfl rfl ?_; go_big_quiet_step (fail); refine wpQuiet_nil ?_)
   refine wpCL_n rfl rfl rfl rfl ?_
   go_simp
   repeat (refine wpCL_q rfl rfl ?_; go_big_quiet_step (fail); refine wpQuiet_nil ?_)
   refine wpCL_n rfl rfl rfl rfl ?_
   go_simp
   repeat (refine wpCL_q rfl rfl ?_; go_big_quiet_step (fail); refine wpQuiet_nil ?_)
   refine wpCL_last ?_
   go_wp2_with fail
   refine hadd.mono ?_
   rintro e w3 ⟨rfl, h3, ho3⟩
   have H3 := Lib.hid h3; clear h3 hadd
   go_wp2
   go_roundw
   case rel => exact ⟨k + 1, hlt2, by go_num, H3, hbr.drew.trans (ho3.below (fun x hx => by omega) hbr.size)⟩
   case measure => simp [intOf]; omega
  ·obtain rfl : k = n := by omega
   clear hbb
   go_wp2
   go_ret
   exact ⟨rfl, hr.out, hbr⟩
/-- The kids of the bytes below q. -/
structure Gath (n : Nat) (key : Nat → UInt8) (kid : Nat → Art) (q r : Nat) (key' : Nat → UInt8) (kid' : Nat → Art) : Prop where
 fwd : ∀ i, i < r → ∃ j, j < n ∧ key' i = key j ∧ kid' i = kid j ∧ (key j).toNat < q
 fro : ∀ j, j < n → (key j).toNat < q → ∃ i, i < r ∧ kid' i = kid j ∧ key' i = key j
 inj : ∀ i j, i < r → j < r → key' i = key' j → i = j
theorem Gath.start (n : Nat) (key : Nat → UInt8) (kid : Nat → Art) (key' : Nat → UInt8) (kid' : Nat → Art) : Gath n key kid 0 0 key' kid' := ⟨fun _i h => absurd h (Nat.not_lt_zero _), fun _j _ h => absurd h (Nat.not_lt_zero _), fun _i _j h => absurd h (Nat.not_lt_zero _)⟩
section
variable {n q r j : Nat} {key key' : Nat → UInt8} {kid kid' : Nat → Art}
theorem Gath.none (h : Gath n key kid q r key' kid') (hno : ∀ j, j < n → (key j).toNat ≠ q) : Gath n key kid (q + 1) r key' kid' :=
 ⟨fun i hi => by obtain ⟨j, h1, h2, h3, h4⟩ := h.fwd i hi; exact ⟨j, h1, h2, h3, by omega⟩, fun j hj hq => h.fro j hj (by have := hno j hj; omega), h.inj⟩
theorem Gath.some (h : Gath n key kid q r key' kid') (hinj : ∀ i j, i < n → j < n → key i = key j → i = j) (hj : j < n) (hq : (key j).toNat = q) : Gath n key kid (q + 1) (r + 1) (upd key' r (key j)) (upd kid' r (kid j)) := by
 have hold : ∀ i, i < r → key' i ≠ key j := fun i hi e => by
  obtain ⟨j', -, h2, -, h4⟩ := h.fwd i hi
  rw [← h2, e] at h4; omega
 refine ⟨fun i hi => ?_, fun j' hj' hq' => ?_, fun i i' hi hi' e => ?_⟩
 ·by_cases hir : i = r
  ·subst hir; exact ⟨j, hj, upd_same _ _ _, upd_same _ _ _, by omega⟩
  ·obtain ⟨j', h1, h2, h3, h4⟩ := h.fwd i (by omega)
   exact ⟨j', h1, by rw [upd_ne _ _ hir]; exact h2, by rw [upd_ne _ _ hir]; exact h3, by omega⟩
 ·by_cases hjj : j' = j
  ·subst hjj; exact ⟨r, by omega, upd_same _ _ _, upd_same _ _ _⟩
  ·have : (key j').toNat ≠ q := fun e => hjj (hinj j' j hj' hj (UInt8.toNat_inj.1 (by omega)))
   obtain ⟨i, h1, h2, h3⟩ := h.fro j' hj' (by omega)
   exact ⟨i, by omega, by rw [upd_ne _ _ (by omega)]; exact h2, by rw [upd_ne _ _ (by omega)]; exact h3⟩
 ·by_cases hir : i = r
  ·by_cases hir' : i' = r
   ·omega
   ·rw [hir, upd_same, upd_ne _ _ hir'] at e
    exact absurd e.symm (hold i' (by omega))
  ·by_cases hir' : i' = r
   ·rw [hir', upd_same, upd_ne _ _ hir] at e
    exact absurd e (hold i (by omega))
   ·rw [upd_ne _ _ hir, upd_ne _ _ hir'] at e
    exact h.inj i i' (by omega) (by omega) e
theorem Gath.le (h : Gath n key kid q r key' kid') : r ≤ n := by
 have h1 := nd_sub (l := (List.range r).map key') (m := (List.range n).map key) (by
  unfold List.Nodup
  rw [List.pairwise_map]
  refine (List.pairwise_lt_range (n := r)).imp_of_mem fun {a b} ha hb hab e => ?_
  have := h.inj a b (List.mem_range.1 ha) (List.mem_range.1 hb) e
  omega) (fun x hx => by
  obtain ⟨i, hi, rfl⟩ := List.mem_map.1 hx
  obtain ⟨j, h1, h2, -, -⟩ := h.fwd i (List.mem_range.1 hi)
  exact List.mem_map.2 ⟨j, List.mem_range.2 h1, h2.symm⟩)
 simpa using h1
theorem Gath.same (h : Gath n key kid 256 r key' kid') (hinj : ∀ i j, i < n → j < n → key i = key j → i = j) : r = n ∧ KidsSame n key kid key' kid' := by
 have hr := h.le
 have hn : n ≤ r := by
  have h1 := nd_sub (l := (List.range n).map key) (m := (List.range r).map key') (by
   unfold List.Nodup
   rw [List.pairwise_map]
   refine (List.pairwise_lt_range (n := n)).imp_of_mem fun {a b} ha hb hab e => ?_
   have := hinj a b (List.mem_range.1 ha) (List.mem_range.1 hb) e
   omega) (fun x hx => by
   obtain ⟨j, hj, rfl⟩ := List.mem_map.1 hx
   obtain ⟨i, h1, -, h3⟩ := h.fro j (List.mem_range.1 hj) (UInt8.toNat_lt (key j))
   exact List.mem_map.2 ⟨i, List.mem_range.2 h1, h3⟩)
  simpa using h1
 obtain rfl : r = n := by omega
 exact ⟨rfl, fun i hi => by obtain ⟨j, h1, h2, h3, -⟩ := h.fwd i hi; exact ⟨j, h1, h2, h3⟩, fun j hj => by obtain ⟨i, h1, h2, -⟩ := h.fro j hj (UInt8.toNat_lt (key j)); exact ⟨i, h1, h2⟩, h.inj⟩
end
end Go.Proofs.YtehlmjecbljafaaGreatDoor
namespace Go.Proofs.YtehlmjecbljafaaGreatDoor
open Go Go.RowKit
set_option maxRecDepth 100000 in
set_option maxHeartbeats 3200000 in
theorem shrink48_yes (b : Nat) (pre : List UInt8) (n : Nat) (key : Nat → UInt8) (kid : Nat → Art) (w : World) (hb : w.heap[b]? = some (.cells (rowN .k48 pre n key kid).toArray 400 (0, 0))) (hn : n ≤ 16) (hinj : ∀ i j, i < n → j < n → key i = key j → i = j) :
  Calls Tryz.prog 347 #[.pointer (some ⟨b, 0, none⟩)] w fun e w' => ∃ key' kid', e = .returned (.iface 392 (.pointer (some ⟨w.heap.size, 0, none⟩))) ∧ KidsSame n key kid key' kid' ∧ w'.heap[w.heap.size]? = some (.cells (rowN .k16 [] n key' kid').toArray 396 (0, 0)) ∧ Below w.heap.size w w' := by
 have hlt := (Array.getElem?_eq_some_iff.1 hb).1
 have hs : w.cell? ⟨b, 49, none⟩ = some (.int .u16 (n : Nat)) := row_at hb (rowN_size (k := .k48) (n := n))
 have e1 : ¬ ((n : Int) > 16) := by omega
 have hnn := newNode16_any (.slice none 0 0) [] w (nil_sl w)
 have HB := Lib.hid hb; clear hb
 have HI := Lib.hid hinj; clear hinj
 go_enter Tryz.func347, Tryz.ntmps347
 go_wp2_with fail
 refine hnn.mono ?_
 rintro e w1 ⟨rfl, hrow, hb1⟩
 clear hnn
 have hr0 := hrow key kid
 clear hrow
 have HR := Lib.hid hr0; clear hr0
 go_wp2
 go_loopw [4] (fun i wr => ∃ (q r : Nat) (key' : Nat → UInt8) (kid' : Nat → Art), q ≤ 256 ∧ i = .int .i64 (q : Nat) ∧ Hid (Gath n key kid q r key' kid') ∧ Hid (wr.heap[w.heap.size]? = some (.cells (rowN .k16 [] r key' kid').toArray 396 (0, 0))) ∧ Below w.heap.size w wr) (fun i _ => 256 - (intOf i).toNat)
 case atStart => exact ⟨0, 0, key, kid, by omega, rfl, Lib.hid (Gath.start ..), HR, hb1⟩
 case round =>
  obtain ⟨q, r, key', kid', hq, rfl, hg, hr, hbr⟩ := hrel
  have hbb := (hbr.block b hlt).trans HB.out
  by_cases hlt2 : q < 256
  ·obtain ⟨d, rfl⟩ : ∃ d : UInt8, q = d.toNat := ⟨UInt8.ofNat q, by simp; omega⟩
   have ck : wr.cell? ⟨b, 50 + d.toNat, none⟩ = some (.int .u8 (slotOf n key d : Nat)) := row_at hbb ((rowN_key (k := .k48) (i := d.toNat)).trans (keyCells48 d))
   have q1 : (d.toNat : Int) < 256 := by omega
   have q0 : (0 : Int) ≤ (d.toNat : Int) := by omega
   cases hsl : slotOf n key d with
   | zero =>
    rw [hsl] at ck
    have hno := slotOf_none hsl
    have HN := Lib.hid hno
    clear hbb hsl hno
    go_wp2
    go_roundw
    case rel => exact ⟨d.toNat + 1, r, key', kid', hlt2, by go_num, Lib.hid (hg.out.none fun j hj e => HN.out j hj (UInt8.toNat_inj.1 e)), hr, hbr⟩
    case measure => simp [intOf]; omega
   | succ j =>
    rw [hsl] at ck
    obtain ⟨h1, h2⟩ := slotOf_some hsl
    subst h2
    have cc : wr.cell? ⟨b, j, none⟩ = some (kid j).ref := row_at hbb ((rowN_kid (k := .k48) (show j < 48 by omega)).trans (by rw [if_pos h1]))
    have hg2 := hg.out.some HI.out h1 rfl
    have hle := hg2.le
    have hadd := addChild16 w.heap.size [] r key' kid' (key j) (kid j) wr hr.out (by omega)
    have j1 : (j : Int) < 48 := by omega
    have j0 : (0 : Int) ≤ (j : Int) := by omega
    have j2 : ((j + 1 : Nat) : Int) > 0 := by omega
    have HG2 := Lib.hid hg2
    clear hbb hsl hg2
    go_wp2_with fail
    refine hadd.mono ?_
    rintro e w3 ⟨rfl, h3, ho3⟩
    have H3 := Lib.hid h3; clear h3 hadd
    go_wp2
    go_roundw
    case rel => exact ⟨(key j).toNat + 1, r + 1, _, _, hlt2, by go_num, HG2, H3, hbr.trans (ho3.below (fun x hx => by omega) hbr.size)⟩
    case measure => simp [intOf]; omega
  ·obtain rfl : q = 256 := by omega
   clear hbb
   obtain ⟨rfl, hsame⟩ := hg.out.same HI.out
   have HS := Lib.hid hsame; clear hsame
   go_wp2
   go_ret
   exact ⟨_, _, rfl, HS.out, hr.out, hbr⟩
end Go.Proofs.YtehlmjecbljafaaGreatDoor
namespace Go.Proofs.YtehlmjecbljafaaGreatDoor
open Go Go.RowKit
def delF : Kd → FuncId
 | .k4 => 304 | .k10 => 322 | .k16 => 331 | .k48 => 341
def shrinkF : Kd → FuncId
 | .k4 => 310 | .k10 => 328 | .k16 => 337 | .k48 => 347
theorem delChildN (k : Kd) (a : Option Addr) (w : World) : (method 508 (tyP k) (.pointer a) "pub-tokenroad/pub/natsserver/server/stree.deleteChild").run Tryz.prog w = .ok (delF k, .pointer a) w := by
 cases k <;> kernel_rfl
theorem shrinkN (k : Kd) (a : Option Addr) (w : World) : (method 508 (tyP k) (.pointer a) "pub-tokenroad/pub/natsserver/server/stree.shrink").run Tryz.prog w = .ok (shrinkF k, .pointer a) w := by
 cases k <;> kernel_rfl
theorem callDel (k : Kd) (args : Array Value) (w : World) : (callFunc (delF k) args).run Tryz.prog w = .ok (.enter (delF k) args) w := by cases k <;> kernel_rfl
theorem callShrink (k : Kd) (args : Array Value) (w : World) : (callFunc (shrinkF k) args).run Tryz.prog w = .ok (.enter (shrinkF k) args) w := by cases k <;> kernel_rfl
theorem nodeEq (k : Kd) (b : Nat) (w : World) : (binOp .neq 137 (.iface (tyP k) (.pointer (some ⟨b, 0, none⟩))) .nilIface).run Tryz.prog w = .ok (.bool true) w := by cases k <;> kernel_rfl
theorem leafEq (b : Nat) (w : World) : (binOp .neq 137 (.iface 197 (.pointer (some ⟨b, 0, none⟩))) .nilIface).run Tryz.prog w = .ok (.bool true) w := by kernel_rfl
theorem nilEq (w : World) : (binOp .neq 137 .nilIface .nilIface).run Tryz.prog w = .ok (.bool false) w := by kernel_rfl
theorem delChild_any (k : Kd) (b : Nat) (pre : List UInt8) (m : Nat) (key : Nat → UInt8) (kid : Nat → Art) (c : Nat) (w : World) (hb : w.heap[b]? = some (.cells (rowN k pre (m + 1) key kid).toArray (tyN k) (0, 0))) (hm : m < k.cap) (hc : c ≤ m) (hinj : ∀ i j, i < m + 1 → j < m + 1 → key i = key j → i = j) :
  Calls Tryz.prog (delF k) #[.pointer (some ⟨b, 0, none⟩), .int .u8 ((key c).toNat : Nat)] w fun e w' => e = .returned (.tuple #[]) ∧ w'.heap[b]? = some (.cells (rowN k pre m (upd key c (key m)) (upd kid c (kid m))).toArray (tyN k) (0, 0)) ∧ Only (· = b) w w' := by
 have hno : ∀ j, j ≤ m → key j = key c → j = c := fun j hj e => hinj j c (by omega) (by omega) e
 cases k
 ·exact delChild4 b pre m key kid c w hb hm hc hno
 ·exact delChild10 b pre m key kid c w hb hm hc hno
 ·exact delChild16 b pre m key kid c w hb hm hc hno
 ·exact delChild48 b pre m key kid c w hb hm hc hinj
/-- What a node's shrinking comes to: nothing; the one kid that is left; a new node of a smaller kind. -/
def ShrinkC (k : Kd) (m : Nat) (key : Nat → UInt8) (kid : Nat → Art) (w : World) (e : Ending) (w' : World) : Prop :=
 (k.low ≤ m ∧ e = .returned .nilIface ∧ w' = w) ∨ (m = 1 ∧ e = .returned (kid 0).ref ∧ w' = w) ∨
  ∃ k' key' kid', k'.low ≤ m ∧ m ≤ k'.cap ∧ KidsSame m key kid key' kid' ∧ e = .returned (.iface (tyP k') (.pointer (some ⟨w.heap.size, 0, none⟩))) ∧ w'.heap[w.heap.size]? = some (.cells (rowN k' [] m key' kid').toArray (tyN k') (0, 0)) ∧ Below w.heap.size w w'
theorem KidsSame.refl {m : Nat} {key : Nat → UInt8} {kid : Nat → Art} (hinj : ∀ i j, i < m → j < m → key i = key j → i = j) : KidsSame m key kid key kid := ⟨fun i hi => ⟨i, hi, rfl, rfl⟩, fun j hj => ⟨j, hj, rfl⟩, hinj⟩
theorem shrink_any (k : Kd) (b : Nat) (pre : List UInt8) (m : Nat) (key : Nat → UInt8) (kid : Nat → Art) (w : World) (hb : w.heap[b]? = some (.cells (rowN k pre m key kid).toArray (tyN k) (0, 0))) (hlow : k.low ≤ m + 1) (hcap : m ≤ k.cap) (hinj : ∀ i j, i < m → j < m → key i = key j → i = j) :
  Calls Tryz.prog (shrinkF k) #[.pointer (some ⟨b, 0, none⟩)] w (ShrinkC k m key kid w) := by
 by_cases hl : k.low ≤ m
 ·cases k
  ·have hl : 2 ≤ m := hl
   exact (shrink4_no b pre m key kid w hb (by omega) hcap).mono fun e w' ⟨h1, h2⟩ => .inl ⟨hl, h1, h2⟩
  ·have hl : 5 ≤ m := hl
   exact (shrink10_no b pre m key kid w hb (by omega)).mono fun e w' ⟨h1, h2⟩ => .inl ⟨hl, h1, h2⟩
  ·have hl : 11 ≤ m := hl
   exact (shrink16_no b pre m key kid w hb (by omega)).mono fun e w' ⟨h1, h2⟩ => .inl ⟨hl, h1, h2⟩
  ·have hl : 17 ≤ m := hl
   exact (shrink48_no b pre m key kid w hb (by omega)).mono fun e w' ⟨h1, h2⟩ => .inl ⟨hl, h1, h2⟩
 ·cases k
  ·have h1 : 2 ≤ m + 1 := hlow
   have h2 : ¬ 2 ≤ m := hl
   obtain rfl : m = 1 := by omega
   exact (shrink4_yes b pre key kid w hb).mono fun e w' ⟨h1, h2⟩ => .inr (.inl ⟨rfl, h1, h2⟩)
  ·have h1 : 5 ≤ m + 1 := hlow
   have h2 : ¬ 5 ≤ m := hl
   exact (shrink10_yes b pre m key kid w hb (by omega)).mono fun e w' ⟨h3, h4, h5⟩ => .inr (.inr ⟨.k4, key, kid, (show 2 ≤ m by omega), (show m ≤ 4 by omega), KidsSame.refl hinj, h3, h4, h5⟩)
  ·have h1 : 11 ≤ m + 1 := hlow
   have h2 : ¬ 11 ≤ m := hl
   exact (shrink16_yes b pre m key kid w hb (by omega)).mono fun e w' ⟨h3, h4, h5⟩ => .inr (.inr ⟨.k10, key, kid, (show 5 ≤ m by omega), (show m ≤ 10 by omega), KidsSame.refl hinj, h3, h4, h5⟩)
  ·have h1 : 17 ≤ m + 1 := hlow
   have h2 : ¬ 17 ≤ m := hl
   exact (shrink48_yes b pre m key kid w hb (by omega) hinj).mono fun e w' ⟨key', kid', h3, h4, h5, h6⟩ => .inr (.inr ⟨.k16, key', kid', (show 11 ≤ m by omega), (show m ≤ 16 by omega), h4, h3, h5, h6⟩)
end Go.Proofs.YtehlmjecbljafaaGreatDoor
namespace Go.Proofs.YtehlmjecbljafaaGreatDoor
open Go Go.RowKit
/-- What a deletion at the slot ⟨sb, so⟩ shows. -/
def DelC (T : Art) (l : List UInt8) (sb so : Nat) (cs : Array Value) (ty : TypeId) (w : World) (e : Ending) (w' : World) : Prop :=
 ∃ o u T', e = .returned (.tuple #[o, .bool u]) ∧ OldP w' o ∧ w'.heap[sb]? = some (.cells (cs.setIfInBounds so T'.ref) ty (0, 0)) ∧ T'.At w' ∧ T'.Sep ∧ DelR T l T' ∧ (∀ x, T'.Fp x → T.Fp x ∨ w.heap.size ≤ x) ∧ Only (fun k => T.Fp k ∨ k = sb) w w'
theorem under_ref (p : List UInt8) : ∀ T : Art, (T.under p).ref = T.ref
 | .leaf .. => rfl
 | .node .. => rfl
theorem under_fp {p : List UInt8} {x : Nat} : ∀ {T : Art}, (T.under p).Fp x ↔ T.Fp x
 | .leaf .. => Iff.rfl
 | .node .. => Iff.rfl
theorem under_sep {p : List UInt8} : ∀ {T : Art}, T.Sep → (T.under p).Sep
 | .leaf .., h => h
 | .node .., h => h
section
variable {k : Kd} {nb n : Nat} {pre l0 : List UInt8} {key key' : Nat → UInt8} {kid kid' : Nat → Art} {si : Nat} {v : Value} {sb so : Nat} {cs : Array Value} {ty : TypeId} {w W w' : World} {c m : Nat} {e : Ending}
theorem del_same (h : InsH (.node k nb pre n key kid) l0 si v sb so cs ty w) (hno : ∀ e ∈ (Art.node k nb pre n key kid).ents, e.1 ≠ l0.drop si) (hb : Below w.heap.size w w') :
  DelC (.node k nb pre n key kid) (l0.drop si) sb so cs ty w (.returned (.tuple #[.pointer none, .bool false])) w' :=
 ⟨.pointer none, false, _, rfl, .inl rfl, by rw [set_self h.slot]; exact (hb.block sb (Array.getElem?_eq_some_iff.1 h.row).1).trans h.row, h.at'.bel hb, h.sep, del_keep h.wf hno, fun x hx => .inl hx, Only.of hb⟩
/-- What the deletion below comes to. -/
theorem delrec_done (h : InsH (.node k nb pre n key kid) l0 si v sb so cs ty w) (hb : Below w.heap.size w W) (hc : c < n) (hp : pre <+: l0.drop si) (hk : key c = piv (l0.drop (si + pre.length))) (hnl : (kid c).isLeaf = false)
  (hi : DelC (kid c) (l0.drop (si + pre.length)) nb c (rowN k pre n key kid).toArray (tyN k) W e w') : DelC (.node k nb pre n key kid) (l0.drop si) sb so cs ty w e w' := by
 obtain ⟨o, u, t', rfl, ho, hrow, hat, hsep, hins, hfp, hon⟩ := hi
 have hn := h.wf.2.1
 have hz := hb.size
 have hr := del_rec (b := nb) h.wf hc hk hnl hins
 rw [← pre_split hp] at hr
 have hfk : ∀ y, (kid c).Fp y → (Art.node k nb pre n key kid).Fp y := fun y hy => .inr ⟨c, hc, hy⟩
 have hsb : ¬ ((kid c).Fp sb ∨ sb = nb) := by
  rintro (h1 | h1)
  ·exact h.nsb (hfk _ h1)
  ·exact h.nsb (.inl h1)
 have hsl := (Array.getElem?_eq_some_iff.1 h.row).1
 have hnbl := h.at'.lt nb (.inl rfl)
 have hoth : ∀ i, i < n → i ≠ c → (kid i).At w' := fun i hi hic => (h.at'.2 i hi).keep fun y hy => by
  have hy1 := h.at'.lt y (.inr ⟨i, hi, hy⟩)
  refine (hon.block y (by omega) ?_).trans (hb.block y hy1)
  rintro (h1 | rfl)
  ·exact h.sep.2 i c hi hc hic y hy h1
  ·exact (h.sep.1 i hi).2 hy
 refine ⟨o, u, .node k nb pre n key (upd kid c t'), rfl, ho, ?_, ⟨?_, fun i hi => ?_⟩, ⟨fun i hi => ?_, fun i j hi hj hij y h1 h2 => ?_⟩, hr, fun y hy => ?_, ?_⟩
 ·rw [set_self (show cs[so]? = some (Art.node k nb pre n key (upd kid c t')).ref from h.slot), hon.block sb (by omega) hsb, hb.block sb hsl]
  exact h.row
 ·rw [hrow, List.setIfInBounds_toArray, rowN_set hc hn]
 ·by_cases hic : i = c
  ·subst hic; rw [upd_same]; exact hat
  ·rw [upd_ne _ _ hic]; exact hoth i hi hic
 ·by_cases hic : i = c
  ·subst hic
   rw [upd_same]
   exact ⟨hsep, fun hx => by rcases hfp nb hx with h1 | h1; exact (h.sep.1 i hi).2 h1; omega⟩
  ·rw [upd_ne _ _ hic]; exact h.sep.1 i hi
 ·by_cases hic : i = c
  ·by_cases hjc : j = c
   ·exact hij (hic.trans hjc.symm)
   ·rw [hic, upd_same] at h1; rw [upd_ne _ _ hjc] at h2
    rcases hfp y h1 with h3 | h3
    ·exact h.sep.2 c j hc hj (fun e => hjc e.symm) y h3 h2
    ·have := h.at'.lt y (.inr ⟨j, hj, h2⟩); omega
  ·rw [upd_ne _ _ hic] at h1
   by_cases hjc : j = c
   ·rw [hjc, upd_same] at h2
    rcases hfp y h2 with h3 | h3
    ·exact h.sep.2 i c hi hc hic y h1 h3
    ·have := h.at'.lt y (.inr ⟨i, hi, h1⟩); omega
   ·rw [upd_ne _ _ hjc] at h2
    exact h.sep.2 i j hi hj hij y h1 h2
 ·rcases hy with rfl | ⟨i, hi, hy⟩
  ·exact .inl (.inl rfl)
  ·by_cases hic : i = c
   ·subst hic
    rw [upd_same] at hy
    rcases hfp y hy with h1 | h1
    ·exact .inl (hfk _ h1)
    ·exact .inr (by omega)
   ·rw [upd_ne _ _ hic] at hy; exact .inl (.inr ⟨i, hi, hy⟩)
 ·refine (Only.of (F := fun z => (Art.node k nb pre n key kid).Fp z ∨ z = sb) hb).trans hon fun y hy => ?_
  rcases hy with h1 | rfl
  ·exact .inl (.inl (hfk _ h1))
  ·exact .inl (.inl (.inl rfl))
/-- The kids that are left: apart from one another, from the node, and from the one that goes. -/
theorem but_sep (h : (Art.node k nb pre n key kid).Sep) (hk : KidsBut n c key kid m key' kid') :
  (∀ i, i < m → (kid' i).Sep ∧ ¬ (kid' i).Fp nb) ∧ ∀ i j, i < m → j < m → i ≠ j → ∀ x, (kid' i).Fp x → ¬ (kid' j).Fp x := by
 refine ⟨fun i hi => ?_, fun i j hi hj hij x h1 h2 => ?_⟩
 ·obtain ⟨q, hq, -, -, e⟩ := hk.fwd i hi
  rw [e]; exact h.1 q hq
 ·obtain ⟨p, hp, -, e1, e2⟩ := hk.fwd i hi
  obtain ⟨q, hq, -, e3, e4⟩ := hk.fwd j hj
  rw [e2] at h1; rw [e4] at h2
  refine h.2 p q hp hq (fun e => hij (hk.inj i j hi hj ?_)) x h1 h2
  rw [e1, e3, e]
theorem but_fp (hk : KidsBut n c key kid m key' kid') {i x : Nat} (hi : i < m) (hx : (kid' i).Fp x) : ∃ j, j < n ∧ j ≠ c ∧ (kid j).Fp x := by
 obtain ⟨q, hq, hqc, -, e⟩ := hk.fwd i hi
 rw [e] at hx
 exact ⟨q, hq, hqc, hx⟩
/-- A kid has gone; the node stays. -/
theorem del_stay (h : InsH (.node k nb pre n key kid) l0 si v sb so cs ty w) (hc : c < n) (hp : pre <+: l0.drop si) (hk : key c = piv (l0.drop (si + pre.length))) {lb : Nat} {x : Int} (hkid : kid c = .leaf lb x (l0.drop (si + pre.length)))
  (hbut : KidsBut n c key kid m key' kid') (hlow : k.low ≤ m) (hcap : m ≤ k.cap) (hrow : w'.heap[nb]? = some (.cells (rowN k pre m key' kid').toArray (tyN k) (0, 0))) (hon : Only (· = nb) w w') :
  DelC (.node k nb pre n key kid) (l0.drop si) sb so cs ty w (.returned (.tuple #[.pointer (some ⟨lb, 0, none⟩), .bool true])) w' := by
 have hr := del_kid (b' := nb) (k' := k) h.wf hc hk hkid hbut hlow hcap
 rw [← pre_split hp] at hr
 have hsl := (Array.getElem?_eq_some_iff.1 h.row).1
 have hlf : (kid c).Fp lb := by rw [hkid]; exact rfl
 have hlw : w.heap[lb]? = some (.cells #[.int .i64 x, .string (mk (l0.drop (si + pre.length)))] 199 (0, 0)) := by have := h.at'.2 c hc; rw [hkid] at this; exact this
 have hlb := (Array.getElem?_eq_some_iff.1 hlw).1
 have hl' := (hon.block lb hlb (fun e => (h.sep.1 c hc).2 (e ▸ hlf))).trans hlw
 refine ⟨_, true, .node k nb pre m key' kid', rfl, .inr ⟨lb, 0, x, rfl, (cell_row hl').trans rfl⟩, ?_, ⟨hrow, fun i hi => ?_⟩, but_sep h.sep hbut, hr, fun y hy => ?_, hon.mono fun y hy => .inl (.inl hy)⟩
 ·rw [set_self (show cs[so]? = some (Art.node k nb pre m key' kid').ref from h.slot), hon.block sb hsl (fun e => h.nsb (.inl e))]
  exact h.row
 ·obtain ⟨q, hq, -, -, e⟩ := hbut.fwd i hi
  rw [e]
  exact (h.at'.2 q hq).keep fun y hy => hon.block y (h.at'.lt y (.inr ⟨q, hq, hy⟩)) (fun e => (h.sep.1 q hq).2 (e ▸ hy))
 ·rcases hy with rfl | ⟨i, hi, hy⟩
  ·exact .inl (.inl rfl)
  ·obtain ⟨q, hq, -, hx⟩ := but_fp hbut hi hy
   exact .inl (.inr ⟨q, hq, hx⟩)
/-- A kid has gone; a smaller node has come. -/
theorem del_small {k' : Kd} {NB : Nat} (h : InsH (.node k nb pre n key kid) l0 si v sb so cs ty w) (hc : c < n) (hp : pre <+: l0.drop si) (hk : key c = piv (l0.drop (si + pre.length))) {lb : Nat} {x : Int} (hkid : kid c = .leaf lb x (l0.drop (si + pre.length)))
  (hbut : KidsBut n c key kid m key' kid') (hlow : k'.low ≤ m) (hcap : m ≤ k'.cap) (hNB : w.heap.size ≤ NB) (hrow : w'.heap[NB]? = some (.cells (rowN k' pre m key' kid').toArray (tyN k') (0, 0))) (hsr : w'.heap[sb]? = some (.cells (cs.setIfInBounds so (.iface (tyP k') (.pointer (some ⟨NB, 0, none⟩)))) ty (0, 0)))
  (hon : Only (fun y => y = nb ∨ y = sb) w w') : DelC (.node k nb pre n key kid) (l0.drop si) sb so cs ty w (.returned (.tuple #[.pointer (some ⟨lb, 0, none⟩), .bool true])) w' := by
 have hr := del_kid (b' := NB) (k' := k') h.wf hc hk hkid hbut hlow hcap
 rw [← pre_split hp] at hr
 have hlf : (kid c).Fp lb := by rw [hkid]; exact rfl
 have hlw : w.heap[lb]? = some (.cells #[.int .i64 x, .string (mk (l0.drop (si + pre.length)))] 199 (0, 0)) := by have := h.at'.2 c hc; rw [hkid] at this; exact this
 have hlb := (Array.getElem?_eq_some_iff.1 hlw).1
 have hl' := (hon.block lb hlb (by
  rintro (e | e)
  ·exact (h.sep.1 c hc).2 (e ▸ hlf)
  ·exact h.nsb (.inr ⟨c, hc, e ▸ hlf⟩))).trans hlw
 have hs := but_sep h.sep hbut
 have hlt : ∀ i, i < m → ∀ y, (kid' i).Fp y → y < w.heap.size := fun i hi y hy => by
  obtain ⟨q, hq, -, hx⟩ := but_fp hbut hi hy
  exact h.at'.lt y (.inr ⟨q, hq, hx⟩)
 refine ⟨_, true, .node k' NB pre m key' kid', rfl, .inr ⟨lb, 0, x, rfl, (cell_row hl').trans rfl⟩, hsr, ⟨hrow, fun i hi => ?_⟩, ⟨fun i hi => ⟨(hs.1 i hi).1, fun hx => by have := hlt i hi _ hx; omega⟩, hs.2⟩, hr, fun y hy => ?_, hon.mono fun y hy => by rcases hy with rfl | rfl; exact .inl (.inl rfl); exact .inr rfl⟩
 ·obtain ⟨q, hq, -, -, e⟩ := hbut.fwd i hi
  rw [e]
  exact (h.at'.2 q hq).keep fun y hy => hon.block y (h.at'.lt y (.inr ⟨q, hq, hy⟩)) (by
   rintro (e | e)
   ·exact (h.sep.1 q hq).2 (e ▸ hy)
   ·exact h.nsb (.inr ⟨q, hq, e ▸ hy⟩))
 ·rcases hy with rfl | ⟨i, hi, hy⟩
  ·exact .inr hNB
  ·obtain ⟨q, hq, -, hx⟩ := but_fp hbut hi hy
   exact .inl (.inr ⟨q, hq, hx⟩)
/-- A kid has gone; the one that is left goes up. -/
theorem del_goup (h : InsH (.node k nb pre n key kid) l0 si v sb so cs ty w) (hc : c < n) (hp : pre <+: l0.drop si) (hk : key c = piv (l0.drop (si + pre.length))) {lb : Nat} {x : Int} (hkid : kid c = .leaf lb x (l0.drop (si + pre.length)))
  (hbut : KidsBut n c key kid 1 key' kid') (hat : ((kid' 0).under pre).At w') (hsr : w'.heap[sb]? = some (.cells (cs.setIfInBounds so (kid' 0).ref) ty (0, 0)))
  (hon : Only (fun y => y = nb ∨ y = sb ∨ y = (kid' 0).blk) w w') : DelC (.node k nb pre n key kid) (l0.drop si) sb so cs ty w (.returned (.tuple #[.pointer (some ⟨lb, 0, none⟩), .bool true])) w' := by
 have hr := del_up h.wf hc hk hkid hbut
 rw [← pre_split hp] at hr
 have hlf : (kid c).Fp lb := by rw [hkid]; exact rfl
 have hlw : w.heap[lb]? = some (.cells #[.int .i64 x, .string (mk (l0.drop (si + pre.length)))] 199 (0, 0)) := by have := h.at'.2 c hc; rw [hkid] at this; exact this
 have hlb := (Array.getElem?_eq_some_iff.1 hlw).1
 obtain ⟨q, hq, hqc, hqf⟩ := but_fp hbut (i := 0) (by omega) (Art.Fp.blk (kid' 0))
 have hl' := (hon.block lb hlb (by
  rintro (e | e | e)
  ·exact (h.sep.1 c hc).2 (e ▸ hlf)
  ·exact h.nsb (.inr ⟨c, hc, e ▸ hlf⟩)
  ·exact h.sep.2 c q hc hq (fun e => hqc e.symm) lb hlf (e ▸ hqf))).trans hlw
 refine ⟨_, true, (kid' 0).under pre, rfl, .inr ⟨lb, 0, x, rfl, (cell_row hl').trans rfl⟩, by rw [under_ref]; exact hsr, hat, under_sep ((but_sep h.sep hbut).1 0 (by omega)).1, hr, fun y hy => ?_, hon.mono fun y hy => ?_⟩
 ·obtain ⟨q, hq, -, hx⟩ := but_fp hbut (i := 0) (by omega) (under_fp.1 hy)
  exact .inl (.inr ⟨q, hq, hx⟩)
 ·rcases hy with rfl | rfl | rfl
  ·exact .inl (.inl rfl)
  ·exact .inr rfl
  ·exact .inl (.inr ⟨q, hq, hqf⟩)
end
end Go.Proofs.YtehlmjecbljafaaGreatDoor
