/- A subject tree's nodes: a kid is deleted. -/
import Derived.Test.YtehlmjecbljafaaGreatDoorR25
import Derived.BigRegion
namespace Go.Proofs.YtehlmjecbljafaaGreatDoor
open Go Go.RowKit
set_option maxRecDepth 100000 in
set_option maxHeartbeats 3200000 in
theorem delChild4 (b : Nat) (pre : List UInt8) (m : Nat) (key : Nat → UInt8) (kid : Nat → Art) (c : Nat) (w : World) (hb : w.heap[b]? = some (.cells (rowN .k4 pre (m + 1) key kid).toArray 335 (0, 0))) (hm : m < 4) (hc : c ≤ m) (hno : ∀ j, j ≤ m → key j = key c → j = c) :
  Calls Tryz.prog 304 #[.pointer (some ⟨b, 0, none⟩), .int .u8 ((key c).toNat : Nat)] w fun e w' => e = .returned (.tuple #[]) ∧ w'.heap[b]? = some (.cells (rowN .k4 pre m (upd key c (key m)) (upd kid c (kid m))).toArray 335 (0, 0)) ∧ Only (· = b) w w' := by
 obtain ⟨tym, tbm, em⟩ := (kid m).ref_form
 have hs : w.cell? ⟨b, 5, none⟩ = some (.int .u16 ((m : Int) + 1)) := row_at hb (rowN_size (k := .k4) (n := m + 1))
 go_enter Tryz.func304, Tryz.ntmps304
 have hlb := (Array.getElem?_eq_some_iff.1 hb).1
 have HB := Lib.hid hb; clear hb
 go_wp2
 go_quiet (fail)
 have hon := Only.of (F := (· = b)) (below_drewN (Below.refl w.heap.size w) nq)
 have hb1 := ((below_drewN (Below.refl w.heap.size w) nq).block b hlb).trans HB.out
 generalize w.drewN nq = w1 at *
 have hs : w1.cell? ⟨b, 5, none⟩ = some (.int .u16 ((m : Int) + 1)) := row_at hb1 (rowN_size (k := .k4) (n := m + 1))
 have hks : ∀ i, i ≤ m → w1.cell? ⟨b, 6 + i, none⟩ = some (.int .u8 ((key i).toNat : Nat)) := fun i hi => row_at hb1 ((rowN_key (k := .k4) (i := i)).trans ((keyCells_at (k := .k4) (by decide) (show i < 4 by omega)).trans (by rw [if_pos (by omega)])))
 have hcm : w1.cell? ⟨b, m, none⟩ = some (.iface tym (.pointer (some ⟨tbm, 0, none⟩))) := row_at hb1 ((rowN_kid (k := .k4) hm).trans (by rw [if_pos (by omega), em]))
 have HK := Lib.hid hks; clear hks
 have HNO := Lib.hid hno; clear hno
 have f5 := frozen_row (j := 5) hb1
 have hm1 : (m : Int) < 4 := by omega
 have hm0 : (0 : Int) ≤ (m : Int) := by omega
 go_wp2
 go_loop [4] (fun i => ∃ k : Nat, k ≤ c ∧ i = .int .u16 (k : Nat)) (fun i => c - (intOf i).toNat)
 case atStart => exact ⟨0, Nat.zero_le _, rfl⟩
 case round =>
  obtain ⟨k, hk, rfl⟩ := hrel
  have hck := HK.out k (by omega)
  have k1 : (k : Int) < (m : Int) + 1 := by omega
  have k2 : (k : Int) < 4 := by omega
  have k3 : (0 : Int) ≤ (k : Int) := by omega
  by_cases hkc : k = c
  ·subst hkc
   have ek : (((key k).toNat : Int) == ((key k).toNat : Int)) = true := by simp
   have hkm := HK.out m (Nat.le_refl _)
   have f6k := frozen_row (j := 6 + k) hb1
   have f6m := frozen_row (j := 6 + m) hb1
   have fk := frozen_row (j := k) hb1
   have fm := frozen_row (j := m) hb1
   have HB1 := Lib.hid hb1; clear hb1
   obtain ⟨tyk, tbk, ekk⟩ := (kid k).ref_form
   have hcc : w1.cell? ⟨b, k, none⟩ = some (.iface tyk (.pointer (some ⟨tbk, 0, none⟩))) := row_at (HB1.out) ((rowN_kid (k := .k4) (by show k < 4; omega)).trans (by rw [if_pos (by omega), ekk]))
   by_cases hl : k < m
   ·go_wp2
    go_region
    go_wp2
    go_region
    go_wp2
    refine bodyPost_ret (results_none rfl _ _ _) rfl ⟨rfl, ?_, (((((hon.set (.inl rfl) _).set (.inl rfl) _).set (.inl rfl) _).set (.inl rfl) _).set (.inl rfl) _).drew2.drew2⟩
    exact row_eq (heap_set_list (heap_set_list (heap_set_list (heap_set_list (heap_set_list HB1.out))))) (by rw [← em]; exact rowN_del (k := .k4) (by decide) hm hl)
   ·obtain rfl : k = m := by omega
    go_wp2
    refine bodyPost_ret (results_none rfl _ _ _) rfl ⟨rfl, ?_, ((hon.set (.inl rfl) _).set (.inl rfl) _).set (.inl rfl) _⟩
    exact row_eq (heap_set_list (heap_set_list (heap_set_list HB1.out))) (rowN_delLast (k := .k4) (by decide) hm)
  ·have ek : (((key k).toNat : Int) == ((key c).toNat : Int)) = false := by
    rw [beq_eq_false_iff_ne]; intro e; exact hkc (HNO.out k (by omega) (UInt8.toNat_inj.1 (by omega)))
   go_wp2
   go_round
   case rel => exact ⟨k + 1, by omega, by go_num⟩
   case measure => simp [intOf]; omega
set_option maxRecDepth 100000 in
set_option maxHeartbeats 3200000 in
theorem delChild10 (b : Nat) (pre : List UInt8) (m : Nat) (key : Nat → UInt8) (kid : Nat → Art) (c : Nat) (w : World) (hb : w.heap[b]? = some (.cells (rowN .k10 pre (m + 1) key kid).toArray 387 (0, 0))) (hm : m < 10) (hc : c ≤ m) (hno : ∀ j, j ≤ m → key j = key c → j = c) :
  Calls Tryz.prog 322 #[.pointer (some ⟨b, 0, none⟩), .int .u8 ((key c).toNat : Nat)] w fun e w' => e = .returned (.tuple #[]) ∧ w'.heap[b]? = some (.cells (rowN .k10 pre m (upd key c (key m)) (upd kid c (kid m))).toArray 387 (0, 0)) ∧ Only (· = b) w w' := by
 obtain ⟨tym, tbm, em⟩ := (kid m).ref_form
 have hs : w.cell? ⟨b, 11, none⟩ = some (.int .u16 ((m : Int) + 1)) := row_at hb (rowN_size (k := .k10) (n := m + 1))
 go_enter Tryz.func322, Tryz.ntmps322
 have hlb := (Array.getElem?_eq_some_iff.1 hb).1
 have HB := Lib.hid hb; clear hb
 go_wp2
 go_quiet (fail)
 have hon := Only.of (F := (· = b)) (below_drewN (Below.refl w.heap.size w) nq)
 have hb1 := ((below_drewN (Below.refl w.heap.size w) nq).block b hlb).trans HB.out
 generalize w.drewN nq = w1 at *
 have hs : w1.cell? ⟨b, 11, none⟩ = some (.int .u16 ((m : Int) + 1)) := row_at hb1 (rowN_size (k := .k10) (n := m + 1))
 have hks : ∀ i, i ≤ m → w1.cell? ⟨b, 12 + i, none⟩ = some (.int .u8 ((key i).toNat : Nat)) := fun i hi => row_at hb1 ((rowN_key (k := .k10) (i := i)).trans ((keyCells_at (k := .k10) (by decide) (show i < 10 by omega)).trans (by rw [if_pos (by omega)])))
 have hcm : w1.cell? ⟨b, m, none⟩ = some (.iface tym (.pointer (some ⟨tbm, 0, none⟩))) := row_at hb1 ((rowN_kid (k := .k10) hm).trans (by rw [if_pos (by omega), em]))
 have HK := Lib.hid hks; clear hks
 have HNO := Lib.hid hno; clear hno
 have f5 := frozen_row (j := 11) hb1
 have hm1 : (m : Int) < 10 := by omega
 have hm0 : (0 : Int) ≤ (m : Int) := by omega
 go_wp2
 go_loop [4] (fun i => ∃ k : Nat, k ≤ c ∧ i = .int .u16 (k : Nat)) (fun i => c - (intOf i).toNat)
 case atStart => exact ⟨0, Nat.zero_le _, rfl⟩
 case round =>
  obtain ⟨k, hk, rfl⟩ := hrel
  have hck := HK.out k (by omega)
  have k1 : (k : Int) < (m : Int) + 1 := by omega
  have k2 : (k : Int) < 10 := by omega
  have k3 : (0 : Int) ≤ (k : Int) := by omega
  by_cases hkc : k = c
  ·subst hkc
   have ek : (((key k).toNat : Int) == ((key k).toNat : Int)) = true := by simp
   have hkm := HK.out m (Nat.le_refl _)
   have f6k := frozen_row (j := 12 + k) hb1
   have f6m := frozen_row (j := 12 + m) hb1
   have fk := frozen_row (j := k) hb1
   have fm := frozen_row (j := m) hb1
   have HB1 := Lib.hid hb1; clear hb1
   obtain ⟨tyk, tbk, ekk⟩ := (kid k).ref_form
   have hcc : w1.cell? ⟨b, k, none⟩ = some (.iface tyk (.pointer (some ⟨tbk, 0, none⟩))) := row_at (HB1.out) ((rowN_kid (k := .k10) (by show k < 10; omega)).trans (by rw [if_pos (by omega), ekk]))
   by_cases hl : k < m
   ·go_wp2
    go_region
    go_wp2
    go_region
    go_wp2
    refine bodyPost_ret (results_none rfl _ _ _) rfl ⟨rfl, ?_, (((((hon.set (.inl rfl) _).set (.inl rfl) _).set (.inl rfl) _).set (.inl rfl) _).set (.inl rfl) _).drew2.drew2⟩
    exact row_eq (heap_set_list (heap_set_list (heap_set_list (heap_set_list (heap_set_list HB1.out))))) (by rw [← em]; exact rowN_del (k := .k10) (by decide) hm hl)
   ·obtain rfl : k = m := by omega
    go_wp2
    refine bodyPost_ret (results_none rfl _ _ _) rfl ⟨rfl, ?_, ((hon.set (.inl rfl) _).set (.inl rfl) _).set (.inl rfl) _⟩
    exact row_eq (heap_set_list (heap_set_list (heap_set_list HB1.out))) (rowN_delLast (k := .k10) (by decide) hm)
  ·have ek : (((key k).toNat : Int) == ((key c).toNat : Int)) = false := by
    rw [beq_eq_false_iff_ne]; intro e; exact hkc (HNO.out k (by omega) (UInt8.toNat_inj.1 (by omega)))
   go_wp2
   go_round
   case rel => exact ⟨k + 1, by omega, by go_num⟩
   case measure => simp [intOf]; omega
set_option maxRecDepth 100000 in
set_option maxHeartbeats 3200000 in
theorem delChild16 (b : Nat) (pre : List UInt8) (m : Nat) (key : Nat → UInt8) (kid : Nat → Art) (c : Nat) (w : World) (hb : w.heap[b]? = some (.cells (rowN .k16 pre (m + 1) key kid).toArray 396 (0, 0))) (hm : m < 16) (hc : c ≤ m) (hno : ∀ j, j ≤ m → key j = key c → j = c) :
  Calls Tryz.prog 331 #[.pointer (some ⟨b, 0, none⟩), .int .u8 ((key c).toNat : Nat)] w fun e w' => e = .returned (.tuple #[]) ∧ w'.heap[b]? = some (.cells (rowN .k16 pre m (upd key c (key m)) (upd kid c (kid m))).toArray 396 (0, 0)) ∧ Only (· = b) w w' := by
 obtain ⟨tym, tbm, em⟩ := (kid m).ref_form
 have hs : w.cell? ⟨b, 17, none⟩ = some (.int .u16 ((m : Int) + 1)) := row_at hb (rowN_size (k := .k16) (n := m + 1))
 go_enter Tryz.func331, Tryz.ntmps331
 have hlb := (Array.getElem?_eq_some_iff.1 hb).1
 have HB := Lib.hid hb; clear hb
 go_wp2
 go_quiet (fail)
 have hon := Only.of (F := (· = b)) (below_drewN (Below.refl w.heap.size w) nq)
 have hb1 := ((below_drewN (Below.refl w.heap.size w) nq).block b hlb).trans HB.out
 generalize w.drewN nq = w1 at *
 have hs : w1.cell? ⟨b, 17, none⟩ = some (.int .u16 ((m : Int) + 1)) := row_at hb1 (rowN_size (k := .k16) (n := m + 1))
 have hks : ∀ i, i ≤ m → w1.cell? ⟨b, 18 + i, none⟩ = some (.int .u8 ((key i).toNat : Nat)) := fun i hi => row_at hb1 ((rowN_key (k := .k16) (i := i)).trans ((keyCells_at (k := .k16) (by decide) (show i < 16 by omega)).trans (by rw [if_pos (by omega)])))
 have hcm : w1.cell? ⟨b, m, none⟩ = some (.iface tym (.pointer (some ⟨tbm, 0, none⟩))) := row_at hb1 ((rowN_kid (k := .k16) hm).trans (by rw [if_pos (by omega), em]))
 have HK := Lib.hid hks; clear hks
 have HNO := Lib.hid hno; clear hno
 have f5 := frozen_row (j := 17) hb1
 have hm1 : (m : Int) < 16 := by omega
 have hm0 : (0 : Int) ≤ (m : Int) := by omega
 go_wp2
 go_loop [4] (fun i => ∃ k : Nat, k ≤ c ∧ i = .int .u16 (k : Nat)) (fun i => c - (intOf i).toNat)
 case atStart => exact ⟨0, Nat.zero_le _, rfl⟩
 case round =>
  obtain ⟨k, hk, rfl⟩ := hrel
  have hck := HK.out k (by omega)
  have k1 : (k : Int) < (m : Int) + 1 := by omega
  have k2 : (k : Int) < 16 := by omega
  have k3 : (0 : Int) ≤ (k : Int) := by omega
  by_cases hkc : k = c
  ·subst hkc
   have ek : (((key k).toNat : Int) == ((key k).toNat : Int)) = true := by simp
   have hkm := HK.out m (Nat.le_refl _)
   have f6k := frozen_row (j := 18 + k) hb1
   have f6m := frozen_row (j := 18 + m) hb1
   have fk := frozen_row (j := k) hb1
   have fm := frozen_row (j := m) hb1
   have HB1 := Lib.hid hb1; clear hb1
   obtain ⟨tyk, tbk, ekk⟩ := (kid k).ref_form
   have hcc : w1.cell? ⟨b, k, none⟩ = some (.iface tyk (.pointer (some ⟨tbk, 0, none⟩))) := row_at (HB1.out) ((rowN_kid (k := .k16) (by show k < 16; omega)).trans (by rw [if_pos (by omega), ekk]))
   by_cases hl : k < m
   ·go_wp2
    go_region
    go_wp2
    go_region
    go_wp2
    refine bodyPost_ret (results_none rfl _ _ _) rfl ⟨rfl, ?_, (((((hon.set (.inl rfl) _).set (.inl rfl) _).set (.inl rfl) _).set (.inl rfl) _).set (.inl rfl) _).drew2.drew2⟩
    exact row_eq (heap_set_list (heap_set_list (heap_set_list (heap_set_list (heap_set_list HB1.out))))) (by rw [← em]; exact rowN_del (k := .k16) (by decide) hm hl)
   ·obtain rfl : k = m := by omega
    go_wp2
    refine bodyPost_ret (results_none rfl _ _ _) rfl ⟨rfl, ?_, ((hon.set (.inl rfl) _).set (.inl rfl) _).set (.inl rfl) _⟩
    exact row_eq (heap_set_list (heap_set_list (heap_set_list HB1.out))) (rowN_delLast (k := .k16) (by decide) hm)
  ·have ek : (((key k).toNat : Int) == ((key c).toNat : Int)) = false := by
    rw [beq_eq_false_iff_ne]; intro e; exact hkc (HNO.out k (by omega) (UInt8.toNat_inj.1 (by omega)))
   go_wp2
   go_round
   case rel => exact ⟨k + 1, by omega, by go_num⟩
   case measure => simp [intOf]; omega
end Go.Proofs.YtehlmjecbljafaaGreatDoor
