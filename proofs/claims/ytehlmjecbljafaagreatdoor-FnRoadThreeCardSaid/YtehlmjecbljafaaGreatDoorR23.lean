/- The tree's filters: slices of parts that are cut on, in their own row. -/
import Derived.Test.YtehlmjecbljafaaGreatDoorR22
namespace Go.Proofs.YtehlmjecbljafaaGreatDoor
open Go Go.RowKit
/-- A slice of parts in block r. -/
structure PV (w : World) (r o cap : Nat) (us : List Value) : Prop where
 row : ∃ cur ty, w.heap[r]? = some (.cells cur ty (0, 0)) ∧ o + cap ≤ cur.size ∧ ∀ (j : Nat) u, us[j]? = some u → cur[o + j]? = some u
 n : us.length ≤ cap
 cap : cap ≤ maxLen
/-- Block r stays as it was ahead of m. -/
def KeepTo (r m : Nat) (w w' : World) : Prop := ∀ cur ty, w.heap[r]? = some (.cells cur ty (0, 0)) → ∃ cur', w'.heap[r]? = some (.cells cur' ty (0, 0)) ∧ cur'.size = cur.size ∧ ∀ j, j < m → cur'[j]? = cur[j]?
theorem KeepTo.of {r m : Nat} {w w' : World} (h : w'.heap[r]? = w.heap[r]?) : KeepTo r m w w' := fun cur _ty hc => ⟨cur, h.trans hc, rfl, fun _ _ => rfl⟩
theorem KeepTo.trans {r m m' : Nat} {w w1 w2 : World} (h : KeepTo r m w w1) (k : KeepTo r m' w1 w2) (hm : m ≤ m') : KeepTo r m w w2 := fun cur ty hc => by
 obtain ⟨c1, h1, h2, h3⟩ := h cur ty hc
 obtain ⟨c2, k1, k2, k3⟩ := k c1 ty h1
 exact ⟨c2, k1, k2.trans h2, fun j hj => (k3 j (by omega)).trans (h3 j hj)⟩
theorem KeepTo.set {r m i : Nat} {w : World} {v : Value} (hi : m ≤ i) : KeepTo r m w (w.setCell ⟨r, i, none⟩ v) := fun cur ty hc =>
 ⟨_, heap_setCell_same w r i cur ty v hc, by simp, fun j hj => by rw [Array.getElem?_setIfInBounds_ne (by omega)]⟩
theorem PV.keep {w w' : World} {r o cap : Nat} {us : List Value} (h : PV w r o cap us) (hk : KeepTo r (o + us.length) w w') : PV w' r o cap us := by
 obtain ⟨cur, ty, h1, h2, h3⟩ := h.row
 obtain ⟨cur', k1, k2, k3⟩ := hk cur ty h1
 exact ⟨⟨cur', ty, k1, by omega, fun j u hu => (k3 _ (by have := (List.getElem?_eq_some_iff.1 hu).1; omega)).trans (h3 j u hu)⟩, h.n, h.cap⟩
theorem PV.lt {w : World} {r o cap : Nat} {us : List Value} (h : PV w r o cap us) : r < w.heap.size := by
 obtain ⟨cur, ty, h1, -⟩ := h.row; exact (Array.getElem?_eq_some_iff.1 h1).1
theorem PV.cell {w : World} {r o cap j : Nat} {us : List Value} {u : Value} (h : PV w r o cap us) (hu : us[j]? = some u) : w.cell? ⟨r, o + j, none⟩ = some u ∧ w.frozen? ⟨r, o + j, none⟩ = false := by
 obtain ⟨cur, ty, h1, h2, h3⟩ := h.row
 exact ⟨(cell_row h1).trans (h3 j u hu), frozen_row h1⟩
theorem PV.drop {w : World} {r o cap k : Nat} {us : List Value} (h : PV w r o cap us) (hk : k ≤ us.length) : PV w r (o + k) (cap - k) (us.drop k) := by
 obtain ⟨cur, ty, h1, h2, h3⟩ := h.row
 have hn := h.n
 have hc := h.cap
 exact ⟨⟨cur, ty, h1, by omega, fun j u hu => by rw [List.getElem?_drop] at hu; rw [Nat.add_assoc]; exact h3 _ u hu⟩, by rw [List.length_drop]; omega, by omega⟩
theorem PV.set {w : World} {r o cap k : Nat} {us : List Value} {v : Value} (h : PV w r o cap us) (hk : k < us.length) : PV (w.setCell ⟨r, o + k, none⟩ v) r o cap (us.set k v) := by
 obtain ⟨cur, ty, h1, h2, h3⟩ := h.row
 have hn := h.n
 refine ⟨⟨_, ty, heap_setCell_same w r (o + k) cur ty v h1, by simp; exact h2, fun j u hu => ?_⟩, by simp; exact hn, h.cap⟩
 rw [List.getElem?_set] at hu
 by_cases e : k = j
 ·subst e
  rw [if_pos rfl, if_pos hk] at hu
  have hlt : o + k < cur.size := by omega
  rw [Array.getElem?_setIfInBounds_self_of_lt hlt]; exact hu
 ·rw [if_neg e] at hu
  rw [Array.getElem?_setIfInBounds_ne (by omega)]; exact h3 j u hu
theorem PartsF.drop {w : World} {b k : Nat} {us : List Value} {ps : List (List UInt8)} (h : PartsF w b us ps) : PartsF w b (us.drop k) (ps.drop k) :=
 ⟨by rw [List.length_drop, List.length_drop, h.1], fun j u p hu hp => by
  rw [List.getElem?_drop] at hu hp; exact h.2 _ u p hu hp⟩
theorem PartsF.set {w : World} {b k : Nat} {us : List Value} {ps : List (List UInt8)} {u : Value} {p : List UInt8} (h : PartsF w b us ps) (hu : PcF w b u p) : PartsF w b (us.set k u) (ps.set k p) :=
 ⟨by rw [List.length_set, List.length_set, h.1], fun j x q hx hq => by
  rw [List.getElem?_set] at hx hq
  by_cases e : k = j
  ·rw [if_pos e] at hx hq
   split at hx
   ·split at hq
    ·cases hx; cases hq; exact hu
    ·cases hq
   ·cases hx
  ·rw [if_neg e] at hx hq; exact h.2 j x q hx hq⟩
/-- Parts copied behind themselves, or into a new row. -/
theorem app_copy (ty : TypeId) (w : World) (r o cap : Nat) (us : List Value) (h : PV w r o cap us) (hpos : 0 < us.length) (hsm : us.length ≤ 200000) (h1 : ∀ u ∈ us, u.oneCell' = true) :
  ∃ r' o' cap' w', (Builtin.append_ #[141, 141] ty #[.slice (if cap = us.length then some ⟨r, o, none⟩ else some ⟨r, o + us.length, none⟩) 0 (cap - us.length), .slice (some ⟨r, o, none⟩) us.length cap]).run Tryz.prog w = .ok (.slice (some ⟨r', o', none⟩) us.length cap') w' ∧
   PV w' r' o' cap' us ∧ (r' = r ∧ o + us.length ≤ o' ∨ w.heap.size ≤ r') ∧ Only (· = r) w w' ∧ KeepTo r (o + us.length) w w' := by
 obtain ⟨i, hi, hz, hs1, hb⟩ := info_parts et141.inf
 obtain ⟨cur, t0, hr, hsz, hcur⟩ := h.row
 have hn := h.n
 have hcm := h.cap
 have hnews : ∀ j u, us[j]? = some u → w.cell? ((⟨r, o, none⟩ : Addr).add j) = some u := fun j u hu => by rw [add0]; exact (h.cell hu).1
 by_cases hroom : us.length ≤ cap - us.length
 ·have hcn : cap ≠ us.length := by omega
  have hrun := run_room (P := Tryz.prog) w 141 ty 94 t0 i et141.un hi r (o + us.length) 0 (cap - us.length) cur hr ⟨r, o, none⟩ us.length cap us (by rw [hs1]; omega) hnews h1 (by omega) (by simp; omega)
  have hh := setRow_heap w r cur (cur.toList.take (o + us.length + 0 * i.size) ++ us ++ cur.toList.drop (o + us.length + 0 * i.size + us.length)).toArray t0 (0, 0) hr
  have hsz' : (cur.toList.take (o + us.length + 0 * i.size) ++ us ++ cur.toList.drop (o + us.length + 0 * i.size + us.length)).toArray.size = cur.size := by simp; omega
  have htl : (cur.toList.take (o + us.length + 0 * i.size)).length = o + us.length := by simp; omega
  refine ⟨r, o + us.length, cap - us.length, _, ?_, ⟨⟨_, t0, hh, by rw [hsz']; omega, fun j u hu => ?_⟩, by omega, by omega⟩, .inl ⟨rfl, Nat.le_refl _⟩, ⟨rfl, rfl, rfl, by simp, fun k _ hk => setRow_other w r k _ hk⟩, ?_⟩
  ·rw [if_neg hcn]; simpa using hrun
  ·have hj := (List.getElem?_eq_some_iff.1 hu).1
   rw [List.getElem?_toArray, List.append_assoc, List.getElem?_append_right (by omega), htl, List.getElem?_append_left (by omega), show o + us.length + j - (o + us.length) = j by omega]
   exact hu
  ·intro c ty' hc
   rw [hr] at hc; cases hc
   refine ⟨_, hh, hsz', fun j hj => ?_⟩
   rw [List.getElem?_toArray, List.append_assoc, List.getElem?_append_left (by omega), List.getElem?_take, if_pos (by omega)]
   simp
 ·have hmax : us.length ≤ maxLen := by unfold maxLen; omega
  have hfit : Builtin.nextslicecap (0 + us.length) (cap - us.length) * i.bytes ≤ 281474976710656 := growslice_fits (by omega) (by rw [hb]; omega)
  have key : ∀ (bs' : Addr), (Builtin.append_ #[141, 141] ty #[.slice (some bs') 0 (cap - us.length), .slice (some ⟨r, o, none⟩) us.length cap]).run Tryz.prog w = _ := fun bs' =>
   run_append_grow (P := Tryz.prog) w 141 ty 94 i (.slice none 0 0) et141.un hi hz bs' 0 (cap - us.length) [] (by simp) (fun j v hv => by simp at hv) ⟨r, o, none⟩ us.length cap us (by rw [hs1]; omega) hnews (by omega) (by omega) hfit
  have hge := grownCap_ge w (0 + us.length) (cap - us.length) 94
  have hcl := grownCap_le_maxLen w (0 + us.length) (cap - us.length) 94 (by unfold maxLen; omega)
  refine ⟨w.heap.size, 0, grownCap w (0 + us.length) (cap - us.length) 94, w.drew.alloc (.cells (#[] ++ us.toArray ++ Builtin.zeroCells (Value.slice none 0 0).cells (grownCap w (0 + us.length) (cap - us.length) 94 - (0 + us.length))) 94), ?_, ⟨⟨_, 94, heap_alloc_new w.drew _, ?_, fun j u hu => ?_⟩, by omega, hcl⟩, .inr (Nat.le_refl _), (Only.refl (· = r) w).drew2.alloc _, KeepTo.of ?_⟩
  ·have e : (if cap = us.length then some (⟨r, o, none⟩ : Addr) else some ⟨r, o + us.length, none⟩) = some (if cap = us.length then ⟨r, o, none⟩ else ⟨r, o + us.length, none⟩) := by split <;> rfl
   rw [e, key]
   simp only [Nat.zero_add]
  ·simp [Builtin.zeroCells, Value.cells]; omega
  ·have hj := (List.getElem?_eq_some_iff.1 hu).1
   rw [Nat.zero_add, Array.append_assoc, Array.getElem?_append_right (by simp)]
   simp only [List.size_toArray, List.length_nil, Nat.sub_zero]
   rw [Array.getElem?_append_left (by simpa using hj)]
   simpa using hu
  ·exact Below.heap_alloc w.drew _ r h.lt
end Go.Proofs.YtehlmjecbljafaaGreatDoor
