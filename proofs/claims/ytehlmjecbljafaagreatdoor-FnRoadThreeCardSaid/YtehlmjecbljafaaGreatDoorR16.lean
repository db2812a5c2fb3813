/- Plain words: insertions into a tree of texts. A subject tree in memory: the rows of its nodes. A subject tree's nodes: methods by interface, adding and finding kids. A subject tree's nodes: kids are added and found. -/
import Derived.Test.YtehlmjecbljafaaGreatDoorR7
import Derived.Test.YtehlmjecbljafaaGreatDoorR10
import Derived.Test.YtehlmjecbljafaaGreatDoorR15
import Derived.RegionTactic
import Derived.ChangeAlike
import Derived.LoopTactic
namespace Go.Proofs.YtehlmjecbljafaaGreatDoor
open Go Go.RowKit
theorem ents_ne : ∀ {T : Art}, T.WF → T.ents ≠ []
 | .leaf .., _ => by simp [Art.ents]
 | .node k b pre n key kid, h => by
  have ih := ents_ne (h.2.2.1 0 (Nat.lt_of_lt_of_le k.low_pos h.1)).1
  obtain ⟨x, hx⟩ := List.exists_mem_of_ne_nil _ ih
  exact List.ne_nil_of_mem (mem_node.2 ⟨0, Nat.lt_of_lt_of_le k.low_pos h.1, x, hx, rfl⟩)
/-- No text is there twice. -/
theorem ents_nd : ∀ {T : Art}, T.WF → (T.ents.map (·.1)).Nodup
 | .leaf .., _ => by simp [Art.ents]
 | .node k b pre n key kid, h => by
  unfold List.Nodup
  rw [List.pairwise_map, Art.ents, List.pairwise_flatMap]
  refine ⟨fun i hi => ?_, ?_⟩
  ·have ih := ents_nd (h.2.2.1 i (List.mem_range.1 hi)).1
   unfold List.Nodup at ih
   rw [List.pairwise_map] at ih ⊢
   exact ih.imp fun hne e => hne (List.append_cancel_left e)
  ·have hr : (List.range n).Pairwise (fun i j => i < j ∧ j < n) := by
    refine (List.pairwise_lt_range.imp_of_mem ?_)
    intro a b _ hb hab; exact ⟨hab, List.mem_range.1 hb⟩
   refine hr.imp ?_
   rintro i j ⟨hij, hj⟩ x hx y hy e
   obtain ⟨x', hx', rfl⟩ := List.mem_map.1 hx
   obtain ⟨y', hy', rfl⟩ := List.mem_map.1 hy
   have e' : x'.1 = y'.1 := List.append_cancel_left e
   obtain ⟨-, p1, p2⟩ := h.2.2.1 i (by omega)
   obtain ⟨-, q1, q2⟩ := h.2.2.1 j hj
   have h1 := kid_piv p1 p2 hx'
   have h2 := kid_piv q1 q2 hy'
   rw [e', h2] at h1
   exact absurd (h.2.2.2 j i hj (by omega) h1) (by omega)
theorem nd_sub {α : Type} [DecidableEq α] : ∀ {l m : List α}, l.Nodup → (∀ x ∈ l, x ∈ m) → l.length ≤ m.length
 | [], m, _, _ => Nat.zero_le _
 | x :: l, m, h, hs => by
  have hx := hs x (by simp)
  have ih := nd_sub (l := l) (m := m.erase x) (List.nodup_cons.1 h).2 fun y hy => (List.mem_erase_of_ne (by rintro rfl; exact (List.nodup_cons.1 h).1 hy)).2 (hs y (by simp [hy]))
  rw [List.length_erase_of_mem hx] at ih
  have : 0 < m.length := List.length_pos_of_mem hx
  simp only [List.length_cons]; omega
/-- A node has no more kids than texts. -/
theorem kids_le {k : Kd} {b n : Nat} {pre : List UInt8} {key : Nat → UInt8} {kid : Nat → Art} (h : (Art.node k b pre n key kid).WF) : n ≤ (Art.node k b pre n key kid).ents.length := by
 rw [Art.ents, List.length_flatMap]
 have : ∀ m, m ≤ n → m ≤ (List.map (fun i => (List.map (shift pre) (kid i).ents).length) (List.range m)).sum := by
  intro m
  induction m with
  | zero => intro _; exact Nat.zero_le _
  | succ m ih =>
   intro hm
   have h1 := ih (by omega)
   rw [List.range_succ, List.map_append, List.sum_append]
   have h2 := List.length_pos_iff.2 (ents_ne (h.2.2.1 m (by omega)).1)
   simp only [List.map_cons, List.map_nil, List.sum_cons, List.sum_nil, List.length_map] at h1 ⊢
   omega
 exact this n (Nat.le_refl _)
/-- How far two texts go together. -/
def cpl : List UInt8 → List UInt8 → Nat
 | a :: l, b :: r => if a = b then cpl l r + 1 else 0
 | _, _ => 0
theorem cpl_le : ∀ (l r : List UInt8), cpl l r ≤ l.length ∧ cpl l r ≤ r.length
 | [], r => by simp [cpl]
 | a :: l, [] => by simp [cpl]
 | a :: l, b :: r => by
  have := cpl_le l r
  rw [cpl]; split <;> simp <;> omega
theorem cpl_take : ∀ (l r : List UInt8), l.take (cpl l r) = r.take (cpl l r)
 | [], r => by simp [cpl]
 | a :: l, [] => by simp [cpl]
 | a :: l, b :: r => by
  rw [cpl]; split
  ·rename_i h; subst h; simp [cpl_take l r]
  ·simp
/-- Behind what they share, two texts that differ begin with different bytes. -/
theorem cpl_piv : ∀ {l r : List UInt8}, l ≠ r → 127 ∉ l → 127 ∉ r → piv (l.drop (cpl l r)) ≠ piv (r.drop (cpl l r))
 | [], [], h, _, _ => absurd rfl h
 | [], b :: r, _, _, h2 => by
  simp only [cpl, List.drop_zero, piv_nil, piv_cons]
  exact fun e => h2 (by simp [← e])
 | a :: l, [], _, h1, _ => by
  simp only [cpl, List.drop_zero, piv_nil, piv_cons]
  exact fun e => h1 (by simp [← e])
 | a :: l, b :: r, h, h1, h2 => by
  rw [cpl]; split
  ·rename_i e; subst e
   rw [List.drop_succ_cons, List.drop_succ_cons]
   exact cpl_piv (fun e => h (by rw [e])) (fun e => h1 (by simp [e])) (fun e => h2 (by simp [e]))
  ·rename_i e; exact e
/-- What an insertion must have done. -/
structure InsR (T : Art) (l : List UInt8) (v : Int) (T' : Art) : Prop where
 wf : T'.WF
 mem : ∀ e, e ∈ T'.ents ↔ e = (l, v) ∨ (e ∈ T.ents ∧ e.1 ≠ l)
 piv : piv l = piv T.path → (T.isLeaf = false → T.path ≠ []) → piv T'.path = piv T.path ∧ (T'.isLeaf = false → T'.path ≠ [])
theorem ins_same (b : Nat) (v0 v : Int) (l : List UInt8) : InsR (.leaf b v0 l) l v (.leaf b v l) := by
 refine ⟨trivial, fun e => ?_, fun _ _ => ⟨rfl, fun h => nomatch h⟩⟩
 simp only [Art.ents, List.mem_singleton]
 constructor
 ·exact .inl
 ·rintro (h | ⟨rfl, h⟩)
  ·exact h
  ·exact absurd rfl h
theorem mem_two {nb : Nat} {pre : List UInt8} {k0 : Nat → UInt8} {c0 c1 : UInt8} {kd : Nat → Art} {t0 t1 : Art} {e : Ent} :
  e ∈ (Art.node .k4 nb pre 2 (upd (upd k0 0 c0) 1 c1) (upd (upd kd 0 t0) 1 t1)).ents ↔ (∃ x ∈ t0.ents, e = shift pre x) ∨ (∃ x ∈ t1.ents, e = shift pre x) := by
 rw [mem_node]
 constructor
 ·rintro ⟨i, hi, x, hx, rfl⟩
  match i, hi with
  | 0, _ => rw [upd_ne _ _ (by decide), upd_same] at hx; exact .inl ⟨x, hx, rfl⟩
  | 1, _ => rw [upd_same] at hx; exact .inr ⟨x, hx, rfl⟩
 ·rintro (⟨x, hx, rfl⟩ | ⟨x, hx, rfl⟩)
  ·exact ⟨0, by omega, x, by rw [upd_ne _ _ (by decide), upd_same]; exact hx, rfl⟩
  ·exact ⟨1, by omega, x, by rw [upd_same]; exact hx, rfl⟩
theorem wf_two {nb : Nat} {pre : List UInt8} {k0 : Nat → UInt8} {c0 c1 : UInt8} {kd : Nat → Art} {t0 t1 : Art} (h0 : t0.WF) (h1 : t1.WF) (p0 : piv t0.path = c0) (p1 : piv t1.path = c1) (n0 : t0.isLeaf = false → t0.path ≠ []) (n1 : t1.isLeaf = false → t1.path ≠ []) (hne : c0 ≠ c1) :
  (Art.node .k4 nb pre 2 (upd (upd k0 0 c0) 1 c1) (upd (upd kd 0 t0) 1 t1)).WF := by
 have a0 : upd (upd kd 0 t0) 1 t1 0 = t0 := by rw [upd_ne _ _ (by decide), upd_same]
 have b0 : upd (upd k0 0 c0) 1 c1 0 = c0 := by rw [upd_ne _ _ (by decide), upd_same]
 refine ⟨by decide, by decide, fun i hi => ?_, fun i j hi hj e => ?_⟩
 ·match i, hi with
  | 0, _ => rw [a0, b0]; exact ⟨h0, p0, n0⟩
  | 1, _ => rw [upd_same, upd_same]; exact ⟨h1, p1, n1⟩
 ·match i, hi, j, hj with
  | 0, _, 0, _ => rfl
  | 1, _, 1, _ => rfl
  | 0, _, 1, _ => rw [b0, upd_same] at e; exact absurd e hne
  | 1, _, 0, _ => rw [b0, upd_same] at e; exact absurd e.symm hne
theorem take_drop_cpl (l r : List UInt8) : r.take (cpl l r) ++ l.drop (cpl l r) = l := by rw [← cpl_take, List.take_append_drop]
/-- The path of a split. -/
theorem split_piv {s l : List UInt8} {T T' : Art} (h1 : T.path = s) (h2 : T'.path = l.take (cpl s l)) (h127s : 127 ∉ s) (h127 : 127 ∉ l) (hne : s ≠ l) : piv l = piv T.path → (T.isLeaf = false → T.path ≠ []) → piv T'.path = piv T.path ∧ (T'.isLeaf = false → T'.path ≠ []) := by
 intro hp _
 rw [h1] at hp ⊢
 rw [h2]
 have hl : s ≠ [] ∧ l ≠ [] := by
  cases s with
  | nil =>
   cases l with
   | nil => exact absurd rfl hne
   | cons a r => rw [piv_nil, piv_cons] at hp; exact absurd (by simp [hp]) h127
  | cons a r =>
   cases l with
   | nil => rw [piv_nil, piv_cons] at hp; exact absurd (by simp [← hp]) h127s
   | cons b q => exact ⟨by simp, by simp⟩
 cases s with
 | nil => exact absurd rfl hl.1
 | cons a r =>
  cases l with
  | nil => exact absurd rfl hl.2
  | cons b q =>
   have : b = a := hp
   subst this
   rw [cpl, if_pos rfl, List.take_succ_cons]
   exact ⟨rfl, fun _ => by simp⟩
theorem ins_leaf {b nb nl : Nat} {v0 v : Int} {s l : List UInt8} {k0 : Nat → UInt8} {kd : Nat → Art} (h127s : 127 ∉ s) (h127 : 127 ∉ l) (hne : s ≠ l) :
  InsR (.leaf b v0 s) l v (.node .k4 nb (l.take (cpl s l)) 2 (upd (upd k0 0 (piv (l.drop (cpl s l)))) 1 (piv (s.drop (cpl s l)))) (upd (upd kd 0 (.leaf nl v (l.drop (cpl s l)))) 1 (.leaf b v0 (s.drop (cpl s l))))) := by
 refine ⟨wf_two trivial trivial rfl rfl (fun h => nomatch h) (fun h => nomatch h) (cpl_piv hne h127s h127).symm, fun e => ?_, split_piv rfl rfl h127s h127 hne⟩
 rw [mem_two]
 simp only [Art.ents, List.mem_singleton, exists_eq_left, shift, List.take_append_drop, take_drop_cpl]
 constructor
 ·rintro (h | rfl)
  ·exact .inl h
  ·exact .inr ⟨rfl, hne⟩
 ·rintro (h | ⟨h, -⟩)
  ·exact .inl h
  ·exact .inr h
theorem ins_split {k : Kd} {b nb nl n : Nat} {v : Int} {pre l : List UInt8} {key : Nat → UInt8} {kid : Nat → Art} {k0 : Nat → UInt8} {kd : Nat → Art} (hW : (Art.node k b pre n key kid).WF) (h127s : 127 ∉ pre) (h127 : 127 ∉ l) (hne : ¬ pre <+: l) :
  InsR (.node k b pre n key kid) l v (.node .k4 nb (l.take (cpl pre l)) 2 (upd (upd k0 0 (piv (pre.drop (cpl pre l)))) 1 (piv (l.drop (cpl pre l)))) (upd (upd kd 0 (.node k b (pre.drop (cpl pre l)) n key kid)) 1 (.leaf nl v (l.drop (cpl pre l))))) := by
 have hd : pre.drop (cpl pre l) ≠ [] := by
  intro e
  apply hne
  have h1 := List.take_append_drop (cpl pre l) pre
  rw [e, List.append_nil, cpl_take] at h1
  rw [← h1]; exact List.take_prefix _ _
 have hne' : pre ≠ l := fun e => hne (e ▸ List.prefix_refl _)
 refine ⟨wf_two hW trivial rfl rfl (fun _ => hd) (fun h => nomatch h) (cpl_piv hne' h127s h127), fun e => ?_, split_piv rfl rfl h127s h127 hne'⟩
 rw [mem_two]
 have e1 : (∃ x ∈ (Art.node k b (pre.drop (cpl pre l)) n key kid).ents, e = shift (l.take (cpl pre l)) x) ↔ e ∈ (Art.node k b pre n key kid).ents := by
  rw [mem_node]
  constructor
  ·rintro ⟨x, hx, rfl⟩
   obtain ⟨i, hi, y, hy, rfl⟩ := mem_node.1 hx
   exact ⟨i, hi, y, hy, by simp only [shift]; rw [← List.append_assoc, take_drop_cpl]⟩
  ·rintro ⟨i, hi, y, hy, rfl⟩
   exact ⟨shift (pre.drop (cpl pre l)) y, mem_node.2 ⟨i, hi, y, hy, rfl⟩, by simp only [shift]; rw [← List.append_assoc, take_drop_cpl]⟩
 rw [e1]
 simp only [Art.ents, List.mem_singleton, exists_eq_left, shift, List.take_append_drop]
 constructor
 ·rintro (h | h)
  ·refine .inr ⟨h, fun e => ?_⟩
   obtain ⟨y, hy⟩ := ents_path (T := .node k b pre n key kid) h
   exact hne (by rw [← e, hy]; exact List.prefix_append _ _)
  ·exact .inl h
 ·rintro (h | ⟨h, -⟩)
  ·exact .inr h
  ·exact .inl h
theorem ins_add {k k' : Kd} {b b' nl n : Nat} {v : Int} {pre r : List UInt8} {key : Nat → UInt8} {kid : Nat → Art} (hW : (Art.node k b pre n key kid).WF) (hcap : n + 1 ≤ k'.cap) (hlow : k'.low ≤ n + 1) (hno : ∀ i, i < n → key i ≠ piv r) :
  InsR (.node k b pre n key kid) (pre ++ r) v (.node k' b' pre (n + 1) (upd key n (piv r)) (upd kid n (.leaf nl v r))) := by
 refine ⟨⟨hlow, hcap, fun i hi => ?_, fun i j hi hj e => ?_⟩, fun e => ?_, fun _ h => ⟨rfl, fun _ => h rfl⟩⟩
 ·by_cases hin : i = n
  ·subst hin; rw [upd_same, upd_same]; exact ⟨trivial, rfl, fun h => nomatch h⟩
  ·rw [upd_ne _ _ hin, upd_ne _ _ hin]; exact hW.2.2.1 i (by omega)
 ·by_cases hin : i = n
  ·by_cases hjn : j = n
   ·omega
   ·rw [hin, upd_same, upd_ne _ _ hjn] at e; exact absurd e.symm (hno j (by omega))
  ·by_cases hjn : j = n
   ·rw [hjn, upd_same, upd_ne _ _ hin] at e; exact absurd e (hno i (by omega))
   ·rw [upd_ne _ _ hin, upd_ne _ _ hjn] at e; exact hW.2.2.2 i j (by omega) (by omega) e
 ·rw [mem_node, mem_node]
  constructor
  ·rintro ⟨i, hi, x, hx, rfl⟩
   by_cases hin : i = n
   ·subst hin
    rw [upd_same] at hx
    obtain rfl : x = (r, v) := by simpa [Art.ents] using hx
    exact .inl rfl
   ·rw [upd_ne _ _ hin] at hx
    refine .inr ⟨⟨i, by omega, x, hx, rfl⟩, fun e => ?_⟩
    have e : x.1 = r := List.append_cancel_left e
    obtain ⟨-, p1, p2⟩ := hW.2.2.1 i (by omega)
    have := kid_piv p1 p2 hx
    rw [e] at this
    exact hno i (by omega) this.symm
  ·rintro (rfl | ⟨⟨i, hi, x, hx, rfl⟩, -⟩)
   ·exact ⟨n, by omega, (r, v), by rw [upd_same]; simp [Art.ents], rfl⟩
   ·exact ⟨i, by omega, x, by rw [upd_ne _ _ (by omega)]; exact hx, rfl⟩
theorem ins_rec {k : Kd} {b n c : Nat} {v : Int} {pre r : List UInt8} {key : Nat → UInt8} {kid : Nat → Art} {t' : Art} (hW : (Art.node k b pre n key kid).WF) (hc : c < n) (hk : key c = piv r) (h : InsR (kid c) r v t') :
  InsR (.node k b pre n key kid) (pre ++ r) v (.node k b pre n key (upd kid c t')) := by
 obtain ⟨w0, p0, n0⟩ := hW.2.2.1 c hc
 refine ⟨⟨hW.1, hW.2.1, fun i hi => ?_, hW.2.2.2⟩, fun e => ?_, fun _ h => ⟨rfl, fun _ => h rfl⟩⟩
 ·by_cases hic : i = c
  ·subst hic
   rw [upd_same]
   obtain ⟨h1, h2⟩ := h.piv (by rw [p0, hk]) n0
   exact ⟨h.wf, h1.trans p0, h2⟩
  ·rw [upd_ne _ _ hic]; exact hW.2.2.1 i hi
 ·rw [mem_node, mem_node]
  constructor
  ·rintro ⟨i, hi, x, hx, rfl⟩
   by_cases hic : i = c
   ·subst hic
    rw [upd_same] at hx
    rcases (h.mem x).1 hx with rfl | ⟨h1, h2⟩
    ·exact .inl rfl
    ·exact .inr ⟨⟨i, hi, x, h1, rfl⟩, fun e => h2 (List.append_cancel_left e)⟩
   ·rw [upd_ne _ _ hic] at hx
    refine .inr ⟨⟨i, hi, x, hx, rfl⟩, fun e => ?_⟩
    have e : x.1 = r := List.append_cancel_left e
    obtain ⟨-, p1, p2⟩ := hW.2.2.1 i hi
    have := kid_piv p1 p2 hx
    rw [e, ← hk] at this
    exact hic (hW.2.2.2 i c hi hc this.symm)
  ·rintro (rfl | ⟨⟨i, hi, x, hx, rfl⟩, hne⟩)
   ·exact ⟨c, hc, (r, v), by rw [upd_same]; exact (h.mem _).2 (.inl rfl), rfl⟩
   ·by_cases hic : i = c
    ·subst hic
     exact ⟨i, hi, x, by rw [upd_same]; exact (h.mem _).2 (.inr ⟨hx, fun e => hne (by simp only [shift]; rw [e])⟩), rfl⟩
    ·exact ⟨i, hi, x, by rw [upd_ne _ _ hic]; exact hx, rfl⟩
end Go.Proofs.YtehlmjecbljafaaGreatDoor
namespace Go.Proofs.YtehlmjecbljafaaGreatDoor
open Go Go.RowKit
/-- Types of nodes, and of pointers to them. -/
def tyP : Kd → TypeId
 | .k4 => 302 | .k10 => 383 | .k16 => 392 | .k48 => 397
def tyN : Kd → TypeId
 | .k4 => 335 | .k10 => 387 | .k16 => 396 | .k48 => 400
def Art.ref : Art → Value
 | .leaf b _ _ => .iface 197 (.pointer (some ⟨b, 0, none⟩))
 | .node k b _ _ _ _ => .iface (tyP k) (.pointer (some ⟨b, 0, none⟩))
/-- The number that a node of 48 keeps at a byte. -/
def slotOf : Nat → (Nat → UInt8) → UInt8 → Nat
 | 0, _, _ => 0
 | n + 1, key, c => if c = key n then n + 1 else slotOf n key c
def keyCells (k : Kd) (n : Nat) (key : Nat → UInt8) : List Value := match k with
 | .k48 => (List.range 256).map fun c => .int .u8 (slotOf n key (UInt8.ofNat c) : Nat)
 | k => (List.range k.cap).map fun i => .int .u8 (if i < n then (key i).toNat else 0 : Nat)
def rowN (k : Kd) (pre : List UInt8) (n : Nat) (key : Nat → UInt8) (kid : Nat → Art) : List Value :=
 (List.range k.cap).map (fun i => if i < n then (kid i).ref else .nilIface) ++ (.string (mk pre) :: .int .u16 (n : Nat) :: keyCells k n key)
section
variable {k : Kd} {pre : List UInt8} {n : Nat} {key : Nat → UInt8} {kid : Nat → Art}
theorem rowN_kid {i : Nat} (h : i < k.cap) : (rowN k pre n key kid)[i]? = some (if i < n then (kid i).ref else .nilIface) := by
 unfold rowN
 rw [List.getElem?_append_left (by simpa using h)]
 simp [h]
theorem rowN_pre : (rowN k pre n key kid)[k.cap]? = some (.string (mk pre)) := by
 unfold rowN
 rw [List.getElem?_append_right (by simp)]
 simp
theorem rowN_size : (rowN k pre n key kid)[k.cap + 1]? = some (.int .u16 (n : Nat)) := by
 unfold rowN
 rw [List.getElem?_append_right (by simp)]
 simp
theorem rowN_key {i : Nat} : (rowN k pre n key kid)[k.cap + 2 + i]? = (keyCells k n key)[i]? := by
 unfold rowN
 rw [List.getElem?_append_right (by simp; omega)]
 simp only [List.length_map, List.length_range, show k.cap + 2 + i - k.cap = i + 2 by omega, List.getElem?_cons_succ]
theorem keyCells_len : (keyCells k n key).length = if k.cap = 48 then 256 else k.cap := by cases k <;> simp [keyCells, Kd.cap]
theorem keyCells_at {i : Nat} (hk : k.cap ≠ 48) (h : i < k.cap) : (keyCells k n key)[i]? = some (.int .u8 (if i < n then (key i).toNat else 0 : Nat)) := by
 cases k
 case k48 => exact absurd rfl hk
 all_goals (simp only [keyCells]; rw [List.getElem?_map, List.getElem?_range h]; rfl)
theorem keyCells48 (c : UInt8) : (keyCells .k48 n key)[c.toNat]? = some (.int .u8 (slotOf n key c : Nat)) := by
 simp only [keyCells]
 rw [List.getElem?_map, List.getElem?_range (UInt8.toNat_lt c)]
 simp
theorem rowN_len : (rowN k pre n key kid).length = k.cap + 2 + (keyCells k n key).length := by
 unfold rowN; simp; omega
end
/-- Two rows of one length that agree at each place. -/
theorem row_ext {a b : List Value} (h1 : a.length = b.length) (h : ∀ i, i < a.length → a[i]? = b[i]?) : a = b := by
 apply List.ext_getElem? 
 intro i
 by_cases hi : i < a.length
 ·exact h i hi
 ·rw [List.getElem?_eq_none (by omega), List.getElem?_eq_none (by omega)]
theorem slotOf_upd (n : Nat) (key : Nat → UInt8) (c d : UInt8) : slotOf (n + 1) (upd key n c) d = if d = c then n + 1 else slotOf n key d := by
 have e : ∀ m, m ≤ n → slotOf m (upd key n c) d = slotOf m key d := by
  intro m
  induction m with
  | zero => intro _; rfl
  | succ m ih => intro hm; rw [slotOf, slotOf, ih (by omega), upd_ne _ _ (by omega)]
 rw [slotOf, upd_same, e n (Nat.le_refl _)]
theorem slotOf_some {n : Nat} {key : Nat → UInt8} {c : UInt8} {m : Nat} (h : slotOf n key c = m + 1) : m < n ∧ key m = c := by
 induction n with
 | zero => cases h
 | succ n ih =>
  rw [slotOf] at h
  split at h
  ·rename_i e; obtain rfl : n = m := by omega
   exact ⟨by omega, e.symm⟩
  ·have := ih h; exact ⟨by omega, this.2⟩
theorem slotOf_none {n : Nat} {key : Nat → UInt8} {c : UInt8} (h : slotOf n key c = 0) : ∀ i, i < n → key i ≠ c := by
 induction n with
 | zero => intro i hi; omega
 | succ n ih =>
  rw [slotOf] at h
  split at h
  ·omega
  ·rename_i hne
   intro i hi
   by_cases e : i = n
   ·subst e; exact fun e => hne e.symm
   ·exact ih h i (by omega)
/-- A kid is put in the place of another one. -/
theorem rowN_set {k : Kd} {pre : List UInt8} {n c : Nat} {key : Nat → UInt8} {kid : Nat → Art} {t : Art} (hc : c < n) (hn : n ≤ k.cap) : (rowN k pre n key kid).set c t.ref = rowN k pre n key (upd kid c t) := by
 refine row_ext (by rw [List.length_set, rowN_len, rowN_len]) fun i hi => ?_
 rw [List.length_set] at hi
 rw [List.getElem?_set]
 by_cases e : c = i
 ·subst e
  rw [if_pos rfl, if_pos hi, rowN_kid (by omega), if_pos hc, upd_same]
 ·rw [if_neg e]
  by_cases h1 : i < k.cap
  ·rw [rowN_kid h1, rowN_kid h1, upd_ne _ _ (fun h => e h.symm)]
  ·by_cases h2 : i = k.cap
   ·subst h2; rw [rowN_pre, rowN_pre]
   ·by_cases h3 : i = k.cap + 1
    ·subst h3; rw [rowN_size, rowN_size]
    ·obtain ⟨j, rfl⟩ : ∃ j, i = k.cap + 2 + j := ⟨i - (k.cap + 2), by omega⟩
     rw [rowN_key, rowN_key]
/-- A kid more, for nodes whose keys stand side by side. -/
theorem rowN_add {k : Kd} {pre : List UInt8} {n : Nat} {key : Nat → UInt8} {kid : Nat → Art} {c : UInt8} {t : Art} (hk : k.cap ≠ 48) (hn : n < k.cap) :
  ((((rowN k pre n key kid).set (k.cap + 2 + n) (.int .u8 (c.toNat : Nat))).set n t.ref).set (k.cap + 1) (.int .u16 (n + 1 : Nat))) = rowN k pre (n + 1) (upd key n c) (upd kid n t) := by
 have hlen : (keyCells k n key).length = k.cap := by rw [keyCells_len, if_neg hk]
 refine row_ext (by simp only [List.length_set]; rw [rowN_len, rowN_len, keyCells_len, keyCells_len]) fun i hi => ?_
 simp only [List.length_set] at hi
 have hi0 := hi
 rw [rowN_len, hlen] at hi
 simp only [List.getElem?_set, List.length_set]
 by_cases h1 : i < k.cap
 ·rw [if_neg (by omega)]
  by_cases e : n = i
  ·subst e
   rw [if_pos rfl, if_pos hi0, rowN_kid h1, if_pos (by omega), upd_same]
  ·rw [if_neg e, if_neg (by omega), rowN_kid h1, rowN_kid h1, upd_ne _ _ (fun h => e h.symm)]
   by_cases h2 : i < n
   ·rw [if_pos h2, if_pos (by omega)]
   ·rw [if_neg h2, if_neg (by omega)]
 ·by_cases h2 : i = k.cap
  ·subst h2; rw [if_neg (by omega), if_neg (by omega), if_neg (by omega), rowN_pre, rowN_pre]
  ·by_cases h3 : i = k.cap + 1
   ·subst h3; rw [if_pos rfl, if_pos hi0, rowN_size]
   ·obtain ⟨j, rfl⟩ : ∃ j, i = k.cap + 2 + j := ⟨i - (k.cap + 2), by omega⟩
    rw [if_neg (by omega), if_neg (by omega)]
    by_cases e : n = j
    ·subst e
     rw [if_pos rfl, if_pos hi0, rowN_key, keyCells_at hk hn, if_pos (by omega), upd_same]
    ·rw [if_neg (by omega), rowN_key, rowN_key, keyCells_at hk (by omega), keyCells_at hk (by omega), upd_ne _ _ (fun h => e h.symm)]
     by_cases h4 : j < n
     ·rw [if_pos h4, if_pos (by omega)]
     ·rw [if_neg h4, if_neg (by omega)]
/-- A kid more in a node of 48. -/
theorem rowN_add48 {pre : List UInt8} {n : Nat} {key : Nat → UInt8} {kid : Nat → Art} {c : UInt8} {t : Art} (hn : n < 48) :
  ((((rowN .k48 pre n key kid).set n t.ref).set (48 + 2 + c.toNat) (.int .u8 (n + 1 : Nat))).set (48 + 1) (.int .u16 (n + 1 : Nat))) = rowN .k48 pre (n + 1) (upd key n c) (upd kid n t) := by
 have hcap : Kd.k48.cap = 48 := rfl
 refine row_ext (by simp only [List.length_set]; rw [rowN_len, rowN_len, keyCells_len, keyCells_len]) fun i hi => ?_
 simp only [List.length_set] at hi
 have hi0 := hi
 rw [rowN_len, keyCells_len, if_pos hcap, hcap] at hi
 simp only [List.getElem?_set, List.length_set]
 by_cases h1 : i < 48
 ·rw [if_neg (by omega), if_neg (by omega)]
  by_cases e : n = i
  ·subst e
   rw [if_pos rfl, if_pos hi0, rowN_kid h1, if_pos (by omega), upd_same]
  ·rw [if_neg e, rowN_kid h1, rowN_kid h1, upd_ne _ _ (fun h => e h.symm)]
   by_cases h2 : i < n
   ·rw [if_pos h2, if_pos (by omega)]
   ·rw [if_neg h2, if_neg (by omega)]
 ·by_cases h2 : i = 48
  ·subst h2
   have a := rowN_pre (k := .k48) (pre := pre) (n := n) (key := key) (kid := kid)
   have b := rowN_pre (k := .k48) (pre := pre) (n := n + 1) (key := upd key n c) (kid := upd kid n t)
   rw [hcap] at a b
   rw [if_neg (by omega), if_neg (by omega), if_neg (by omega), a, b]
  ·by_cases h3 : i = 48 + 1
   ·subst h3
    have b := rowN_size (k := .k48) (pre := pre) (n := n + 1) (key := upd key n c) (kid := upd kid n t)
    rw [hcap] at b
    rw [if_pos rfl, if_pos hi0, b]
   ·obtain ⟨j, rfl⟩ : ∃ j, i = 48 + 2 + j := ⟨i - (48 + 2), by omega⟩
    have a := rowN_key (k := .k48) (pre := pre) (n := n) (key := key) (kid := kid) (i := j)
    have b := rowN_key (k := .k48) (pre := pre) (n := n + 1) (key := upd key n c) (kid := upd kid n t) (i := j)
    rw [hcap] at a b
    obtain ⟨d, rfl⟩ : ∃ d : UInt8, j = d.toNat := ⟨UInt8.ofNat j, by simp; omega⟩
    rw [b, keyCells48, slotOf_upd, if_neg (by omega)]
    by_cases e : c.toNat = d.toNat
    ·rw [if_pos (by omega), if_pos (by rw [e]; exact hi0), if_pos (UInt8.toNat_inj.1 e.symm)]
    ·rw [if_neg (by omega), if_neg (by omega), a, keyCells48, if_neg (fun h => e (by rw [h]))]
def Art.At (w : World) : Art → Prop
 | .leaf b v s => w.heap[b]? = some (.cells #[.int .i64 v, .string (mk s)] 199 (0, 0))
 | .node k b pre n key kid => w.heap[b]? = some (.cells (rowN k pre n key kid).toArray (tyN k) (0, 0)) ∧ ∀ i, i < n → (kid i).At w
def Art.Fp : Art → Nat → Prop
 | .leaf b _ _, x => x = b
 | .node _ b _ n _ kid, x => x = b ∨ ∃ i, i < n ∧ (kid i).Fp x
def Art.Sep : Art → Prop
 | .leaf .. => True
 | .node _ b _ n _ kid => (∀ i, i < n → (kid i).Sep ∧ ¬ (kid i).Fp b) ∧ ∀ i j, i < n → j < n → i ≠ j → ∀ x, (kid i).Fp x → ¬ (kid j).Fp x
theorem Art.At.keep {w w' : World} : ∀ {T : Art}, T.At w → (∀ x, T.Fp x → w'.heap[x]? = w.heap[x]?) → T.At w'
 | .leaf b _v _s, h, hk => (hk b rfl).trans h
 | .node _k b _pre _n _key _kid, h, hk => ⟨(hk b (.inl rfl)).trans h.1, fun i hi => Art.At.keep (h.2 i hi) fun x hx => hk x (.inr ⟨i, hi, hx⟩)⟩
theorem Art.At.lt {w : World} : ∀ {T : Art}, T.At w → ∀ x, T.Fp x → x < w.heap.size
 | .leaf b v s, h, x, hx => by
  have hx : x = b := hx
  subst hx; exact (Array.getElem?_eq_some_iff.1 h).1
 | .node k b pre n key kid, h, x, hx => by
  rcases hx with rfl | ⟨i, hi, hx⟩
  ·exact (Array.getElem?_eq_some_iff.1 h.1).1
  ·exact Art.At.lt (h.2 i hi) x hx
theorem Art.At.bel {w w' : World} {T : Art} (h : T.At w) (hb : Below w.heap.size w w') : T.At w' := h.keep fun x hx => hb.block x (h.lt x hx)
theorem Art.Fp.blk : ∀ (T : Art), T.Fp T.blk
 | .leaf .. => rfl
 | .node .. => .inl rfl
/-- No node is full of 48. -/
def Art.Small : Art → Prop
 | .leaf .. => True
 | .node _ _ _ n _ kid => n < 48 ∧ ∀ i, i < n → (kid i).Small
theorem small_of {m : Nat} (hm : m < 48) : ∀ {T : Art}, T.WF → T.ents.length ≤ m → T.Small
 | .leaf .., _, _ => trivial
 | .node k b pre n key kid, h, hl => by
  refine ⟨by have := kids_le h; omega, fun i hi => small_of hm (h.2.2.1 i hi).1 ?_⟩
  refine Nat.le_trans ?_ hl
  rw [Art.ents, List.length_flatMap]
  have : (List.map (shift pre) (kid i).ents).length ∈ List.map (fun i => (List.map (shift pre) (kid i).ents).length) (List.range n) := List.mem_map.2 ⟨i, List.mem_range.2 hi, rfl⟩
  have h2 : ∀ (l : List Nat) (a : Nat), a ∈ l → a ≤ l.sum := by
   intro l
   induction l with
   | nil => intro a h; cases h
   | cons b r ih =>
    intro a h
    rw [List.sum_cons]
    rcases List.mem_cons.1 h with rfl | h
    ·omega
    ·have := ih a h; omega
  have h3 := h2 _ _ this
  rw [List.length_map] at h3
  exact h3
end Go.Proofs.YtehlmjecbljafaaGreatDoor
namespace Go.Proofs.YtehlmjecbljafaaGreatDoor
open Go Go.RowKit
theorem isLeafN (k : Kd) (b : Nat) (w : World) : (method 508 (tyP k) (.pointer (some ⟨b, 0, none⟩)) "pub-tokenroad/pub/natsserver/server/stree.isLeaf").run Tryz.prog w = .ok (299, .pointer (some ⟨b, k.cap, none⟩)) w := by
 cases k <;> kernel_rfl
theorem baseN (k : Kd) (b : Nat) (w : World) : (method 508 (tyP k) (.pointer (some ⟨b, 0, none⟩)) "pub-tokenroad/pub/natsserver/server/stree.base").run Tryz.prog w = .ok (298, .pointer (some ⟨b, k.cap, none⟩)) w := by
 cases k <;> kernel_rfl
theorem pathN (k : Kd) (b : Nat) (w : World) : (method 508 (tyP k) (.pointer (some ⟨b, 0, none⟩)) "pub-tokenroad/pub/natsserver/server/stree.path").run Tryz.prog w = .ok (301, .pointer (some ⟨b, k.cap, none⟩)) w := by
 cases k <;> kernel_rfl
theorem setPrefixN (k : Kd) (b : Nat) (w : World) : (method 508 (tyP k) (.pointer (some ⟨b, 0, none⟩)) "pub-tokenroad/pub/natsserver/server/stree.setPrefix").run Tryz.prog w = .ok (232, .pointer (some ⟨b, k.cap, none⟩)) w := by
 cases k <;> kernel_rfl
def addF : Kd → FuncId
 | .k4 => 205 | .k10 => 311 | .k16 => 329 | .k48 => 338
def findF : Kd → FuncId
 | .k4 => 305 | .k10 => 323 | .k16 => 332 | .k48 => 342
def fullF : Kd → FuncId
 | .k4 => 307 | .k10 => 325 | .k16 => 334 | .k48 => 344
def growF : Kd → FuncId
 | .k4 => 306 | .k10 => 324 | .k16 => 333 | .k48 => 343
def kidsF : Kd → FuncId
 | .k4 => 303 | .k10 => 321 | .k16 => 330 | .k48 => 340
theorem addChildN (k : Kd) (a : Option Addr) (w : World) : (method 508 (tyP k) (.pointer a) "pub-tokenroad/pub/natsserver/server/stree.addChild").run Tryz.prog w = .ok (addF k, .pointer a) w := by
 cases k <;> kernel_rfl
theorem findChildN (k : Kd) (a : Option Addr) (w : World) : (method 508 (tyP k) (.pointer a) "pub-tokenroad/pub/natsserver/server/stree.findChild").run Tryz.prog w = .ok (findF k, .pointer a) w := by
 cases k <;> kernel_rfl
theorem isFullN (k : Kd) (a : Option Addr) (w : World) : (method 508 (tyP k) (.pointer a) "pub-tokenroad/pub/natsserver/server/stree.isFull").run Tryz.prog w = .ok (fullF k, .pointer a) w := by
 cases k <;> kernel_rfl
theorem growN (k : Kd) (a : Option Addr) (w : World) : (method 508 (tyP k) (.pointer a) "pub-tokenroad/pub/natsserver/server/stree.grow").run Tryz.prog w = .ok (growF k, .pointer a) w := by
 cases k <;> kernel_rfl
theorem childrenN (k : Kd) (a : Option Addr) (w : World) : (method 508 (tyP k) (.pointer a) "pub-tokenroad/pub/natsserver/server/stree.children").run Tryz.prog w = .ok (kidsF k, .pointer a) w := by
 cases k <;> kernel_rfl
end Go.Proofs.YtehlmjecbljafaaGreatDoor
namespace Go.Proofs.YtehlmjecbljafaaGreatDoor
open Go Go.RowKit
theorem Art.ref_form (t : Art) : ∃ ty b, t.ref = .iface ty (.pointer (some ⟨b, 0, none⟩)) := by
 cases t with
 | leaf b v s => exact ⟨_, _, rfl⟩
 | node k b pre n key kid => exact ⟨_, _, rfl⟩
theorem heap_set_list {w : World} {b i : Nat} {cs : List Value} {t : TypeId} {v : Value} (h : w.heap[b]? = some (.cells cs.toArray t (0, 0))) : (w.setCell ⟨b, i, none⟩ v).heap[b]? = some (.cells (cs.set i v).toArray t (0, 0)) := by
 rw [heap_setCell_same w b i _ t v h, List.setIfInBounds_toArray]
theorem Only.drew2 {F : Nat → Prop} {w w' : World} (h : Only F w w') : Only F w w'.drew := ⟨h.os, h.tape, h.output, h.size, h.block⟩
theorem row_at {w : World} {b j : Nat} {cs : List Value} {t : TypeId} {v : Value} (h : w.heap[b]? = some (.cells cs.toArray t (0, 0))) (e : cs[j]? = some v) : w.cell? ⟨b, j, none⟩ = some v := by
 rw [cell_row h, List.getElem?_toArray]; exact e
theorem row_eq {a b : List Value} {w : World} {g : Nat} {t : TypeId} (h : w.heap[g]? = some (.cells a.toArray t (0, 0))) (e : a = b) : w.heap[g]? = some (.cells b.toArray t (0, 0)) := e ▸ h
/-- Where a kid is found. -/
def Found (n : Nat) (key : Nat → UInt8) (c : UInt8) (b : Nat) (e : Ending) : Prop :=
 (∃ i, i < n ∧ key i = c ∧ e = .returned (.pointer (some ⟨b, i, none⟩))) ∨ ((∀ i, i < n → key i ≠ c) ∧ e = .returned (.pointer none))
set_option maxRecDepth 100000 in
set_option maxHeartbeats 1600000 in
theorem addChild4 (b : Nat) (pre : List UInt8) (n : Nat) (key : Nat → UInt8) (kid : Nat → Art) (c : UInt8) (t : Art) (w : World) (hb : w.heap[b]? = some (.cells (rowN .k4 pre n key kid).toArray 335 (0, 0))) (hn : n < 4) :
  Calls Tryz.prog 205 #[.pointer (some ⟨b, 0, none⟩), .int .u8 (c.toNat : Nat), t.ref] w fun e w' => e = .returned (.tuple #[]) ∧ w'.heap[b]? = some (.cells (rowN .k4 pre (n + 1) (upd key n c) (upd kid n t)).toArray 335 (0, 0)) ∧ Only (· = b) w w' := by
 obtain ⟨ty, tb, e⟩ := t.ref_form
 have hs : w.cell? ⟨b, 5, none⟩ = some (.int .u16 (n : Nat)) := row_at hb rowN_size
 have hk : w.cell? ⟨b, 6 + n, none⟩ = some (.int .u8 0) := row_at hb ((rowN_key (k := .k4) (i := n)).trans ((keyCells_at (by decide) hn).trans (by rw [if_neg (by omega)]; rfl)))
 have hc : w.cell? ⟨b, n, none⟩ = some .nilIface := row_at hb ((rowN_kid (k := .k4) hn).trans (by rw [if_neg (by omega)]))
 have f5 := frozen_row (j := 5) hb
 have f6 := frozen_row (j := 6 + n) hb
 have fn := frozen_row (j := n) hb
 have i1 : (n : Int) < 4 := by omega
 have i0 : (0 : Int) ≤ (n : Int) := by omega
 rw [e]
 go_enter Tryz.func205, Tryz.ntmps205
 go_wp2
 go_region
 go_wp2
 go_region
 go_wp2
 go_end0
 refine ⟨rfl, ?_, ((((Only.refl (· = b) w).set (.inl rfl) _).set (.inl rfl) _).set (.inl rfl) _).drew2.drew2⟩
 rw [← e]
 exact row_eq (heap_set_list (heap_set_list (heap_set_list hb))) (rowN_add (k := .k4) (by decide) hn)
set_option maxRecDepth 100000 in
set_option maxHeartbeats 1600000 in
theorem findChild4 (b : Nat) (pre : List UInt8) (n : Nat) (key : Nat → UInt8) (kid : Nat → Art) (c : UInt8) (w : World) (hb : w.heap[b]? = some (.cells (rowN .k4 pre n key kid).toArray 335 (0, 0))) (hn : n ≤ 4) :
  Calls Tryz.prog 305 #[.pointer (some ⟨b, 0, none⟩), .int .u8 (c.toNat : Nat)] w fun e w' => Found n key c b e ∧ w = w' := by
 have hs : w.cell? ⟨b, 5, none⟩ = some (.int .u16 (n : Nat)) := row_at hb rowN_size
 have hks : ∀ i, i < n → w.cell? ⟨b, 6 + i, none⟩ = some (.int .u8 ((key i).toNat : Nat)) := fun i hi => row_at hb ((rowN_key (k := .k4) (i := i)).trans ((keyCells_at (k := .k4) (by decide) (show i < 4 by omega)).trans (by rw [if_pos hi])))
 have HK := Lib.hid hks; clear hks
 have hn1 : (n : Int) ≤ 4 := by omega
 go_enter Tryz.func305, Tryz.ntmps305
 go_wp2
 go_loop [5] (fun i => ∃ k : Nat, k ≤ n ∧ i = .int .u16 (k : Nat) ∧ Hid (∀ j, j < k → key j ≠ c)) (fun i => n - (intOf i).toNat)
 case atStart => exact ⟨0, Nat.zero_le _, rfl, fun j hj => by omega⟩
 case round =>
  obtain ⟨k, hk, rfl, hno⟩ := hrel
  by_cases hlt : k < n
  ·have hck := HK.out k hlt
   have k1 : (k : Int) < (n : Int) := by omega
   have k2 : (k : Int) < 4 := by omega
   have k3 : (0 : Int) ≤ (k : Int) := by omega
   have k4 : k < 4 := by omega
   by_cases hkey : key k = c
   ·have ek : (((key k).toNat : Int) == (c.toNat : Int)) = true := by rw [hkey]; simp
    have HKE := Lib.hid hkey; clear hkey
    go_wp2
    go_ret
    exact ⟨.inl ⟨k, hlt, HKE.out, rfl⟩, rfl⟩
   ·have ek : (((key k).toNat : Int) == (c.toNat : Int)) = false := by
     rw [beq_eq_false_iff_ne]; intro e; exact hkey (UInt8.toNat_inj.1 (by omega))
    have HKE := Lib.hid hkey; clear hkey
    go_wp2
    go_round
    case rel => exact ⟨k + 1, by omega, by go_num, fun j hj => by
     by_cases e : j = k
     ·subst e; exact HKE.out
     ·exact hno j (by omega)⟩
    case measure => simp [intOf]; omega
  ·obtain rfl : k = n := by omega
   go_wp2
   go_ret
   exact ⟨.inr ⟨fun i hi => hno i hi, rfl⟩, rfl⟩
set_option maxRecDepth 100000 in
set_option maxHeartbeats 800000 in
theorem isFull4 (b : Nat) (pre : List UInt8) (n : Nat) (key : Nat → UInt8) (kid : Nat → Art) (w : World) (hb : w.heap[b]? = some (.cells (rowN .k4 pre n key kid).toArray 335 (0, 0))) :
  Calls Tryz.prog 307 #[.pointer (some ⟨b, 0, none⟩)] w fun e w' => e = .returned (.bool (decide (4 ≤ n))) ∧ w = w' := by
 have hs : w.cell? ⟨b, 5, none⟩ = some (.int .u16 (n : Nat)) := row_at hb rowN_size
 have hd : decide ((n : Int) ≥ 4) = decide (4 ≤ n) := by rw [decide_eq_decide]; omega
 go_enter Tryz.func307, Tryz.ntmps307
 go_wp2
 go_ret
 exact ⟨by rw [← hd]; rfl, rfl⟩
set_option maxRecDepth 100000 in
set_option maxHeartbeats 800000 in
theorem children4 (b : Nat) (pre : List UInt8) (n : Nat) (key : Nat → UInt8) (kid : Nat → Art) (w : World) (hb : w.heap[b]? = some (.cells (rowN .k4 pre n key kid).toArray 335 (0, 0))) (hn : n ≤ 4) :
  Calls Tryz.prog 303 #[.pointer (some ⟨b, 0, none⟩)] w fun e w' => e = .returned (.slice (some ⟨b, 0, none⟩) n 4) ∧ ∃ m, w' = w.drewN m := by
 have hs : w.cell? ⟨b, 5, none⟩ = some (.int .u16 (n : Nat)) := row_at hb rowN_size
 have i1 : (n : Int) ≤ 4 := by omega
 have i0 : (0 : Int) ≤ (n : Int) := by omega
 go_enter Tryz.func303, Tryz.ntmps303
 go_wp2
 go_quiet (fail)
 go_wp2
 go_ret
 exact ⟨rfl, _, rfl⟩
set_option maxRecDepth 100000 in
set_option maxHeartbeats 1600000 in
theorem addChild10 (b : Nat) (pre : List UInt8) (n : Nat) (key : Nat → UInt8) (kid : Nat → Art) (c : UInt8) (t : Art) (w : World) (hb : w.heap[b]? = some (.cells (rowN .k10 pre n key kid).toArray 387 (0, 0))) (hn : n < 10) :
  Calls Tryz.prog 311 #[.pointer (some ⟨b, 0, none⟩), .int .u8 (c.toNat : Nat), t.ref] w fun e w' => e = .returned (.tuple #[]) ∧ w'.heap[b]? = some (.cells (rowN .k10 pre (n + 1) (upd key n c) (upd kid n t)).toArray 387 (0, 0)) ∧ Only (· = b) w w' := by
 obtain ⟨ty, tb, e⟩ := t.ref_form
 have hs : w.cell? ⟨b, 11, none⟩ = some (.int .u16 (n : Nat)) := row_at hb rowN_size
 have hk : w.cell? ⟨b, 12 + n, none⟩ = some (.int .u8 0) := row_at hb ((rowN_key (k := .k10) (i := n)).trans ((keyCells_at (by decide) hn).trans (by rw [if_neg (by omega)]; rfl)))
 have hc : w.cell? ⟨b, n, none⟩ = some .nilIface := row_at hb ((rowN_kid (k := .k10) hn).trans (by rw [if_neg (by omega)]))
 have f5 := frozen_row (j := 11) hb
 have f6 := frozen_row (j := 12 + n) hb
 have fn := frozen_row (j := n) hb
 have i1 : (n : Int) < 10 := by omega
 have i0 : (0 : Int) ≤ (n : Int) := by omega
 rw [e]
 go_enter Tryz.func311, Tryz.ntmps311
 go_wp2
 go_region
 go_wp2
 go_region
 go_wp2
 go_end0
 refine ⟨rfl, ?_, ((((Only.refl (· = b) w).set (.inl rfl) _).set (.inl rfl) _).set (.inl rfl) _).drew2.drew2⟩
 rw [← e]
 exact row_eq (heap_set_list (heap_set_list (heap_set_list hb))) (rowN_add (k := .k10) (by decide) hn)
set_option maxRecDepth 100000 in
set_option maxHeartbeats 1600000 in
theorem findChild10 (b : Nat) (pre : List UInt8) (n : Nat) (key : Nat → UInt8) (kid : Nat → Art) (c : UInt8) (w : World) (hb : w.heap[b]? = some (.cells (rowN .k10 pre n key kid).toArray 387 (0, 0))) (hn : n ≤ 10) :
  Calls Tryz.prog 323 #[.pointer (some ⟨b, 0, none⟩), .int .u8 (c.toNat : Nat)] w fun e w' => Found n key c b e ∧ w = w' := by
 have hs : w.cell? ⟨b, 11, none⟩ = some (.int .u16 (n : Nat)) := row_at hb rowN_size
 have hks : ∀ i, i < n → w.cell? ⟨b, 12 + i, none⟩ = some (.int .u8 ((key i).toNat : Nat)) := fun i hi => row_at hb ((rowN_key (k := .k10) (i := i)).trans ((keyCells_at (k := .k10) (by decide) (show i < 10 by omega)).trans (by rw [if_pos hi])))
 have HK := Lib.hid hks; clear hks
 have hn1 : (n : Int) ≤ 10 := by omega
 go_enter Tryz.func323, Tryz.ntmps323
 go_wp2
 go_loop [5] (fun i => ∃ k : Nat, k ≤ n ∧ i = .int .u16 (k : Nat) ∧ Hid (∀ j, j < k → key j ≠ c)) (fun i => n - (intOf i).toNat)
 case atStart => exact ⟨0, Nat.zero_le _, rfl, fun j hj => by omega⟩
 case round =>
  obtain ⟨k, hk, rfl, hno⟩ := hrel
  by_cases hlt : k < n
  ·have hck := HK.out k hlt
   have k1 : (k : Int) < (n : Int) := by omega
   have k2 : (k : Int) < 10 := by omega
   have k3 : (0 : Int) ≤ (k : Int) := by omega
   have k4 : k < 10 := by omega
   by_cases hkey : key k = c
   ·have ek : (((key k).toNat : Int) == (c.toNat : Int)) = true := by rw [hkey]; simp
    have HKE := Lib.hid hkey; clear hkey
    go_wp2
    go_ret
    exact ⟨.inl ⟨k, hlt, HKE.out, rfl⟩, rfl⟩
   ·have ek : (((key k).toNat : Int) == (c.toNat : Int)) = false := by
     rw [beq_eq_false_iff_ne]; intro e; exact hkey (UInt8.toNat_inj.1 (by omega))
    have HKE := Lib.hid hkey; clear hkey
    go_wp2
    go_round
    case rel => exact ⟨k + 1, by omega, by go_num, fun j hj => by
     by_cases e : j = k
     ·subst e; exact HKE.out
     ·exact hno j (by omega)⟩
    case measure => simp [intOf]; omega
  ·obtain rfl : k = n := by omega
   go_wp2
   go_ret
   exact ⟨.inr ⟨fun i hi => hno i hi, rfl⟩, rfl⟩
set_option maxRecDepth 100000 in
set_option maxHeartbeats 800000 in
theorem isFull10 (b : Nat) (pre : List UInt8) (n : Nat) (key : Nat → UInt8) (kid : Nat → Art) (w : World) (hb : w.heap[b]? = some (.cells (rowN .k10 pre n key kid).toArray 387 (0, 0))) :
  Calls Tryz.prog 325 #[.pointer (some ⟨b, 0, none⟩)] w fun e w' => e = .returned (.bool (decide (10 ≤ n))) ∧ w = w' := by
 have hs : w.cell? ⟨b, 11, none⟩ = some (.int .u16 (n : Nat)) := row_at hb rowN_size
 have hd : decide ((n : Int) ≥ 10) = decide (10 ≤ n) := by rw [decide_eq_decide]; omega
 go_enter Tryz.func325, Tryz.ntmps325
 go_wp2
 go_ret
 exact ⟨by rw [← hd]; rfl, rfl⟩
set_option maxRecDepth 100000 in
set_option maxHeartbeats 800000 in
theorem children10 (b : Nat) (pre : List UInt8) (n : Nat) (key : Nat → UInt8) (kid : Nat → Art) (w : World) (hb : w.heap[b]? = some (.cells (rowN .k10 pre n key kid).toArray 387 (0, 0))) (hn : n ≤ 10) :
  Calls Tryz.prog 321 #[.pointer (some ⟨b, 0, none⟩)] w fun e w' => e = .returned (.slice (some ⟨b, 0, none⟩) n 10) ∧ ∃ m, w' = w.drewN m := by
 have hs : w.cell? ⟨b, 11, none⟩ = some (.int .u16 (n : Nat)) := row_at hb rowN_size
 have i1 : (n : Int) ≤ 10 := by omega
 have i0 : (0 : Int) ≤ (n : Int) := by omega
 go_enter Tryz.func321, Tryz.ntmps321
 go_wp2
 go_quiet (fail)
 go_wp2
 go_ret
 exact ⟨rfl, _, rfl⟩
set_option maxRecDepth 100000 in
set_option maxHeartbeats 1600000 in
theorem addChild16 (b : Nat) (pre : List UInt8) (n : Nat) (key : Nat → UInt8) (kid : Nat → Art) (c : UInt8) (t : Art) (w : World) (hb : w.heap[b]? = some (.cells (rowN .k16 pre n key kid).toArray 396 (0, 0))) (hn : n < 16) :
  Calls Tryz.prog 329 #[.pointer (some ⟨b, 0, none⟩), .int .u8 (c.toNat : Nat), t.ref] w fun e w' => e = .returned (.tuple #[]) ∧ w'.heap[b]? = some (.cells (rowN .k16 pre (n + 1) (upd key n c) (upd kid n t)).toArray 396 (0, 0)) ∧ Only (· = b) w w' := by
 obtain ⟨ty, tb, e⟩ := t.ref_form
 have hs : w.cell? ⟨b, 17, none⟩ = some (.int .u16 (n : Nat)) := row_at hb rowN_size
 have hk : w.cell? ⟨b, 18 + n, none⟩ = some (.int .u8 0) := row_at hb ((rowN_key (k := .k16) (i := n)).trans ((keyCells_at (by decide) hn).trans (by rw [if_neg (by omega)]; rfl)))
 have hc : w.cell? ⟨b, n, none⟩ = some .nilIface := row_at hb ((rowN_kid (k := .k16) hn).trans (by rw [if_neg (by omega)]))
 have f5 := frozen_row (j := 17) hb
 have f6 := frozen_row (j := 18 + n) hb
 have fn := frozen_row (j := n) hb
 have i1 : (n : Int) < 16 := by omega
 have i0 : (0 : Int) ≤ (n : Int) := by omega
 rw [e]
 go_enter Tryz.func329, Tryz.ntmps329
 go_wp2
 go_region
 go_wp2
 go_region
 go_wp2
 go_end0
 refine ⟨rfl, ?_, ((((Only.refl (· = b) w).set (.inl rfl) _).set (.inl rfl) _).set (.inl rfl) _).drew2.drew2⟩
 rw [← e]
 exact row_eq (heap_set_list (heap_set_list (heap_set_list hb))) (rowN_add (k := .k16) (by decide) hn)
set_option maxRecDepth 100000 in
set_option maxHeartbeats 1600000 in
theorem findChild16 (b : Nat) (pre : List UInt8) (n : Nat) (key : Nat → UInt8) (kid : Nat → Art) (c : UInt8) (w : World) (hb : w.heap[b]? = some (.cells (rowN .k16 pre n key kid).toArray 396 (0, 0))) (hn : n ≤ 16) :
  Calls Tryz.prog 332 #[.pointer (some ⟨b, 0, none⟩), .int .u8 (c.toNat : Nat)] w fun e w' => Found n key c b e ∧ w = w' := by
 have hs : w.cell? ⟨b, 17, none⟩ = some (.int .u16 (n : Nat)) := row_at hb rowN_size
 have hks : ∀ i, i < n → w.cell? ⟨b, 18 + i, none⟩ = some (.int .u8 ((key i).toNat : Nat)) := fun i hi => row_at hb ((rowN_key (k := .k16) (i := i)).trans ((keyCells_at (k := .k16) (by decide) (show i < 16 by omega)).trans (by rw [if_pos hi])))
 have HK := Lib.hid hks; clear hks
 have hn1 : (n : Int) ≤ 16 := by omega
 go_enter Tryz.func332, Tryz.ntmps332
 go_wp2
 go_loop [5] (fun i => ∃ k : Nat, k ≤ n ∧ i = .int .u16 (k : Nat) ∧ Hid (∀ j, j < k → key j ≠ c)) (fun i => n - (intOf i).toNat)
 case atStart => exact ⟨0, Nat.zero_le _, rfl, fun j hj => by omega⟩
 case round =>
  obtain ⟨k, hk, rfl, hno⟩ := hrel
  by_cases hlt : k < n
  ·have hck := HK.out k hlt
   have k1 : (k : Int) < (n : Int) := by omega
   have k2 : (k : Int) < 16 := by omega
   have k3 : (0 : Int) ≤ (k : Int) := by omega
   have k4 : k < 16 := by omega
   by_cases hkey : key k = c
   ·have ek : (((key k).toNat : Int) == (c.toNat : Int)) = true := by rw [hkey]; simp
    have HKE := Lib.hid hkey; clear hkey
    go_wp2
    go_ret
    exact ⟨.inl ⟨k, hlt, HKE.out, rfl⟩, rfl⟩
   ·have ek : (((key k).toNat : Int) == (c.toNat : Int)) = false := by
     rw [beq_eq_false_iff_ne]; intro e; exact hkey (UInt8.toNat_inj.1 (by omega))
    have HKE := Lib.hid hkey; clear hkey
    go_wp2
    go_round
    case rel => exact ⟨k + 1, by omega, by go_num, fun j hj => by
     by_cases e : j = k
     ·subst e; exact HKE.out
     ·exact hno j (by omega)⟩
    case measure => simp [intOf]; omega
  ·obtain rfl : k = n := by omega
   go_wp2
   go_ret
   exact ⟨.inr ⟨fun i hi => hno i hi, rfl⟩, rfl⟩
set_option maxRecDepth 100000 in
set_option maxHeartbeats 800000 in
theorem isFull16 (b : Nat) (pre : List UInt8) (n : Nat) (key : Nat → UInt8) (kid : Nat → Art) (w : World) (hb : w.heap[b]? = some (.cells (rowN .k16 pre n key kid).toArray 396 (0, 0))) :
  Calls Tryz.prog 334 #[.pointer (some ⟨b, 0, none⟩)] w fun e w' => e = .returned (.bool (decide (16 ≤ n))) ∧ w = w' := by
 have hs : w.cell? ⟨b, 17, none⟩ = some (.int .u16 (n : Nat)) := row_at hb rowN_size
 have hd : decide ((n : Int) ≥ 16) = decide (16 ≤ n) := by rw [decide_eq_decide]; omega
 go_enter Tryz.func334, Tryz.ntmps334
 go_wp2
 go_ret
 exact ⟨by rw [← hd]; rfl, rfl⟩
set_option maxRecDepth 100000 in
set_option maxHeartbeats 800000 in
theorem children16 (b : Nat) (pre : List UInt8) (n : Nat) (key : Nat → UInt8) (kid : Nat → Art) (w : World) (hb : w.heap[b]? = some (.cells (rowN .k16 pre n key kid).toArray 396 (0, 0))) (hn : n ≤ 16) :
  Calls Tryz.prog 330 #[.pointer (some ⟨b, 0, none⟩)] w fun e w' => e = .returned (.slice (some ⟨b, 0, none⟩) n 16) ∧ ∃ m, w' = w.drewN m := by
 have hs : w.cell? ⟨b, 17, none⟩ = some (.int .u16 (n : Nat)) := row_at hb rowN_size
 have i1 : (n : Int) ≤ 16 := by omega
 have i0 : (0 : Int) ≤ (n : Int) := by omega
 go_enter Tryz.func330, Tryz.ntmps330
 go_wp2
 go_quiet (fail)
 go_wp2
 go_ret
 exact ⟨rfl, _, rfl⟩
end Go.Proofs.YtehlmjecbljafaaGreatDoor
