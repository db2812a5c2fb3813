/- A subject tree: an insertion below a node; what it comes to. A subject tree: an insertion at a node: the walks. -/
import Derived.Test.YtehlmjecbljafaaGreatDoorR18
namespace Go.Proofs.YtehlmjecbljafaaGreatDoor
open Go Go.RowKit
section
variable {k : Kd} {nb n : Nat} {pre l0 : List UInt8} {key : Nat → UInt8} {kid : Nat → Art} {si : Nat} {v : Value} {sb so : Nat} {cs : Array Value} {ty : TypeId} {w W w' : World} {c : Nat} {x : Int} {e : Ending}
theorem slot_kid (hc : c < n) (hn : n ≤ k.cap) : (rowN k pre n key kid).toArray[c]? = some (kid c).ref := by
 rw [List.getElem?_toArray, rowN_kid (by omega), if_pos hc]
/-- What stands ahead of the insertion below. -/
theorem rec_pre (h : InsH (.node k nb pre n key kid) l0 si v sb so cs ty w) (hb : Below w.heap.size w W) (hc : c < n) (hp : si + pre.length ≤ l0.length) :
  InsH (kid c) l0 (si + pre.length) v nb c (rowN k pre n key kid).toArray (tyN k) W where
 row := (hb.block nb (h.at'.lt nb (.inl rfl))).trans h.at'.1
 slot := slot_kid hc h.wf.2.1
 at' := (h.at'.2 c hc).keep fun x hx => hb.block x (h.at'.lt x (.inr ⟨c, hc, hx⟩))
 sep := (h.sep.1 c hc).1
 wf := (h.wf.2.2.1 c hc).1
 nsb := (h.sep.1 c hc).2
 small := h.small.2 c hc
 n127 := fun e he hm => h.n127 (shift pre e) (mem_node.2 ⟨c, hc, e, he, rfl⟩) (by simp [shift, hm])
 m127 := h.m127
 txt := h.txt.keep hb
 far := fun b o n' c' e => ⟨fun hx => (h.far b o n' c' e).1 (.inr ⟨c, hc, hx⟩), fun hx => (h.far b o n' c' e).1 (.inl hx)⟩
 le := hp
 size := h.size
theorem pre_split (hp : pre <+: l0.drop si) : l0.drop si = pre ++ l0.drop (si + pre.length) := by
 obtain ⟨y, hy⟩ := hp
 rw [← hy, ← List.drop_drop, ← hy, List.drop_left]
theorem pre_len (hp : pre <+: l0.drop si) (hs : si ≤ l0.length) : si + pre.length ≤ l0.length := by
 have := hp.length_le; rw [List.length_drop] at this; omega
/-- What the insertion below comes to. -/
theorem rec_done (h : InsH (.node k nb pre n key kid) l0 si v sb so cs ty w) (hb : Below w.heap.size w W) (hc : c < n) (hp : pre <+: l0.drop si) (hk : key c = piv (l0.drop (si + pre.length)))
  (hi : InsC (kid c) (l0.drop (si + pre.length)) x nb c (rowN k pre n key kid).toArray (tyN k) W e w') : InsC (.node k nb pre n key kid) (l0.drop si) x sb so cs ty w e w' := by
 obtain ⟨o, u, t', rfl, ho, hrow, hat, hsep, hins, hu, hfp, hon⟩ := hi
 have hn := h.wf.2.1
 have hz := hb.size
 have hr := ins_rec h.wf hc hk hins
 rw [← pre_split hp] at hr
 have hfk : ∀ y, (kid c).Fp y → (Art.node k nb pre n key kid).Fp y := fun y hy => .inr ⟨c, hc, hy⟩
 have hsb : ¬ ((kid c).Fp sb ∨ sb = nb) := by
  rintro (h1 | h1)
  ·exact h.nsb (hfk _ h1)
  ·exact h.nsb (.inl h1)
 have hsl := (Array.getElem?_eq_some_iff.1 h.row).1
 have hnbl := h.at'.lt nb (.inl rfl)
 have hoth : ∀ i, i < n → i ≠ c → (kid i).At w' := fun i hi hic => (h.at'.2 i hi).keep fun y hy => by
  have hy1 := h.at'.lt y (.inr ⟨i, hi, hy⟩)
  refine (hon.block y (by omega) ?_).trans (hb.block y hy1)
  rintro (h1 | rfl)
  ·exact h.sep.2 i c hi hc hic y hy h1
  ·exact (h.sep.1 i hi).2 hy
 refine ⟨o, u, .node k nb pre n key (upd kid c t'), rfl, ho, ?_, ⟨?_, fun i hi => ?_⟩, ⟨fun i hi => ?_, fun i j hi hj hij y h1 h2 => ?_⟩, hr, ?_, fun y hy => ?_, ?_⟩
 ·rw [set_self (show cs[so]? = some (Art.node k nb pre n key (upd kid c t')).ref from h.slot), hon.block sb (by omega) hsb, hb.block sb hsl]
  exact h.row
 ·rw [hrow, List.setIfInBounds_toArray, rowN_set hc hn]
 ·by_cases hic : i = c
  ·subst hic; rw [upd_same]; exact hat
  ·rw [upd_ne _ _ hic]; exact hoth i hi hic
 ·by_cases hic : i = c
  ·subst hic
   rw [upd_same]
   exact ⟨hsep, fun hx => by rcases hfp nb hx with h1 | h1; exact (h.sep.1 i hi).2 h1; omega⟩
  ·rw [upd_ne _ _ hic]; exact h.sep.1 i hi
 ·by_cases hic : i = c
  ·by_cases hjc : j = c
   ·exact hij (hic.trans hjc.symm)
   ·rw [hic, upd_same] at h1; rw [upd_ne _ _ hjc] at h2
    rcases hfp y h1 with h3 | h3
    ·exact h.sep.2 c j hc hj (fun e => hjc e.symm) y h3 h2
    ·have := h.at'.lt y (.inr ⟨j, hj, h2⟩); omega
  ·rw [upd_ne _ _ hic] at h1
   by_cases hjc : j = c
   ·rw [hjc, upd_same] at h2
    rcases hfp y h2 with h3 | h3
    ·exact h.sep.2 i c hi hc hic y h1 h3
    ·have := h.at'.lt y (.inr ⟨i, hi, h1⟩); omega
   ·rw [upd_ne _ _ hjc] at h2
    exact h.sep.2 i j hi hj hij y h1 h2
 ·rw [hu]
  constructor
  ·rintro ⟨z, hz⟩; exact ⟨z, mem_node.2 ⟨c, hc, _, hz, by simp only [shift]; rw [← pre_split hp]⟩⟩
  ·rintro ⟨z, hz⟩
   obtain ⟨i, hi, y, hy, he⟩ := mem_node.1 hz
   simp only [shift, Prod.mk.injEq] at he
   obtain ⟨he1, he2⟩ := he
   rw [pre_split hp] at he1
   have he1 := List.append_cancel_left he1
   obtain ⟨-, p1, p2⟩ := h.wf.2.2.1 i hi
   have := kid_piv p1 p2 hy
   rw [← he1, ← hk] at this
   obtain rfl := h.wf.2.2.2 c i hc hi this
   exact ⟨y.2, by rw [he1]; exact hy⟩
 ·rcases hy with rfl | ⟨i, hi, hy⟩
  ·exact .inl (.inl rfl)
  ·by_cases hic : i = c
   ·subst hic
    rw [upd_same] at hy
    rcases hfp y hy with h1 | h1
    ·exact .inl (hfk _ h1)
    ·exact .inr (by omega)
   ·rw [upd_ne _ _ hic] at hy; exact .inl (.inr ⟨i, hi, hy⟩)
 ·refine (Only.of (F := fun z => (Art.node k nb pre n key kid).Fp z ∨ z = sb) hb).trans hon fun y hy => ?_
  rcases hy with h1 | rfl
  ·exact .inl (.inl (hfk _ h1))
  ·exact .inl (.inl (.inl rfl))
/-- What a new kid comes to: at a node that lies at nb' with the old kids. -/
theorem add_done {k' : Kd} {nb' NL : Nat} (h : InsH (.node k nb pre n key kid) l0 si v sb so cs ty w) (hp : pre <+: l0.drop si) (hno : ∀ i, i < n → key i ≠ piv (l0.drop (si + pre.length))) (hcap : n < k'.cap) (hlow : k'.low ≤ n + 1)
  (hnb : nb' = nb ∨ w.heap.size ≤ nb') (hNL : w.heap.size ≤ NL) (hne : nb' ≠ NL)
  (hrow : w'.heap[nb']? = some (.cells (rowN k' pre (n + 1) (upd key n (piv (l0.drop (si + pre.length)))) (upd kid n (.leaf NL x (l0.drop (si + pre.length))))).toArray (tyN k') (0, 0)))
  (hleaf : w'.heap[NL]? = some (.cells #[.int .i64 x, .string (mk (l0.drop (si + pre.length)))] 199 (0, 0)))
  (hsr : w'.heap[sb]? = some (.cells (cs.setIfInBounds so (.iface (tyP k') (.pointer (some ⟨nb', 0, none⟩)))) ty (0, 0))) (hon : Only (fun z => z = nb ∨ z = sb) w w') :
  InsC (.node k nb pre n key kid) (l0.drop si) x sb so cs ty w (.returned (.tuple #[.pointer none, .bool false])) w' := by
 have hn := h.wf.2.1
 have hr := ins_add (k' := k') (b' := nb') (nl := NL) (v := x) h.wf hcap hlow hno
 rw [← pre_split hp] at hr
 have hnbl := h.at'.lt nb (.inl rfl)
 have hkl : ∀ i, i < n → ∀ y, (kid i).Fp y → y < w.heap.size := fun i hi y hy => h.at'.lt y (.inr ⟨i, hi, hy⟩)
 have hoth : ∀ i, i < n → (kid i).At w' := fun i hi => (h.at'.2 i hi).keep fun y hy => hon.block y (hkl i hi y hy) (by
  rintro (rfl | rfl)
  ·exact (h.sep.1 i hi).2 hy
  ·exact h.nsb (.inr ⟨i, hi, hy⟩))
 have hnk : ∀ i, i < n → ¬ (kid i).Fp nb' := fun i hi hx => by
  rcases hnb with rfl | h1
  ·exact (h.sep.1 i hi).2 hx
  ·have := hkl i hi _ hx; omega
 refine ⟨.pointer none, false, .node k' nb' pre (n + 1) (upd key n (piv (l0.drop (si + pre.length)))) (upd kid n (.leaf NL x (l0.drop (si + pre.length)))), rfl, .inl rfl, hsr, ⟨hrow, fun i hi => ?_⟩, ⟨fun i hi => ?_, fun i j hi hj hij y h1 h2 => ?_⟩, hr, ⟨(fun h => nomatch h), ?_⟩, fun y hy => ?_, ?_⟩
 ·by_cases hin : i = n
  ·subst hin; rw [upd_same]; exact hleaf
  ·rw [upd_ne _ _ hin]; exact hoth i (by omega)
 ·by_cases hin : i = n
  ·subst hin; rw [upd_same]; exact ⟨trivial, hne⟩
  ·rw [upd_ne _ _ hin]; exact ⟨(h.sep.1 i (by omega)).1, hnk i (by omega)⟩
 ·by_cases hin : i = n
  ·by_cases hjn : j = n
   ·omega
   ·rw [hin, upd_same] at h1; rw [upd_ne _ _ hjn] at h2
    have h1 : y = NL := h1
    have := hkl j (by omega) y h2; omega
  ·rw [upd_ne _ _ hin] at h1
   by_cases hjn : j = n
   ·rw [hjn, upd_same] at h2
    have h2 : y = NL := h2
    have := hkl i (by omega) y h1; omega
   ·rw [upd_ne _ _ hjn] at h2
    exact h.sep.2 i j (by omega) (by omega) hij y h1 h2
 ·rintro ⟨z, hz⟩
  obtain ⟨i, hi, y, hy, he⟩ := mem_node.1 hz
  simp only [shift, Prod.mk.injEq] at he
  obtain ⟨he1, he2⟩ := he
  rw [pre_split hp] at he1
  have he1 := List.append_cancel_left he1
  obtain ⟨-, p1, p2⟩ := h.wf.2.2.1 i hi
  have := kid_piv p1 p2 hy
  rw [← he1] at this
  exact absurd this.symm (hno i hi)
 ·rcases hy with rfl | ⟨i, hi, hy⟩
  ·rcases hnb with rfl | h1
   ·exact .inl (.inl rfl)
   ·exact .inr h1
  ·by_cases hin : i = n
   ·subst hin; rw [upd_same] at hy
    have hy : y = NL := hy
    exact .inr (by omega)
   ·rw [upd_ne _ _ hin] at hy; exact .inl (.inr ⟨i, by omega, hy⟩)
 ·exact hon.mono fun z hz => by rcases hz with rfl | rfl; exact .inl (.inl rfl); exact .inr rfl
end
/-- A node that is full grows. -/
theorem nodeGrow_any (k : Kd) (b : Nat) (pre : List UInt8) (n : Nat) (key : Nat → UInt8) (kid : Nat → Art) (w : World) (hb : w.heap[b]? = some (.cells (rowN k pre n key kid).toArray (tyN k) (0, 0))) (hn : n = k.cap) (h48 : n < 48) :
  Calls Tryz.prog (growF k) #[.pointer (some ⟨b, 0, none⟩)] w fun e w' => ∃ k', (n < k'.cap ∧ k'.low ≤ n + 1) ∧ e = .returned (.iface (tyP k') (.pointer (some ⟨w.heap.size, 0, none⟩))) ∧ w'.heap[w.heap.size]? = some (.cells (rowN k' pre n key kid).toArray (tyN k') (0, 0)) ∧ Below w.heap.size w w' := by
 subst hn
 cases k
 ·exact (grow4 b pre key kid w hb).mono fun e w' ⟨h1, h2, h3⟩ => ⟨.k10, by decide, h1, h2, h3⟩
 ·exact (grow10 b pre key kid w hb).mono fun e w' ⟨h1, h2, h3⟩ => ⟨.k16, by decide, h1, h2, h3⟩
 ·exact (grow16 b pre key kid w hb).mono fun e w' ⟨h1, h2, h3⟩ => ⟨.k48, by decide, h1, h2, h3⟩
 ·exact absurd h48 (by decide)
end Go.Proofs.YtehlmjecbljafaaGreatDoor
namespace Go.Proofs.YtehlmjecbljafaaGreatDoor
open Go Go.RowKit
theorem nodeNe (k : Kd) (p : Value) (w : World) : (binOp .eql 137 (.iface (tyP k) p) .nilIface).run Tryz.prog w = .ok (.bool false) w := by cases k <;> kernel_rfl
theorem cpl_pre : ∀ {p l : List UInt8}, p <+: l → cpl p l = p.length
 | [], l, _ => by simp [cpl]
 | a :: p, [], h => by simp at h
 | a :: p, b :: l, h => by
  obtain ⟨rfl, h2⟩ := List.cons_prefix_cons.1 h
  rw [cpl, if_pos rfl, cpl_pre h2]; rfl
theorem cpl_lt {p l : List UInt8} (h : ¬ p <+: l) : cpl p l < p.length := by
 have h1 := (cpl_le p l).1
 rcases Nat.lt_or_ge (cpl p l) p.length with h2 | h2
 ·exact h2
 ·exfalso
  have h3 := cpl_take p l
  rw [List.take_of_length_le h2] at h3
  exact h (h3 ▸ List.take_prefix _ _)
theorem callFind (k : Kd) (args : Array Value) (w : World) : (callFunc (findF k) args).run Tryz.prog w = .ok (.enter (findF k) args) w := by cases k <;> kernel_rfl
theorem callAdd (k : Kd) (args : Array Value) (w : World) : (callFunc (addF k) args).run Tryz.prog w = .ok (.enter (addF k) args) w := by cases k <;> kernel_rfl
theorem callFull (k : Kd) (args : Array Value) (w : World) : (callFunc (fullF k) args).run Tryz.prog w = .ok (.enter (fullF k) args) w := by cases k <;> kernel_rfl
theorem callGrow (k : Kd) (args : Array Value) (w : World) : (callFunc (growF k) args).run Tryz.prog w = .ok (.enter (growF k) args) w := by cases k <;> kernel_rfl
set_option maxRecDepth 100000 in
set_option maxHeartbeats 12800000 in
theorem insFound_any (t : Value) (k : Kd) (nb n : Nat) (pre l0 : List UInt8) (key : Nat → UInt8) (kid : Nat → Art) (si : Nat) (v : Value) (sb so : Nat) (cs : Array Value) (ty : TypeId) (w : World) (x : Int) (h : InsH (.node k nb pre n key kid) l0 si v sb so cs ty w) (hpl : pre.length ≤ 100000) (hp : pre <+: l0.drop si) (hp1 : pre ≠ []) (c : Nat) (hc : c < n) (hk : key c = piv (l0.drop (si + pre.length)))
  (ih : ∀ W, InsH (kid c) l0 (si + pre.length) v nb c (rowN k pre n key kid).toArray (tyN k) W → Calls Tryz.prog 157 #[t, .pointer (some ⟨nb, c, none⟩), v, .int .i64 x, .int .i64 ((si + pre.length : Nat) : Int)] W (InsC (kid c) (l0.drop (si + pre.length)) x nb c (rowN k pre n key kid).toArray (tyN k) W)) :
  Calls Tryz.prog 157 #[t, .pointer (some ⟨sb, so, none⟩), v, .int .i64 x, .int .i64 si] w (InsC (.node k nb pre n key kid) (l0.drop si) x sb so cs ty w) := by
 obtain ⟨a, cap, rfl⟩ := h.txt.form
 have hsc : w.cell? ⟨sb, so, none⟩ = some (.iface (tyP k) (.pointer (some ⟨nb, 0, none⟩))) := h.cell
 have hrow := h.at'.1
 have hp0 : w.cell? ⟨nb, k.cap, none⟩ = some (.string (mk pre)) := row_at hrow rowN_pre
 have hms : (mk pre).size = pre.length := mk_size pre
 have hslt := (Array.getElem?_eq_some_iff.1 h.row).1
 have hnlt := h.at'.lt nb (.inl rfl)
 have hle := h.le
 have hsz := h.size
 have iL : ∀ w, (method 508 (tyP k) (.pointer (some ⟨nb, 0, none⟩)) "pub-tokenroad/pub/natsserver/server/stree.isLeaf").run Tryz.prog w = .ok (299, .pointer (some ⟨nb, k.cap, none⟩)) w := fun w => isLeafN k nb w
 have iB : ∀ w, (method 508 (tyP k) (.pointer (some ⟨nb, 0, none⟩)) "pub-tokenroad/pub/natsserver/server/stree.base").run Tryz.prog w = .ok (298, .pointer (some ⟨nb, k.cap, none⟩)) w := fun w => baseN k nb w
 have iF : ∀ w, (method 508 (tyP k) (.pointer (some ⟨nb, 0, none⟩)) "pub-tokenroad/pub/natsserver/server/stree.findChild").run Tryz.prog w = .ok (findF k, .pointer (some ⟨nb, 0, none⟩)) w := fun w => findChildN k _ w
 have iU : ∀ w, (method 508 (tyP k) (.pointer (some ⟨nb, 0, none⟩)) "pub-tokenroad/pub/natsserver/server/stree.isFull").run Tryz.prog w = .ok (fullF k, .pointer (some ⟨nb, 0, none⟩)) w := fun w => isFullN k _ w
 have iCF := fun (args : Array Value) (w : World) => callFind k args w
 have iCU := fun (args : Array Value) (w : World) => callFull k args w
 have qN : ∀ w, (binOp .eql 137 (.iface (tyP k) (.pointer (some ⟨nb, 0, none⟩))) .nilIface).run Tryz.prog w = .ok (.bool false) w := fun w => nodeNe k _ w
 have hlp : (pre.length : Int) > 0 := by have := List.length_pos_iff.2 hp1; omega
 have hpl2 := pre_len hp hle
 obtain ⟨sa, hrun, hsub⟩ := from_run a l0.length cap si hle
 have hcp : cpl pre (l0.drop si) = pre.length := cpl_pre hp
 rw [Int.natCast_add] at ih
 have HIH := Lib.hid ih; clear ih
 have HK := Lib.hid hk; clear hk
 have HPP := Lib.hid hp; clear hp
 have HH := Lib.hid h; clear h
 have HC := Lib.hid hcp; clear hcp
 have HS1 := Lib.hid hsub; clear hsub
 have HROW := Lib.hid hrow; clear hrow
 go_enter Tryz.func157, Tryz.ntmps157
 go_wp2_with fail
 refine (nodeIs_any _ w).mono ?_
 rintro e w1 ⟨rfl, rfl⟩
 go_wp2_with fail
 refine (base_any _ w).mono ?_
 rintro e w1 ⟨rfl, rfl⟩
 go_wp2_with fail
 refine wp_region_L [0, 1, 2, 3, 5, 6, 7] (fun W' => W'.cell? ⟨nb, k.cap, none⟩ = some (.string (mk pre))) (by kernel_rfl) (by kernel_rfl) hp0 (fun ne => ?_)
 have S0 := fun x : SubC (fun W' => W'.cell? ⟨nb, k.cap, none⟩ = some (.string (mk pre))) => x.ok
 repeat (refine wpCL_q rfl rfl ?_; go_big_quiet_step (fail); refine wpQuiet_nil ?_)
 refine wpCL_n rfl rfl rfl rfl ?_
 go_simp
 repeat (refine wpCL_q rfl rfl ?_; go_big_quiet_step (fail); refine wpQuiet_nil ?_)
 refine wpCL_ch rfl rfl (fun K hK => ?_)
 go_simp
 simp only [runsTo_enter]
 refine (s2bL pre w.drew hpl).mono ?_
 rintro e w3 ⟨a3, c3, rfl, hs3, hb3⟩
 have hb3 := bel_drew hb3
 refine ⟨_, rfl, hK _ _ ⟨⟨w3, cell_bel hp0 hb3⟩, rfl⟩ ?_⟩
 clear hK K
 go_simp
 repeat (refine wpCL_q rfl rfl ?_; go_big_quiet_step (fail); refine wpQuiet_nil ?_)
 refine wpCL_ch rfl rfl (fun K hK => ?_)
 go_simp
 simp only [runsTo_enter]
 refine (cpl_any _ _ pre (l0.drop si) w3 hs3 (HS1.out w3 l0 (HH.out.txt.keep hb3) rfl)).mono ?_
 rintro e w4 ⟨rfl, hb4⟩
 rw [HC.out]
 have hbw4 := bel2 hb3 hb4
 have hp4 := cell_bel (cell_bel hp0 hb3) hb4
 refine ⟨_, rfl, hK _ _ ⟨⟨w4, hp4⟩, rfl⟩ ?_⟩
 clear hK K S0 ne hs3 hb3 hb4 hp0 hsc hrun
 go_simp
 refine wpCL_last ?_
 have hrow4 := (hbw4.block nb hnlt).trans HROW.out
 have ht4 := HH.out.txt.keep hbw4
 have hpv := pivot_any _ l0 (si + pre.length) w4.drew (ht4.keep (Below.refl _ w4).drew)
 rw [Int.natCast_add] at hpv
 have hfc := findChild_any k nb pre n key kid (piv (l0.drop (si + pre.length))) w4.drew hrow4 HH.out.wf.2.1
 generalize hpb : piv (l0.drop (si + pre.length)) = pb at *
 have HT4 := Lib.hid ht4; clear ht4
 have HR4 := Lib.hid hrow4; clear hrow4
 have HPB := Lib.hid hpb; clear hpb
 go_wp2_with fail
 refine wp_region_L [0, 1, 2, 4, 5, 6] (fun _ => True) (by kernel_rfl) (by kernel_rfl) trivial (fun ne => ?_)
 repeat (refine wpCL_q rfl rfl ?_; go_big_quiet_step (fail); refine wpQuiet_nil ?_)
 refine wpCL_ch rfl rfl (fun K hK => ?_)
 go_simp
 simp only [runsTo_enter]
 refine hpv.mono ?_
 rintro e w5 ⟨rfl, hw5⟩
 refine ⟨_, rfl, hK _ _ ⟨⟨w5, trivial⟩, rfl⟩ ?_⟩
 clear hK K
 go_simp
 refine wpCL_mf rfl rfl rfl rfl ?_
 go_simp
 refine wpCL_nm rfl rfl (nilFind k nb) rfl rfl ?_
 go_simp
 repeat (refine wpCL_q rfl rfl ?_; go_big_quiet_step (fail); refine wpQuiet_nil ?_)
 refine wpCL_ch rfl rfl (fun K hK => ?_)
 go_simp
 simp only [runsTo_enter]
 rw [← hw5]
 refine hfc.mono ?_
 rintro e w6 ⟨hfound, hw6⟩
 obtain rfl : e = .returned (.pointer (some ⟨nb, c, none⟩)) := by
  rcases hfound with ⟨i, hi, hki, he⟩ | ⟨hno, -⟩
  ·obtain rfl := HH.out.wf.2.2.2 i c hi hc (hki.trans HK.out.symm); exact he
  ·exact absurd HK.out (hno c hc)
 refine ⟨_, rfl, hK _ _ ⟨⟨w6, trivial⟩, rfl⟩ ?_⟩
 clear hK K hfound hfc hpv
 go_simp
 have hbw6 : Below w.heap.size w w6 := by rw [← hw6]; exact hbw4.drew
 clear hw6 hw5
 refine wpCL_last ?_
 go_wp2_with fail
 refine (HIH.out w6 (rec_pre HH.out hbw6 hc hpl2)).mono ?_
 rintro e w7 hi
 have HI := Lib.hid hi
 obtain ⟨o, u, T', rfl, -⟩ := hi
 go_wp2
 go_ret2
 exact rec_done HH.out hbw6 hc HPP.out (HK.out.trans HPB.out.symm) HI.out
set_option maxRecDepth 100000 in
set_option maxHeartbeats 12800000 in
theorem insFound0_any (t : Value) (k : Kd) (nb n : Nat) (pre l0 : List UInt8) (key : Nat → UInt8) (kid : Nat → Art) (si : Nat) (v : Value) (sb so : Nat) (cs : Array Value) (ty : TypeId) (w : World) (x : Int) (h : InsH (.node k nb pre n key kid) l0 si v sb so cs ty w) (hpl : pre.length ≤ 100000) (hp1 : pre = []) (c : Nat) (hc : c < n) (hk : key c = piv (l0.drop si))
  (ih : ∀ W, InsH (kid c) l0 (si + pre.length) v nb c (rowN k pre n key kid).toArray (tyN k) W → Calls Tryz.prog 157 #[t, .pointer (some ⟨nb, c, none⟩), v, .int .i64 x, .int .i64 si] W (InsC (kid c) (l0.drop si) x nb c (rowN k pre n key kid).toArray (tyN k) W)) :
  Calls Tryz.prog 157 #[t, .pointer (some ⟨sb, so, none⟩), v, .int .i64 x, .int .i64 si] w (InsC (.node k nb pre n key kid) (l0.drop si) x sb so cs ty w) := by
 obtain ⟨a, cap, rfl⟩ := h.txt.form
 have hsc : w.cell? ⟨sb, so, none⟩ = some (.iface (tyP k) (.pointer (some ⟨nb, 0, none⟩))) := h.cell
 have hrow := h.at'.1
 have hp0 : w.cell? ⟨nb, k.cap, none⟩ = some (.string (mk pre)) := row_at hrow rowN_pre
 have hms : (mk pre).size = pre.length := mk_size pre
 have hslt := (Array.getElem?_eq_some_iff.1 h.row).1
 have hnlt := h.at'.lt nb (.inl rfl)
 have hle := h.le
 have hsz := h.size
 have iL : ∀ w, (method 508 (tyP k) (.pointer (some ⟨nb, 0, none⟩)) "pub-tokenroad/pub/natsserver/server/stree.isLeaf").run Tryz.prog w = .ok (299, .pointer (some ⟨nb, k.cap, none⟩)) w := fun w => isLeafN k nb w
 have iB : ∀ w, (method 508 (tyP k) (.pointer (some ⟨nb, 0, none⟩)) "pub-tokenroad/pub/natsserver/server/stree.base").run Tryz.prog w = .ok (298, .pointer (some ⟨nb, k.cap, none⟩)) w := fun w => baseN k nb w
 have iF : ∀ w, (method 508 (tyP k) (.pointer (some ⟨nb, 0, none⟩)) "pub-tokenroad/pub/natsserver/server/stree.findChild").run Tryz.prog w = .ok (findF k, .pointer (some ⟨nb, 0, none⟩)) w := fun w => findChildN k _ w
 have iU : ∀ w, (method 508 (tyP k) (.pointer (some ⟨nb, 0, none⟩)) "pub-tokenroad/pub/natsserver/server/stree.isFull").run Tryz.prog w = .ok (fullF k, .pointer (some ⟨nb, 0, none⟩)) w := fun w => isFullN k _ w
 have iCF := fun (args : Array Value) (w : World) => callFind k args w
 have iCU := fun (args : Array Value) (w : World) => callFull k args w
 have qN : ∀ w, (binOp .eql 137 (.iface (tyP k) (.pointer (some ⟨nb, 0, none⟩))) .nilIface).run Tryz.prog w = .ok (.bool false) w := fun w => nodeNe k _ w
 have hlp : ¬ (pre.length : Int) > 0 := by rw [hp1]; simp
 have hpp : pre <+: l0.drop si := by rw [hp1]; exact List.nil_prefix
 have hl0 : si + pre.length = si := by rw [hp1]; rfl
 have HL0 := Lib.hid hl0; clear hl0
 have HIH := Lib.hid ih; clear ih
 have HPP := Lib.hid hpp; clear hpp
 have HP1 := Lib.hid hp1; clear hp1
 have hpv := pivot_any _ l0 si w.drew (h.txt.keep (Below.refl _ w).drew)
 have hfc := findChild_any k nb pre n key kid (piv (l0.drop si)) w.drew hrow h.wf.2.1
 have HK := Lib.hid hk; clear hk
 have HH := Lib.hid h; clear h
 have HROW := Lib.hid hrow; clear hrow
 generalize hpb : piv (l0.drop si) = pb at *
 have HPB := Lib.hid hpb; clear hpb
 go_enter Tryz.func157, Tryz.ntmps157
 go_wp2_with fail
 refine (nodeIs_any _ w).mono ?_
 rintro e w1 ⟨rfl, rfl⟩
 go_wp2_with fail
 refine (base_any _ w).mono ?_
 rintro e w1 ⟨rfl, rfl⟩
 go_wp2_with fail
 refine wp_region_L [0, 1, 2, 4, 5, 6] (fun _ => True) (by kernel_rfl) (by kernel_rfl) trivial (fun ne => ?_)
 repeat (refine wpCL_q rfl rfl ?_; go_big_quiet_step (fail); refine wpQuiet_nil ?_)
 refine wpCL_ch rfl rfl (fun K hK => ?_)
 go_simp
 simp only [runsTo_enter]
 refine hpv.mono ?_
 rintro e w5 ⟨rfl, hw5⟩
 refine ⟨_, rfl, hK _ _ ⟨⟨w5, trivial⟩, rfl⟩ ?_⟩
 clear hK K
 go_simp
 refine wpCL_mf rfl rfl rfl rfl ?_
 go_simp
 refine wpCL_nm rfl rfl (nilFind k nb) rfl rfl ?_
 go_simp
 repeat (refine wpCL_q rfl rfl ?_; go_big_quiet_step (fail); refine wpQuiet_nil ?_)
 refine wpCL_ch rfl rfl (fun K hK => ?_)
 go_simp
 simp only [runsTo_enter]
 rw [← hw5]
 refine hfc.mono ?_
 rintro e w6 ⟨hfound, hw6⟩
 obtain rfl : e = .returned (.pointer (some ⟨nb, c, none⟩)) := by
  rcases hfound with ⟨i, hi, hki, he⟩ | ⟨hno, -⟩
  ·obtain rfl := HH.out.wf.2.2.2 i c hi hc (hki.trans HK.out.symm); exact he
  ·exact absurd HK.out (hno c hc)
 refine ⟨_, rfl, hK _ _ ⟨⟨w6, trivial⟩, rfl⟩ ?_⟩
 clear hK K hfound hfc hpv
 go_simp
 have hbw6 : Below w.heap.size w w6 := by rw [← hw6]; exact (Below.refl _ w).drew
 clear hw6 hw5
 refine wpCL_last ?_
 go_wp2_with fail
 refine (HIH.out w6 (rec_pre HH.out hbw6 hc (by rw [HL0.out]; exact hle))).mono ?_
 rintro e w7 hi
 have HI := Lib.hid hi
 obtain ⟨o, u, T', rfl, -⟩ := hi
 go_wp2
 go_ret2
 exact rec_done HH.out hbw6 hc HPP.out (by rw [HL0.out]; exact HK.out.trans HPB.out.symm) (by rw [HL0.out]; exact HI.out)
end Go.Proofs.YtehlmjecbljafaaGreatDoor
