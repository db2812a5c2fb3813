/- A subject tree: a deletion at a node. A subject tree: a deletion at a node that bears a text. A subject tree made by deeds: Delete. -/
import Derived.Test.YtehlmjecbljafaaGreatDoorR19
import Derived.Test.YtehlmjecbljafaaGreatDoorR21
import Derived.Test.YtehlmjecbljafaaGreatDoorR40
namespace Go.Proofs.YtehlmjecbljafaaGreatDoor
open Go Go.RowKit
theorem mk_app (a b : List UInt8) : mk a ++ mk b = mk (a ++ b) := by
 apply ByteArray.ext
 simp [mk]
set_option maxRecDepth 100000 in
set_option maxHeartbeats 12800000 in
theorem delNode0_any (tb : Nat) (k : Kd) (nb n : Nat) (pre l0 : List UInt8) (key : Nat → UInt8) (kid : Nat → Art) (si : Nat) (v : Value) (sb so : Nat) (cs : Array Value) (ty : TypeId) (w : World) (h : InsH (.node k nb pre n key kid) l0 si v sb so cs ty w) (hl0 : 0 < l0.length) (hlen : ∀ e ∈ (Art.node k nb pre n key kid).ents, e.1.length ≤ 100000) (hp1 : pre = [])
  (ih : ∀ (c : Nat) (W : World), c < n → (kid c).isLeaf = false → InsH (kid c) l0 (si + pre.length) v nb c (rowN k pre n key kid).toArray (tyN k) W → Calls Tryz.prog 158 #[.pointer (some ⟨tb, 0, none⟩), .pointer (some ⟨nb, c, none⟩), v, .int .i64 ((si + pre.length : Nat) : Int)] W (DelC (kid c) (l0.drop (si + pre.length)) nb c (rowN k pre n key kid).toArray (tyN k) W)) :
  Calls Tryz.prog 158 #[.pointer (some ⟨tb, 0, none⟩), .pointer (some ⟨sb, so, none⟩), v, .int .i64 si] w (DelC (.node k nb pre n key kid) (l0.drop si) sb so cs ty w) := by
 obtain ⟨a, cap, rfl⟩ := h.txt.form
 have hsc : w.cell? ⟨sb, so, none⟩ = some (.iface (tyP k) (.pointer (some ⟨nb, 0, none⟩))) := h.cell
 have hrow := h.at'.1
 have hp0 : w.cell? ⟨nb, k.cap, none⟩ = some (.string (mk pre)) := row_at hrow rowN_pre
 have hms : (mk pre).size = pre.length := mk_size pre
 have hslt := (Array.getElem?_eq_some_iff.1 h.row).1
 have hnlt := h.at'.lt nb (.inl rfl)
 have hle := h.le
 have hsz := h.size
 have iL := isLeafN
 have iB := baseN
 have iF : ∀ w, (method 508 (tyP k) (.pointer (some ⟨nb, 0, none⟩)) "pub-tokenroad/pub/natsserver/server/stree.findChild").run Tryz.prog w = .ok (findF k, .pointer (some ⟨nb, 0, none⟩)) w := fun w => findChildN k _ w
 have iD : ∀ w, (method 508 (tyP k) (.pointer (some ⟨nb, 0, none⟩)) "pub-tokenroad/pub/natsserver/server/stree.deleteChild").run Tryz.prog w = .ok (delF k, .pointer (some ⟨nb, 0, none⟩)) w := fun w => delChildN k _ w
 have iS : ∀ w, (method 508 (tyP k) (.pointer (some ⟨nb, 0, none⟩)) "pub-tokenroad/pub/natsserver/server/stree.shrink").run Tryz.prog w = .ok (shrinkF k, .pointer (some ⟨nb, 0, none⟩)) w := fun w => shrinkN k _ w
 have iLl : ∀ (lb : Nat) w, (method 508 197 (.pointer (some ⟨lb, 0, none⟩)) "pub-tokenroad/pub/natsserver/server/stree.isLeaf").run Tryz.prog w = .ok (291, .pointer (some ⟨lb, 0, none⟩)) w := fun lb w => isLeafM _ w
 have iA : ∀ (lb : Nat) w, (Instr.typeAssert (.iface 197 (.pointer (some ⟨lb, 0, none⟩))) 137 197 false).run Tryz.prog w = .ok (.pointer (some ⟨lb, 0, none⟩)) w := fun lb w => leafAsP _ w
 have iCF := fun (args : Array Value) (w : World) => callFind k args w
 have iCD := fun (args : Array Value) (w : World) => callDel k args w
 have iCS := fun (args : Array Value) (w : World) => callShrink k args w
 have qN : ∀ w, (binOp .eql 137 (.iface (tyP k) (.pointer (some ⟨nb, 0, none⟩))) .nilIface).run Tryz.prog w = .ok (.bool false) w := fun w => nodeNe k _ w
 have qn := nilEq
 have ql := leafEq
 have qe := nodeEq
 have e00 : ((l0.length : Int) == 0) = false := by rw [beq_eq_false_iff_ne]; omega
 have HIH := Lib.hid ih; clear ih
 have HLEN := Lib.hid hlen; clear hlen
 have HH := Lib.hid h; clear h
 have HROW := Lib.hid hrow; clear hrow
 have HS : Hid (si + pre.length = si) := Lib.hid (by rw [hp1]; rfl)
 have HPP : Hid (pre <+: l0.drop si) := Lib.hid (by rw [hp1]; exact List.nil_prefix)
 have hlp : ¬ (pre.length : Int) > 0 := by rw [hp1]; simp
 have hSle := hle
 have HP1 := Lib.hid hp1; clear hp1
 go_enter Tryz.func158, Tryz.ntmps158
 go_wp2_with fail
 refine (nodeIs_any _ w).mono ?_
 rintro e w1 ⟨rfl, rfl⟩
 go_wp2_with fail
 refine (base_any _ w).mono ?_
 rintro e w1 ⟨rfl, rfl⟩
 have hb1 := Below.refl w.heap.size w
 have hpv := pivot_any _ l0 si w (HH.out.txt.keep hb1)
 have hrow1 := (hb1.block nb hnlt).trans HROW.out
 generalize hpb : piv (l0.drop si) = pb at *
 have hfc := findChild_any k nb pre n key kid pb w hrow1 HH.out.wf.2.1
 have HR1 := Lib.hid hrow1; clear hrow1
 have HPB := Lib.hid hpb; clear hpb
 go_wp2_with fail
 refine hpv.mono ?_
 rintro e w2 ⟨rfl, rfl⟩
 clear hpv
 go_wp2_with fail
 refine hfc.mono ?_
 rintro e w2 ⟨hf, rfl⟩
 clear hfc
 rcases hf with ⟨c, hc, hkc, rfl⟩ | ⟨hno, rfl⟩
 ·subst hkc
  have cc : w.cell? ⟨nb, c, none⟩ = some (kid c).ref := row_at HR1.out ((rowN_kid (k := k) (show c < k.cap by have := HH.out.wf.2.1; omega)).trans (by rw [if_pos hc]))
  have hkc : key c = piv (l0.drop (si + pre.length)) := by rw [HS.out, HPB.out]
  have HKC := Lib.hid hkc; clear hkc
  cases hkid : kid c with
  | leaf lb x s =>
   rw [hkid] at cc
   have hlw : w.heap[lb]? = some (.cells #[.int .i64 x, .string (mk s)] 199 (0, 0)) := by have := HH.out.at'.2 c hc; rw [hkid] at this; exact this
   have hlb := (Array.getElem?_eq_some_iff.1 hlw).1
   have hl1 := (hb1.block lb hlb).trans hlw
   obtain ⟨sa, hrun, hsub⟩ := from_run a l0.length cap si hSle
   have hlm := leafMatch_any lb (.int .i64 x) (mk s) _ (l0.drop si) w hl1 (hsub w l0 (HH.out.txt.keep hb1) rfl)
   rw [bs_mk] at hlm
   have hpl : pre.length + s.length ≤ 100000 := by
    have := HLEN.out (shift pre (s, x)) (mem_node.2 ⟨c, hc, (s, x), by rw [hkid]; simp [Art.ents], rfl⟩)
    simpa [shift] using this
   have HKID := Lib.hid hkid; clear hkid
   clear hsub hl1 hlw
   simp only [Art.ref] at cc
   go_wp2_with fail
   refine (leafIs_any _ _).mono ?_
   rintro e w2 ⟨rfl, rfl⟩
   go_wp2_with fail
   refine hlm.mono ?_
   rintro e w2 ⟨rfl, hb2⟩
   clear hlm
   have hb12 := bel2 hb1 hb2
   by_cases hm : l0.drop si = s
   ·obtain ⟨m, rfl⟩ : ∃ m, n = m + 1 := ⟨n - 1, by omega⟩
    subst hm
    have hkid2 : kid c = .leaf lb x (l0.drop (si + pre.length)) := by rw [HS.out]; exact HKID.out
    have HK2 := Lib.hid hkid2; clear hkid2
    have hrow2 := (hb12.block nb hnlt).trans HROW.out
    have hdc := delChild_any k nb pre m key kid c w2 hrow2 (by have := HH.out.wf.2.1; omega) (by omega) HH.out.wf.2.2.2
    have hbut0 := but_swap HH.out.wf hc
    have HB0 : Hid (KidsBut (m + 1) c key kid m (upd key c (key m)) (upd kid c (kid m))) := Lib.hid hbut0; clear hbut0
    rw [decide_eq_true rfl]
    clear hrow2
    go_wp2_with fail
    refine hdc.mono ?_
    rintro e w3 ⟨rfl, hrow3, hon3⟩
    clear hdc
    generalize upd key c (key m) = key1 at *
    generalize upd kid c (kid m) = kid1 at *
    have hsh := shrink_any k nb pre m key1 kid1 w3 hrow3 (by have := HH.out.wf.1; omega) (by have := HH.out.wf.2.1; omega) HB0.out.inj
    have hp3 : w3.cell? ⟨nb, k.cap, none⟩ = some (.string (mk pre)) := row_at hrow3 rowN_pre
    have HR3 := Lib.hid hrow3; clear hrow3
    have hon := (Only.of (F := (· = nb)) hb12).trans hon3 fun b hb => .inl hb
    have hz3 := hon.size
    have hs3 := (hon.block sb hslt (fun e => HH.out.nsb (.inl e))).trans HH.out.row
    have hc3 : w3.cell? ⟨sb, so, none⟩ = some (.iface (tyP k) (.pointer (some ⟨nb, 0, none⟩))) := (cell_row hs3).trans HH.out.slot
    have fs3 := frozen_row (j := so) hs3
    have HON := Lib.hid hon; clear hon hon3
    have HS3 := Lib.hid hs3; clear hs3
    go_wp2_with fail
    refine hsh.mono ?_
    rintro e w4 hs
    clear hsh
    rcases hs with ⟨hlow, rfl, rfl⟩ | ⟨rfl, rfl, rfl⟩ | ⟨k', key', kid', hlow, hcap, hsame, rfl, hrow4, hb4⟩
    ·go_wp2
     go_ret2
     exact del_stay HH.out hc HPP.out HKC.out HK2.out HB0.out hlow (by have := HH.out.wf.2.1; omega) HR3.out HON.out
    ·obtain ⟨q, hq, hqc, -, hqe⟩ := HB0.out.fwd 0 (by omega)
     have hat1 := (HH.out.at'.2 q hq).keep fun y hy => HON.out.block y (HH.out.at'.lt y (.inr ⟨q, hq, hy⟩)) (fun e => (HH.out.sep.1 q hq).2 (e ▸ hy))
     rw [← hqe] at hat1
     have hblk : ∀ y, (kid1 0).Fp y → y ≠ sb ∧ y ≠ nb := fun y hy => by
      rw [hqe] at hy
      exact ⟨fun e => HH.out.nsb (.inr ⟨q, hq, e ▸ hy⟩), fun e => (HH.out.sep.1 q hq).2 (e ▸ hy)⟩
     have hbl := hblk _ (Art.Fp.blk (kid1 0))
     have hpath : pre.length + (kid1 0).path.length ≤ 100000 := by
      rw [hqe]
      obtain ⟨e, he⟩ := List.exists_mem_of_ne_nil _ (ents_ne (HH.out.wf.2.2.1 q hq).1)
      obtain ⟨y, hy⟩ := ents_path he
      have := HLEN.out (shift pre e) (mem_node.2 ⟨q, hq, e, he, rfl⟩)
      simp only [shift, List.length_append, hy] at this
      omega
     have hgo := fun (w' : World) => del_goup (w' := w') HH.out hc HPP.out HKC.out HK2.out HB0.out
     have HGO := Lib.hid hgo; clear hgo
     have hse2 := ((but_sep HH.out.sep HB0.out).1 0 (by omega)).1
     have HSE := Lib.hid hse2; clear hse2
     have HAT := Lib.hid hat1; clear hat1
     have HBK := Lib.hid hblk; clear hblk
     have HQE := Lib.hid hqe; clear hqe
     generalize kid1 0 = T2 at *
     cases T2 with
     | leaf lb2 x2 s2 =>
      have hl2 : w4.heap[lb2]? = some (.cells #[.int .i64 x2, .string (mk s2)] 199 (0, 0)) := HAT.out
      have c21 : w4.cell? ⟨lb2, 1, none⟩ = some (.string (mk s2)) := (cell_row hl2).trans rfl
      have f21 := frozen_row (j := 1) hl2
      simp only [Art.blk] at hbl
      simp only [Art.path] at hpath
      have hms2 := mk_size s2
      have hcat : ¬ (9223372036854775807 < pre.length + s2.length) := by omega
      have n1 : lb2 ≠ sb := hbl.1
      have n2 : sb ≠ lb2 := fun e => hbl.1 e.symm
      simp only [Art.ref]
      go_wp2_with fail
      refine (base_any _ _).mono ?_
      rintro e w5 ⟨rfl, rfl⟩
      go_wp2_with fail
      refine (leafIs_any _ _).mono ?_
      rintro e w5 ⟨rfl, rfl⟩
      go_wp2
      go_ret2
      refine HGO.out _ ?_ (heap_setCell_same _ sb so _ ty _ ((heap_setCell_other _ _ _ _ n2).trans HS3.out)) (((HON.out.mono fun y hy => .inl hy).set (.inl (.inr (.inr rfl))) _).set (.inl (.inr (.inl rfl))) _)
      show (World.heap _)[lb2]? = some (.cells #[.int .i64 x2, .string (mk (pre ++ s2))] 199 (0, 0))
      rw [← mk_app]
      exact (heap_setCell_other _ _ _ _ n1).trans (heap_setCell_same _ lb2 1 _ 199 _ hl2)
     | node k2 nb2 pre2 n2 key2 kid2 =>
      have hr2 : w4.heap[nb2]? = some (.cells (rowN k2 pre2 n2 key2 kid2).toArray (tyN k2) (0, 0)) := HAT.out.1
      have c21 : w4.cell? ⟨nb2, k2.cap, none⟩ = some (.string (mk pre2)) := row_at hr2 rowN_pre
      have f21 := frozen_row (j := k2.cap) hr2
      simp only [Art.blk] at hbl
      simp only [Art.path] at hpath
      have hms2 := mk_size pre2
      have hcat : ¬ (9223372036854775807 < pre.length + pre2.length) := by omega
      have n1 : nb2 ≠ sb := hbl.1
      have n2' : sb ≠ nb2 := fun e => hbl.1 e.symm
      simp only [Art.ref]
      go_wp2_with fail
      refine (base_any _ _).mono ?_
      rintro e w5 ⟨rfl, rfl⟩
      go_wp2_with fail
      refine (nodeIs_any _ _).mono ?_
      rintro e w5 ⟨rfl, rfl⟩
      go_wp2
      go_ret2
      refine HGO.out _ ?_ (heap_setCell_same _ sb so _ ty _ HS3.out) ((HON.out.mono fun y hy => .inl hy).set (.inl (.inr (.inl rfl))) _)
      have hu : (Art.node k2 nb2 pre2 n2 key2 kid2).under pre = .node k2 nb2 pre2 n2 key2 kid2 := by rw [HP1.out]; rfl
      rw [hu]
      exact HAT.out.keep fun y hy => heap_setCell_other _ _ _ _ (HBK.out y hy).1
    ·have hz4 := hb4.size
     have hr5 : w4.cell? ⟨w3.heap.size, k'.cap, none⟩ = some (.string (mk [])) := row_at hrow4 rowN_pre
     have f5 := frozen_row (j := k'.cap) hrow4
     have hp4 := cell_bel hp3 hb4
     have hs4 := (hb4.block sb (by omega)).trans HS3.out
     have hc4 : w4.cell? ⟨sb, so, none⟩ = some (.iface (tyP k) (.pointer (some ⟨nb, 0, none⟩))) := (cell_row hs4).trans HH.out.slot
     have fs4 := frozen_row (j := so) hs4
     have hms2 := mk_size []
     have hcat : ¬ (9223372036854775807 < pre.length + ([] : List UInt8).length) := by simp; omega
     have n3 : sb ≠ w3.heap.size := by omega
     have n4 : w3.heap.size ≠ sb := by omega
     have HS4 := Lib.hid hs4; clear hs4
     have HR4 := Lib.hid hrow4; clear hrow4
     go_wp2_with fail
     refine (base_any _ _).mono ?_
     rintro e w5 ⟨rfl, rfl⟩
     go_wp2_with fail
     refine (nodeIs_any _ _).mono ?_
     rintro e w5 ⟨rfl, rfl⟩
     go_wp2
     go_ret2
     refine del_small HH.out hc HPP.out HKC.out HK2.out (HB0.out.same hsame) hlow hcap HON.out.size ?_ (heap_setCell_same _ sb so _ ty _ HS4.out) (((HON.out.mono fun y hy => .inl hy).trans (Only.of (F := fun _ => False) hb4) fun b hb => nomatch hb).set (.inl (.inr rfl)) _)
     rw [HP1.out]
     exact (heap_setCell_other _ _ _ _ n4).trans HR4.out
   ·have hno : ∀ e ∈ (Art.node k nb pre n key kid).ents, e.1 ≠ l0.drop si := by
     rw [pre_split HPP.out, HS.out]
     exact no_leaf HH.out.wf hc (by rw [HKC.out, HS.out]) HKID.out (fun e => hm e.symm)
    have HNO := Lib.hid hno
    rw [decide_eq_false hm]
    clear hno hm
    go_wp2
    go_ret2
    exact del_same HH.out HNO.out hb12
  | node k2 nb2 pre2 n2 key2 kid2 =>
   rw [hkid] at cc
   have hnl : (kid c).isLeaf = false := by rw [hkid]; rfl
   have hi := HIH.out c w hc hnl (rec_pre HH.out hb1 hc (by rw [HS.out]; exact hSle))
   rw [HS.out] at hi
   simp only [Art.ref] at cc
   have HNL := Lib.hid hnl; clear hnl hkid
   go_wp2_with fail
   refine (nodeIs_any _ _).mono ?_
   rintro e w2 ⟨rfl, rfl⟩
   go_wp2_with fail
   refine hi.mono ?_
   rintro e w3 hi
   have HI := Lib.hid hi
   obtain ⟨o, u, T', rfl, -⟩ := hi
   go_wp2
   go_ret2
   exact delrec_done HH.out hb1 hc HPP.out HKC.out HNL.out (by rw [HS.out]; exact HI.out)
 ·have hno2 : ∀ e ∈ (Art.node k nb pre n key kid).ents, e.1 ≠ l0.drop si := by
   rw [pre_split HPP.out, HS.out]
   exact no_key HH.out.wf (by rw [HPB.out]; exact hno)
  have HNO := Lib.hid hno2
  clear hno hno2
  go_wp2
  go_ret2
  exact del_same HH.out HNO.out hb1
end Go.Proofs.YtehlmjecbljafaaGreatDoor
namespace Go.Proofs.YtehlmjecbljafaaGreatDoor
open Go Go.RowKit
set_option maxRecDepth 100000 in
set_option maxHeartbeats 12800000 in
theorem delNode1_any (tb : Nat) (k : Kd) (nb n : Nat) (pre l0 : List UInt8) (key : Nat → UInt8) (kid : Nat → Art) (si : Nat) (v : Value) (sb so : Nat) (cs : Array Value) (ty : TypeId) (w : World) (h : InsH (.node k nb pre n key kid) l0 si v sb so cs ty w) (hl0 : 0 < l0.length) (hlen : ∀ e ∈ (Art.node k nb pre n key kid).ents, e.1.length ≤ 100000) (hp1 : pre ≠ [])
  (ih : ∀ (c : Nat) (W : World), c < n → (kid c).isLeaf = false → InsH (kid c) l0 (si + pre.length) v nb c (rowN k pre n key kid).toArray (tyN k) W → Calls Tryz.prog 158 #[.pointer (some ⟨tb, 0, none⟩), .pointer (some ⟨nb, c, none⟩), v, .int .i64 ((si + pre.length : Nat) : Int)] W (DelC (kid c) (l0.drop (si + pre.length)) nb c (rowN k pre n key kid).toArray (tyN k) W)) :
  Calls Tryz.prog 158 #[.pointer (some ⟨tb, 0, none⟩), .pointer (some ⟨sb, so, none⟩), v, .int .i64 si] w (DelC (.node k nb pre n key kid) (l0.drop si) sb so cs ty w) := by
 obtain ⟨a, cap, rfl⟩ := h.txt.form
 have hsc : w.cell? ⟨sb, so, none⟩ = some (.iface (tyP k) (.pointer (some ⟨nb, 0, none⟩))) := h.cell
 have hrow := h.at'.1
 have hp0 : w.cell? ⟨nb, k.cap, none⟩ = some (.string (mk pre)) := row_at hrow rowN_pre
 have hms : (mk pre).size = pre.length := mk_size pre
 have hslt := (Array.getElem?_eq_some_iff.1 h.row).1
 have hnlt := h.at'.lt nb (.inl rfl)
 have hle := h.le
 have hsz := h.size
 have iL := isLeafN
 have iB := baseN
 have iF : ∀ w, (method 508 (tyP k) (.pointer (some ⟨nb, 0, none⟩)) "pub-tokenroad/pub/natsserver/server/stree.findChild").run Tryz.prog w = .ok (findF k, .pointer (some ⟨nb, 0, none⟩)) w := fun w => findChildN k _ w
 have iD : ∀ w, (method 508 (tyP k) (.pointer (some ⟨nb, 0, none⟩)) "pub-tokenroad/pub/natsserver/server/stree.deleteChild").run Tryz.prog w = .ok (delF k, .pointer (some ⟨nb, 0, none⟩)) w := fun w => delChildN k _ w
 have iS : ∀ w, (method 508 (tyP k) (.pointer (some ⟨nb, 0, none⟩)) "pub-tokenroad/pub/natsserver/server/stree.shrink").run Tryz.prog w = .ok (shrinkF k, .pointer (some ⟨nb, 0, none⟩)) w := fun w => shrinkN k _ w
 have iLl : ∀ (lb : Nat) w, (method 508 197 (.pointer (some ⟨lb, 0, none⟩)) "pub-tokenroad/pub/natsserver/server/stree.isLeaf").run Tryz.prog w = .ok (291, .pointer (some ⟨lb, 0, none⟩)) w := fun lb w => isLeafM _ w
 have iA : ∀ (lb : Nat) w, (Instr.typeAssert (.iface 197 (.pointer (some ⟨lb, 0, none⟩))) 137 197 false).run Tryz.prog w = .ok (.pointer (some ⟨lb, 0, none⟩)) w := fun lb w => leafAsP _ w
 have iCF := fun (args : Array Value) (w : World) => callFind k args w
 have iCD := fun (args : Array Value) (w : World) => callDel k args w
 have iCS := fun (args : Array Value) (w : World) => callShrink k args w
 have qN : ∀ w, (binOp .eql 137 (.iface (tyP k) (.pointer (some ⟨nb, 0, none⟩))) .nilIface).run Tryz.prog w = .ok (.bool false) w := fun w => nodeNe k _ w
 have qn := nilEq
 have ql := leafEq
 have qe := nodeEq
 have e00 : ((l0.length : Int) == 0) = false := by rw [beq_eq_false_iff_ne]; omega
 have HIH := Lib.hid ih; clear ih
 have HLEN := Lib.hid hlen; clear hlen
 have HH := Lib.hid h; clear h
 have HROW := Lib.hid hrow; clear hrow
 obtain ⟨S, hS⟩ : ∃ S, si + pre.length = S := ⟨_, rfl⟩
 have HS := Lib.hid hS
 have hSi : (si : Int) + (pre.length : Int) = (S : Int) := by omega
 have hlp : (pre.length : Int) > 0 := by have := List.length_pos_iff.2 hp1; omega
 have hcapl : l0.length ≤ cap := by
  obtain ⟨-, a', cap', e, h2, -, -⟩ := HH.out.txt
  cases e
  exact h2
 have HP1 := Lib.hid hp1; clear hp1
 have hpl0 : pre.length ≤ 100000 := by
  obtain ⟨e, he⟩ := List.exists_mem_of_ne_nil _ (ents_ne HH.out.wf)
  obtain ⟨y, hy⟩ := ents_path he
  have := HLEN.out e he
  rw [hy, List.length_append] at this
  have h2 : (Art.node k nb pre n key kid).path.length = pre.length := rfl
  omega
 have hS2 : S ≤ 200000 := by omega
 by_cases hSle : S ≤ l0.length
 case neg =>
  have hno : ∀ e ∈ (Art.node k nb pre n key kid).ents, e.1 ≠ l0.drop si := no_pre fun hp => by have := pre_len hp hle; omega
  have HNO := Lib.hid hno; clear hno
  have hlt1 : (l0.length : Int) < (S : Int) := by omega
  clear hS
  go_enter Tryz.func158, Tryz.ntmps158
  go_wp2_with fail
  refine (nodeIs_any _ w).mono ?_
  rintro e w1 ⟨rfl, rfl⟩
  go_wp2_with fail
  refine (base_any _ w).mono ?_
  rintro e w1 ⟨rfl, rfl⟩
  go_wp2
  go_ret2
  exact del_same HH.out HNO.out (Below.refl _ _)
 have hge1 : ¬ ((l0.length : Int) < (S : Int)) := by omega
 obtain ⟨sp, hrunp, hsubp⟩ := upto_run a l0.length cap si S (by omega) hSle hcapl
 have hcv : ∀ q, (convert 94 9 (.slice sp (S - si) (cap - si))).run Tryz.prog (w.drewN q) = .ok (.string (mk ((l0.take S).drop si))) (w.drewN q) := fun q => by
  have h1 := hsubp _ l0 (HH.out.txt.keep (below_drewN (Below.refl w.heap.size w) q)) rfl
  have h2 : ((l0.take S).drop si).length = S - si := by rw [List.length_drop, List.length_take]; omega
  rw [h2] at h1
  exact conv_text h1
 have hcv0 := hcv 0
 by_cases heq : (l0.take S).drop si = pre
 case neg =>
  have hno : ∀ e ∈ (Art.node k nb pre n key kid).ents, e.1 ≠ l0.drop si := no_pre fun hp => heq (by
   obtain ⟨y, hy⟩ := hp
   have : (l0.drop si).take pre.length = pre := by rw [← hy]; exact List.take_left
   rw [List.take_drop, hS] at this
   exact this)
  have HNO := Lib.hid hno; clear hno
  have hcmp : ((mk ((l0.take S).drop si)).toList == (mk pre).toList) = false := by
   rw [beq_eq_false_iff_ne, toList_bs, toList_bs, bs_mk, bs_mk]
   exact heq
  have HEQ := Lib.hid heq; clear heq hS hsubp
  go_enter Tryz.func158, Tryz.ntmps158
  go_wp2_with fail
  refine (nodeIs_any _ w).mono ?_
  rintro e w1 ⟨rfl, rfl⟩
  go_wp2_with fail
  refine (base_any _ w).mono ?_
  rintro e w1 ⟨rfl, rfl⟩
  go_wp2_with fail
  go_quiet (fail)
  go_wp2
  go_ret2
  exact del_same HH.out HNO.out (below_drewN (Below.refl _ _) nq)
 have hpp : pre <+: l0.drop si := by
  have : (l0.drop si).take pre.length = pre := by rw [List.take_drop, hS]; exact heq
  rw [← this]; exact List.take_prefix _ _
 have HPP := Lib.hid hpp; clear hpp
 have hcmp : ((mk ((l0.take S).drop si)).toList == (mk pre).toList) = true := by rw [heq]; simp
 clear heq hS hsubp
 go_enter Tryz.func158, Tryz.ntmps158
 go_wp2_with fail
 refine (nodeIs_any _ w).mono ?_
 rintro e w1 ⟨rfl, rfl⟩
 go_wp2_with fail
 refine (base_any _ w).mono ?_
 rintro e w1 ⟨rfl, rfl⟩
 go_wp2_with fail
 go_quiet (fail)
 have hb1 := below_drewN (Below.refl w.heap.size w) nq
 generalize w.drewN nq = w1 at *
 have hp1' := cell_bel hp0 hb1
 have hpv := pivot_any _ l0 S w1 (HH.out.txt.keep hb1)
 have hrow1 := (hb1.block nb hnlt).trans HROW.out
 generalize hpb : piv (l0.drop S) = pb at *
 have hfc := findChild_any k nb pre n key kid pb w1 hrow1 HH.out.wf.2.1
 have HR1 := Lib.hid hrow1; clear hrow1
 have HPB := Lib.hid hpb; clear hpb
 go_wp2_with fail
 refine hpv.mono ?_
 rintro e w2 ⟨rfl, rfl⟩
 clear hpv
 go_wp2_with fail
 refine hfc.mono ?_
 rintro e w2 ⟨hf, rfl⟩
 clear hfc
 rcases hf with ⟨c, hc, hkc, rfl⟩ | ⟨hno, rfl⟩
 ·subst hkc
  have cc : w1.cell? ⟨nb, c, none⟩ = some (kid c).ref := row_at HR1.out ((rowN_kid (k := k) (show c < k.cap by have := HH.out.wf.2.1; omega)).trans (by rw [if_pos hc]))
  have hkc : key c = piv (l0.drop (si + pre.length)) := by rw [HS.out, HPB.out]
  have HKC := Lib.hid hkc; clear hkc
  cases hkid : kid c with
  | leaf lb x s =>
   rw [hkid] at cc
   have hlw : w.heap[lb]? = some (.cells #[.int .i64 x, .string (mk s)] 199 (0, 0)) := by have := HH.out.at'.2 c hc; rw [hkid] at this; exact this
   have hlb := (Array.getElem?_eq_some_iff.1 hlw).1
   have hl1 := (hb1.block lb hlb).trans hlw
   obtain ⟨sa, hrun, hsub⟩ := from_run a l0.length cap S hSle
   have hlm := leafMatch_any lb (.int .i64 x) (mk s) _ (l0.drop S) w1 hl1 (hsub w1 l0 (HH.out.txt.keep hb1) rfl)
   rw [bs_mk] at hlm
   have hpl : pre.length + s.length ≤ 100000 := by
    have := HLEN.out (shift pre (s, x)) (mem_node.2 ⟨c, hc, (s, x), by rw [hkid]; simp [Art.ents], rfl⟩)
    simpa [shift] using this
   have HKID := Lib.hid hkid; clear hkid
   clear hsub hl1 hlw
   simp only [Art.ref] at cc
   go_wp2_with fail
   refine (leafIs_any _ _).mono ?_
   rintro e w2 ⟨rfl, rfl⟩
   go_wp2_with fail
   refine hlm.mono ?_
   rintro e w2 ⟨rfl, hb2⟩
   clear hlm
   have hb12 := bel2 hb1 hb2
   by_cases hm : l0.drop S = s
   ·obtain ⟨m, rfl⟩ : ∃ m, n = m + 1 := ⟨n - 1, by omega⟩
    subst hm
    have hkid2 : kid c = .leaf lb x (l0.drop (si + pre.length)) := by rw [HS.out]; exact HKID.out
    have HK2 := Lib.hid hkid2; clear hkid2
    have hrow2 := (hb12.block nb hnlt).trans HROW.out
    have hdc := delChild_any k nb pre m key kid c w2 hrow2 (by have := HH.out.wf.2.1; omega) (by omega) HH.out.wf.2.2.2
    have hbut0 := but_swap HH.out.wf hc
    have HB0 : Hid (KidsBut (m + 1) c key kid m (upd key c (key m)) (upd kid c (kid m))) := Lib.hid hbut0; clear hbut0
    rw [decide_eq_true rfl]
    clear hrow2
    go_wp2_with fail
    refine hdc.mono ?_
    rintro e w3 ⟨rfl, hrow3, hon3⟩
    clear hdc
    generalize upd key c (key m) = key1 at *
    generalize upd kid c (kid m) = kid1 at *
    have hsh := shrink_any k nb pre m key1 kid1 w3 hrow3 (by have := HH.out.wf.1; omega) (by have := HH.out.wf.2.1; omega) HB0.out.inj
    have hp3 : w3.cell? ⟨nb, k.cap, none⟩ = some (.string (mk pre)) := row_at hrow3 rowN_pre
    have HR3 := Lib.hid hrow3; clear hrow3
    have hon := (Only.of (F := (· = nb)) hb12).trans hon3 fun b hb => .inl hb
    have hz3 := hon.size
    have hs3 := (hon.block sb hslt (fun e => HH.out.nsb (.inl e))).trans HH.out.row
    have hc3 : w3.cell? ⟨sb, so, none⟩ = some (.iface (tyP k) (.pointer (some ⟨nb, 0, none⟩))) := (cell_row hs3).trans HH.out.slot
    have fs3 := frozen_row (j := so) hs3
    have HON := Lib.hid hon; clear hon hon3
    have HS3 := Lib.hid hs3; clear hs3
    go_wp2_with fail
    refine hsh.mono ?_
    rintro e w4 hs
    clear hsh
    rcases hs with ⟨hlow, rfl, rfl⟩ | ⟨rfl, rfl, rfl⟩ | ⟨k', key', kid', hlow, hcap, hsame, rfl, hrow4, hb4⟩
    ·go_wp2
     go_ret2
     exact del_stay HH.out hc HPP.out HKC.out HK2.out HB0.out hlow (by have := HH.out.wf.2.1; omega) HR3.out HON.out
    ·obtain ⟨q, hq, hqc, -, hqe⟩ := HB0.out.fwd 0 (by omega)
     have hat1 := (HH.out.at'.2 q hq).keep fun y hy => HON.out.block y (HH.out.at'.lt y (.inr ⟨q, hq, hy⟩)) (fun e => (HH.out.sep.1 q hq).2 (e ▸ hy))
     rw [← hqe] at hat1
     have hblk : ∀ y, (kid1 0).Fp y → y ≠ sb ∧ y ≠ nb := fun y hy => by
      rw [hqe] at hy
      exact ⟨fun e => HH.out.nsb (.inr ⟨q, hq, e ▸ hy⟩), fun e => (HH.out.sep.1 q hq).2 (e ▸ hy)⟩
     have hbl := hblk _ (Art.Fp.blk (kid1 0))
     have hpath : pre.length + (kid1 0).path.length ≤ 100000 := by
      rw [hqe]
      obtain ⟨e, he⟩ := List.exists_mem_of_ne_nil _ (ents_ne (HH.out.wf.2.2.1 q hq).1)
      obtain ⟨y, hy⟩ := ents_path he
      have := HLEN.out (shift pre e) (mem_node.2 ⟨q, hq, e, he, rfl⟩)
      simp only [shift, List.length_append, hy] at this
      omega
     have hgo := fun (w' : World) => del_goup (w' := w') HH.out hc HPP.out HKC.out HK2.out HB0.out
     have HGO := Lib.hid hgo; clear hgo
     have hse2 := ((but_sep HH.out.sep HB0.out).1 0 (by omega)).1
     have HSE := Lib.hid hse2; clear hse2
     have HAT := Lib.hid hat1; clear hat1
     have HBK := Lib.hid hblk; clear hblk
     have HQE := Lib.hid hqe; clear hqe
     generalize kid1 0 = T2 at *
     cases T2 with
     | leaf lb2 x2 s2 =>
      have hl2 : w4.heap[lb2]? = some (.cells #[.int .i64 x2, .string (mk s2)] 199 (0, 0)) := HAT.out
      have c21 : w4.cell? ⟨lb2, 1, none⟩ = some (.string (mk s2)) := (cell_row hl2).trans rfl
      have f21 := frozen_row (j := 1) hl2
      simp only [Art.blk] at hbl
      simp only [Art.path] at hpath
      have hms2 := mk_size s2
      have hcat : ¬ (9223372036854775807 < pre.length + s2.length) := by omega
      have n1 : lb2 ≠ sb := hbl.1
      have n2 : sb ≠ lb2 := fun e => hbl.1 e.symm
      simp only [Art.ref]
      go_wp2_with fail
      refine (base_any _ _).mono ?_
      rintro e w5 ⟨rfl, rfl⟩
      go_wp2_with fail
      refine (leafIs_any _ _).mono ?_
      rintro e w5 ⟨rfl, rfl⟩
      go_wp2
      go_ret2
      refine HGO.out _ ?_ (heap_setCell_same _ sb so _ ty _ ((heap_setCell_other _ _ _ _ n2).trans HS3.out)) (((HON.out.mono fun y hy => .inl hy).set (.inl (.inr (.inr rfl))) _).set (.inl (.inr (.inl rfl))) _)
      show (World.heap _)[lb2]? = some (.cells #[.int .i64 x2, .string (mk (pre ++ s2))] 199 (0, 0))
      rw [← mk_app]
      exact (heap_setCell_other _ _ _ _ n1).trans (heap_setCell_same _ lb2 1 _ 199 _ hl2)
     | node k2 nb2 pre2 n2 key2 kid2 =>
      have hr2 : w4.heap[nb2]? = some (.cells (rowN k2 pre2 n2 key2 kid2).toArray (tyN k2) (0, 0)) := HAT.out.1
      have c21 : w4.cell? ⟨nb2, k2.cap, none⟩ = some (.string (mk pre2)) := row_at hr2 rowN_pre
      have f21 := frozen_row (j := k2.cap) hr2
      simp only [Art.blk] at hbl
      simp only [Art.path] at hpath
      have hms2 := mk_size pre2
      have hcat : ¬ (9223372036854775807 < pre.length + pre2.length) := by omega
      have n1 : nb2 ≠ sb := hbl.1
      have n2' : sb ≠ nb2 := fun e => hbl.1 e.symm
      simp only [Art.ref]
      go_wp2_with fail
      refine (base_any _ _).mono ?_
      rintro e w5 ⟨rfl, rfl⟩
      go_wp2_with fail
      refine (nodeIs_any _ _).mono ?_
      rintro e w5 ⟨rfl, rfl⟩
      go_wp2_with fail
      refine (base_any _ _).mono ?_
      rintro e w5 ⟨rfl, rfl⟩
      go_wp2
      go_ret2
      refine HGO.out _ ?_ (heap_setCell_same _ sb so _ ty _ ((heap_setCell_other _ _ _ _ n2').trans HS3.out)) (((HON.out.mono fun y hy => .inl hy).set (.inl (.inr (.inr rfl))) _).set (.inl (.inr (.inl rfl))) _)
      refine ⟨(heap_setCell_other _ _ _ _ n1).trans (row_eq (heap_set_list hr2) (by rw [mk_app]; exact rowN_setpre)), fun i hi => (HAT.out.2 i hi).keep fun y hy => ?_⟩
      exact (heap_setCell_other _ _ _ _ (HBK.out y (.inr ⟨i, hi, hy⟩)).1).trans (heap_setCell_other _ _ _ _ (fun e => (HSE.out.1 i hi).2 (by have e : y = nb2 := e; rw [← e]; exact hy)))
    ·have hz4 := hb4.size
     have hr5 : w4.cell? ⟨w3.heap.size, k'.cap, none⟩ = some (.string (mk [])) := row_at hrow4 rowN_pre
     have f5 := frozen_row (j := k'.cap) hrow4
     have hp4 := cell_bel hp3 hb4
     have hs4 := (hb4.block sb (by omega)).trans HS3.out
     have hc4 : w4.cell? ⟨sb, so, none⟩ = some (.iface (tyP k) (.pointer (some ⟨nb, 0, none⟩))) := (cell_row hs4).trans HH.out.slot
     have fs4 := frozen_row (j := so) hs4
     have hms2 := mk_size []
     have hcat : ¬ (9223372036854775807 < pre.length + ([] : List UInt8).length) := by simp; omega
     have n3 : sb ≠ w3.heap.size := by omega
     have n4 : w3.heap.size ≠ sb := by omega
     have HS4 := Lib.hid hs4; clear hs4
     have HR4 := Lib.hid hrow4; clear hrow4
     go_wp2_with fail
     refine (base_any _ _).mono ?_
     rintro e w5 ⟨rfl, rfl⟩
     go_wp2_with fail
     refine (nodeIs_any _ _).mono ?_
     rintro e w5 ⟨rfl, rfl⟩
     go_wp2_with fail
     refine (base_any _ _).mono ?_
     rintro e w5 ⟨rfl, rfl⟩
     go_wp2
     go_ret2
     refine del_small HH.out hc HPP.out HKC.out HK2.out (HB0.out.same hsame) hlow hcap HON.out.size ?_ (heap_setCell_same _ sb so _ ty _ ((heap_setCell_other _ _ _ _ n3).trans HS4.out)) ((((HON.out.mono fun y hy => .inl hy).trans (Only.of (F := fun _ => False) hb4) fun b hb => nomatch hb).set (.inr HON.out.size) _).set (.inl (.inr rfl)) _)
     exact (heap_setCell_other _ _ _ _ n4).trans (row_eq (heap_set_list HR4.out) (by rw [mk_app, List.append_nil]; exact rowN_setpre))
   ·have hno : ∀ e ∈ (Art.node k nb pre n key kid).ents, e.1 ≠ l0.drop si := by
     rw [pre_split HPP.out, HS.out]
     exact no_leaf HH.out.wf hc (by rw [HKC.out, HS.out]) HKID.out (fun e => hm e.symm)
    have HNO := Lib.hid hno
    rw [decide_eq_false hm]
    clear hno hm
    go_wp2
    go_ret2
    exact del_same HH.out HNO.out hb12
  | node k2 nb2 pre2 n2 key2 kid2 =>
   rw [hkid] at cc
   have hnl : (kid c).isLeaf = false := by rw [hkid]; rfl
   have hi := HIH.out c w1 hc hnl (rec_pre HH.out hb1 hc (by rw [HS.out]; exact hSle))
   rw [HS.out] at hi
   simp only [Art.ref] at cc
   have HNL := Lib.hid hnl; clear hnl hkid
   go_wp2_with fail
   refine (nodeIs_any _ _).mono ?_
   rintro e w2 ⟨rfl, rfl⟩
   go_wp2_with fail
   refine hi.mono ?_
   rintro e w3 hi
   have HI := Lib.hid hi
   obtain ⟨o, u, T', rfl, -⟩ := hi
   go_wp2
   go_ret2
   exact delrec_done HH.out hb1 hc HPP.out HKC.out HNL.out (by rw [HS.out]; exact HI.out)
 ·have hno2 : ∀ e ∈ (Art.node k nb pre n key kid).ents, e.1 ≠ l0.drop si := by
   rw [pre_split HPP.out, HS.out]
   exact no_key HH.out.wf (by rw [HPB.out]; exact hno)
  have HNO := Lib.hid hno2
  clear hno hno2
  go_wp2
  go_ret2
  exact del_same HH.out HNO.out hb1
end Go.Proofs.YtehlmjecbljafaaGreatDoor
namespace Go.Proofs.YtehlmjecbljafaaGreatDoor
open Go Go.RowKit
theorem deleteT_any (tb : Nat) (l0 : List UInt8) (v : Value) (hl0 : 0 < l0.length) : ∀ (T : Art) (si sb so : Nat) (cs : Array Value) (ty : TypeId) (w : World), T.isLeaf = false → InsH T l0 si v sb so cs ty w → (∀ e ∈ T.ents, e.1.length ≤ 100000) →
  Calls Tryz.prog 158 #[.pointer (some ⟨tb, 0, none⟩), .pointer (some ⟨sb, so, none⟩), v, .int .i64 si] w (DelC T (l0.drop si) sb so cs ty w)
 | .leaf .., _, _, _, _, _, _, hn, _, _ => nomatch hn
 | .node k nb pre n key kid, si, sb, so, cs, ty, w, _, h, hl => by
  have hlk : ∀ c, c < n → ∀ e ∈ (kid c).ents, e.1.length ≤ 100000 := fun c hc e he => by
   have := hl (shift pre e) (mem_node.2 ⟨c, hc, e, he, rfl⟩)
   simp only [shift, List.length_append] at this; omega
  have ih := fun (c : Nat) (W : World) (hc : c < n) (hnl : (kid c).isLeaf = false) (hW : InsH (kid c) l0 (si + pre.length) v nb c (rowN k pre n key kid).toArray (tyN k) W) => deleteT_any tb l0 v hl0 (kid c) (si + pre.length) nb c (rowN k pre n key kid).toArray (tyN k) W hnl hW (hlk c hc)
  by_cases h0 : pre = []
  ·exact delNode0_any tb k nb n pre l0 key kid si v sb so cs ty w h hl0 hl h0 ih
  ·exact delNode1_any tb k nb n pre l0 key kid si v sb so cs ty w h hl0 hl h0 ih
set_option maxRecDepth 100000 in
set_option maxHeartbeats 1600000 in
/-- A deletion where nothing is. -/
theorem delNil_any (tb b so : Nat) (v : Value) (i : Value) (w : World) (hc : w.cell? ⟨b, so, none⟩ = some .nilIface) :
  Calls Tryz.prog 158 #[.pointer (some ⟨tb, 0, none⟩), .pointer (some ⟨b, so, none⟩), v, i] w fun e w' => e = .returned (.tuple #[.pointer none, .bool false]) ∧ w' = w := by
 have q1 : ∀ w, (binOp .eql 137 .nilIface .nilIface).run Tryz.prog w = .ok (.bool true) w := fun w => by kernel_rfl
 go_enter Tryz.func158, Tryz.ntmps158
 go_wp2
 go_ret2
 exact ⟨rfl, rfl⟩
set_option maxRecDepth 100000 in
set_option maxHeartbeats 3200000 in
/-- A deletion where a leaf is. -/
theorem delLeaf_any (tb b L : Nat) (x : Int) (s l0 : List UInt8) (v : Value) (cs : Array Value) (ty : TypeId) (w : World) (hb : w.heap[b]? = some (.cells cs ty (0, 0))) (h0 : cs[0]? = some (.iface 197 (.pointer (some ⟨L, 0, none⟩)))) (hL : w.heap[L]? = some (.cells #[.int .i64 x, .string (mk s)] 199 (0, 0))) (hv : Sl w 1 v l0.length (u8s l0)) (hl0 : 0 < l0.length) (hlz : l0.length ≤ 100000) (hne : L ≠ b) :
  Calls Tryz.prog 158 #[.pointer (some ⟨tb, 0, none⟩), .pointer (some ⟨b, 0, none⟩), v, .int .i64 0] w fun e w' => ∃ o u, e = .returned (.tuple #[o, .bool u]) ∧ OldP w' o ∧ (u = true ↔ l0 = s) ∧
   (u = true → w'.heap[b]? = some (.cells (cs.setIfInBounds 0 .nilIface) ty (0, 0)) ∧ Only (· = b) w w') ∧ (u = false → Below w.heap.size w w') := by
 obtain ⟨a, cap, rfl⟩ := hv.form
 have hc : w.cell? ⟨b, 0, none⟩ = some (.iface 197 (.pointer (some ⟨L, 0, none⟩))) := (cell_row hb).trans h0
 have iLl : ∀ (lb : Nat) w, (method 508 197 (.pointer (some ⟨lb, 0, none⟩)) "pub-tokenroad/pub/natsserver/server/stree.isLeaf").run Tryz.prog w = .ok (291, .pointer (some ⟨lb, 0, none⟩)) w := fun lb w => isLeafM _ w
 have iA : ∀ (lb : Nat) w, (Instr.typeAssert (.iface 197 (.pointer (some ⟨lb, 0, none⟩))) 137 197 false).run Tryz.prog w = .ok (.pointer (some ⟨lb, 0, none⟩)) w := fun lb w => leafAsP _ w
 have ql : ∀ (lb : Nat) w, (binOp .eql 137 (.iface 197 (.pointer (some ⟨lb, 0, none⟩))) .nilIface).run Tryz.prog w = .ok (.bool false) w := fun lb w => by kernel_rfl
 have e00 : ((l0.length : Int) == 0) = false := by rw [beq_eq_false_iff_ne]; omega
 obtain ⟨sa, hrun, hsub⟩ := from_run a l0.length cap 0 (Nat.zero_le _)
 have hrun0 : ∀ w, (Instr.slice 94 (.slice a l0.length cap) (some (.int .i64 0)) none none).run Tryz.prog w = .ok (.slice sa (l0.length - 0) (cap - 0)) w := hrun
 have hlm := leafMatch_any L (.int .i64 x) (mk s) _ (l0.drop 0) w hL (hsub w l0 hv rfl)
 rw [bs_mk, List.drop_zero] at hlm
 have hlb := (Array.getElem?_eq_some_iff.1 hL).1
 have hbb := (Array.getElem?_eq_some_iff.1 hb).1
 have HB := Lib.hid hb; clear hb
 have HL := Lib.hid hL; clear hL
 have H0 := Lib.hid h0; clear h0
 clear hsub hrun hv
 simp only [Nat.sub_zero] at hrun0 hlm
 go_enter Tryz.func158, Tryz.ntmps158
 go_wp2_with fail
 refine (leafIs_any _ w).mono ?_
 rintro e w1 ⟨rfl, rfl⟩
 go_wp2_with fail
 refine hlm.mono ?_
 rintro e w2 ⟨rfl, hb2⟩
 clear hlm
 by_cases hm : l0 = s
 ·have hb1 := (hb2.block b hbb).trans HB.out
  have c1 : w2.cell? ⟨b, 0, none⟩ = some (.iface 197 (.pointer (some ⟨L, 0, none⟩))) := (cell_row hb1).trans H0.out
  have f1 := frozen_row (j := 0) hb1
  have hL2 := (hb2.block L hlb).trans HL.out
  have HB1 := Lib.hid hb1; clear hb1
  have HL2 := Lib.hid hL2; clear hL2
  have HM := Lib.hid hm
  rw [decide_eq_true hm]
  clear hm
  go_wp2
  go_ret2
  refine ⟨_, true, rfl, .inr ⟨L, 0, x, rfl, (cell_row ((heap_setCell_other _ _ _ _ hne).trans HL2.out)).trans rfl⟩, ⟨fun _ => HM.out, fun _ => rfl⟩, fun _ => ⟨heap_setCell_same _ b 0 _ ty _ HB1.out, (Only.of (F := (· = b)) hb2).set (.inl rfl) _⟩, fun h => nomatch h⟩
 ·rw [decide_eq_false hm]
  have HM := Lib.hid hm
  clear hm
  go_wp2
  go_ret2
  exact ⟨_, false, rfl, .inl rfl, ⟨fun h => (nomatch h), fun h => absurd h HM.out⟩, fun h => (nomatch h), fun _ => hb2⟩
/-- The deletion at the root. -/
def RootD (ds : List Deed) (b k : Nat) (r : Option Art) (n : Int) (w : World) (e : Ending) (w' : World) : Prop :=
 ∃ (o : Value) (u : Bool) (r' : Option Art), e = .returned (.tuple #[o, .bool u]) ∧ OldP w' o ∧ w'.heap[b]? = some (.cells #[rootV r', .int .i64 n] 139 (0, 0)) ∧ (∀ T', r' = some T' → T'.At w' ∧ T'.Sep ∧ T'.WF ∧ ∀ x, T'.Fp x → (∃ T, r = some T ∧ T.Fp x) ∨ w.heap.size ≤ x) ∧
  (∀ e : Ent, (∃ T', r' = some T' ∧ e ∈ T'.ents) ↔ treeM (ds.take (k + 1)) e.1 = some e.2) ∧ Only (fun x => x = b ∨ ∃ T, r = some T ∧ T.Fp x) w w'
theorem delRoot_any (tb : Nat) (ds : List Deed) (b k : Nat) (d : Deed) (r : Option Art) (n : Int) (v : Value) (w : World) (h : ArtR ds b k r n w) (hds : DeedsOK ds) (hd : ds[k]? = some d) (hop : d.op = 1) (hv : Sl w 1 v d.subj.size (u8s (bs d.subj)))
  (hfar : ∀ g o m c, v = .slice (some ⟨g, o, none⟩) m c → ¬ (g = b ∨ ∃ T, r = some T ∧ T.Fp g)) :
  Calls Tryz.prog 158 #[.pointer (some ⟨tb, 0, none⟩), .pointer (some ⟨b, 0, none⟩), v, .int .i64 0] w (RootD ds b k r n w) := by
 obtain ⟨s1, s2, s3⟩ := hds.sub d (List.mem_of_getElem? hd)
 have hkl : k < ds.length := (List.getElem?_eq_some_iff.1 hd).1
 have hlb := (Array.getElem?_eq_some_iff.1 h.row).1
 have hmn : ∀ e : Ent, treeM (ds.take (k + 1)) e.1 = some e.2 ↔ treeM (ds.take k) e.1 = some e.2 ∧ e.1 ≠ bs d.subj := by
  rintro ⟨l, x⟩
  rw [treeM_take hd]
  by_cases hl : l = bs d.subj
  ·rw [if_pos hl, if_neg (by omega)]
   simp [hl]
  ·rw [if_neg hl]
   simp [hl]
 rw [← bs_len] at hv s3
 have hl0 : 0 < (bs d.subj).length := List.length_pos_iff.2 s2
 cases r with
 | none =>
  refine (delNil_any tb b 0 v _ w ((cell_row h.row).trans rfl)).mono ?_
  rintro e w' ⟨rfl, rfl⟩
  refine ⟨.pointer none, false, none, rfl, .inl rfl, h.row, (fun T h => nomatch h), fun e => ?_, Only.refl _ _⟩
  rw [hmn]
  constructor
  ·rintro ⟨T, hT, -⟩; cases hT
  ·rintro ⟨h1, -⟩
   obtain ⟨T, hT, -⟩ := (h.mem e).2 h1; cases hT
 | some T =>
  obtain ⟨hAt, hSep, hWF, hnb, hge⟩ := h.at' T rfl
  have hent : ∀ e ∈ T.ents, 127 ∉ e.1 ∧ e.1.length ≤ 100000 := fun e he => by
   obtain ⟨d', hd', e2⟩ := ent_sub h (by omega) he
   obtain ⟨q1, -, q3⟩ := hds.sub d' hd'
   rw [e2, bs_len]; exact ⟨q1, by omega⟩
  have hme : ∀ e : Ent, e ∈ T.ents ↔ treeM (ds.take k) e.1 = some e.2 := fun e => by
   rw [← h.mem]; exact ⟨fun he => ⟨T, rfl, he⟩, fun ⟨T2, e2, he⟩ => by cases e2; exact he⟩
  cases hT : T with
  | leaf L x s =>
   subst hT
   refine (delLeaf_any tb b L x s (bs d.subj) v _ 139 w h.row rfl hAt hv hl0 (by omega) (fun e => hnb (show b = L from e.symm))).mono ?_
   rintro e w' ⟨o, u, rfl, ho, hu, hy, hn⟩
   cases u with
   | true =>
    obtain ⟨h1, h2⟩ := hy rfl
    have hs := hu.1 rfl
    refine ⟨o, true, none, rfl, ho, h1, (fun T h => nomatch h), fun e => ?_, h2.mono fun y hy => .inl hy⟩
    rw [hmn, ← hme]
    constructor
    ·rintro ⟨T', hT', -⟩; cases hT'
    ·rintro ⟨h3, h4⟩
     obtain rfl : e = (s, x) := by simpa [Art.ents] using h3
     exact absurd hs.symm h4
   | false =>
    have hb := hn rfl
    have hs : ¬ bs d.subj = s := fun e => by have := hu.2 e; cases this
    refine ⟨o, false, some (.leaf L x s), rfl, ho, (hb.block b hlb).trans h.row, fun T' hT' => ?_, fun e => ?_, Only.of hb⟩
    ·cases hT'
     exact ⟨hAt.bel hb, trivial, trivial, fun y hy => .inl ⟨_, rfl, hy⟩⟩
    ·rw [hmn, ← hme]
     constructor
     ·rintro ⟨T', hT', he⟩
      cases hT'
      refine ⟨he, fun e1 => hs ?_⟩
      obtain rfl : e = (s, x) := by simpa [Art.ents] using he
      exact e1.symm
     ·rintro ⟨h3, -⟩; exact ⟨_, rfl, h3⟩
  | node k2 nb2 pre2 n2 key2 kid2 =>
   have hnl : T.isLeaf = false := by rw [hT]; rfl
   rw [← hT]
   have H : InsH T (bs d.subj) 0 v b 0 #[T.ref, .int .i64 n] 139 w :=
    ⟨h.row, rfl, hAt, hSep, hWF, hnb, small_of (m := 40) (by decide) hWF (by have := ents_le h (by omega); have := hds.len; omega), fun e he => (hent e he).1, s1, hv,
     fun g o m c e => ⟨fun hx => hfar g o m c e (.inr ⟨T, rfl, hx⟩), fun hx => hfar g o m c e (.inl hx)⟩, Nat.zero_le _, by omega⟩
   refine (deleteT_any tb (bs d.subj) v hl0 T 0 b 0 _ 139 w hnl H fun e he => (hent e he).2).mono ?_
   rintro e w' ⟨o, u, T', rfl, ho, hrow, hat, hsep, hdel, hfp, hon⟩
   refine ⟨o, u, some T', rfl, ho, hrow, fun T2 hT2 => ?_, fun e => ?_, hon.mono fun x hx => ?_⟩
   ·cases hT2
    exact ⟨hat, hsep, hdel.wf, fun x hx => (hfp x hx).imp (fun h => ⟨T, rfl, h⟩) id⟩
   ·rw [hmn, ← hme]
    constructor
    ·rintro ⟨T2, hT2, he⟩
     cases hT2
     exact (hdel.mem e).1 he
    ·intro he; exact ⟨T', rfl, (hdel.mem e).2 he⟩
   ·rcases hx with hx | rfl
    ·exact .inr ⟨T, rfl, hx⟩
    ·exact .inl rfl
end Go.Proofs.YtehlmjecbljafaaGreatDoor
