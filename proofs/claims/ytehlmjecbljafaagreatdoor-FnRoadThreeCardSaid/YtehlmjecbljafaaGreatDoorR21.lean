/- A subject tree: an insertion that splits a node: the walk. A subject tree made by deeds that put and take away. A subject tree made by deeds: Insert. -/
import Derived.Test.YtehlmjecbljafaaGreatDoorR12
import Derived.Test.YtehlmjecbljafaaGreatDoorR20
namespace Go.Proofs.YtehlmjecbljafaaGreatDoor
open Go Go.RowKit
set_option maxRecDepth 100000 in
set_option maxHeartbeats 12800000 in
theorem insSplit_any (t : Value) (k : Kd) (nb n : Nat) (pre l0 : List UInt8) (key : Nat → UInt8) (kid : Nat → Art) (si : Nat) (v : Value) (sb so : Nat) (cs : Array Value) (ty : TypeId) (w : World) (x : Int) (h : InsH (.node k nb pre n key kid) l0 si v sb so cs ty w) (hpl : pre.length ≤ 100000) (hnp : ¬ pre <+: l0.drop si) :
  Calls Tryz.prog 157 #[t, .pointer (some ⟨sb, so, none⟩), v, .int .i64 x, .int .i64 si] w (InsC (.node k nb pre n key kid) (l0.drop si) x sb so cs ty w) := by
 obtain ⟨a, cap, rfl⟩ := h.txt.form
 have hsc : w.cell? ⟨sb, so, none⟩ = some (.iface (tyP k) (.pointer (some ⟨nb, 0, none⟩))) := h.cell
 have hrow := h.at'.1
 have hp0 : w.cell? ⟨nb, k.cap, none⟩ = some (.string (mk pre)) := row_at hrow rowN_pre
 have hms : (mk pre).size = pre.length := mk_size pre
 have hslt := (Array.getElem?_eq_some_iff.1 h.row).1
 have hnlt := h.at'.lt nb (.inl rfl)
 have hle := h.le
 have hsz := h.size
 have iL : ∀ w, (method 508 (tyP k) (.pointer (some ⟨nb, 0, none⟩)) "pub-tokenroad/pub/natsserver/server/stree.isLeaf").run Tryz.prog w = .ok (299, .pointer (some ⟨nb, k.cap, none⟩)) w := fun w => isLeafN k nb w
 have iB : ∀ w, (method 508 (tyP k) (.pointer (some ⟨nb, 0, none⟩)) "pub-tokenroad/pub/natsserver/server/stree.base").run Tryz.prog w = .ok (298, .pointer (some ⟨nb, k.cap, none⟩)) w := fun w => baseN k nb w
 have iF : ∀ w, (method 508 (tyP k) (.pointer (some ⟨nb, 0, none⟩)) "pub-tokenroad/pub/natsserver/server/stree.findChild").run Tryz.prog w = .ok (findF k, .pointer (some ⟨nb, 0, none⟩)) w := fun w => findChildN k _ w
 have iU : ∀ w, (method 508 (tyP k) (.pointer (some ⟨nb, 0, none⟩)) "pub-tokenroad/pub/natsserver/server/stree.isFull").run Tryz.prog w = .ok (fullF k, .pointer (some ⟨nb, 0, none⟩)) w := fun w => isFullN k _ w
 have iCF := fun (args : Array Value) (w : World) => callFind k args w
 have iCU := fun (args : Array Value) (w : World) => callFull k args w
 have qN : ∀ w, (binOp .eql 137 (.iface (tyP k) (.pointer (some ⟨nb, 0, none⟩))) .nilIface).run Tryz.prog w = .ok (.bool false) w := fun w => nodeNe k _ w
 have hp0' : pre ≠ [] := fun e => hnp (e ▸ List.nil_prefix)
 have hlp : (pre.length : Int) > 0 := by have := List.length_pos_iff.2 hp0'; omega
 obtain ⟨sa, hrun, hsub⟩ := from_run a l0.length cap si hle
 have hcle := cpl_le pre (l0.drop si)
 have hclt := cpl_lt hnp
 have hpn : 127 ∉ pre := by
  obtain ⟨y, hy⟩ := List.exists_mem_of_ne_nil _ (ents_ne (T := .node k nb pre n key kid) h.wf)
  obtain ⟨z, hz⟩ := ents_path hy
  intro hm
  exact h.n127 y hy (by rw [hz]; simp [Art.path, hm])
 generalize hc : cpl pre (l0.drop si) = c at *
 rw [List.length_drop] at hcle
 obtain ⟨sb2, hrun2, hsub2⟩ := upto_run a l0.length cap si (si + c) (by omega) (by omega) (by
  obtain ⟨-, a', cap', e, h2, -⟩ := h.txt; cases e; exact h2)
 obtain ⟨sc, hrun3, hsub3⟩ := from_run a l0.length cap (si + c) (by omega)
 rw [Int.natCast_add] at hrun2 hrun3
 simp only [List.drop_take, Nat.add_sub_cancel_left] at hrun2 hsub2
 have hcs : (c : Int) ≤ ((mk pre).size : Int) := by rw [mk_size]; omega
 have hc0 : (0 : Int) ≤ (c : Int) := by omega
 have hex : (mk pre).extract c pre.length = mk (pre.drop c) := by have := extract_mk pre c; rwa [mk_size] at this
 have hclt2 : ¬ ((c : Int) ≥ (pre.length : Int)) := by omega
 have hpd : (pre.drop c).length ≤ 100000 := by rw [List.length_drop]; omega
 rw [hms] at hcs
 generalize hpdd : pre.drop c = pd at *
 generalize hldd : l0.drop (si + c) = ld at *
 have iS : ∀ w, (method 508 (tyP k) (.pointer (some ⟨nb, 0, none⟩)) "pub-tokenroad/pub/natsserver/server/stree.setPrefix").run Tryz.prog w = .ok (232, .pointer (some ⟨nb, k.cap, none⟩)) w := fun w => setPrefixN k nb w
 have HPD := Lib.hid hpdd; clear hpdd
 have HLD := Lib.hid hldd; clear hldd
 have HNP := Lib.hid hnp; clear hnp
 have HPN := Lib.hid hpn; clear hpn
 have HH := Lib.hid h; clear h
 have HC := Lib.hid hc; clear hc
 have HS1 := Lib.hid hsub; clear hsub
 have HS2 := Lib.hid hsub2; clear hsub2
 have HS3 := Lib.hid hsub3; clear hsub3
 have HROW := Lib.hid hrow; clear hrow
 clear iF iU iCF iCU hp0'
 go_enter Tryz.func157, Tryz.ntmps157
 go_wp2_with fail
 refine (nodeIs_any _ w).mono ?_
 rintro e w1 ⟨rfl, rfl⟩
 go_wp2_with fail
 refine (base_any _ w).mono ?_
 rintro e w1 ⟨rfl, rfl⟩
 go_wp2_with fail
 refine wp_region_L [0, 1, 2, 3, 5, 6, 7] (fun W' => W'.cell? ⟨nb, k.cap, none⟩ = some (.string (mk pre))) (by kernel_rfl) (by kernel_rfl) hp0 (fun ne => ?_)
 have S0 := fun x : SubC (fun W' => W'.cell? ⟨nb, k.cap, none⟩ = some (.string (mk pre))) => x.ok
 repeat (refine wpCL_q rfl rfl ?_; go_big_quiet_step (fail); refine wpQuiet_nil ?_)
 refine wpCL_n rfl rfl rfl rfl ?_
 go_simp
 repeat (refine wpCL_q rfl rfl ?_; go_big_quiet_step (fail); refine wpQuiet_nil ?_)
 refine wpCL_ch rfl rfl (fun K hK => ?_)
 go_simp
 simp only [runsTo_enter]
 refine (s2bL pre w.drew hpl).mono ?_
 rintro e w3 ⟨a3, c3, rfl, hs3, hb3⟩
 have hb3 := bel_drew hb3
 refine ⟨_, rfl, hK _ _ ⟨⟨w3, cell_bel hp0 hb3⟩, rfl⟩ ?_⟩
 clear hK K
 go_simp
 repeat (refine wpCL_q rfl rfl ?_; go_big_quiet_step (fail); refine wpQuiet_nil ?_)
 refine wpCL_ch rfl rfl (fun K hK => ?_)
 go_simp
 simp only [runsTo_enter]
 refine (cpl_any _ _ pre (l0.drop si) w3 hs3 (HS1.out w3 l0 (HH.out.txt.keep hb3) rfl)).mono ?_
 rintro e w4 ⟨rfl, hb4⟩
 rw [HC.out]
 have hbw4 := bel2 hb3 hb4
 have hp4 := cell_bel (cell_bel hp0 hb3) hb4
 refine ⟨_, rfl, hK _ _ ⟨⟨w4, hp4⟩, rfl⟩ ?_⟩
 clear hK K S0 ne hs3 hb3 hb4 hp0 hsc hrun
 go_simp
 refine wpCL_last ?_
 go_wp2_with fail
 refine (newNode4_any _ ((l0.drop si).take c) w4 (HS2.out w4 l0 (HH.out.txt.keep hbw4) rfl)).mono ?_
 rintro e w5 ⟨rfl, h5, hb5⟩
 have hz4 := hbw4.size
 have hz5 : w4.heap.size < w5.heap.size := (Array.getElem?_eq_some_iff.1 (h5 (fun _ => 0) (fun _ => .leaf 0 0 []))).1
 have hbw5 := bel2 hbw4 hb5
 have hp5 := cell_bel hp4 hb5
 generalize hNB : w4.heap.size = NB at *
 have HN5 := Lib.hid (h5 (fun _ => 0) (fun _ => .leaf 0 0 [])); clear h5
 have hrow5 := (hbw5.block nb hnlt).trans HROW.out
 clear hp4 hbw4 hb5 hrun2
 have HR5 := Lib.hid hrow5; clear hrow5
 go_wp2_with fail
 refine wp_region_L [0, 1, 2, 3, 4, 5, 6, 8, 9, 10] (fun W' => W'.cell? ⟨nb, k.cap, none⟩ = some (.string (mk pre))) (by kernel_rfl) (by kernel_rfl) hp5 (fun ne => ?_)
 have S0 := fun x : SubC (fun W' => W'.cell? ⟨nb, k.cap, none⟩ = some (.string (mk pre))) => x.ok
 repeat (refine wpCL_q rfl rfl ?_; go_big_quiet_step (fail); refine wpQuiet_nil ?_)
 refine wpCL_n rfl rfl rfl rfl ?_
 go_simp
 repeat (refine wpCL_q rfl rfl ?_; go_big_quiet_step (fail); refine wpQuiet_nil ?_)
 refine wpCL_ch rfl rfl (fun K hK => ?_)
 go_simp
 simp only [runsTo_enter]
 refine (s2bL pd w5.drew hpd).mono ?_
 rintro e w6 ⟨a6, c6, rfl, hs6, hb6⟩
 have hb6 := bel_drew hb6
 refine ⟨_, rfl, hK _ _ ⟨⟨w6, cell_bel hp5 hb6⟩, rfl⟩ ?_⟩
 have hbw6 := bel2 hbw5 hb6
 have hrow6 := (hb6.block nb (by omega)).trans HR5.out
 have HN6 := Lib.hid ((hb6.block NB hz5).trans HN5.out)
 have hz6 := hb6.size
 have hsp := setPrefix_any nb k.cap _ (tyN k) (mk pre) _ pd w6 hrow6 rowN_pre hs6
 rw [rowN_setpre] at hsp
 clear hK K S0 ne hp5 hb6 HR5 HN5 hrow6 hbw5
 go_simp
 refine wpCL_mf rfl rfl rfl rfl ?_
 go_simp
 refine wpCL_nm rfl rfl (nilPre k nb) rfl rfl ?_
 go_simp
 repeat (refine wpCL_q rfl rfl ?_; go_big_quiet_step (fail); refine wpQuiet_nil ?_)
 refine wpCL_last ?_
 go_wp2_with fail
 refine hsp.mono ?_
 rintro e w7 ⟨rfl, hrow7, ho7⟩
 have hz7 := ho7.size
 have hp7 := row_at hrow7 (rowN_pre (k := k))
 have HR7 := Lib.hid hrow7; clear hrow7
 have HN7 := Lib.hid ((ho7.block NB (by omega) (by omega)).trans HN6.out)
 have hw7 : Only (· = nb) w w7 := (Only.of hbw6).trans ho7 fun b hb => .inl hb
 have hnbNB : nb ≠ NB := by omega
 clear HN6 hsp hs6 hbw6 ho7
 go_wp2_with fail
 refine (s2bL pd w7 hpd).mono ?_
 rintro e w8 ⟨a8, c8, rfl, hs8, hb8⟩
 go_wp2_with fail
 refine (pivot0 _ pd w8 hs8).mono ?_
 rintro e w8' ⟨rfl, rfl⟩
 have hz8 := hb8.size
 have HR8 := Lib.hid ((hb8.block nb (by omega)).trans HR7.out)
 have hN8 := (hb8.block NB (by omega)).trans HN7.out
 have hw8 : Only (· = nb) w w8 := hw7.trans (Only.of (F := (· = nb)) hb8) fun b hb => .inl hb
 have had1 : Calls Tryz.prog 205 #[.pointer (some ⟨NB, 0, none⟩), .int .u8 ((piv pd).toNat : Nat), .iface (tyP k) (.pointer (some ⟨nb, 0, none⟩))] w8 _ := addChild4 NB ((l0.drop si).take c) 0 (fun _ => 0) (fun _ => .leaf 0 0 []) (piv pd) (.node k nb pd n key kid) w8 hN8 (by omega)
 clear HR7 HN7 hs8 hb8 hN8 hw7 hp7
 go_wp2_with fail
 refine had1.mono ?_
 rintro e w9 ⟨rfl, hN9, ho9⟩
 have hz9 := ho9.size
 have HR9 := Lib.hid ((ho9.block nb (by omega) hnbNB).trans HR8.out)
 have HN9 := Lib.hid hN9; clear hN9
 have hw9 : Only (· = nb) w w9 := hw8.trans ho9 fun b hb => .inr (by omega)
 have ht9 : Sl w9 1 (.slice a l0.length cap) l0.length (u8s l0) := HH.out.txt.only hw9 (fun b o e hbb => (HH.out.far b o _ _ (by rw [e])).1 (.inl hbb))
 have HT9 := Lib.hid ht9; clear ht9
 clear HR8 hw8 had1 ho9
 have hpw := pivot0 (.slice sc (l0.length - (si + c)) (cap - (si + c))) ld w9.drew (by rw [← HLD.out]; exact HS3.out w9.drew l0 (HT9.out.keep (Below.refl _ w9).drew) rfl)
 go_wp2_with fail
 refine wp_region_L [0, 1, 2, 3, 5, 6, 7, 8] (fun _ => True) (by kernel_rfl) (by kernel_rfl) trivial (fun ne => ?_)
 repeat (refine wpCL_q rfl rfl ?_; go_big_quiet_step (fail); refine wpQuiet_nil ?_)
 refine wpCL_ch rfl rfl (fun K hK => ?_)
 go_simp
 simp only [runsTo_enter]
 refine hpw.mono ?_
 rintro e w10 ⟨rfl, hw10⟩
 refine ⟨_, rfl, hK _ _ ⟨⟨w10, trivial⟩, rfl⟩ ?_⟩
 clear hK K hpw
 have hnl := newLeaf_abs (.slice sc (l0.length - (si + c)) (cap - (si + c))) ld x w9.drew (by rw [← HLD.out]; exact HS3.out w9.drew l0 (HT9.out.keep (Below.refl _ w9).drew) rfl)
 go_simp
 repeat (refine wpCL_q rfl rfl ?_; go_big_quiet_step (fail); refine wpQuiet_nil ?_)
 refine wpCL_ch rfl rfl (fun K hK => ?_)
 go_simp
 simp only [runsTo_enter]
 rw [← hw10]
 refine hnl.mono ?_
 rintro e w11 ⟨rfl, hL11, hb11⟩
 refine ⟨_, rfl, hK _ _ ⟨⟨w11, trivial⟩, rfl⟩ ?_⟩
 clear hK K hnl hw10 w10
 have hb11 : Below w9.heap.size w9 w11 := bel_drew hb11
 have hzL : w9.heap.size < w11.heap.size := (Array.getElem?_eq_some_iff.1 hL11).1
 have HR11 := Lib.hid ((hb11.block nb (by omega)).trans HR9.out)
 have hN11 := (hb11.block NB (by omega)).trans HN9.out
 have HL11 := Lib.hid (show w11.heap[w9.heap.size]? = _ from hL11); clear hL11
 have hw11 : Only (· = nb) w w11 := hw9.trans (Only.of (F := (· = nb)) hb11) fun b hb => .inl hb
 generalize hNLe : w9.heap.size = NL at *
 have had2 : Calls Tryz.prog 205 #[.pointer (some ⟨NB, 0, none⟩), .int .u8 ((piv ld).toNat : Nat), .iface 197 (.pointer (some ⟨NL, 0, none⟩))] w11 _ := addChild4 NB ((l0.drop si).take c) 1 _ _ (piv ld) (.leaf NL x ld) w11 hN11 (by omega)
 have hNLe : w9.drew.heap.size = NL := hNLe
 clear HR9 HN9 hN11 hw9 HT9 hb11
 go_simp
 refine wpCL_w rfl rfl ?_
 go_wp2_with fail
 refine ⟨⟨⟨w11, trivial⟩, rfl⟩, ?_⟩
 refine wpCL_last ?_
 go_wp2_with fail
 refine had2.mono ?_
 rintro e w13 ⟨rfl, hN13, ho13⟩
 have hz13 := ho13.size
 have HR13 := Lib.hid ((ho13.block nb (by omega) hnbNB).trans HR11.out)
 have HL13 := Lib.hid ((ho13.block NL (by omega) (by omega)).trans HL11.out)
 have HN13 := Lib.hid hN13; clear hN13
 have hw13 : Only (· = nb) w w13 := hw11.trans ho13 fun b hb => .inr (by omega)
 have hsbn : sb ≠ nb := fun e => HH.out.nsb (e ▸ .inl rfl)
 have hs13 := (hw13.block sb hslt hsbn).trans HH.out.row
 have cs13 := (cell_row (j := so) hs13).trans HH.out.slot
 have fs13 := frozen_row (j := so) hs13
 have HS13 := Lib.hid hs13; clear hs13
 clear HR11 HL11 had2 ho13 hw11
 go_wp2
 go_ret2
 have hins := ins_split (nb := NB) (nl := NL) (v := x) (k0 := fun _ => 0) (kd := fun _ => .leaf 0 0 []) HH.out.wf HPN.out (fun hm => HH.out.m127 (List.mem_of_mem_drop hm)) HNP.out
 rw [HC.out, HPD.out, List.drop_drop, HLD.out] at hins
 have hoth := fun z (hz : z ≠ sb) => heap_setCell_other w13 ⟨sb, so, none⟩ z (.iface 302 (.pointer (some ⟨NB, 0, none⟩))) hz
 have hkl : ∀ i, i < n → ∀ y, (kid i).Fp y → y < w.heap.size := fun i hi y hy => HH.out.at'.lt y (.inr ⟨i, hi, hy⟩)
 have hfp1 : ∀ y, (Art.node k nb pd n key kid).Fp y → (Art.node k nb pre n key kid).Fp y := fun y hy => hy
 refine ⟨.pointer none, false, _, rfl, .inl rfl, heap_setCell_same w13 sb so cs ty _ HS13.out, ?_, ?_, hins, ⟨(fun h => nomatch h), ?_⟩, ?_, ?_⟩
 ·refine ⟨(hoth NB (by omega)).trans HN13.out, fun i hi => ?_⟩
  match i, hi with
  | 0, _ =>
   rw [upd_ne _ _ (by decide), upd_same]
   refine ⟨(hoth nb (fun e => hsbn e.symm)).trans HR13.out, fun i hi => (HH.out.at'.2 i hi).keep fun y hy => ?_⟩
   have hyl := hkl i hi y hy
   exact (hoth y (fun e => HH.out.nsb (e ▸ .inr ⟨i, hi, hy⟩))).trans (hw13.block y hyl (fun e => (HH.out.sep.1 i hi).2 (e ▸ hy)))
  | 1, _ => rw [upd_same]; exact (hoth NL (by omega)).trans HL13.out
 ·refine sep_two (T0 := .node k nb pd n key kid) (T1 := .leaf NL x ld) HH.out.sep trivial (fun h => ?_) (fun h => ?_) fun y h h' => ?_
  ·have := HH.out.at'.lt NB (hfp1 _ h); omega
  ·have h : NB = NL := h; omega
  ·have h' : y = NL := h'
   have := HH.out.at'.lt y (hfp1 _ h); omega
 ·rintro ⟨z, hz⟩
  obtain ⟨y, hy⟩ := ents_path (T := .node k nb pre n key kid) hz
  exact absurd ⟨y, hy.symm⟩ HNP.out
 ·intro y hy
  rcases fp_two hy with rfl | h | h
  ·exact .inr (by omega)
  ·exact .inl (hfp1 _ h)
  ·have h : y = NL := h; exact .inr (by omega)
 ·exact (hw13.mono (F' := fun z => (Art.node k nb pre n key kid).Fp z ∨ z = sb) fun z hz => Or.inl (.inl hz)).set (.inl (.inr rfl)) _
/-- An insertion into a tree. -/
theorem insertT_any (t : Value) (l0 : List UInt8) (v : Value) (x : Int) : ∀ (T : Art) (si sb so : Nat) (cs : Array Value) (ty : TypeId) (w : World), InsH T l0 si v sb so cs ty w → (∀ e ∈ T.ents, e.1.length ≤ 100000) →
  Calls Tryz.prog 157 #[t, .pointer (some ⟨sb, so, none⟩), v, .int .i64 x, .int .i64 si] w (InsC T (l0.drop si) x sb so cs ty w)
 | .leaf L x0 s, si, sb, so, cs, ty, w, h, hl => by
  by_cases hs : s = l0.drop si
  ·subst hs; exact insSame_any t L x0 x l0 si v sb so cs ty w h
  ·exact insLeaf_any t L x0 x s l0 si v sb so cs ty w h hs (hl (s, x0) (by simp [Art.ents]))
 | .node k nb pre n key kid, si, sb, so, cs, ty, w, h, hl => by
  have hpl : pre.length ≤ 100000 := by
   obtain ⟨y, hy⟩ := List.exists_mem_of_ne_nil _ (ents_ne (T := .node k nb pre n key kid) h.wf)
   obtain ⟨z, hz⟩ := ents_path hy
   have := hl y hy
   rw [hz, List.length_append] at this
   have h3 : (Art.node k nb pre n key kid).path.length = pre.length := rfl
   omega
  have hlk : ∀ c, c < n → ∀ e ∈ (kid c).ents, e.1.length ≤ 100000 := fun c hc e he => by
   have := hl (shift pre e) (mem_node.2 ⟨c, hc, e, he, rfl⟩)
   simp only [shift, List.length_append] at this; omega
  by_cases hp : pre <+: l0.drop si
  ·by_cases hf : ∃ c, c < n ∧ key c = piv (l0.drop (si + pre.length))
   ·obtain ⟨c, hc, hk⟩ := hf
    have ih := fun W hW => insertT_any t l0 v x (kid c) (si + pre.length) nb c (rowN k pre n key kid).toArray (tyN k) W hW (hlk c hc)
    by_cases h0 : pre = []
    ·have e : si + pre.length = si := by rw [h0]; rfl
     rw [e] at hk ih
     exact insFound0_any t k nb n pre l0 key kid si v sb so cs ty w x h hpl h0 c hc hk (fun W hW => ih W (by rw [e] at hW; exact hW))
    ·exact insFound_any t k nb n pre l0 key kid si v sb so cs ty w x h hpl hp h0 c hc hk ih
   ·have hno : ∀ i, i < n → key i ≠ piv (l0.drop (si + pre.length)) := fun i hi e => hf ⟨i, hi, e⟩
    have hn := h.wf.2.1
    by_cases h0 : pre = []
    ·have e : si + pre.length = si := by rw [h0]; rfl
     rw [e] at hno
     by_cases hc : n < k.cap
     ·exact insAdd0_any t k nb n pre l0 key kid si v sb so cs ty w x h hpl h0 hno hc
     ·exact insGrow0_any t k nb n pre l0 key kid si v sb so cs ty w x h hpl h0 hno (by omega)
    ·by_cases hc : n < k.cap
     ·exact insAdd_any t k nb n pre l0 key kid si v sb so cs ty w x h hpl hp h0 hno hc
     ·exact insGrow_any t k nb n pre l0 key kid si v sb so cs ty w x h hpl hp h0 hno (by omega)
  ·exact insSplit_any t k nb n pre l0 key kid si v sb so cs ty w x h hpl hp
end Go.Proofs.YtehlmjecbljafaaGreatDoor
namespace Go.Proofs.YtehlmjecbljafaaGreatDoor
open Go Go.RowKit
/-- What a tree is to whoever grows it: T k F: k deeds are done, its blocks are those of F. -/
structure TreeQ (ds : List Deed) (b B : Nat) (T : Nat → (Nat → Prop) → World → Prop) : Prop where
 stable : ∀ k F w w', T k F w → (∀ x, F x → w'.heap[x]? = w.heap[x]?) → T k F w'
 range : ∀ k F w, T k F w → ∀ x, F x → B ≤ x ∧ x < w.heap.size
 ins : ∀ (k : Nat) (d : Deed) F w v, ds[k]? = some d → d.op = 0 → T k F w → Sl w 1 v d.subj.size (u8s (bs d.subj)) → (∀ b o n c, v = .slice (some ⟨b, o, none⟩) n c → ¬ F b) → Calls Tryz.prog 109 #[.pointer (some ⟨b, 0, none⟩), v, .int .i64 d.val] w fun e w' =>
  ∃ o u F', e = .returned (.tuple #[o, .bool u]) ∧ OldP w' o ∧ T (k + 1) F' w' ∧ Only F w w' ∧ ∀ x, F' x → F x ∨ w.heap.size ≤ x
 del : ∀ (k : Nat) (d : Deed) F w v, ds[k]? = some d → d.op = 1 → T k F w → Sl w 1 v d.subj.size (u8s (bs d.subj)) → (∀ b o n c, v = .slice (some ⟨b, o, none⟩) n c → ¬ F b) → Calls Tryz.prog 111 #[.pointer (some ⟨b, 0, none⟩), v] w fun e w' =>
  ∃ o u F', e = .returned (.tuple #[o, .bool u]) ∧ OldP w' o ∧ T (k + 1) F' w' ∧ Only F w w' ∧ ∀ x, F' x → F x ∨ w.heap.size ≤ x
set_option maxRecDepth 100000 in
set_option maxHeartbeats 6400000 in
theorem grow2_any (v : Value) (ds : List Deed) (T : Nat → (Nat → Prop) → World → Prop) (F0 : Nat → Prop) (w0 w : World) (hd : DeedsAt w0 v ds) (hop : ∀ d ∈ ds, (d.op = 0 ∨ d.op = 1) ∧ d.subj.size ≤ maxLen) (hn : ds.length ≤ 274877906944)
  (hP : TreeQ ds w0.heap.size w0.heap.size T) (h0 : T 0 F0 w) (hb0 : Below w0.heap.size w0 w) :
  Calls Tryz.prog 78 #[.pointer (some ⟨w0.heap.size, 0, none⟩), v] w fun e w' => ∃ u xs F, e = .returned u ∧ T ds.length F w' ∧ Own w' w0.heap.size 2 u ds.length xs ∧ Below w0.heap.size w0 w' := by
 obtain ⟨a, cap, rfl⟩ := Sl.form hd
 generalize hN : w0.heap.size = N at *
 have HD := Lib.hid hd; clear hd
 have HP := Lib.hid hP; clear hP
 have HO := Lib.hid hop; clear hop
 have hcv := fun (w : World) (s : ByteArray) => conv_bytes w s
 go_enter Tryz.func78, Tryz.ntmps78
 go_wp2
 go_loopw [5, 6] (fun o i wr => ∃ (k : Nat) (xs : List Value) (F : Nat → Prop), k ≤ ds.length ∧ i = .int .i64 k ∧ Own wr N 2 o k xs ∧ T k F wr ∧ (∀ x, o.ownBlock = some x → ¬ F x) ∧ Below N w0 wr) (fun _ i _ => ds.length - (intOf i).toNat)
 case atStart => exact ⟨0, [], F0, Nat.zero_le _, rfl, Own.nil _ _ _, h0, (fun x hx => by cases hx), hb0⟩
 case round =>
  obtain ⟨k, xs, F, hk, rfl, hown, hT, hF, hb⟩ := hrel
  obtain ⟨oa, oc, rfl, -⟩ := hown.form
  by_cases hlt : k < ds.length
  ·obtain ⟨bd, od, d, rfl, Hd, c0, c1, c2⟩ := HD.out.at' (by rw [hN]; exact hb) hlt
   have hlb := World.block_lt_of_cell? _ _ c0
   obtain ⟨e0, esz⟩ := HO.out d (List.mem_of_getElem? Hd.out)
   rcases e0 with e0 | e0
   ·rw [e0] at c0
    have c2' := cell_bel (a := ⟨wr.heap.size, 2, none⟩) (x := .int .i64 d.val) ((cell_row (heap_alloc_new wr (.cells #[.int .i64 0, .string d.subj, .int .i64 d.val] 39))).trans rfl) (bytesWorld_below (wr.alloc (.cells #[.int .i64 0, .string d.subj, .int .i64 d.val] 39)) d.subj)
    go_wp2_with fail
    have hW := bel2 ((Below.refl wr.heap.size wr).alloc (Nat.le_refl _) (.cells #[.int .i64 0, .string d.subj, .int .i64 d.val] 39)) (bytesWorld_below (wr.alloc (.cells #[.int .i64 0, .string d.subj, .int .i64 d.val] 39)) d.subj)
    have hsl := conv_sl (wr.alloc (.cells #[.int .i64 0, .string d.subj, .int .i64 d.val] 39)) d.subj esz
    rw [show (wr.alloc (.cells #[.int .i64 0, .string d.subj, .int .i64 d.val] 39)).heap.size = wr.heap.size + 1 by simp] at hsl
    have hrg := HP.out.range k F wr hT
    have hT1 := HP.out.stable k F wr (Lib.bytesWorld (wr.alloc (.cells #[.int .i64 0, .string d.subj, .int .i64 d.val] 39)) 5 d.subj) hT fun x hx => hW.block x (hrg x hx).2
    have hins := HP.out.ins k d F _ _ Hd.out e0 hT1 hsl (fun b o n c e hx => by cases e; have := (hrg _ hx).2; omega)
    have hown1 := hown.keep hW
    have hsz0 : N ≤ wr.heap.size := by have := hb.size; omega
    have hb1 := hb.trans (hW.mono hsz0)
    have hsz1 := hW.size
    clear hsl hT1 c2' c0 c1 c2
    refine hins.mono ?_
    rintro e W2 ⟨o, u, F', rfl, hold, hT2, honly, hF2⟩
    have hrg2 := HP.out.range (k + 1) F' W2 hT2
    have hown2 := hown1.only honly hF
    have hF3 : ∀ x, Value.ownBlock (.slice oa k oc) = some x → ¬ F' x := fun x hx hf => by
     rcases hF2 x hf with h | h
     ·exact hF x hx h
     ·have := (hown1.lt x hx).2; omega
    have hb2 := hb1.trans (honly.below (fun x hx => (hrg x hx).1) (Nat.le_trans hsz0 hsz1))
    have hsz2 := honly.size
    have hsN : N ≤ W2.heap.size := by omega
    clear honly hins hb1 hown1 hW hsz1 hsz2 hrg hF2 hT hown hF
    go_wp2_with fail
    refine (told_any o u W2 hold).mono ?_
    rintro e W3 ⟨⟨x, rfl⟩, hb3⟩
    have hT3 := HP.out.stable (k + 1) F' W2 W3 hT2 fun x hx => hb3.block x (hrg2 x hx).2
    have hown3 := hown2.keep hb3
    have hb4 := hb2.trans (hb3.mono hsN)
    have hrg3 := HP.out.range (k + 1) F' W3 hT3
    have hsN3 : N ≤ W3.heap.size := Nat.le_trans hsN hb3.size
    clear hT2 hown2 hb2 hrg2 hold hb3 hsN
    go_wp2_with (at_builtin; go_must (refine wpList_appX et75 rfl _ _ rfl N F' (v := .slice oa k oc) (n := k) (xs := xs) (by rfl) hown3 hF3 (fun x hx => (hrg3 x hx).2) [.bool u, .int .i64 x] (by rfl) rfl (by simp [Value.oneCell']) (by omega) hsN3 ?_); intro v' w5 hown5 hF5 honly5)
    go_roundw
    case rel => exact ⟨k + 1, _, F', hlt, by go_num, hown5, HP.out.stable _ _ _ _ hT3 (fun x hx => honly5.block x (hrg3 x hx).2 fun h => hF3 x h hx), hF5, hb4.trans (honly5.below (fun x hx => (hown3.lt x hx).1) hsN3)⟩
    case measure => simp [intOf]; omega
   ·rw [e0] at c0
    have c2' := cell_bel (a := ⟨wr.heap.size, 2, none⟩) (x := .int .i64 d.val) ((cell_row (heap_alloc_new wr (.cells #[.int .i64 1, .string d.subj, .int .i64 d.val] 39))).trans rfl) (bytesWorld_below (wr.alloc (.cells #[.int .i64 1, .string d.subj, .int .i64 d.val] 39)) d.subj)
    go_wp2_with fail
    have hW := bel2 ((Below.refl wr.heap.size wr).alloc (Nat.le_refl _) (.cells #[.int .i64 1, .string d.subj, .int .i64 d.val] 39)) (bytesWorld_below (wr.alloc (.cells #[.int .i64 1, .string d.subj, .int .i64 d.val] 39)) d.subj)
    have hsl := conv_sl (wr.alloc (.cells #[.int .i64 1, .string d.subj, .int .i64 d.val] 39)) d.subj esz
    rw [show (wr.alloc (.cells #[.int .i64 1, .string d.subj, .int .i64 d.val] 39)).heap.size = wr.heap.size + 1 by simp] at hsl
    have hrg := HP.out.range k F wr hT
    have hT1 := HP.out.stable k F wr (Lib.bytesWorld (wr.alloc (.cells #[.int .i64 1, .string d.subj, .int .i64 d.val] 39)) 5 d.subj) hT fun x hx => hW.block x (hrg x hx).2
    have hins := HP.out.del k d F _ _ Hd.out e0 hT1 hsl (fun b o n c e hx => by cases e; have := (hrg _ hx).2; omega)
    have hown1 := hown.keep hW
    have hsz0 : N ≤ wr.heap.size := by have := hb.size; omega
    have hb1 := hb.trans (hW.mono hsz0)
    have hsz1 := hW.size
    clear hsl hT1 c2' c0 c1 c2
    refine hins.mono ?_
    rintro e W2 ⟨o, u, F', rfl, hold, hT2, honly, hF2⟩
    have hrg2 := HP.out.range (k + 1) F' W2 hT2
    have hown2 := hown1.only honly hF
    have hF3 : ∀ x, Value.ownBlock (.slice oa k oc) = some x → ¬ F' x := fun x hx hf => by
     rcases hF2 x hf with h | h
     ·exact hF x hx h
     ·have := (hown1.lt x hx).2; omega
    have hb2 := hb1.trans (honly.below (fun x hx => (hrg x hx).1) (Nat.le_trans hsz0 hsz1))
    have hsz2 := honly.size
    have hsN : N ≤ W2.heap.size := by omega
    clear honly hins hb1 hown1 hW hsz1 hsz2 hrg hF2 hT hown hF
    go_wp2_with fail
    refine (told_any o u W2 hold).mono ?_
    rintro e W3 ⟨⟨x, rfl⟩, hb3⟩
    have hT3 := HP.out.stable (k + 1) F' W2 W3 hT2 fun x hx => hb3.block x (hrg2 x hx).2
    have hown3 := hown2.keep hb3
    have hb4 := hb2.trans (hb3.mono hsN)
    have hrg3 := HP.out.range (k + 1) F' W3 hT3
    have hsN3 : N ≤ W3.heap.size := Nat.le_trans hsN hb3.size
    clear hT2 hown2 hb2 hrg2 hold hb3 hsN
    go_wp2_with (at_builtin; go_must (refine wpList_appX et75 rfl _ _ rfl N F' (v := .slice oa k oc) (n := k) (xs := xs) (by rfl) hown3 hF3 (fun x hx => (hrg3 x hx).2) [.bool u, .int .i64 x] (by rfl) rfl (by simp [Value.oneCell']) (by omega) hsN3 ?_); intro v' w5 hown5 hF5 honly5)
    go_roundw
    case rel => exact ⟨k + 1, _, F', hlt, by go_num, hown5, HP.out.stable _ _ _ _ hT3 (fun x hx => honly5.block x (hrg3 x hx).2 fun h => hF3 x h hx), hF5, hb4.trans (honly5.below (fun x hx => (hown3.lt x hx).1) hsN3)⟩
    case measure => simp [intOf]; omega
  ·obtain rfl : k = ds.length := by omega
   go_wp2
   go_ret
   exact ⟨_, _, _, rfl, hT, hown, hb⟩
set_option maxRecDepth 100000 in
set_option maxHeartbeats 800000 in
theorem tree2_any (v : Value) (ds : List Deed) (T : Nat → (Nat → Prop) → World → Prop) (w : World) (hd : DeedsAt w v ds) (hop : ∀ d ∈ ds, (d.op = 0 ∨ d.op = 1) ∧ d.subj.size ≤ maxLen) (hn : ds.length ≤ 274877906944)
  (hP : TreeQ ds w.heap.size w.heap.size T) (h0 : T 0 (· = w.heap.size) (w.alloc (.cells #[.nilIface, .int .i64 0] 139))) :
  Calls Tryz.prog 53 #[v] w fun e w' => ∃ F, e = .returned (.pointer (some ⟨w.heap.size, 0, none⟩)) ∧ T ds.length F w' ∧ Below w.heap.size w w' := by
 have hg := grow2_any v ds T _ w _ hd hop hn hP h0 ((Below.refl _ w).alloc (Nat.le_refl _) _)
 have HD := Lib.hid hd; clear hd
 go_enter Tryz.func53, Tryz.ntmps53
 go_wp2_with fail
 refine (newTree_any w).mono ?_
 rintro e w1 ⟨rfl, rfl⟩
 go_wp2_with fail
 refine hg.mono ?_
 rintro e w2 ⟨u, xs, F, rfl, hT, -, hb⟩
 go_wp2
 go_ret
 exact ⟨F, rfl, hT, hb⟩
end Go.Proofs.YtehlmjecbljafaaGreatDoor
namespace Go.Proofs.YtehlmjecbljafaaGreatDoor
open Go Go.RowKit
/-- What deeds leave under a text. -/
def treeM (ds : List Deed) : List UInt8 → Option Int := ds.foldl (fun m d l => if l = bs d.subj then (if d.op = 0 then some d.val else none) else m l) (fun _ => none)
theorem treeM_snoc (ds : List Deed) (d : Deed) (l : List UInt8) : treeM (ds ++ [d]) l = if l = bs d.subj then (if d.op = 0 then some d.val else none) else treeM ds l := by
 unfold treeM; rw [List.foldl_append]; rfl
theorem treeM_take {ds : List Deed} {k : Nat} {d : Deed} (h : ds[k]? = some d) (l : List UInt8) : treeM (ds.take (k + 1)) l = if l = bs d.subj then (if d.op = 0 then some d.val else none) else treeM (ds.take k) l := by
 rw [List.take_add_one, h]; exact treeM_snoc _ _ _
theorem treeM_mem : ∀ (k : Nat) (ds : List Deed) {l : List UInt8} {x : Int}, k ≤ ds.length → treeM (ds.take k) l = some x → ∃ d ∈ ds, l = bs d.subj
 | 0, ds, l, x, _, h => by simp [treeM] at h
 | k + 1, ds, l, x, hk, h => by
  have hd : ds[k]? = some ds[k] := List.getElem?_eq_getElem (by omega)
  rw [treeM_take hd] at h
  split at h
  ·rename_i e; exact ⟨_, List.getElem_mem _, e⟩
  ·exact treeM_mem k ds (by omega) h
def rootV : Option Art → Value
 | none => .nilIface
 | some T => T.ref
/-- The tree behind k deeds. -/
structure ArtR (ds : List Deed) (b k : Nat) (r : Option Art) (n : Int) (w : World) : Prop where
 n0 : -(k : Int) ≤ n ∧ n ≤ k
 row : w.heap[b]? = some (.cells #[rootV r, .int .i64 n] 139 (0, 0))
 at' : ∀ T, r = some T → T.At w ∧ T.Sep ∧ T.WF ∧ ¬ T.Fp b ∧ ∀ x, T.Fp x → b ≤ x
 mem : ∀ e : Ent, (∃ T, r = some T ∧ e ∈ T.ents) ↔ treeM (ds.take k) e.1 = some e.2
def ArtT (ds : List Deed) (b k : Nat) (F : Nat → Prop) (w : World) : Prop := ∃ r n, ArtR ds b k r n w ∧ ∀ x, F x ↔ x = b ∨ ∃ T, r = some T ∧ T.Fp x
/-- What the deeds must be. -/
structure DeedsOK (ds : List Deed) : Prop where
 len : ds.length ≤ 40
 sub : ∀ d ∈ ds, 127 ∉ bs d.subj ∧ bs d.subj ≠ [] ∧ d.subj.size ≤ 80
theorem ArtR.keep {ds : List Deed} {b k : Nat} {r : Option Art} {n : Int} {w w' : World} (h : ArtR ds b k r n w) (hb : w'.heap[b]? = w.heap[b]?) (hk : ∀ T, r = some T → ∀ x, T.Fp x → w'.heap[x]? = w.heap[x]?) : ArtR ds b k r n w' :=
 ⟨h.n0, hb.trans h.row, fun T hT => ⟨(h.at' T hT).1.keep (hk T hT), (h.at' T hT).2⟩, h.mem⟩
/-- How many texts there can be. -/
theorem ents_le {ds : List Deed} {b k : Nat} {T : Art} {n : Int} {w : World} (h : ArtR ds b k (some T) n w) (hk : k ≤ ds.length) : T.ents.length ≤ ds.length := by
 have h1 := nd_sub (m := ds.map fun d => bs d.subj) (ents_nd (h.at' T rfl).2.2.1) fun l hl => by
  obtain ⟨e, he, rfl⟩ := List.mem_map.1 hl
  obtain ⟨d, hd, e2⟩ := treeM_mem k ds hk ((h.mem e).1 ⟨T, rfl, he⟩)
  exact List.mem_map.2 ⟨d, hd, e2.symm⟩
 simpa using h1
theorem ent_sub {ds : List Deed} {b k : Nat} {T : Art} {n : Int} {w : World} (h : ArtR ds b k (some T) n w) (hk : k ≤ ds.length) {e : Ent} (he : e ∈ T.ents) : ∃ d ∈ ds, e.1 = bs d.subj := treeM_mem k ds hk ((h.mem e).1 ⟨T, rfl, he⟩)
/-- The insertion at the root. -/
def RootC (ds : List Deed) (b k : Nat) (r : Option Art) (n : Int) (w : World) (e : Ending) (w' : World) : Prop :=
 ∃ (o : Value) (u : Bool) (T' : Art), e = .returned (.tuple #[o, .bool u]) ∧ OldP w' o ∧ w'.heap[b]? = some (.cells #[T'.ref, .int .i64 n] 139 (0, 0)) ∧ T'.At w' ∧ T'.Sep ∧ T'.WF ∧ (∀ x, T'.Fp x → (∃ T, r = some T ∧ T.Fp x) ∨ w.heap.size ≤ x) ∧ (∀ e : Ent, e ∈ T'.ents ↔ treeM (ds.take (k + 1)) e.1 = some e.2) ∧
  Only (fun x => x = b ∨ ∃ T, r = some T ∧ T.Fp x) w w'
theorem insRoot_any (ds : List Deed) (b k : Nat) (d : Deed) (r : Option Art) (n : Int) (v : Value) (t : Value) (w : World) (h : ArtR ds b k r n w) (hds : DeedsOK ds) (hd : ds[k]? = some d) (hop : d.op = 0) (hv : Sl w 1 v d.subj.size (u8s (bs d.subj)))
  (hfar : ∀ g o m c, v = .slice (some ⟨g, o, none⟩) m c → ¬ (g = b ∨ ∃ T, r = some T ∧ T.Fp g)) :
  Calls Tryz.prog 157 #[t, .pointer (some ⟨b, 0, none⟩), v, .int .i64 d.val, .int .i64 0] w (RootC ds b k r n w) := by
 obtain ⟨s1, s2, s3⟩ := hds.sub d (List.mem_of_getElem? hd)
 have hkl : k < ds.length := (List.getElem?_eq_some_iff.1 hd).1
 have hlb := (Array.getElem?_eq_some_iff.1 h.row).1
 have hmn : ∀ e : Ent, treeM (ds.take (k + 1)) e.1 = some e.2 ↔ e = (bs d.subj, d.val) ∨ (treeM (ds.take k) e.1 = some e.2 ∧ e.1 ≠ bs d.subj) := by
  rintro ⟨l, x⟩
  rw [treeM_take hd]
  by_cases hl : l = bs d.subj
  ·rw [if_pos hl, if_pos hop]
   simp only [hl, Option.some.injEq, Prod.mk.injEq, true_and, ne_eq, not_true_eq_false, and_false, or_false]
   exact eq_comm
  ·rw [if_neg hl]
   simp only [Prod.mk.injEq, hl, false_and, false_or, ne_eq, not_false_eq_true, and_true]
 rw [← bs_len] at hv s3
 cases r with
 | none =>
  refine (insertNil_any t v (bs d.subj) d.val b 0 w ((cell_row h.row).trans rfl) (frozen_row h.row) hv).mono ?_
  rintro e w' ⟨rfl, rfl⟩
  have hz : (w.setCell ⟨b, 0, none⟩ (.iface 197 (.pointer (some ⟨w.heap.size, 0, none⟩)))).heap.size = w.heap.size := size_setCell _ _ _
  have hs0 := heap_setCell_same w b 0 _ 139 (.iface 197 (.pointer (some ⟨w.heap.size, 0, none⟩))) h.row
  have ha := heap_alloc_new (w.setCell ⟨b, 0, none⟩ (.iface 197 (.pointer (some ⟨w.heap.size, 0, none⟩)))) (.cells #[.int .i64 d.val, .string (mk (bs d.subj))] 199)
  rw [hz] at ha
  refine ⟨.pointer none, false, .leaf w.heap.size d.val (bs d.subj), rfl, .inl rfl, ?_, ha, trivial, trivial, fun x hx => .inr (by have hx : x = w.heap.size := hx; omega), fun e => ?_, ?_⟩
  ·rw [((Below.refl _ _).alloc (Nat.le_refl _) _).block b (by rw [hz]; exact hlb)]; exact hs0
  ·rw [hmn]
   simp only [Art.ents, List.mem_singleton]
   refine ⟨.inl, ?_⟩
   rintro (h1 | ⟨h1, -⟩)
   ·exact h1
   ·obtain ⟨T, hT, -⟩ := (h.mem e).2 h1; cases hT
  ·exact ((Only.refl _ w).set (.inl (.inl rfl)) _).alloc _
 | some T =>
  obtain ⟨hAt, hSep, hWF, hnb, hge⟩ := h.at' T rfl
  have hent : ∀ e ∈ T.ents, 127 ∉ e.1 ∧ e.1.length ≤ 100000 := fun e he => by
   obtain ⟨d', hd', e2⟩ := ent_sub h (by omega) he
   obtain ⟨q1, -, q3⟩ := hds.sub d' hd'
   rw [e2, bs_len]; exact ⟨q1, by omega⟩
  have H : InsH T (bs d.subj) 0 v b 0 #[T.ref, .int .i64 n] 139 w :=
   ⟨h.row, rfl, hAt, hSep, hWF, hnb, small_of (m := 40) (by decide) hWF (by have := ents_le h (by omega); have := hds.len; omega), fun e he => (hent e he).1, s1, hv,
    fun g o m c e => ⟨fun hx => hfar g o m c e (.inr ⟨T, rfl, hx⟩), fun hx => hfar g o m c e (.inl hx)⟩, Nat.zero_le _, by omega⟩
  refine (insertT_any t (bs d.subj) v d.val T 0 b 0 _ 139 w H fun e he => (hent e he).2).mono ?_
  rintro e w' ⟨o, u, T', rfl, ho, hrow, hat, hsep, hins, -, hfp, hon⟩
  refine ⟨o, u, T', rfl, ho, hrow, hat, hsep, hins.wf, fun x hx => (hfp x hx).imp (fun h => ⟨T, rfl, h⟩) id, fun e => ?_, hon.mono fun x hx => ?_⟩
  ·rw [hins.mem, hmn, List.drop_zero]
   refine or_congr Iff.rfl (and_congr ?_ Iff.rfl)
   rw [← h.mem]
   exact ⟨fun he => ⟨T, rfl, he⟩, fun ⟨T2, e2, he⟩ => by cases e2; exact he⟩
  ·rcases hx with hx | rfl
   ·exact .inr ⟨T, rfl, hx⟩
   ·exact .inl rfl
set_option maxRecDepth 100000 in
set_option maxHeartbeats 1600000 in
theorem insertTree_any (ds : List Deed) (b k : Nat) (d : Deed) (F : Nat → Prop) (v : Value) (w : World) (h : ArtT ds b k F w) (hds : DeedsOK ds) (hd : ds[k]? = some d) (hop : d.op = 0) (hv : Sl w 1 v d.subj.size (u8s (bs d.subj)))
  (hfar : ∀ g o m c, v = .slice (some ⟨g, o, none⟩) m c → ¬ F g) :
  Calls Tryz.prog 109 #[.pointer (some ⟨b, 0, none⟩), v, .int .i64 d.val] w fun e w' =>
  ∃ o u F', e = .returned (.tuple #[o, .bool u]) ∧ OldP w' o ∧ ArtT ds b (k + 1) F' w' ∧ Only F w w' ∧ ∀ x, F' x → F x ∨ w.heap.size ≤ x := by
 obtain ⟨r, n, hR, hF⟩ := h
 obtain ⟨s1, s2, s3⟩ := hds.sub d (List.mem_of_getElem? hd)
 have hkl : k < ds.length := (List.getElem?_eq_some_iff.1 hd).1
 have hlen := hds.len
 have hn0 := hR.n0
 have hin := insRoot_any ds b k d r n v (.pointer (some ⟨b, 0, none⟩)) w hR hds hd hop hv (fun g o m c e hx => hfar g o m c e ((hF g).2 hx))
 have hlb := (Array.getElem?_eq_some_iff.1 hR.row).1
 rw [← bs_len] at hv
 obtain ⟨a, cap, rfl⟩ := hv.form
 obtain ⟨bb, oo, rfl, hb⟩ := slBytes hv s2
 have hix := Tryz.bytes_IndexByte bb oo (bs d.subj).length cap ((bs d.subj).map fun c => (c.toNat : Int)) 127 w (by simp) fun i hi => by
  rw [hb i _ (List.getElem?_eq_getElem hi)]
  simp [List.getD, List.getElem?_eq_getElem hi]
 have hno : Lib.indexByte (Lib.bytesOf ((bs d.subj).map fun c => (c.toNat : Int))) ((127 : Int).toNat.toUInt8) = -1 := by
  have e : Lib.bytesOf ((bs d.subj).map fun c => (c.toNat : Int)) = bs d.subj := by simp [Lib.bytesOf, Function.comp_def]
  rw [e]; exact indexByte_no s1
 rw [hno] at hix
 have HV := Lib.hid hv; clear hv
 have HR := Lib.hid hR; clear hR
 have HF := Lib.hid hF; clear hF
 clear hb hno
 go_enter Tryz.func109, Tryz.ntmps109
 go_wp2_with fail
 refine hix.mono ?_
 rintro e w2 ⟨rfl, rfl⟩
 clear hix
 go_wp2_with fail
 refine hin.mono ?_
 rintro e w3 ⟨o, u, T', rfl, ho, hrow, hat, hsep, hwf, hfp, hmem, hon⟩
 have hz3 := hon.size
 have hnb : ¬ T'.Fp b := fun hx => by
  rcases hfp b hx with ⟨T, hT, h1⟩ | h1
  ·exact (HR.out.at' T hT).2.2.2.1 h1
  ·omega
 have hge : ∀ x, T'.Fp x → b ≤ x := fun x hx => by
  rcases hfp x hx with ⟨T, hT, h1⟩ | h1
  ·exact (HR.out.at' T hT).2.2.2.2 x h1
  ·omega
 have c1 := (cell_row (j := 1) hrow).trans (show _ = some (Value.int .i64 n) from rfl)
 have f1 := frozen_row (j := 1) hrow
 have hl3 := World.block_lt_of_cell? _ _ c1
 have HM := Lib.hid hmem; clear hmem
 have HO := Lib.hid hon; clear hon
 have HFP := Lib.hid hfp; clear hfp
 have HRW := Lib.hid hrow; clear hrow
 have HAT := Lib.hid (And.intro hat (And.intro hsep (And.intro hwf (And.intro hnb hge)))); clear hat hsep hwf hnb hge
 have HOLD := Lib.hid ho; clear ho
 clear hin
 have fin : ∀ (m : Int) (W : World), -((k + 1 : Nat) : Int) ≤ m ∧ m ≤ (k + 1 : Nat) → W.heap[b]? = some (.cells #[T'.ref, .int .i64 m] 139 (0, 0)) → (∀ x, x ≠ b → W.heap[x]? = w3.heap[x]?) → Only (fun x => x = b) w3 W → OldP W o →
   ∃ o' u' F', Ending.returned (Value.tuple #[o, Value.bool u]) = .returned (.tuple #[o', .bool u']) ∧ OldP W o' ∧ ArtT ds b (k + 1) F' W ∧ Only F w2 W ∧ ∀ x, F' x → F x ∨ w2.heap.size ≤ x := by
  intro m W hm hrW hoth hoW hold
  refine ⟨o, u, fun x => x = b ∨ T'.Fp x, rfl, hold, ⟨some T', m, ⟨hm, hrW, fun T hT => ?_, fun e => ?_⟩, fun x => ?_⟩, ?_, fun x hx => ?_⟩
  ·cases hT
   obtain ⟨q1, q2, q3, q4, q5⟩ := HAT.out
   exact ⟨q1.keep fun x hx => hoth x (fun e => q4 (e ▸ hx)), q2, q3, q4, q5⟩
  ·rw [← HM.out]
   exact ⟨fun ⟨T, hT, he⟩ => by cases hT; exact he, fun he => ⟨T', rfl, he⟩⟩
  ·exact or_congr Iff.rfl ⟨fun hx => ⟨T', rfl, hx⟩, fun ⟨T, hT, hx⟩ => by cases hT; exact hx⟩
  ·refine (HO.out.mono (F' := F) fun x hx => (HF.out x).2 hx).trans hoW fun x hx => .inl ((HF.out x).2 (.inl hx))
  ·rcases hx with rfl | hx
   ·exact .inl ((HF.out x).2 (.inl rfl))
   ·rcases HFP.out x hx with h1 | h1
    ·exact .inl ((HF.out x).2 (.inr h1))
    ·exact .inr h1
 have HFIN := Lib.hid fin; clear fin
 have hn1 : n ≤ 40 := by omega
 have hn2 : -40 ≤ n := by omega
 cases u with
 | true =>
  go_wp2
  go_ret2
  exact HFIN.out n w3 (by omega) HRW.out (fun x _ => rfl) (Only.refl _ _) HOLD.out
 | false =>
  go_wp2
  go_ret2
  refine HFIN.out (n + 1) _ (by omega) (heap_setCell_same w3 b 1 _ 139 (.int .i64 (n + 1)) HRW.out) (fun x hx => heap_setCell_other _ _ _ _ hx) ((Only.refl (· = b) w3).set (.inl rfl) _) ?_
  rcases HOLD.out with h | ⟨g, q, y, h1, h2⟩
  ·exact .inl h
  ·by_cases hgb : g = b
   ·subst hgb
    have h3 := cell_row (j := q) HRW.out
    rw [h2] at h3
    match q, h3, h1 with
    | 0, h3, _ =>
     obtain ⟨ty, tb, e⟩ := T'.ref_form
     have h3 : some (Value.int .i64 y) = some T'.ref := h3
     rw [e] at h3; cases h3
    | 1, _, h1 => exact .inr ⟨g, 1, n + 1, h1, (cell_row (heap_setCell_same w3 g 1 _ 139 (.int .i64 (n + 1)) HRW.out)).trans rfl⟩
    | q + 2, h3, _ => simp at h3
   ·refine .inr ⟨g, q, y, h1, ?_⟩
    rw [World.cell?_of_block (heap_setCell_other _ _ _ _ hgb)]; exact h2
theorem artT0 (ds : List Deed) (w : World) : ArtT ds w.heap.size 0 (· = w.heap.size) (w.alloc (.cells #[.nilIface, .int .i64 0] 139)) :=
 ⟨none, 0, ⟨by omega, heap_alloc_new _ _, (fun T h => nomatch h), fun e => ⟨(fun ⟨T, h, _⟩ => nomatch h), fun h => by have h : (none : Option Int) = some e.2 := h; cases h⟩⟩, fun x => ⟨.inl, fun h => by rcases h with h | ⟨T, h, -⟩; exact h; cases h⟩⟩
end Go.Proofs.YtehlmjecbljafaaGreatDoor
