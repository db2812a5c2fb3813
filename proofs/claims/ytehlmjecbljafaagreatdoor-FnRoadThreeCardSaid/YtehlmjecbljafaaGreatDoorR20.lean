/- A subject tree: an insertion of a new kid: the walks. -/
import Derived.Test.YtehlmjecbljafaaGreatDoorR19
namespace Go.Proofs.YtehlmjecbljafaaGreatDoor
open Go Go.RowKit
set_option maxRecDepth 100000 in
set_option maxHeartbeats 12800000 in
theorem insAdd_any (t : Value) (k : Kd) (nb n : Nat) (pre l0 : List UInt8) (key : Nat → UInt8) (kid : Nat → Art) (si : Nat) (v : Value) (sb so : Nat) (cs : Array Value) (ty : TypeId) (w : World) (x : Int) (h : InsH (.node k nb pre n key kid) l0 si v sb so cs ty w) (hpl : pre.length ≤ 100000) (hp : pre <+: l0.drop si) (hp1 : pre ≠ []) (hno : ∀ i, i < n → key i ≠ piv (l0.drop (si + pre.length))) (hfull : n < k.cap) :
  Calls Tryz.prog 157 #[t, .pointer (some ⟨sb, so, none⟩), v, .int .i64 x, .int .i64 si] w (InsC (.node k nb pre n key kid) (l0.drop si) x sb so cs ty w) := by
 obtain ⟨a, cap, rfl⟩ := h.txt.form
 have hsc : w.cell? ⟨sb, so, none⟩ = some (.iface (tyP k) (.pointer (some ⟨nb, 0, none⟩))) := h.cell
 have hrow := h.at'.1
 have hp0 : w.cell? ⟨nb, k.cap, none⟩ = some (.string (mk pre)) := row_at hrow rowN_pre
 have hms : (mk pre).size = pre.length := mk_size pre
 have hslt := (Array.getElem?_eq_some_iff.1 h.row).1
 have hnlt := h.at'.lt nb (.inl rfl)
 have hle := h.le
 have hsz := h.size
 have iL : ∀ w, (method 508 (tyP k) (.pointer (some ⟨nb, 0, none⟩)) "pub-tokenroad/pub/natsserver/server/stree.isLeaf").run Tryz.prog w = .ok (299, .pointer (some ⟨nb, k.cap, none⟩)) w := fun w => isLeafN k nb w
 have iB : ∀ w, (method 508 (tyP k) (.pointer (some ⟨nb, 0, none⟩)) "pub-tokenroad/pub/natsserver/server/stree.base").run Tryz.prog w = .ok (298, .pointer (some ⟨nb, k.cap, none⟩)) w := fun w => baseN k nb w
 have iF : ∀ w, (method 508 (tyP k) (.pointer (some ⟨nb, 0, none⟩)) "pub-tokenroad/pub/natsserver/server/stree.findChild").run Tryz.prog w = .ok (findF k, .pointer (some ⟨nb, 0, none⟩)) w := fun w => findChildN k _ w
 have iU : ∀ w, (method 508 (tyP k) (.pointer (some ⟨nb, 0, none⟩)) "pub-tokenroad/pub/natsserver/server/stree.isFull").run Tryz.prog w = .ok (fullF k, .pointer (some ⟨nb, 0, none⟩)) w := fun w => isFullN k _ w
 have iCF := fun (args : Array Value) (w : World) => callFind k args w
 have iCU := fun (args : Array Value) (w : World) => callFull k args w
 have qN : ∀ w, (binOp .eql 137 (.iface (tyP k) (.pointer (some ⟨nb, 0, none⟩))) .nilIface).run Tryz.prog w = .ok (.bool false) w := fun w => nodeNe k _ w
 have hlp : (pre.length : Int) > 0 := by have := List.length_pos_iff.2 hp1; omega
 have hpl2 := pre_len hp hle
 obtain ⟨sa, hrun, hsub⟩ := from_run a l0.length cap si hle
 obtain ⟨sc, hrun3, hsub3⟩ := from_run a l0.length cap (si + pre.length) hpl2
 rw [Int.natCast_add] at hrun3
 have hcp : cpl pre (l0.drop si) = pre.length := cpl_pre hp
 have HNO := Lib.hid hno; clear hno
 have HPP := Lib.hid hp; clear hp
 have HH := Lib.hid h; clear h
 have HC := Lib.hid hcp; clear hcp
 have HS1 := Lib.hid hsub; clear hsub
 have HS3 := Lib.hid hsub3; clear hsub3
 have HROW := Lib.hid hrow; clear hrow
 have HFU := Lib.hid hfull; clear hfull
 go_enter Tryz.func157, Tryz.ntmps157
 go_wp2_with fail
 refine (nodeIs_any _ w).mono ?_
 rintro e w1 ⟨rfl, rfl⟩
 go_wp2_with fail
 refine (base_any _ w).mono ?_
 rintro e w1 ⟨rfl, rfl⟩
 go_wp2_with fail
 refine wp_region_L [0, 1, 2, 3, 5, 6, 7] (fun W' => W'.cell? ⟨nb, k.cap, none⟩ = some (.string (mk pre))) (by kernel_rfl) (by kernel_rfl) hp0 (fun ne => ?_)
 have S0 := fun x : SubC (fun W' => W'.cell? ⟨nb, k.cap, none⟩ = some (.string (mk pre))) => x.ok
 repeat (refine wpCL_q rfl rfl ?_; go_big_quiet_step (fail); refine wpQuiet_nil ?_)
 refine wpCL_n rfl rfl rfl rfl ?_
 go_simp
 repeat (refine wpCL_q rfl rfl ?_; go_big_quiet_step (fail); refine wpQuiet_nil ?_)
 refine wpCL_ch rfl rfl (fun K hK => ?_)
 go_simp
 simp only [runsTo_enter]
 refine (s2bL pre w.drew hpl).mono ?_
 rintro e w3 ⟨a3, c3, rfl, hs3, hb3⟩
 have hb3 := bel_drew hb3
 refine ⟨_, rfl, hK _ _ ⟨⟨w3, cell_bel hp0 hb3⟩, rfl⟩ ?_⟩
 clear hK K
 go_simp
 repeat (refine wpCL_q rfl rfl ?_; go_big_quiet_step (fail); refine wpQuiet_nil ?_)
 refine wpCL_ch rfl rfl (fun K hK => ?_)
 go_simp
 simp only [runsTo_enter]
 refine (cpl_any _ _ pre (l0.drop si) w3 hs3 (HS1.out w3 l0 (HH.out.txt.keep hb3) rfl)).mono ?_
 rintro e w4 ⟨rfl, hb4⟩
 rw [HC.out]
 have hbw4 := bel2 hb3 hb4
 have hp4 := cell_bel (cell_bel hp0 hb3) hb4
 refine ⟨_, rfl, hK _ _ ⟨⟨w4, hp4⟩, rfl⟩ ?_⟩
 clear hK K S0 ne hs3 hb3 hb4 hp0 hsc hrun
 go_simp
 refine wpCL_last ?_
 have hrow4 := (hbw4.block nb hnlt).trans HROW.out
 have ht4 := HH.out.txt.keep hbw4
 have hpv := pivot_any _ l0 (si + pre.length) w4.drew (ht4.keep (Below.refl _ w4).drew)
 rw [Int.natCast_add] at hpv
 have hfc := findChild_any k nb pre n key kid (piv (l0.drop (si + pre.length))) w4.drew hrow4 HH.out.wf.2.1
 generalize hld : l0.drop (si + pre.length) = ld at *
 have HT4 := Lib.hid ht4; clear ht4
 have HR4 := Lib.hid hrow4; clear hrow4
 have HLD := Lib.hid hld; clear hld
 go_wp2_with fail
 refine wp_region_L [0, 1, 2, 4, 5, 6] (fun _ => True) (by kernel_rfl) (by kernel_rfl) trivial (fun ne => ?_)
 repeat (refine wpCL_q rfl rfl ?_; go_big_quiet_step (fail); refine wpQuiet_nil ?_)
 refine wpCL_ch rfl rfl (fun K hK => ?_)
 go_simp
 simp only [runsTo_enter]
 refine hpv.mono ?_
 rintro e w5 ⟨rfl, hw5⟩
 refine ⟨_, rfl, hK _ _ ⟨⟨w5, trivial⟩, rfl⟩ ?_⟩
 clear hK K
 go_simp
 refine wpCL_mf rfl rfl rfl rfl ?_
 go_simp
 refine wpCL_nm rfl rfl (nilFind k nb) rfl rfl ?_
 go_simp
 repeat (refine wpCL_q rfl rfl ?_; go_big_quiet_step (fail); refine wpQuiet_nil ?_)
 refine wpCL_ch rfl rfl (fun K hK => ?_)
 go_simp
 simp only [runsTo_enter]
 rw [← hw5]
 refine hfc.mono ?_
 rintro e w6 ⟨hfound, hw6⟩
 obtain rfl : e = .returned (.pointer none) := by
  rcases hfound with ⟨i, hi, hki, he⟩ | ⟨-, he⟩
  ·exact absurd hki (HNO.out i hi)
  ·exact he
 refine ⟨_, rfl, hK _ _ ⟨⟨w6, trivial⟩, rfl⟩ ?_⟩
 clear hK K hfound hfc hpv
 go_simp
 have hbw6 : Below w.heap.size w w6 := by rw [← hw6]; exact hbw4.drew
 clear hw6 hw5
 have hr6 := (hbw6.block nb hnlt).trans HROW.out
 have hfu := isFull_any k nb pre n key kid w6 hr6
 rw [show decide (k.cap ≤ n) = false by have := HFU.out; simp; omega] at hfu
 have HR6 := Lib.hid hr6; clear hr6
 refine wpCL_last ?_
 go_wp2_with fail
 refine hfu.mono ?_
 rintro e w7 ⟨rfl, rfl⟩
 clear hfu
 have hpw := pivot_any _ l0 (si + pre.length) w6.drew ((HH.out.txt.keep hbw6).keep (Below.refl _ w6).drew)
 rw [Int.natCast_add] at hpw
 rw [HLD.out] at hpw
 have hnl := newLeaf_abs (.slice sc (l0.length - (si + pre.length)) (cap - (si + pre.length))) ld x w6.drew (by rw [← HLD.out]; exact HS3.out w6.drew l0 ((HH.out.txt.keep hbw6).keep (Below.refl _ w6).drew) rfl)
 have iA : ∀ w, (method 508 (tyP k) (.pointer (some ⟨nb, 0, none⟩)) "pub-tokenroad/pub/natsserver/server/stree.addChild").run Tryz.prog w = .ok (addF k, .pointer (some ⟨nb, 0, none⟩)) w := fun w => addChildN k _ w
 have iCA := fun (args : Array Value) (w : World) => callAdd k args w
 go_wp2_with fail
 refine wp_region_L [0, 1, 2, 4, 5, 6, 7, 10, 11, 12] (fun _ => True) (by kernel_rfl) (by kernel_rfl) trivial (fun ne => ?_)
 repeat (refine wpCL_q rfl rfl ?_; go_big_quiet_step (fail); refine wpQuiet_nil ?_)
 refine wpCL_ch rfl rfl (fun K hK => ?_)
 go_simp
 simp only [runsTo_enter]
 refine hpw.mono ?_
 rintro e w9 ⟨rfl, hw9⟩
 refine ⟨_, rfl, hK _ _ ⟨⟨w9, trivial⟩, rfl⟩ ?_⟩
 clear hK K
 go_simp
 repeat (refine wpCL_q rfl rfl ?_; go_big_quiet_step (fail); refine wpQuiet_nil ?_)
 refine wpCL_ch rfl rfl (fun K hK => ?_)
 go_simp
 simp only [runsTo_enter]
 rw [← hw9]
 refine hnl.mono ?_
 rintro e w10 ⟨rfl, hN10, hb10⟩
 refine ⟨_, rfl, hK _ _ ⟨⟨w10, trivial⟩, rfl⟩ ?_⟩
 clear hK K hpw hnl hw9 w9
 go_simp
 refine wpCL_w rfl rfl ?_
 go_wp2_with fail
 refine ⟨⟨⟨w10, trivial⟩, rfl⟩, ?_⟩
 refine wpCL_mf rfl rfl rfl rfl ?_
 go_simp
 refine wpCL_nm rfl rfl (nilAdd k nb) rfl rfl ?_
 go_simp
 repeat (refine wpCL_q rfl rfl ?_; go_big_quiet_step (fail); refine wpQuiet_nil ?_)
 refine wpCL_last ?_
 have hrw10 := (hb10.block nb (by have := hbw6.size; exact (by omega : nb < w6.heap.size))).trans HR6.out
 have had := addChild_any k nb pre n key kid (piv ld) (.leaf w6.heap.size x ld) w10 hrw10 HFU.out
 simp only [Art.ref] at had
 have hz6 := hbw6.size
 have hzN : w6.heap.size < w10.heap.size := (Array.getElem?_eq_some_iff.1 hN10).1
 have hbw10 : Below w.heap.size w w10 := bel2 hbw6 (bel_drew hb10)
 have HN10 := Lib.hid hN10; clear hN10 hrw10 hb10
 go_wp2_with fail
 refine had.mono ?_
 rintro e w11 ⟨rfl, hrw11, ho11⟩
 go_wp2
 go_ret2
 have hsbn : sb ≠ nb := fun e => HH.out.nsb (e ▸ .inl rfl)
 have hsr : w11.heap[sb]? = some (.cells cs ty (0, 0)) := (ho11.block sb (by omega) hsbn).trans ((hbw10.block sb hslt).trans HH.out.row)
 refine add_done (k' := k) (nb' := nb) (NL := w6.heap.size) HH.out (HPP.out) ?_ HFU.out (Nat.le_succ_of_le HH.out.wf.1) (.inl rfl) hz6 (by omega) ?_ ?_ ?_ ?_
 ·rw [HLD.out]; exact HNO.out
 ·rw [HLD.out]; exact hrw11
 ·rw [HLD.out]; exact (ho11.block _ hzN (by omega)).trans HN10.out
 ·rw [set_self (show cs[so]? = some (.iface (tyP k) (.pointer (some ⟨nb, 0, none⟩))) from HH.out.slot)]; exact hsr
 ·exact ((Only.of hbw10).trans ho11 fun b hb => .inl hb).mono fun z hz => .inl hz
set_option maxRecDepth 100000 in
set_option maxHeartbeats 12800000 in
theorem insAdd0_any (t : Value) (k : Kd) (nb n : Nat) (pre l0 : List UInt8) (key : Nat → UInt8) (kid : Nat → Art) (si : Nat) (v : Value) (sb so : Nat) (cs : Array Value) (ty : TypeId) (w : World) (x : Int) (h : InsH (.node k nb pre n key kid) l0 si v sb so cs ty w) (hpl : pre.length ≤ 100000) (hp1 : pre = []) (hno : ∀ i, i < n → key i ≠ piv (l0.drop (si))) (hfull : n < k.cap) :
  Calls Tryz.prog 157 #[t, .pointer (some ⟨sb, so, none⟩), v, .int .i64 x, .int .i64 si] w (InsC (.node k nb pre n key kid) (l0.drop si) x sb so cs ty w) := by
 obtain ⟨a, cap, rfl⟩ := h.txt.form
 have hsc : w.cell? ⟨sb, so, none⟩ = some (.iface (tyP k) (.pointer (some ⟨nb, 0, none⟩))) := h.cell
 have hrow := h.at'.1
 have hp0 : w.cell? ⟨nb, k.cap, none⟩ = some (.string (mk pre)) := row_at hrow rowN_pre
 have hms : (mk pre).size = pre.length := mk_size pre
 have hslt := (Array.getElem?_eq_some_iff.1 h.row).1
 have hnlt := h.at'.lt nb (.inl rfl)
 have hle := h.le
 have hsz := h.size
 have iL : ∀ w, (method 508 (tyP k) (.pointer (some ⟨nb, 0, none⟩)) "pub-tokenroad/pub/natsserver/server/stree.isLeaf").run Tryz.prog w = .ok (299, .pointer (some ⟨nb, k.cap, none⟩)) w := fun w => isLeafN k nb w
 have iB : ∀ w, (method 508 (tyP k) (.pointer (some ⟨nb, 0, none⟩)) "pub-tokenroad/pub/natsserver/server/stree.base").run Tryz.prog w = .ok (298, .pointer (some ⟨nb, k.cap, none⟩)) w := fun w => baseN k nb w
 have iF : ∀ w, (method 508 (tyP k) (.pointer (some ⟨nb, 0, none⟩)) "pub-tokenroad/pub/natsserver/server/stree.findChild").run Tryz.prog w = .ok (findF k, .pointer (some ⟨nb, 0, none⟩)) w := fun w => findChildN k _ w
 have iU : ∀ w, (method 508 (tyP k) (.pointer (some ⟨nb, 0, none⟩)) "pub-tokenroad/pub/natsserver/server/stree.isFull").run Tryz.prog w = .ok (fullF k, .pointer (some ⟨nb, 0, none⟩)) w := fun w => isFullN k _ w
 have iCF := fun (args : Array Value) (w : World) => callFind k args w
 have iCU := fun (args : Array Value) (w : World) => callFull k args w
 have qN : ∀ w, (binOp .eql 137 (.iface (tyP k) (.pointer (some ⟨nb, 0, none⟩))) .nilIface).run Tryz.prog w = .ok (.bool false) w := fun w => nodeNe k _ w
 have hlp : ¬ (pre.length : Int) > 0 := by rw [hp1]; simp
 have hpp : pre <+: l0.drop si := by rw [hp1]; exact List.nil_prefix
 have hl0 : si + pre.length = si := by rw [hp1]; rfl
 obtain ⟨sc, hrun3, hsub3⟩ := from_run a l0.length cap si hle
 have HL0 := Lib.hid hl0; clear hl0
 have HNO := Lib.hid hno; clear hno
 have HPP := Lib.hid hpp; clear hpp
 have HP1 := Lib.hid hp1; clear hp1
 have HS3 := Lib.hid hsub3; clear hsub3
 have HFU := Lib.hid hfull; clear hfull
 have hpv := pivot_any _ l0 si w.drew (h.txt.keep (Below.refl _ w).drew)
 have hfc := findChild_any k nb pre n key kid (piv (l0.drop si)) w.drew hrow h.wf.2.1
 have HH := Lib.hid h; clear h
 have HROW := Lib.hid hrow; clear hrow
 generalize hld : l0.drop si = ld at *
 have HLD := Lib.hid hld; clear hld
 go_enter Tryz.func157, Tryz.ntmps157
 go_wp2_with fail
 refine (nodeIs_any _ w).mono ?_
 rintro e w1 ⟨rfl, rfl⟩
 go_wp2_with fail
 refine (base_any _ w).mono ?_
 rintro e w1 ⟨rfl, rfl⟩
 go_wp2_with fail
 refine wp_region_L [0, 1, 2, 4, 5, 6] (fun _ => True) (by kernel_rfl) (by kernel_rfl) trivial (fun ne => ?_)
 repeat (refine wpCL_q rfl rfl ?_; go_big_quiet_step (fail); refine wpQuiet_nil ?_)
 refine wpCL_ch rfl rfl (fun K hK => ?_)
 go_simp
 simp only [runsTo_enter]
 refine hpv.mono ?_
 rintro e w5 ⟨rfl, hw5⟩
 refine ⟨_, rfl, hK _ _ ⟨⟨w5, trivial⟩, rfl⟩ ?_⟩
 clear hK K
 go_simp
 refine wpCL_mf rfl rfl rfl rfl ?_
 go_simp
 refine wpCL_nm rfl rfl (nilFind k nb) rfl rfl ?_
 go_simp
 repeat (refine wpCL_q rfl rfl ?_; go_big_quiet_step (fail); refine wpQuiet_nil ?_)
 refine wpCL_ch rfl rfl (fun K hK => ?_)
 go_simp
 simp only [runsTo_enter]
 rw [← hw5]
 refine hfc.mono ?_
 rintro e w6 ⟨hfound, hw6⟩
 obtain rfl : e = .returned (.pointer none) := by
  rcases hfound with ⟨i, hi, hki, he⟩ | ⟨-, he⟩
  ·exact absurd hki (HNO.out i hi)
  ·exact he
 refine ⟨_, rfl, hK _ _ ⟨⟨w6, trivial⟩, rfl⟩ ?_⟩
 clear hK K hfound hfc hpv
 go_simp
 have hbw6 : Below w.heap.size w w6 := by rw [← hw6]; exact (Below.refl _ w).drew
 clear hw6 hw5
 have hr6 := (hbw6.block nb hnlt).trans HROW.out
 have hfu := isFull_any k nb pre n key kid w6 hr6
 rw [show decide (k.cap ≤ n) = false by have := HFU.out; simp; omega] at hfu
 have HR6 := Lib.hid hr6; clear hr6
 refine wpCL_last ?_
 go_wp2_with fail
 refine hfu.mono ?_
 rintro e w7 ⟨rfl, rfl⟩
 clear hfu
 have hpw := pivot_any _ l0 (si) w6.drew ((HH.out.txt.keep hbw6).keep (Below.refl _ w6).drew)
 rw [HLD.out] at hpw
 have hnl := newLeaf_abs (.slice sc (l0.length - (si)) (cap - (si))) ld x w6.drew (by rw [← HLD.out]; exact HS3.out w6.drew l0 ((HH.out.txt.keep hbw6).keep (Below.refl _ w6).drew) rfl)
 have iA : ∀ w, (method 508 (tyP k) (.pointer (some ⟨nb, 0, none⟩)) "pub-tokenroad/pub/natsserver/server/stree.addChild").run Tryz.prog w = .ok (addF k, .pointer (some ⟨nb, 0, none⟩)) w := fun w => addChildN k _ w
 have iCA := fun (args : Array Value) (w : World) => callAdd k args w
 go_wp2_with fail
 refine wp_region_L [0, 1, 2, 4, 5, 6, 7, 10, 11, 12] (fun _ => True) (by kernel_rfl) (by kernel_rfl) trivial (fun ne => ?_)
 repeat (refine wpCL_q rfl rfl ?_; go_big_quiet_step (fail); refine wpQuiet_nil ?_)
 refine wpCL_ch rfl rfl (fun K hK => ?_)
 go_simp
 simp only [runsTo_enter]
 refine hpw.mono ?_
 rintro e w9 ⟨rfl, hw9⟩
 refine ⟨_, rfl, hK _ _ ⟨⟨w9, trivial⟩, rfl⟩ ?_⟩
 clear hK K
 go_simp
 repeat (refine wpCL_q rfl rfl ?_; go_big_quiet_step (fail); refine wpQuiet_nil ?_)
 refine wpCL_ch rfl rfl (fun K hK => ?_)
 go_simp
 simp only [runsTo_enter]
 rw [← hw9]
 refine hnl.mono ?_
 rintro e w10 ⟨rfl, hN10, hb10⟩
 refine ⟨_, rfl, hK _ _ ⟨⟨w10, trivial⟩, rfl⟩ ?_⟩
 clear hK K hpw hnl hw9 w9
 go_simp
 refine wpCL_w rfl rfl ?_
 go_wp2_with fail
 refine ⟨⟨⟨w10, trivial⟩, rfl⟩, ?_⟩
 refine wpCL_mf rfl rfl rfl rfl ?_
 go_simp
 refine wpCL_nm rfl rfl (nilAdd k nb) rfl rfl ?_
 go_simp
 repeat (refine wpCL_q rfl rfl ?_; go_big_quiet_step (fail); refine wpQuiet_nil ?_)
 refine wpCL_last ?_
 have hrw10 := (hb10.block nb (by have := hbw6.size; exact (by omega : nb < w6.heap.size))).trans HR6.out
 have had := addChild_any k nb pre n key kid (piv ld) (.leaf w6.heap.size x ld) w10 hrw10 HFU.out
 simp only [Art.ref] at had
 have hz6 := hbw6.size
 have hzN : w6.heap.size < w10.heap.size := (Array.getElem?_eq_some_iff.1 hN10).1
 have hbw10 : Below w.heap.size w w10 := bel2 hbw6 (bel_drew hb10)
 have HN10 := Lib.hid hN10; clear hN10 hrw10 hb10
 go_wp2_with fail
 refine had.mono ?_
 rintro e w11 ⟨rfl, hrw11, ho11⟩
 go_wp2
 go_ret2
 have hsbn : sb ≠ nb := fun e => HH.out.nsb (e ▸ .inl rfl)
 have hsr : w11.heap[sb]? = some (.cells cs ty (0, 0)) := (ho11.block sb (by omega) hsbn).trans ((hbw10.block sb hslt).trans HH.out.row)
 rw [← HLD.out]
 refine add_done (k' := k) (nb' := nb) (NL := w6.heap.size) HH.out (by rw [HLD.out]; exact HPP.out) ?_ HFU.out (Nat.le_succ_of_le HH.out.wf.1) (.inl rfl) hz6 (by omega) ?_ ?_ ?_ ?_
 ·rw [HL0.out, HLD.out]; exact HNO.out
 ·rw [HL0.out, HLD.out]; exact hrw11
 ·rw [HL0.out, HLD.out]; exact (ho11.block _ hzN (by omega)).trans HN10.out
 ·rw [set_self (show cs[so]? = some (.iface (tyP k) (.pointer (some ⟨nb, 0, none⟩))) from HH.out.slot)]; exact hsr
 ·exact ((Only.of hbw10).trans ho11 fun b hb => .inl hb).mono fun z hz => .inl hz
set_option maxRecDepth 100000 in
set_option maxHeartbeats 12800000 in
theorem insGrow_any (t : Value) (k : Kd) (nb n : Nat) (pre l0 : List UInt8) (key : Nat → UInt8) (kid : Nat → Art) (si : Nat) (v : Value) (sb so : Nat) (cs : Array Value) (ty : TypeId) (w : World) (x : Int) (h : InsH (.node k nb pre n key kid) l0 si v sb so cs ty w) (hpl : pre.length ≤ 100000) (hp : pre <+: l0.drop si) (hp1 : pre ≠ []) (hno : ∀ i, i < n → key i ≠ piv (l0.drop (si + pre.length))) (hfull : n = k.cap) :
  Calls Tryz.prog 157 #[t, .pointer (some ⟨sb, so, none⟩), v, .int .i64 x, .int .i64 si] w (InsC (.node k nb pre n key kid) (l0.drop si) x sb so cs ty w) := by
 obtain ⟨a, cap, rfl⟩ := h.txt.form
 have hsc : w.cell? ⟨sb, so, none⟩ = some (.iface (tyP k) (.pointer (some ⟨nb, 0, none⟩))) := h.cell
 have hrow := h.at'.1
 have hp0 : w.cell? ⟨nb, k.cap, none⟩ = some (.string (mk pre)) := row_at hrow rowN_pre
 have hms : (mk pre).size = pre.length := mk_size pre
 have hslt := (Array.getElem?_eq_some_iff.1 h.row).1
 have hnlt := h.at'.lt nb (.inl rfl)
 have hle := h.le
 have hsz := h.size
 have iL : ∀ w, (method 508 (tyP k) (.pointer (some ⟨nb, 0, none⟩)) "pub-tokenroad/pub/natsserver/server/stree.isLeaf").run Tryz.prog w = .ok (299, .pointer (some ⟨nb, k.cap, none⟩)) w := fun w => isLeafN k nb w
 have iB : ∀ w, (method 508 (tyP k) (.pointer (some ⟨nb, 0, none⟩)) "pub-tokenroad/pub/natsserver/server/stree.base").run Tryz.prog w = .ok (298, .pointer (some ⟨nb, k.cap, none⟩)) w := fun w => baseN k nb w
 have iF : ∀ w, (method 508 (tyP k) (.pointer (some ⟨nb, 0, none⟩)) "pub-tokenroad/pub/natsserver/server/stree.findChild").run Tryz.prog w = .ok (findF k, .pointer (some ⟨nb, 0, none⟩)) w := fun w => findChildN k _ w
 have iU : ∀ w, (method 508 (tyP k) (.pointer (some ⟨nb, 0, none⟩)) "pub-tokenroad/pub/natsserver/server/stree.isFull").run Tryz.prog w = .ok (fullF k, .pointer (some ⟨nb, 0, none⟩)) w := fun w => isFullN k _ w
 have iCF := fun (args : Array Value) (w : World) => callFind k args w
 have iCU := fun (args : Array Value) (w : World) => callFull k args w
 have qN : ∀ w, (binOp .eql 137 (.iface (tyP k) (.pointer (some ⟨nb, 0, none⟩))) .nilIface).run Tryz.prog w = .ok (.bool false) w := fun w => nodeNe k _ w
 have hlp : (pre.length : Int) > 0 := by have := List.length_pos_iff.2 hp1; omega
 have hpl2 := pre_len hp hle
 obtain ⟨sa, hrun, hsub⟩ := from_run a l0.length cap si hle
 obtain ⟨sc, hrun3, hsub3⟩ := from_run a l0.length cap (si + pre.length) hpl2
 rw [Int.natCast_add] at hrun3
 have hcp : cpl pre (l0.drop si) = pre.length := cpl_pre hp
 have HNO := Lib.hid hno; clear hno
 have HPP := Lib.hid hp; clear hp
 have HH := Lib.hid h; clear h
 have HC := Lib.hid hcp; clear hcp
 have HS1 := Lib.hid hsub; clear hsub
 have HS3 := Lib.hid hsub3; clear hsub3
 have HROW := Lib.hid hrow; clear hrow
 have HFU := Lib.hid hfull; clear hfull
 go_enter Tryz.func157, Tryz.ntmps157
 go_wp2_with fail
 refine (nodeIs_any _ w).mono ?_
 rintro e w1 ⟨rfl, rfl⟩
 go_wp2_with fail
 refine (base_any _ w).mono ?_
 rintro e w1 ⟨rfl, rfl⟩
 go_wp2_with fail
 refine wp_region_L [0, 1, 2, 3, 5, 6, 7] (fun W' => W'.cell? ⟨nb, k.cap, none⟩ = some (.string (mk pre))) (by kernel_rfl) (by kernel_rfl) hp0 (fun ne => ?_)
 have S0 := fun x : SubC (fun W' => W'.cell? ⟨nb, k.cap, none⟩ = some (.string (mk pre))) => x.ok
 repeat (refine wpCL_q rfl rfl ?_; go_big_quiet_step (fail); refine wpQuiet_nil ?_)
 refine wpCL_n rfl rfl rfl rfl ?_
 go_simp
 repeat (refine wpCL_q rfl rfl ?_; go_big_quiet_step (fail); refine wpQuiet_nil ?_)
 refine wpCL_ch rfl rfl (fun K hK => ?_)
 go_simp
 simp only [runsTo_enter]
 refine (s2bL pre w.drew hpl).mono ?_
 rintro e w3 ⟨a3, c3, rfl, hs3, hb3⟩
 have hb3 := bel_drew hb3
 refine ⟨_, rfl, hK _ _ ⟨⟨w3, cell_bel hp0 hb3⟩, rfl⟩ ?_⟩
 clear hK K
 go_simp
 repeat (refine wpCL_q rfl rfl ?_; go_big_quiet_step (fail); refine wpQuiet_nil ?_)
 refine wpCL_ch rfl rfl (fun K hK => ?_)
 go_simp
 simp only [runsTo_enter]
 refine (cpl_any _ _ pre (l0.drop si) w3 hs3 (HS1.out w3 l0 (HH.out.txt.keep hb3) rfl)).mono ?_
 rintro e w4 ⟨rfl, hb4⟩
 rw [HC.out]
 have hbw4 := bel2 hb3 hb4
 have hp4 := cell_bel (cell_bel hp0 hb3) hb4
 refine ⟨_, rfl, hK _ _ ⟨⟨w4, hp4⟩, rfl⟩ ?_⟩
 clear hK K S0 ne hs3 hb3 hb4 hp0 hsc hrun
 go_simp
 refine wpCL_last ?_
 have hrow4 := (hbw4.block nb hnlt).trans HROW.out
 have ht4 := HH.out.txt.keep hbw4
 have hpv := pivot_any _ l0 (si + pre.length) w4.drew (ht4.keep (Below.refl _ w4).drew)
 rw [Int.natCast_add] at hpv
 have hfc := findChild_any k nb pre n key kid (piv (l0.drop (si + pre.length))) w4.drew hrow4 HH.out.wf.2.1
 generalize hld : l0.drop (si + pre.length) = ld at *
 have HT4 := Lib.hid ht4; clear ht4
 have HR4 := Lib.hid hrow4; clear hrow4
 have HLD := Lib.hid hld; clear hld
 go_wp2_with fail
 refine wp_region_L [0, 1, 2, 4, 5, 6] (fun _ => True) (by kernel_rfl) (by kernel_rfl) trivial (fun ne => ?_)
 repeat (refine wpCL_q rfl rfl ?_; go_big_quiet_step (fail); refine wpQuiet_nil ?_)
 refine wpCL_ch rfl rfl (fun K hK => ?_)
 go_simp
 simp only [runsTo_enter]
 refine hpv.mono ?_
 rintro e w5 ⟨rfl, hw5⟩
 refine ⟨_, rfl, hK _ _ ⟨⟨w5, trivial⟩, rfl⟩ ?_⟩
 clear hK K
 go_simp
 refine wpCL_mf rfl rfl rfl rfl ?_
 go_simp
 refine wpCL_nm rfl rfl (nilFind k nb) rfl rfl ?_
 go_simp
 repeat (refine wpCL_q rfl rfl ?_; go_big_quiet_step (fail); refine wpQuiet_nil ?_)
 refine wpCL_ch rfl rfl (fun K hK => ?_)
 go_simp
 simp only [runsTo_enter]
 rw [← hw5]
 refine hfc.mono ?_
 rintro e w6 ⟨hfound, hw6⟩
 obtain rfl : e = .returned (.pointer none) := by
  rcases hfound with ⟨i, hi, hki, he⟩ | ⟨-, he⟩
  ·exact absurd hki (HNO.out i hi)
  ·exact he
 refine ⟨_, rfl, hK _ _ ⟨⟨w6, trivial⟩, rfl⟩ ?_⟩
 clear hK K hfound hfc hpv
 go_simp
 have hbw6 : Below w.heap.size w w6 := by rw [← hw6]; exact hbw4.drew
 clear hw6 hw5
 have hr6 := (hbw6.block nb hnlt).trans HROW.out
 have hfu := isFull_any k nb pre n key kid w6 hr6
 rw [show decide (k.cap ≤ n) = true by have := HFU.out; simp; omega] at hfu
 have HR6 := Lib.hid hr6; clear hr6
 refine wpCL_last ?_
 go_wp2_with fail
 refine hfu.mono ?_
 rintro e w7 ⟨rfl, rfl⟩
 clear hfu
 have iG : ∀ w, (method 508 (tyP k) (.pointer (some ⟨nb, 0, none⟩)) "pub-tokenroad/pub/natsserver/server/stree.grow").run Tryz.prog w = .ok (growF k, .pointer (some ⟨nb, 0, none⟩)) w := fun w => growN k _ w
 have iCG := fun (args : Array Value) (w : World) => callGrow k args w
 go_wp2_with fail
 refine (nodeGrow_any k nb pre n key kid w6 HR6.out HFU.out HH.out.small.1).mono ?_
 rintro e w8 ⟨k', ⟨hk', hlo'⟩, rfl, hrn, hb8⟩
 have hz6 := hbw6.size
 have hzg : w6.heap.size < w8.heap.size := (Array.getElem?_eq_some_iff.1 hrn).1
 have hbw8 := bel2 hbw6 hb8
 generalize hNB : w6.heap.size = NB at *
 have hs8 := (hbw8.block sb hslt).trans HH.out.row
 have cs8 := (cell_row (j := so) hs8).trans HH.out.slot
 have fs8 := frozen_row (j := so) hs8
 have hs8' := heap_setCell_same w8 sb so cs ty (.iface (tyP k') (.pointer (some ⟨NB, 0, none⟩))) hs8
 have hoth := fun z (hz : z ≠ sb) => heap_setCell_other w8 ⟨sb, so, none⟩ z (.iface (tyP k') (.pointer (some ⟨NB, 0, none⟩))) hz
 have hrn' := (hoth NB (by omega)).trans hrn
 have ho8 : Only (fun z => z = nb ∨ z = sb) w (w8.setCell ⟨sb, so, none⟩ (.iface (tyP k') (.pointer (some ⟨NB, 0, none⟩)))) := (Only.of hbw8).set (.inl (.inr rfl)) _
 have hz8 : (w8.setCell ⟨sb, so, none⟩ (.iface (tyP k') (.pointer (some ⟨NB, 0, none⟩)))).heap.size = w8.heap.size := size_setCell _ _ _
 have htx := HH.out.txt.only ho8 (fun b o e hbb => by
  have := HH.out.far b o _ _ (by rw [e])
  rcases hbb with rfl | rfl
  ·exact this.1 (.inl rfl)
  ·exact this.2 rfl)
 have HHS := Lib.hid (And.intro hs8' (And.intro hrn' (And.intro ho8 (And.intro hz8 htx))))
 clear hs8 hs8' hoth hrn' ho8 hz8 htx hrn hb8 iG iCG iCU iU
 go_wp2_with fail
 refine wp_any (fun W => W.heap[sb]? = some (.cells (cs.setIfInBounds so (.iface (tyP k') (.pointer (some ⟨NB, 0, none⟩)))) ty (0, 0)) ∧ W.heap[NB]? = some (.cells (rowN k' pre n key kid).toArray (tyN k') (0, 0)) ∧ Only (fun z => z = nb ∨ z = sb) w W ∧ W.heap.size = w8.heap.size ∧ Sl W 1 (.slice a l0.length cap) l0.length (u8s l0)) HHS.out ?_
 rintro W ⟨hWs, hWn, hWo, hWz, hWt⟩
 clear HHS cs8 fs8
 have hpw := pivot_any _ l0 (si + pre.length) W.drew (hWt.keep (Below.refl _ W).drew)
 rw [Int.natCast_add] at hpw
 rw [HLD.out] at hpw
 have hnl := newLeaf_abs (.slice sc (l0.length - (si + pre.length)) (cap - (si + pre.length))) ld x W.drew (by rw [← HLD.out]; exact HS3.out W.drew l0 (hWt.keep (Below.refl _ W).drew) rfl)
 have HWS := Lib.hid hWs; clear hWs
 have HWN := Lib.hid hWn; clear hWn
 have HWZ := Lib.hid hWz; clear hWz
 have HWO := Lib.hid hWo; clear hWo hWt
 have iA : ∀ w, (method 508 (tyP k') (.pointer (some ⟨NB, 0, none⟩)) "pub-tokenroad/pub/natsserver/server/stree.addChild").run Tryz.prog w = .ok (addF k', .pointer (some ⟨NB, 0, none⟩)) w := fun w => addChildN k' _ w
 have iCA := fun (args : Array Value) (w : World) => callAdd k' args w
 go_wp2_with fail
 refine wp_region_L [0, 1, 2, 4, 5, 6, 7, 10, 11, 12] (fun _ => True) (by kernel_rfl) (by kernel_rfl) trivial (fun ne => ?_)
 repeat (refine wpCL_q rfl rfl ?_; go_big_quiet_step (fail); refine wpQuiet_nil ?_)
 refine wpCL_ch rfl rfl (fun K hK => ?_)
 go_simp
 simp only [runsTo_enter]
 refine hpw.mono ?_
 rintro e w9 ⟨rfl, hw9⟩
 refine ⟨_, rfl, hK _ _ ⟨⟨w9, trivial⟩, rfl⟩ ?_⟩
 clear hK K
 go_simp
 repeat (refine wpCL_q rfl rfl ?_; go_big_quiet_step (fail); refine wpQuiet_nil ?_)
 refine wpCL_ch rfl rfl (fun K hK => ?_)
 go_simp
 simp only [runsTo_enter]
 rw [← hw9]
 refine hnl.mono ?_
 rintro e w10 ⟨rfl, hN10, hb10⟩
 refine ⟨_, rfl, hK _ _ ⟨⟨w10, trivial⟩, rfl⟩ ?_⟩
 clear hK K hpw hnl hw9 w9
 go_simp
 refine wpCL_w rfl rfl ?_
 go_wp2_with fail
 refine ⟨⟨⟨w10, trivial⟩, rfl⟩, ?_⟩
 refine wpCL_mf rfl rfl rfl rfl ?_
 go_simp
 refine wpCL_nm rfl rfl (nilAdd k' NB) rfl rfl ?_
 go_simp
 repeat (refine wpCL_q rfl rfl ?_; go_big_quiet_step (fail); refine wpQuiet_nil ?_)
 refine wpCL_last ?_
 have hWz := HWZ.out
 have hNBW : NB < W.heap.size := by omega
 have hrw10 := (hb10.block NB hNBW).trans HWN.out
 have had := addChild_any k' NB pre n key kid (piv ld) (.leaf W.heap.size x ld) w10 hrw10 hk'
 simp only [Art.ref] at had
 have hzN : W.heap.size < w10.heap.size := (Array.getElem?_eq_some_iff.1 hN10).1
 have hs10 := (hb10.block sb (by have := HWO.out.size; exact (by omega : sb < W.heap.size))).trans HWS.out
 have hbW10 : Below W.heap.size W w10 := bel_drew hb10
 have HN10 := Lib.hid hN10
 have HS10 := Lib.hid hs10
 have HWZ := Lib.hid hWz
 clear hN10 hrw10 hs10 hb10 hWz
 go_wp2_with fail
 refine had.mono ?_
 rintro e w11 ⟨rfl, hrw11, ho11⟩
 go_wp2
 go_ret2
 have hWz := HWZ.out
 refine add_done (k' := k') (nb' := NB) (NL := W.heap.size) HH.out (HPP.out) ?_ hk' hlo' (.inr (by omega)) (by omega) (by omega) ?_ ?_ ?_ ?_
 ·rw [HLD.out]; exact HNO.out
 ·rw [HLD.out]; exact hrw11
 ·rw [HLD.out]; exact (ho11.block _ hzN (by omega)).trans HN10.out
 ·exact (ho11.block sb (by have := HWO.out.size; omega) (by omega)).trans HS10.out
 ·exact ((HWO.out.trans (Only.of (F := fun _ => False) hbW10) fun b hb => nomatch hb).trans ho11 fun b hb => .inr (by omega))
set_option maxRecDepth 100000 in
set_option maxHeartbeats 12800000 in
theorem insGrow0_any (t : Value) (k : Kd) (nb n : Nat) (pre l0 : List UInt8) (key : Nat → UInt8) (kid : Nat → Art) (si : Nat) (v : Value) (sb so : Nat) (cs : Array Value) (ty : TypeId) (w : World) (x : Int) (h : InsH (.node k nb pre n key kid) l0 si v sb so cs ty w) (hpl : pre.length ≤ 100000) (hp1 : pre = []) (hno : ∀ i, i < n → key i ≠ piv (l0.drop (si))) (hfull : n = k.cap) :
  Calls Tryz.prog 157 #[t, .pointer (some ⟨sb, so, none⟩), v, .int .i64 x, .int .i64 si] w (InsC (.node k nb pre n key kid) (l0.drop si) x sb so cs ty w) := by
 obtain ⟨a, cap, rfl⟩ := h.txt.form
 have hsc : w.cell? ⟨sb, so, none⟩ = some (.iface (tyP k) (.pointer (some ⟨nb, 0, none⟩))) := h.cell
 have hrow := h.at'.1
 have hp0 : w.cell? ⟨nb, k.cap, none⟩ = some (.string (mk pre)) := row_at hrow rowN_pre
 have hms : (mk pre).size = pre.length := mk_size pre
 have hslt := (Array.getElem?_eq_some_iff.1 h.row).1
 have hnlt := h.at'.lt nb (.inl rfl)
 have hle := h.le
 have hsz := h.size
 have iL : ∀ w, (method 508 (tyP k) (.pointer (some ⟨nb, 0, none⟩)) "pub-tokenroad/pub/natsserver/server/stree.isLeaf").run Tryz.prog w = .ok (299, .pointer (some ⟨nb, k.cap, none⟩)) w := fun w => isLeafN k nb w
 have iB : ∀ w, (method 508 (tyP k) (.pointer (some ⟨nb, 0, none⟩)) "pub-tokenroad/pub/natsserver/server/stree.base").run Tryz.prog w = .ok (298, .pointer (some ⟨nb, k.cap, none⟩)) w := fun w => baseN k nb w
 have iF : ∀ w, (method 508 (tyP k) (.pointer (some ⟨nb, 0, none⟩)) "pub-tokenroad/pub/natsserver/server/stree.findChild").run Tryz.prog w = .ok (findF k, .pointer (some ⟨nb, 0, none⟩)) w := fun w => findChildN k _ w
 have iU : ∀ w, (method 508 (tyP k) (.pointer (some ⟨nb, 0, none⟩)) "pub-tokenroad/pub/natsserver/server/stree.isFull").run Tryz.prog w = .ok (fullF k, .pointer (some ⟨nb, 0, none⟩)) w := fun w => isFullN k _ w
 have iCF := fun (args : Array Value) (w : World) => callFind k args w
 have iCU := fun (args : Array Value) (w : World) => callFull k args w
 have qN : ∀ w, (binOp .eql 137 (.iface (tyP k) (.pointer (some ⟨nb, 0, none⟩))) .nilIface).run Tryz.prog w = .ok (.bool false) w := fun w => nodeNe k _ w
 have hlp : ¬ (pre.length : Int) > 0 := by rw [hp1]; simp
 have hpp : pre <+: l0.drop si := by rw [hp1]; exact List.nil_prefix
 have hl0 : si + pre.length = si := by rw [hp1]; rfl
 obtain ⟨sc, hrun3, hsub3⟩ := from_run a l0.length cap si hle
 have HL0 := Lib.hid hl0; clear hl0
 have HNO := Lib.hid hno; clear hno
 have HPP := Lib.hid hpp; clear hpp
 have HP1 := Lib.hid hp1; clear hp1
 have HS3 := Lib.hid hsub3; clear hsub3
 have HFU := Lib.hid hfull; clear hfull
 have hpv := pivot_any _ l0 si w.drew (h.txt.keep (Below.refl _ w).drew)
 have hfc := findChild_any k nb pre n key kid (piv (l0.drop si)) w.drew hrow h.wf.2.1
 have HH := Lib.hid h; clear h
 have HROW := Lib.hid hrow; clear hrow
 generalize hld : l0.drop si = ld at *
 have HLD := Lib.hid hld; clear hld
 go_enter Tryz.func157, Tryz.ntmps157
 go_wp2_with fail
 refine (nodeIs_any _ w).mono ?_
 rintro e w1 ⟨rfl, rfl⟩
 go_wp2_with fail
 refine (base_any _ w).mono ?_
 rintro e w1 ⟨rfl, rfl⟩
 go_wp2_with fail
 refine wp_region_L [0, 1, 2, 4, 5, 6] (fun _ => True) (by kernel_rfl) (by kernel_rfl) trivial (fun ne => ?_)
 repeat (refine wpCL_q rfl rfl ?_; go_big_quiet_step (fail); refine wpQuiet_nil ?_)
 refine wpCL_ch rfl rfl (fun K hK => ?_)
 go_simp
 simp only [runsTo_enter]
 refine hpv.mono ?_
 rintro e w5 ⟨rfl, hw5⟩
 refine ⟨_, rfl, hK _ _ ⟨⟨w5, trivial⟩, rfl⟩ ?_⟩
 clear hK K
 go_simp
 refine wpCL_mf rfl rfl rfl rfl ?_
 go_simp
 refine wpCL_nm rfl rfl (nilFind k nb) rfl rfl ?_
 go_simp
 repeat (refine wpCL_q rfl rfl ?_; go_big_quiet_step (fail); refine wpQuiet_nil ?_)
 refine wpCL_ch rfl rfl (fun K hK => ?_)
 go_simp
 simp only [runsTo_enter]
 rw [← hw5]
 refine hfc.mono ?_
 rintro e w6 ⟨hfound, hw6⟩
 obtain rfl : e = .returned (.pointer none) := by
  rcases hfound with ⟨i, hi, hki, he⟩ | ⟨-, he⟩
  ·exact absurd hki (HNO.out i hi)
  ·exact he
 refine ⟨_, rfl, hK _ _ ⟨⟨w6, trivial⟩, rfl⟩ ?_⟩
 clear hK K hfound hfc hpv
 go_simp
 have hbw6 : Below w.heap.size w w6 := by rw [← hw6]; exact (Below.refl _ w).drew
 clear hw6 hw5
 have hr6 := (hbw6.block nb hnlt).trans HROW.out
 have hfu := isFull_any k nb pre n key kid w6 hr6
 rw [show decide (k.cap ≤ n) = true by have := HFU.out; simp; omega] at hfu
 have HR6 := Lib.hid hr6; clear hr6
 refine wpCL_last ?_
 go_wp2_with fail
 refine hfu.mono ?_
 rintro e w7 ⟨rfl, rfl⟩
 clear hfu
 have iG : ∀ w, (method 508 (tyP k) (.pointer (some ⟨nb, 0, none⟩)) "pub-tokenroad/pub/natsserver/server/stree.grow").run Tryz.prog w = .ok (growF k, .pointer (some ⟨nb, 0, none⟩)) w := fun w => growN k _ w
 have iCG := fun (args : Array Value) (w : World) => callGrow k args w
 go_wp2_with fail
 refine (nodeGrow_any k nb pre n key kid w6 HR6.out HFU.out HH.out.small.1).mono ?_
 rintro e w8 ⟨k', ⟨hk', hlo'⟩, rfl, hrn, hb8⟩
 have hz6 := hbw6.size
 have hzg : w6.heap.size < w8.heap.size := (Array.getElem?_eq_some_iff.1 hrn).1
 have hbw8 := bel2 hbw6 hb8
 generalize hNB : w6.heap.size = NB at *
 have hs8 := (hbw8.block sb hslt).trans HH.out.row
 have cs8 := (cell_row (j := so) hs8).trans HH.out.slot
 have fs8 := frozen_row (j := so) hs8
 have hs8' := heap_setCell_same w8 sb so cs ty (.iface (tyP k') (.pointer (some ⟨NB, 0, none⟩))) hs8
 have hoth := fun z (hz : z ≠ sb) => heap_setCell_other w8 ⟨sb, so, none⟩ z (.iface (tyP k') (.pointer (some ⟨NB, 0, none⟩))) hz
 have hrn' := (hoth NB (by omega)).trans hrn
 have ho8 : Only (fun z => z = nb ∨ z = sb) w (w8.setCell ⟨sb, so, none⟩ (.iface (tyP k') (.pointer (some ⟨NB, 0, none⟩)))) := (Only.of hbw8).set (.inl (.inr rfl)) _
 have hz8 : (w8.setCell ⟨sb, so, none⟩ (.iface (tyP k') (.pointer (some ⟨NB, 0, none⟩)))).heap.size = w8.heap.size := size_setCell _ _ _
 have htx := HH.out.txt.only ho8 (fun b o e hbb => by
  have := HH.out.far b o _ _ (by rw [e])
  rcases hbb with rfl | rfl
  ·exact this.1 (.inl rfl)
  ·exact this.2 rfl)
 have HHS := Lib.hid (And.intro hs8' (And.intro hrn' (And.intro ho8 (And.intro hz8 htx))))
 clear hs8 hs8' hoth hrn' ho8 hz8 htx hrn hb8 iG iCG iCU iU
 go_wp2_with fail
 refine wp_any (fun W => W.heap[sb]? = some (.cells (cs.setIfInBounds so (.iface (tyP k') (.pointer (some ⟨NB, 0, none⟩)))) ty (0, 0)) ∧ W.heap[NB]? = some (.cells (rowN k' pre n key kid).toArray (tyN k') (0, 0)) ∧ Only (fun z => z = nb ∨ z = sb) w W ∧ W.heap.size = w8.heap.size ∧ Sl W 1 (.slice a l0.length cap) l0.length (u8s l0)) HHS.out ?_
 rintro W ⟨hWs, hWn, hWo, hWz, hWt⟩
 clear HHS cs8 fs8
 have hpw := pivot_any _ l0 (si) W.drew (hWt.keep (Below.refl _ W).drew)
 rw [HLD.out] at hpw
 have hnl := newLeaf_abs (.slice sc (l0.length - (si)) (cap - (si))) ld x W.drew (by rw [← HLD.out]; exact HS3.out W.drew l0 (hWt.keep (Below.refl _ W).drew) rfl)
 have HWS := Lib.hid hWs; clear hWs
 have HWN := Lib.hid hWn; clear hWn
 have HWZ := Lib.hid hWz; clear hWz
 have HWO := Lib.hid hWo; clear hWo hWt
 have iA : ∀ w, (method 508 (tyP k') (.pointer (some ⟨NB, 0, none⟩)) "pub-tokenroad/pub/natsserver/server/stree.addChild").run Tryz.prog w = .ok (addF k', .pointer (some ⟨NB, 0, none⟩)) w := fun w => addChildN k' _ w
 have iCA := fun (args : Array Value) (w : World) => callAdd k' args w
 go_wp2_with fail
 refine wp_region_L [0, 1, 2, 4, 5, 6, 7, 10, 11, 12] (fun _ => True) (by kernel_rfl) (by kernel_rfl) trivial (fun ne => ?_)
 repeat (refine wpCL_q rfl rfl ?_; go_big_quiet_step (fail); refine wpQuiet_nil ?_)
 refine wpCL_ch rfl rfl (fun K hK => ?_)
 go_simp
 simp only [runsTo_enter]
 refine hpw.mono ?_
 rintro e w9 ⟨rfl, hw9⟩
 refine ⟨_, rfl, hK _ _ ⟨⟨w9, trivial⟩, rfl⟩ ?_⟩
 clear hK K
 go_simp
 repeat (refine wpCL_q rfl rfl ?_; go_big_quiet_step (fail); refine wpQuiet_nil ?_)
 refine wpCL_ch rfl rfl (fun K hK => ?_)
 go_simp
 simp only [runsTo_enter]
 rw [← hw9]
 refine hnl.mono ?_
 rintro e w10 ⟨rfl, hN10, hb10⟩
 refine ⟨_, rfl, hK _ _ ⟨⟨w10, trivial⟩, rfl⟩ ?_⟩
 clear hK K hpw hnl hw9 w9
 go_simp
 refine wpCL_w rfl rfl ?_
 go_wp2_with fail
 refine ⟨⟨⟨w10, trivial⟩, rfl⟩, ?_⟩
 refine wpCL_mf rfl rfl rfl rfl ?_
 go_simp
 refine wpCL_nm rfl rfl (nilAdd k' NB) rfl rfl ?_
 go_simp
 repeat (refine wpCL_q rfl rfl ?_; go_big_quiet_step (fail); refine wpQuiet_nil ?_)
 refine wpCL_last ?_
 have hWz := HWZ.out
 have hNBW : NB < W.heap.size := by omega
 have hrw10 := (hb10.block NB hNBW).trans HWN.out
 have had := addChild_any k' NB pre n key kid (piv ld) (.leaf W.heap.size x ld) w10 hrw10 hk'
 simp only [Art.ref] at had
 have hzN : W.heap.size < w10.heap.size := (Array.getElem?_eq_some_iff.1 hN10).1
 have hs10 := (hb10.block sb (by have := HWO.out.size; exact (by omega : sb < W.heap.size))).trans HWS.out
 have hbW10 : Below W.heap.size W w10 := bel_drew hb10
 have HN10 := Lib.hid hN10
 have HS10 := Lib.hid hs10
 have HWZ := Lib.hid hWz
 clear hN10 hrw10 hs10 hb10 hWz
 go_wp2_with fail
 refine had.mono ?_
 rintro e w11 ⟨rfl, hrw11, ho11⟩
 go_wp2
 go_ret2
 have hWz := HWZ.out
 rw [← HLD.out]
 refine add_done (k' := k') (nb' := NB) (NL := W.heap.size) HH.out (by rw [HLD.out]; exact HPP.out) ?_ hk' hlo' (.inr (by omega)) (by omega) (by omega) ?_ ?_ ?_ ?_
 ·rw [HL0.out, HLD.out]; exact HNO.out
 ·rw [HL0.out, HLD.out]; exact hrw11
 ·rw [HL0.out, HLD.out]; exact (ho11.block _ hzN (by omega)).trans HN10.out
 ·exact (ho11.block sb (by have := HWO.out.size; omega) (by omega)).trans HS10.out
 ·exact ((HWO.out.trans (Only.of (F := fun _ => False) hbW10) fun b hb => nomatch hb).trans ho11 fun b hb => .inr (by omega))
end Go.Proofs.YtehlmjecbljafaaGreatDoor
