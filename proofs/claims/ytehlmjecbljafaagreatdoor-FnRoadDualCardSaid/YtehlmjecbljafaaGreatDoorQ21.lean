/- A subject tree: an insertion at a node: the walks. -/
import Derived.Test.YtehlmjecbljafaaGreatDoorQ20
namespace Go.Proofs.YtehlmjecbljafaaGreatDoor
open Go Go.RowKit
theorem nodeNe (k : Kd) (p : Value) (w : World) : (binOp .eql 137 (.iface (tyP k) p) .nilIface).run Tryz.prog w = .ok (.bool false) w := by cases k <;> kernel_rfl
theorem cpl_pre : ∀ {p l : List UInt8}, p <+: l → cpl p l = p.length
  | [], l, _ => by simp [cpl]
  | a :: p, [], h => by simp at h
  | a :: p, b :: l, h => by
    obtain ⟨rfl, h2⟩ := List.cons_prefix_cons.1 h
    rw [cpl, if_pos rfl, cpl_pre h2]; rfl
theorem cpl_lt {p l : List UInt8} (h : ¬ p <+: l) : cpl p l < p.length := by
  have h1 := (cpl_le p l).1
  rcases Nat.lt_or_ge (cpl p l) p.length with h2 | h2
  · exact h2
  · exfalso
    have h3 := cpl_take p l
    rw [List.take_of_length_le h2] at h3
    exact h (h3 ▸ List.take_prefix _ _)
theorem callFind (k : Kd) (args : Array Value) (w : World) : (callFunc (findF k) args).run Tryz.prog w = .ok (.enter (findF k) args) w := by cases k <;> kernel_rfl
theorem callAdd (k : Kd) (args : Array Value) (w : World) : (callFunc (addF k) args).run Tryz.prog w = .ok (.enter (addF k) args) w := by cases k <;> kernel_rfl
theorem callFull (k : Kd) (args : Array Value) (w : World) : (callFunc (fullF k) args).run Tryz.prog w = .ok (.enter (fullF k) args) w := by cases k <;> kernel_rfl
theorem callGrow (k : Kd) (args : Array Value) (w : World) : (callFunc (growF k) args).run Tryz.prog w = .ok (.enter (growF k) args) w := by cases k <;> kernel_rfl
set_option maxRecDepth 100000 in
set_option maxHeartbeats 12800000 in
theorem insFound_any (t : Value) (k : Kd) (nb n : Nat) (pre l0 : List UInt8) (key : Nat → UInt8) (kid : Nat → Art) (si : Nat) (v : Value) (sb so : Nat) (cs : Array Value) (ty : TypeId) (w : World) (x : Int) (h : InsH (.node k nb pre n key kid) l0 si v sb so cs ty w) (hpl : pre.length ≤ 100000) (hp : pre <+: l0.drop si) (hp1 : pre ≠ []) (c : Nat) (hc : c < n) (hk : key c = piv (l0.drop (si + pre.length)))
    (ih : ∀ W, InsH (kid c) l0 (si + pre.length) v nb c (rowN k pre n key kid).toArray (tyN k) W → Calls Tryz.prog 157 #[t, .pointer (some ⟨nb, c, none⟩), v, .int .i64 x, .int .i64 ((si + pre.length : Nat) : Int)] W (InsC (kid c) (l0.drop (si + pre.length)) x nb c (rowN k pre n key kid).toArray (tyN k) W)) :
    Calls Tryz.prog 157 #[t, .pointer (some ⟨sb, so, none⟩), v, .int .i64 x, .int .i64 si] w (InsC (.node k nb pre n key kid) (l0.drop si) x sb so cs ty w) := by
  obtain ⟨a, cap, rfl⟩ := h.txt.form
  have hsc : w.cell? ⟨sb, so, none⟩ = some (.iface (tyP k) (.pointer (some ⟨nb, 0, none⟩))) := h.cell
  have hrow := h.at'.1
  have hp0 : w.cell? ⟨nb, k.cap, none⟩ = some (.string (mk pre)) := row_at hrow rowN_pre
  have hms : (mk pre).size = pre.length := mk_size pre
  have hslt := (Array.getElem?_eq_some_iff.1 h.row).1
  have hnlt := h.at'.lt nb (.inl rfl)
  have hle := h.le
  have hsz := h.size
  have iL : ∀ w, (method 508 (tyP k) (.pointer (some ⟨nb, 0, none⟩)) "pub-tokenroad/pub/natsserver/server/stree.isLeaf").run Tryz.prog w = .ok (299, .pointer (some ⟨nb, k.cap, none⟩)) w := fun w => isLeafN k nb w
  have iB : ∀ w, (method 508 (tyP k) (.pointer (some ⟨nb, 0, none⟩)) "pub-tokenroad/pub/natsserver/server/stree.base").run Tryz.prog w = .ok (298, .pointer (some ⟨nb, k.cap, none⟩)) w := fun w => baseN k nb w
  have iF : ∀ w, (method 508 (tyP k) (.pointer (some ⟨nb, 0, none⟩)) "pub-tokenroad/pub/natsserver/server/stree.findChild").run Tryz.prog w = .ok (findF k, .pointer (some ⟨nb, 0, none⟩)) w := fun w => findChildN k _ w
  have iU : ∀ w, (method 508 (tyP k) (.pointer (some ⟨nb, 0, none⟩)) "pub-tokenroad/pub/natsserver/server/stree.isFull").run Tryz.prog w = .ok (fullF k, .pointer (some ⟨nb, 0, none⟩)) w := fun w => isFullN k _ w
  have iCF := fun (args : Array Value) (w : World) => callFind k args w
  have iCU := fun (args : Array Value) (w : World) => callFull k args w
  have qN : ∀ w, (binOp .eql 137 (.iface (tyP k) (.pointer (some ⟨nb, 0, none⟩))) .nilIface).run Tryz.prog w = .ok (.bool false) w := fun w => nodeNe k _ w
  have hlp : (pre.length : Int) > 0 := by have := List.length_pos_iff.2 hp1; omega
  have hpl2 := pre_len hp hle
  obtain ⟨sa, hrun, hsub⟩ := from_run a l0.length cap si hle
  have hcp : cpl pre (l0.drop si) = pre.length := cpl_pre hp
  rw [Int.natCast_add] at ih
  have HIH := Lib.hid ih; clear ih
  have HK := Lib.hid hk; clear hk
  have HPP := Lib.hid hp; clear hp
  have HH := Lib.hid h; clear h
  have HC := Lib.hid hcp; clear hcp
  have HS1 := Lib.hid hsub; clear hsub
  have HROW := Lib.hid hrow; clear hrow
  go_enter Tryz.func157, Tryz.ntmps157
  go_wp2_with fail
  refine (nodeIs_any _ w).mono ?_
  rintro e w1 ⟨rfl, rfl⟩
  go_wp2_with fail
  refine (base_any _ w).mono ?_
  rintro e w1 ⟨rfl, rfl⟩
  go_wp2_with fail
  refine wp_region_L [0, 1, 2, 3, 5, 6, 7] (fun W' => W'.cell? ⟨nb, k.cap, none⟩ = some (.string (mk pre))) (by kernel_rfl) (by kernel_rfl) hp0 (fun ne => ?_)
  have S0 := fun x : SubC (fun W' => W'.cell? ⟨nb, k.cap, none⟩ = some (.string (mk pre))) => x.ok
  repeat (refine wpCL_q rfl rfl ?_; go_big_quiet_step (fail); refine wpQuiet_nil ?_)
  refine wpCL_n rfl rfl rfl rfl ?_
  go_simp
  repeat (refine wpCL_q rfl rfl ?_; go_big_quiet_step (fail); refine wpQuiet_nil ?_)
  refine wpCL_ch rfl rfl (fun K hK => ?_)
  go_simp
  simp only [runsTo_enter]
  refine (s2bL pre w.drew hpl).mono ?_
  rintro e w3 ⟨a3, c3, rfl, hs3, hb3⟩
  have hb3 := bel_drew hb3
  refine ⟨_, rfl, hK _ _ ⟨⟨w3, cell_bel hp0 hb3⟩, rfl⟩ ?_⟩
  clear hK K
  go_simp
  repeat (refine wpCL_q rfl rfl ?_; go_big_quiet_step (fail); refine wpQuiet_nil ?_)
  refine wpCL_ch rfl rfl (fun K hK => ?_)
  go_simp
  simp only [runsTo_enter]
  refine (cpl_any _ _ pre (l0.drop si) w3 hs3 (HS1.out w3 l0 (HH.out.txt.keep hb3) rfl)).mono ?_
  rintro e w4 ⟨rfl, hb4⟩
  rw [HC.out]
  have hbw4 := bel2 hb3 hb4
  have hp4 := cell_bel (cell_bel hp0 hb3) hb4
  refine ⟨_, rfl, hK _ _ ⟨⟨w4, hp4⟩, rfl⟩ ?_⟩
  clear hK K S0 ne hs3 hb3 hb4 hp0 hsc hrun
  go_simp
  refine wpCL_last ?_
  have hrow4 := (hbw4.block nb hnlt).trans HROW.out
  have ht4 := HH.out.txt.keep hbw4
  have hpv := pivot_any _ l0 (si + pre.length) w4.drew (ht4.keep (Below.refl _ w4).drew)
  rw [Int.natCast_add] at hpv
  have hfc := findChild_any k nb pre n key kid (piv (l0.drop (si + pre.length))) w4.drew hrow4 HH.out.wf.2.1
  generalize hpb : piv (l0.drop (si + pre.length)) = pb at *
  have HT4 := Lib.hid ht4; clear ht4
  have HR4 := Lib.hid hrow4; clear hrow4
  have HPB := Lib.hid hpb; clear hpb
  go_wp2_with fail
  refine wp_region_L [0, 1, 2, 4, 5, 6] (fun _ => True) (by kernel_rfl) (by kernel_rfl) trivial (fun ne => ?_)
  repeat (refine wpCL_q rfl rfl ?_; go_big_quiet_step (fail); refine wpQuiet_nil ?_)
  refine wpCL_ch rfl rfl (fun K hK => ?_)
  go_simp
  simp only [runsTo_enter]
  refine hpv.mono ?_
  rintro e w5 ⟨rfl, hw5⟩
  refine ⟨_, rfl, hK _ _ ⟨⟨w5, trivial⟩, rfl⟩ ?_⟩
  clear hK K
  go_simp
  refine wpCL_mf rfl rfl rfl rfl ?_
  go_simp
  refine wpCL_nm rfl rfl (nilFind k nb) rfl rfl ?_
  go_simp
  repeat (refine wpCL_q rfl rfl ?_; go_big_quiet_step (fail); refine wpQuiet_nil ?_)
  refine wpCL_ch rfl rfl (fun K hK => ?_)
  go_simp
  simp only [runsTo_enter]
  rw [← hw5]
  refine hfc.mono ?_
  rintro e w6 ⟨hfound, hw6⟩
  obtain rfl : e = .returned (.pointer (some ⟨nb, c, none⟩)) := by
    rcases hfound with ⟨i, hi, hki, he⟩ | ⟨hno, -⟩
    · obtain rfl := HH.out.wf.2.2.2 i c hi hc (hki.trans HK.out.symm); exact he
    · exact absurd HK.out (hno c hc)
  refine ⟨_, rfl, hK _ _ ⟨⟨w6, trivial⟩, rfl⟩ ?_⟩
  clear hK K hfound hfc hpv
  go_simp
  have hbw6 : Below w.heap.size w w6 := by rw [← hw6]; exact hbw4.drew
  clear hw6 hw5
  refine wpCL_last ?_
  go_wp2_with fail
  refine (HIH.out w6 (rec_pre HH.out hbw6 hc hpl2)).mono ?_
  rintro e w7 hi
  have HI := Lib.hid hi
  obtain ⟨o, u, T', rfl, -⟩ := hi
  go_wp2
  go_ret2
  exact rec_done HH.out hbw6 hc HPP.out (HK.out.trans HPB.out.symm) HI.out
set_option maxRecDepth 100000 in
set_option maxHeartbeats 12800000 in
theorem insFound0_any (t : Value) (k : Kd) (nb n : Nat) (pre l0 : List UInt8) (key : Nat → UInt8) (kid : Nat → Art) (si : Nat) (v : Value) (sb so : Nat) (cs : Array Value) (ty : TypeId) (w : World) (x : Int) (h : InsH (.node k nb pre n key kid) l0 si v sb so cs ty w) (hpl : pre.length ≤ 100000) (hp1 : pre = []) (c : Nat) (hc : c < n) (hk : key c = piv (l0.drop si))
    (ih : ∀ W, InsH (kid c) l0 (si + pre.length) v nb c (rowN k pre n key kid).toArray (tyN k) W → Calls Tryz.prog 157 #[t, .pointer (some ⟨nb, c, none⟩), v, .int .i64 x, .int .i64 si] W (InsC (kid c) (l0.drop si) x nb c (rowN k pre n key kid).toArray (tyN k) W)) :
    Calls Tryz.prog 157 #[t, .pointer (some ⟨sb, so, none⟩), v, .int .i64 x, .int .i64 si] w (InsC (.node k nb pre n key kid) (l0.drop si) x sb so cs ty w) := by
  obtain ⟨a, cap, rfl⟩ := h.txt.form
  have hsc : w.cell? ⟨sb, so, none⟩ = some (.iface (tyP k) (.pointer (some ⟨nb, 0, none⟩))) := h.cell
  have hrow := h.at'.1
  have hp0 : w.cell? ⟨nb, k.cap, none⟩ = some (.string (mk pre)) := row_at hrow rowN_pre
  have hms : (mk pre).size = pre.length := mk_size pre
  have hslt := (Array.getElem?_eq_some_iff.1 h.row).1
  have hnlt := h.at'.lt nb (.inl rfl)
  have hle := h.le
  have hsz := h.size
  have iL : ∀ w, (method 508 (tyP k) (.pointer (some ⟨nb, 0, none⟩)) "pub-tokenroad/pub/natsserver/server/stree.isLeaf").run Tryz.prog w = .ok (299, .pointer (some ⟨nb, k.cap, none⟩)) w := fun w => isLeafN k nb w
  have iB : ∀ w, (method 508 (tyP k) (.pointer (some ⟨nb, 0, none⟩)) "pub-tokenroad/pub/natsserver/server/stree.base").run Tryz.prog w = .ok (298, .pointer (some ⟨nb, k.cap, none⟩)) w := fun w => baseN k nb w
  have iF : ∀ w, (method 508 (tyP k) (.pointer (some ⟨nb, 0, none⟩)) "pub-tokenroad/pub/natsserver/server/stree.findChild").run Tryz.prog w = .ok (findF k, .pointer (some ⟨nb, 0, none⟩)) w := fun w => findChildN k _ w
  have iU : ∀ w, (method 508 (tyP k) (.pointer (some ⟨nb, 0, none⟩)) "pub-tokenroad/pub/natsserver/server/stree.isFull").run Tryz.prog w = .ok (fullF k, .pointer (some ⟨nb, 0, none⟩)) w := fun w => isFullN k _ w
  have iCF := fun (args : Array Value) (w : World) => callFind k args w
  have iCU := fun (args : Array Value) (w : World) => callFull k args w
  have qN : ∀ w, (binOp .eql 137 (.iface (tyP k) (.pointer (some ⟨nb, 0, none⟩))) .nilIface).run Tryz.prog w = .ok (.bool false) w := fun w => nodeNe k _ w
  have hlp : ¬ (pre.length : Int) > 0 := by rw [hp1]; simp
  have hpp : pre <+: l0.drop si := by rw [hp1]; exact List.nil_prefix
  have hl0 : si + pre.length = si := by rw [hp1]; rfl
  have HL0 := Lib.hid hl0; clear hl0
  have HIH := Lib.hid ih; clear ih
  have HPP := Lib.hid hpp; clear hpp
  have HP1 := Lib.hid hp1; clear hp1
  have hpv := pivot_any _ l0 si w.drew (h.txt.keep (Below.refl _ w).drew)
  have hfc := findChild_any k nb pre n key kid (piv (l0.drop si)) w.drew hrow h.wf.2.1
  have HK := Lib.hid hk; clear hk
  have HH := Lib.hid h; clear h
  have HROW := Lib.hid hrow; clear hrow
  generalize hpb : piv (l0.drop si) = pb at *
  have HPB := Lib.hid hpb; clear hpb
  go_enter Tryz.func157, Tryz.ntmps157
  go_wp2_with fail
  refine (nodeIs_any _ w).mono ?_
  rintro e w1 ⟨rfl, rfl⟩
  go_wp2_with fail
  refine (base_any _ w).mono ?_
  rintro e w1 ⟨rfl, rfl⟩
  go_wp2_with fail
  refine wp_region_L [0, 1, 2, 4, 5, 6] (fun _ => True) (by kernel_rfl) (by kernel_rfl) trivial (fun ne => ?_)
  repeat (refine wpCL_q rfl rfl ?_; go_big_quiet_step (fail); refine wpQuiet_nil ?_)
  refine wpCL_ch rfl rfl (fun K hK => ?_)
  go_simp
  simp only [runsTo_enter]
  refine hpv.mono ?_
  rintro e w5 ⟨rfl, hw5⟩
  refine ⟨_, rfl, hK _ _ ⟨⟨w5, trivial⟩, rfl⟩ ?_⟩
  clear hK K
  go_simp
  refine wpCL_mf rfl rfl rfl rfl ?_
  go_simp
  refine wpCL_nm rfl rfl (nilFind k nb) rfl rfl ?_
  go_simp
  repeat (refine wpCL_q rfl rfl ?_; go_big_quiet_step (fail); refine wpQuiet_nil ?_)
  refine wpCL_ch rfl rfl (fun K hK => ?_)
  go_simp
  simp only [runsTo_enter]
  rw [← hw5]
  refine hfc.mono ?_
  rintro e w6 ⟨hfound, hw6⟩
  obtain rfl : e = .returned (.pointer (some ⟨nb, c, none⟩)) := by
    rcases hfound with ⟨i, hi, hki, he⟩ | ⟨hno, -⟩
    · obtain rfl := HH.out.wf.2.2.2 i c hi hc (hki.trans HK.out.symm); exact he
    · exact absurd HK.out (hno c hc)
  refine ⟨_, rfl, hK _ _ ⟨⟨w6, trivial⟩, rfl⟩ ?_⟩
  clear hK K hfound hfc hpv
  go_simp
  have hbw6 : Below w.heap.size w w6 := by rw [← hw6]; exact (Below.refl _ w).drew
  clear hw6 hw5
  refine wpCL_last ?_
  go_wp2_with fail
  refine (HIH.out w6 (rec_pre HH.out hbw6 hc (by rw [HL0.out]; exact hle))).mono ?_
  rintro e w7 hi
  have HI := Lib.hid hi
  obtain ⟨o, u, T', rfl, -⟩ := hi
  go_wp2
  go_ret2
  exact rec_done HH.out hbw6 hc HPP.out (by rw [HL0.out]; exact HK.out.trans HPB.out.symm) (by rw [HL0.out]; exact HI.out)
end Go.Proofs.YtehlmjecbljafaaGreatDoor
