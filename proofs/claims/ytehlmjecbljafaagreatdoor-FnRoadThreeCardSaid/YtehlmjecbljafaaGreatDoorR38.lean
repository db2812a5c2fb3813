/- The meeting of a tree and a list of interest: a node. -/
import Derived.Test.YtehlmjecbljafaaGreatDoorR34
import Derived.Test.YtehlmjecbljafaaGreatDoorR37
namespace Go.Proofs.YtehlmjecbljafaaGreatDoor
open Go Go.RowKit
theorem metF_app (Tr : Trie) (a b : List Ent) : metF Tr (a ++ b) = metF Tr a ++ metF Tr b := by unfold metF; rw [List.filter_append]
theorem metF_len (Tr : Trie) (a : List Ent) : (metF Tr a).length ≤ a.length := by unfold metF; exact List.length_filter_le _ _
theorem metF_nil {Tr : Trie} {a : List Ent} (h : ∀ e ∈ a, ¬ hasT Tr [] (splitDot e.1)) : metF Tr a = [] := by
 unfold metF
 rw [List.filter_eq_nil_iff]
 intro e he
 simpa using h e he
/-- Below a text that has no interest there is none. -/
theorem met_skip {Tr : Trie} {PL : List UInt8} {T : Art} {i : Nat} (h1 : (PL ++ T.path)[i]? = some 46) (h2 : ¬ startT Tr [] (splitDot ((PL ++ T.path).take i))) : metF Tr (T.ents.map (shift PL)) = [] := by
 refine metF_nil fun e he hh => h2 ?_
 obtain ⟨e', he', rfl⟩ := List.mem_map.1 he
 obtain ⟨y, hy⟩ := ents_path he'
 have hlt := (List.getElem?_eq_some_iff.1 h1).1
 have hsp : (shift PL e').1 = (PL ++ T.path).take i ++ 46 :: ((PL ++ T.path).drop (i + 1) ++ y) := by
  have e1 : (PL ++ T.path) = (PL ++ T.path).take i ++ 46 :: (PL ++ T.path).drop (i + 1) := by
   conv => lhs; rw [← List.take_append_drop i (PL ++ T.path), List.drop_eq_getElem_cons hlt, (List.getElem?_eq_some_iff.1 h1).2]
  show PL ++ e'.1 = _
  rw [hy, ← List.append_assoc]
  conv => lhs; rw [e1]
  simp
 rw [hsp, splitDot_app] at hh
 exact start_of_has Tr _ [] _ hh
theorem good_prefix {a y : List UInt8} (hg : GoodS (mk (a ++ y))) {i : Nat} (h1 : a[i]? = some 46) : ∀ t ∈ splitDot (a.take i), t ≠ [42] ∧ t ≠ [62] := by
 intro t ht
 have hlt := (List.getElem?_eq_some_iff.1 h1).1
 have hsp : a ++ y = a.take i ++ 46 :: (a.drop (i + 1) ++ y) := by
  have e1 : a = a.take i ++ 46 :: a.drop (i + 1) := by
   conv => lhs; rw [← List.take_append_drop i a, List.drop_eq_getElem_cons hlt, (List.getElem?_eq_some_iff.1 h1).2]
  conv => lhs; rw [e1]
  simp
 have hm : mk t ∈ toks (mk (a ++ y)) := by
  unfold toks
  rw [bs_mk, hsp, splitDot_app]
  exact List.mem_map_of_mem (List.mem_append_left _ ht)
 obtain ⟨k, hk, e⟩ := List.mem_iff_getElem.1 hm
 have hh := hg.heads k (mk t) (by rw [List.getElem?_eq_getElem hk, e])
 refine ⟨fun e => ?_, fun e => ?_⟩
 ·have := (bs_one (t := mk t) (by rw [bs_mk]; exact e)).2 hh.pos
  exact hh.star (by rw [this]; rfl)
 ·have := (bs_one (t := mk t) (by rw [bs_mk]; exact e)).2 hh.pos
  exact hh.rest (by rw [this]; rfl)
theorem callPath1 (args : Array Value) (w : World) : (callFunc 295 args).run Tryz.prog w = .ok (.enter 295 args) w := by kernel_rfl
theorem callPath2 (args : Array Value) (w : World) : (callFunc 301 args).run Tryz.prog w = .ok (.enter 301 args) w := by kernel_rfl
set_option maxRecDepth 100000 in
/-- A node's text, whatever the node. -/
theorem pathGen (T : Art) (w : World) (h : T.At w) (ty : TypeId) (tb : Nat) (hr : T.ref = .iface ty (.pointer (some ⟨tb, 0, none⟩))) : ∃ (fn : FuncId) (arg : Value), (∀ W, (method 508 ty (.pointer (some ⟨tb, 0, none⟩)) "pub-tokenroad/pub/natsserver/server/stree.path").run Tryz.prog W = .ok (fn, arg) W) ∧
  (∀ args W, (callFunc fn args).run Tryz.prog W = .ok (.enter fn args) W) ∧ Calls Tryz.prog fn #[arg] w fun e w' => e = .returned (.string (mk T.path)) ∧ w' = w := by
 rcases T with ⟨b, v, s⟩ | ⟨k, b, pre, n, key, kid⟩
 ·have hr : Value.iface 197 (.pointer (some ⟨b, 0, none⟩)) = .iface ty (.pointer (some ⟨tb, 0, none⟩)) := hr
  cases hr
  exact ⟨295, _, fun W => pathM _ W, callPath1, leafPath_any tb (.int .i64 v) (mk s) w h⟩
 ·have hr : Value.iface (tyP k) (.pointer (some ⟨b, 0, none⟩)) = .iface ty (.pointer (some ⟨tb, 0, none⟩)) := hr
  cases hr
  refine ⟨301, _, fun W => pathN k tb W, callPath2, (nodePath_any tb k.cap (mk pre) w (row_at h.1 rowN_pre)).mono ?_⟩
  rintro e w' ⟨rfl, rfl⟩
  exact ⟨rfl, rfl⟩
def MeetOK (Bp Bo b : Nat) (c : Int) (Tr : Trie) (FT : Nat → Prop) (n : Nat) (d : Nat) : Prop := ∀ (T : Art) (F : Nat → Prop) (pl : List UInt8) (ov : Value) (cnt : Nat) (xs : List Value) (w : World), T.Deep d →
 IW (ixM Bp Bo b c Tr FT n) F pl ov cnt xs w → IT (ixM Bp Bo b c Tr FT n) F T pl.length w → (∀ e ∈ T.ents, GoodS (mk (pl ++ e.1))) → cnt + T.ents.length ≤ 100000 →
 Calls Tryz.prog 107 #[T.ref, .slice (some ⟨Bp, 0, none⟩) pl.length 256, .pointer (some ⟨b, 0, none⟩), .func (.func 73) #[] #[.pointer (some ⟨Bo, 0, none⟩)]] w fun e w' => e = .returned (.bool true) ∧ IP (ixM Bp Bo b c Tr FT n) pl.length ov cnt xs (metF Tr (T.ents.map (shift pl))) w w'
set_option maxRecDepth 100000 in
set_option maxHeartbeats 6400000 in
theorem meetNode_any (Bp Bo b : Nat) (c : Int) (Tr : Trie) (FT : Nat → Prop) (n : Nat) (d : Nat) (ih : ∀ e, e < d → MeetOK Bp Bo b c Tr FT n e) (k : Kd) (nb : Nat) (pre : List UInt8) (nk : Nat) (key : Nat → UInt8) (kid : Nat → Art) (F : Nat → Prop) (pl : List UInt8) (ov : Value) (cnt : Nat) (xs : List Value) (w : World)
  (hd : (Art.node k nb pre nk key kid).Deep d) (hM : IW (ixM Bp Bo b c Tr FT n) F pl ov cnt xs w) (hT : IT (ixM Bp Bo b c Tr FT n) F (.node k nb pre nk key kid) pl.length w) (hg : ∀ e ∈ (Art.node k nb pre nk key kid).ents, GoodS (mk (pl ++ e.1))) (hcn : cnt + (Art.node k nb pre nk key kid).ents.length ≤ 100000) :
  Calls Tryz.prog 107 #[(Art.node k nb pre nk key kid).ref, .slice (some ⟨Bp, 0, none⟩) pl.length 256, .pointer (some ⟨b, 0, none⟩), .func (.func 73) #[] #[.pointer (some ⟨Bo, 0, none⟩)]] w fun e w' => e = .returned (.bool true) ∧ IP (ixM Bp Bo b c Tr FT n) pl.length ov cnt xs (metF Tr ((Art.node k nb pre nk key kid).ents.map (shift pl))) w w' := by
 have hrow : w.heap[nb]? = some (.cells (rowN k pre nk key kid).toArray (tyN k) (0, 0)) := hT.at'.1
 have hp0 : w.cell? ⟨nb, k.cap, none⟩ = some (.string (mk pre)) := row_at hrow rowN_pre
 have hroom : pl.length + pre.length ≤ 256 := hT.room
 have hnk : nk ≤ k.cap := hT.wf.2.1
 have hkc : k.cap ≤ 48 := by cases k <;> decide
 have hr1 : pl.length + (mk pre).size ≤ 256 := by rw [mk_size]; exact hroom
 have iL : ∀ w, (method 508 (tyP k) (.pointer (some ⟨nb, 0, none⟩)) "pub-tokenroad/pub/natsserver/server/stree.isLeaf").run Tryz.prog w = .ok (299, .pointer (some ⟨nb, k.cap, none⟩)) w := fun w => isLeafN k nb w
 have iB : ∀ w, (method 508 (tyP k) (.pointer (some ⟨nb, 0, none⟩)) "pub-tokenroad/pub/natsserver/server/stree.base").run Tryz.prog w = .ok (298, .pointer (some ⟨nb, k.cap, none⟩)) w := fun w => baseN k nb w
 have iK : ∀ w, (method 508 (tyP k) (.pointer (some ⟨nb, 0, none⟩)) "pub-tokenroad/pub/natsserver/server/stree.children").run Tryz.prog w = .ok (kidsF k, .pointer (some ⟨nb, 0, none⟩)) w := fun w => childrenN k _ w
 have iCK := fun (args : Array Value) (w : World) => callKids k args w
 obtain ⟨PL, HPL⟩ : ∃ PL, Hid (PL = pl ++ pre) := ⟨_, Lib.hid rfl⟩
 have HPLl := Lib.hid (show PL.length = pl.length + pre.length by rw [HPL.out, List.length_append])
 have hPLs : pl.length + (mk pre).size = PL.length := by rw [mk_size, HPLl.out]
 obtain ⟨cur, hbuf1, hcz1⟩ := hM.buf
 have hpre1 := hM.pre
 replace hcz1 : cur.size = 256 := hcz1
 have hr2 : pl.length + (mk pre).size ≤ cur.size := by rw [hcz1]; exact hr1
 have HM := Lib.hid hM; clear hM
 have HT := Lib.hid hT; clear hT
 have HD := Lib.hid hd; clear hd
 have HIH := Lib.hid ih; clear ih
 have HC := Lib.hid hcn; clear hcn
 have HG := Lib.hid hg; clear hg
 have HR := Lib.hid hroom; clear hroom
 show Calls Tryz.prog 107 #[.iface (tyP k) (.pointer (some ⟨nb, 0, none⟩)), .slice (some ⟨Bp, 0, none⟩) pl.length 256, .pointer (some ⟨b, 0, none⟩), .func (.func 73) #[] #[.pointer (some ⟨Bo, 0, none⟩)]] w _
 go_enter Tryz.func107, Tryz.ntmps107
 go_wp2_with fail
 refine (nodeIs_any _ w).mono ?_
 rintro e w3 ⟨rfl, hw3⟩
 subst w3
 go_wp2_with fail
 refine (base_any _ w).mono ?_
 rintro e w3 ⟨rfl, hw3⟩
 subst w3
 go_wp2_with (at_builtin; go_must (refine wpList_appStr rfl _ _ rfl Bp 256 pl.length cur pl (mk pre) rfl rfl rfl hbuf1 hpre1 hr1 hr2 ?_); intro W1 cur1 hBp1 hcur1 hbs1 honly1; rw [bs_mk] at hbs1)
 obtain ⟨hM2, hmp2⟩ := HM.out.longer ⟨cur1, hBp1, hcur1.trans hcz1⟩ hbs1 honly1
 rw [← HPL.out] at hM2
 have hT2 : IT (ixM Bp Bo b c Tr FT n) F (.node k nb pre nk key kid) pl.length W1 := HT.out.only honly1 fun x hx => (HT.out.fp x hx).2.1
 have hrow2 := hT2.at'.1
 have HMP2 := Lib.hid hmp2
 clear hmp2 hBp1 hcur1 hbs1 honly1 hbuf1 hpre1 hrow hp0 hr1 hr2 hPLs hcz1
 refine (children_any k nb pre nk key kid _ hrow2 hnk).mono ?_
 rintro e wd ⟨rfl, hwd⟩
 have hbd : Below W1.heap.size W1 wd := by obtain ⟨md, rfl⟩ := hwd; exact below_drewN (Below.refl _ _) md
 have HMd := Lib.hid (hM2.bel hbd)
 have HTd := Lib.hid (hT2.bel hbd)
 have HM2 := Lib.hid hM2
 have HBD := Lib.hid hbd
 clear hwd hbd hrow2 hM2 hT2
 have hPLb : PL.length ≤ 256 := by have := HPLl.out; have := HR.out; omega
 go_wp2
 go_loopw [46] (fun i wr => ∃ j : Nat, j ≤ nk ∧ i = .int .i64 j ∧ IP (ixM Bp Bo b c Tr FT n) PL.length ov cnt xs (metF Tr (((List.range j).map kid).flatMap fun t => t.ents.map (shift PL))) wd wr) (fun i _ => nk - (intOf i).toNat)
 case atStart => exact ⟨0, Nat.zero_le _, rfl, by simpa [metF] using IP.refl HMd.out (Below.refl _ _)⟩
 case round =>
  obtain ⟨j, hj, rfl, hmpj⟩ := hrel
  by_cases hlt : j < nk
  ·obtain ⟨ovj, kj1, hMj⟩ := HMd.out.next hmpj (Nat.le_refl _)
   have hTj := HTd.out.keep HMd.out hmpj
   have cj : wr.cell? ⟨nb, j, none⟩ = some (kid j).ref := row_at hTj.at'.1 (by rw [rowN_kid (by omega), if_pos hlt])
   have hTk : IT (ixM Bp Bo b c Tr FT n) F (kid j) PL.length wr := by rw [HPLl.out]; exact hTj.kid hlt
   have hent : ∀ e ∈ (kid j).ents, GoodS (mk (PL ++ e.1)) := fun e he => by
    have := HG.out (shift pre e) (mem_node.2 ⟨j, hlt, e, he, rfl⟩)
    rw [HPL.out, List.append_assoc]; exact this
   have hcj : cnt + (metF Tr (((List.range j).map kid).flatMap fun t => t.ents.map (shift PL))).length + (kid j).ents.length ≤ 100000 := by
    have h1 := kid_ents (k := k) (nb := nb) (pre := pre) (key := key) (kid := kid) hlt
    have h2 := metF_len Tr (((List.range j).map kid).flatMap fun t => t.ents.map (shift PL))
    have h3 : (((List.range j).map kid).flatMap fun t => t.ents.map (shift PL)).length = ((List.range j).flatMap fun i => (kid i).ents).length := by
     rw [List.flatMap_map, List.length_flatMap, List.length_flatMap]
     simp only [List.length_map]
    have := HC.out
    omega
   have hdj : ∃ e, e < d ∧ (kid j).Deep e := by
    have hd := HD.out
    cases d with
    | zero => exact hd.elim
    | succ d => exact ⟨d, Nat.lt_succ_self d, hd j hlt⟩
   have hsum : (((List.range (j + 1)).map kid).flatMap fun t => t.ents.map (shift PL)) = (((List.range j).map kid).flatMap fun t => t.ents.map (shift PL)) ++ (kid j).ents.map (shift PL) := by
    rw [List.range_succ, List.map_append, List.flatMap_append]; simp
   have hroomk : PL.length + (kid j).path.length ≤ 256 := hTk.room
   have hent0 := ents_any hTk.wf
   have HSUM := Lib.hid hsum
   have HMP := Lib.hid hmpj
   have HKJ := Lib.hid kj1
   have HMJ := Lib.hid hMj
   have HTK := Lib.hid hTk
   have HCJ := Lib.hid hcj
   have HDJ := Lib.hid hdj
   have HEN := Lib.hid hent
   have HE0 := Lib.hid hent0
   clear hsum hmpj kj1 hMj hTj hTk hcj hdj hent hent0
   generalize kid j = T1 at *
   generalize (((List.range j).map kid).flatMap fun t => t.ents.map (shift PL)) = es at *
   as_aux_lemma =>
    obtain ⟨jty, jb, hrf⟩ := T1.ref_form
    obtain ⟨fn, arg, iPj, iCj, hpj⟩ := pathGen T1 wr HTK.out.at' jty jb hrf
    have qJ : ∀ w, (binOp .eql 137 (.iface jty (.pointer (some ⟨jb, 0, none⟩))) .nilIface).run Tryz.prog w = .ok (.bool false) w := fun w => by have h := refNe1 T1 w; rw [hrf] at h; exact h
    rw [hrf] at cj
    have HRF := Lib.hid hrf; clear hrf
    obtain ⟨LQ, HLQ⟩ : ∃ LQ, Hid (LQ = PL ++ T1.path) := ⟨_, Lib.hid rfl⟩
    have hLQs : PL.length + (mk T1.path).size = LQ.length := by rw [mk_size, HLQ.out, List.length_append]
    obtain ⟨cur, hbuf1, hcz1⟩ := HMJ.out.buf
    have hpre1 := HMJ.out.pre
    replace hcz1 : cur.size = 256 := hcz1
    have hr1 : PL.length + (mk T1.path).size ≤ 256 := by rw [mk_size]; exact hroomk
    have hr2 : PL.length + (mk T1.path).size ≤ cur.size := by rw [hcz1]; exact hr1
    have HLQb := Lib.hid (show LQ.length ≤ 256 by rw [← hLQs]; exact hr1)
    clear hroomk
    go_wp2_with fail
    refine hpj.mono ?_
    rintro e w2 ⟨rfl, rfl⟩
    clear hpj iPj iCj
    go_wp2_with (at_builtin; go_must (refine wpList_appStr rfl _ _ rfl Bp 256 PL.length cur PL (mk T1.path) rfl rfl rfl hbuf1 hpre1 hr1 hr2 ?_); intro W3 cur3 hBp3 hcur3 hbs3 honly3; rw [bs_mk] at hbs3)
    obtain ⟨hM3, hip3⟩ := HMJ.out.longer ⟨cur3, hBp3, hcur3.trans hcz1⟩ hbs3 honly3
    rw [← HLQ.out] at hM3
    obtain ⟨k1, k2, k3, k4⟩ := hM3.k
    have hpb : Bp ≠ b := fun e => (hM3.kf b (.inl rfl)).2 e.symm
    have hft := forTokens_any Bp b LQ PL.length c Tr FT n W3 k1 k2 k3 k4 hM3.pre hpb HLQb.out (by rw [HLQ.out, List.length_append]; omega) (fun i hi => by
     obtain ⟨e, he⟩ := HE0.out
     obtain ⟨y, hy⟩ := ents_path he
     have hgd := HEN.out e he
     rw [hy, ← List.append_assoc, ← HLQ.out] at hgd
     exact good_prefix hgd hi)
    have HM3 := Lib.hid hM3
    have HIP3 := Lib.hid hip3
    clear hM3 hip3 k1 k2 k3 k4 hpb hBp3 hcur3 hbs3 honly3 hbuf1 hpre1 hr1 hr2 hLQs hcz1
    refine hft.mono ?_
    rintro e w4 ⟨bl, rfl, hbl, ho4, hb4⟩
    clear hft
    have hK4 : (ixM Bp Bo b c Tr FT n).K w4 := by
     obtain ⟨k1, k2, k3, k4⟩ := HM3.out.k
     exact ⟨hb4.trans k1, k2.keep fun x hx => ho4.block x (k3 x hx) (fun e => k4 (e ▸ hx)), fun x hx => Nat.lt_of_lt_of_le (k3 x hx) ho4.size, k4⟩
    have hip4 : IP (ixM Bp Bo b c Tr FT n) LQ.length ovj _ _ [] W3 w4 := IP.still HM3.out ho4 hK4
    have hipr : IP (ixM Bp Bo b c Tr FT n) PL.length ovj _ _ [] w2 w4 := HIP3.out.both HM3.out.out hip4 (by rw [HLQ.out, List.length_append]; omega)
    have HIPR := Lib.hid hipr
    have hall : IP (ixM Bp Bo b c Tr FT n) PL.length ov cnt xs (metF Tr es) wd w4 := by
     have := HMP.out.then HKJ.out.out hipr (Nat.le_refl _)
     simpa using this
    have HALL := Lib.hid hall
    obtain ⟨ov4, hpo4, hM4⟩ := HMJ.out.next hipr (Nat.le_refl _)
    simp only [List.length_nil, Nat.add_zero, outC, List.flatMap_nil, List.append_nil] at hM4
    have HM4 := Lib.hid hM4
    have HPO4 := Lib.hid hpo4
    have HT4 := Lib.hid (HTK.out.keep HMJ.out hipr)
    have HBL := Lib.hid hbl
    clear hip4 hipr hall hM4 hpo4 hK4 ho4 hb4 hbl
    cases bl with
    | false =>
     obtain ⟨i, hi1, hi2⟩ := HBL.out rfl
     rw [HLQ.out] at hi1 hi2
     have HSK := Lib.hid (met_skip hi1 hi2)
     clear hi1 hi2
     go_wp2
     go_roundw
     case rel => exact ⟨j + 1, hlt, by go_num, by rw [HSUM.out, metF_app, HSK.out, List.append_nil]; exact HALL.out⟩
     case measure => simp [intOf]; omega
    | true =>
     obtain ⟨dj, hdj1, hdj2⟩ := HDJ.out
     have hrec := HIH.out dj hdj1 T1 _ _ _ _ _ w4 hdj2 HM4.out HT4.out HEN.out HCJ.out
     rw [HRF.out] at hrec
     clear hdj1 hdj2
     go_wp2_with fail
     refine hrec.mono ?_
     rintro e w9 ⟨rfl, hmp9⟩
     have hfin : IP (ixM Bp Bo b c Tr FT n) PL.length ov cnt xs (metF Tr es ++ metF Tr (T1.ents.map (shift PL))) wd w9 := by
      have h1 := HIPR.out.then HPO4.out.out (gs := metF Tr (T1.ents.map (shift PL))) (w2 := w9) (n1 := PL.length) (by simpa [outC] using hmp9) (Nat.le_refl _)
      exact HMP.out.then HKJ.out.out (by simpa using h1) (Nat.le_refl _)
     have HFIN := Lib.hid hfin
     clear hrec hmp9 hfin
     go_wp2
     go_roundw
     case rel => exact ⟨j + 1, hlt, by go_num, by rw [HSUM.out, metF_app]; exact HFIN.out⟩
     case measure => simp [intOf]; omega
  ·obtain rfl : j = nk := by omega
   have HMP := Lib.hid hmpj; clear hmpj
   go_wp2
   go_ret
   refine ⟨rfl, ?_⟩
   rw [node_ents, ← HPL.out]
   exact HMP2.out.both HM2.out.out ((IP.refl (m := PL.length) HM2.out HBD.out).both HMd.out.out HMP.out (Nat.le_refl _)) (by have := HPLl.out; omega)
end Go.Proofs.YtehlmjecbljafaaGreatDoor
