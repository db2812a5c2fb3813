/- The tree's filters: the match, whatever the tree. -/
import Derived.Test.YtehlmjecbljafaaGreatDoorR29
import Derived.Deep.DeepCutAuto
namespace Go.Proofs.YtehlmjecbljafaaGreatDoor
open Go Go.RowKit
theorem endFnd_yes {l : Option (List UInt8)} {b : Nat} {v : Int} {s : List UInt8} (h : s = [] ∨ (l = some [42] ∧ 46 ∉ s)) : endFnd l (.leaf b v s) = [(s, v)] := by
 unfold endFnd; exact if_pos h
theorem endFnd_no {l : Option (List UInt8)} {b : Nat} {v : Int} {s : List UInt8} (h : ¬ (s = [] ∨ (l = some [42] ∧ 46 ∉ s))) : endFnd l (.leaf b v s) = [] := by
 unfold endFnd; exact if_neg h
theorem endFnd_star {k : Kd} {b n : Nat} {pre : List UInt8} {key : Nat → UInt8} {kid : Nat → Art} : endFnd (some [42]) (.node k b pre n key kid) = fnd (.node k b pre n key kid) [[42]] := by
 unfold endFnd; exact if_pos rfl
theorem endFnd_none {l : Option (List UInt8)} {k : Kd} {b n : Nat} {pre : List UInt8} {key : Nat → UInt8} {kid : Nat → Art} (h : l ≠ some [42]) : endFnd l (.node k b pre n key kid) = [] := by
 unfold endFnd; exact if_neg h
set_option maxRecDepth 100000 in
set_option maxHeartbeats 25600000 in
theorem match_no (d : Nat) (ih : ∀ e, e < d → MatchOK e) (T : Art) (C : MCx) (F : Nat → Prop) (r o n cap : Nat) (us : List Value) (ps : List (List UInt8)) (pl : List UInt8) (ov : Value) (cnt : Nat) (xs : List Value) (w : World) (t : Value)
  (hd : T.Deep d) (hM : MW C F r o n cap us ps pl ov cnt xs w) (hT : TW C F r T pl.length w) (hc : cnt + T.ents.length ≤ 100000) (hF : ps.getLast? ≠ some [62]) :
  Calls Tryz.prog 92 #[t, T.ref, .slice (some ⟨r, o, none⟩) n cap, .slice (some ⟨C.Bp, 0, none⟩) pl.length 256, .func (.func 93) #[] #[.pointer (some ⟨C.Bc, 0, none⟩)]] w fun e w' => e = .returned (.bool true) ∧ MP C r o n pl.length ov cnt xs ((fnd T ps).map (shift pl)) w w' := by
 obtain ⟨p0, ou0, c00, ch0, hl0, hu0, hpl0, ca0, cb0, i62, -, -⟩ := hM.last
 have hn0 := hM.ne
 have e62 : ((ch0.toNat : Int) == 62) = false := by
  rw [beq_eq_false_iff_ne]; intro e
  have h1 : ch0 = 62 := UInt8.toNat_inj.1 (show ch0.toNat = 62 by omega)
  exact hF (by rw [hl0, i62.2 h1])
 have x1 : ((n : Int) - 1).toNat = n - 1 := by omega
 have x2 : (0 : Int) ≤ (n : Int) - 1 := by omega
 have el00 : ((p0.length : Int) > 0) := by omega
 have en0 : ((n : Int) > 0) := by omega
 have HST := Lib.hid (MRel.start hM hT hd hc)
 have hnb0 := hM.small
 clear hM hT hd hc hl0 hu0 i62
 have HIH := Lib.hid ih; clear ih
 have HF := Lib.hid hF; clear hF
 go_enter Tryz.func92, Tryz.ntmps92
 go_wp2
 go_loopw [1, 2, 3] (fun a b c wr => ∃ (T' : Art) (F' : Nat → Prop) (r' o' n' cap' : Nat) (us' : List Value) (ps' : List (List UInt8)) (pl' : List UInt8), a = T'.ref ∧ b = .slice (some ⟨r', o', none⟩) n' cap' ∧ c = .slice (some ⟨C.Bp, 0, none⟩) pl'.length 256 ∧ MRel C r o n ps pl ov cnt xs T d w T' F' r' o' n' cap' us' ps' pl' wr) (fun a _ c _ => leftW T.ref a c)
 case atStart => exact ⟨T, F, r, o, n, cap, us, ps, pl, rfl, rfl, rfl, HST.out⟩
 case round =>
  obtain ⟨T', F', r', o', n', cap', us', ps', pl', ha, rfl, rfl, hR⟩ := hrel
  clear ca0 cb0 x1 x2 el00 en0 e62
  have HR := Lib.hid hR; clear hR
  rcases T' with ⟨L, v, s⟩ | ⟨k, nb, pre, nk, key, kid⟩
  ·as_aux_lemma =>
    have hat : wr.heap[L]? = some (.cells #[.int .i64 v, .string (mk s)] 199 (0, 0)) := HR.out.tw.at'
    have hroom : pl'.length + s.length ≤ 256 := HR.out.tw.room
    have hcn : cnt + 1 ≤ 100000 := HR.out.cn
    have hfine : NoEnd s := HR.out.tw.fine (s, v) (by simp [Art.ents])
    have hpne : ps' ≠ [] := fun e => by have h1 := HR.out.mw.ne; have h2 := HR.out.mw.pf.1; have h3 := HR.out.mw.ln; rw [e] at h2; simp at h2; rw [h2] at h3; simp at h3; omega
    have htest := mw_test HR.out.mw s (by omega)
    have hfl := fnd_leaf (b := L) (v := v) hfine HR.out.mw.pb hpne
    have HFL := Lib.hid hfl; clear hfl hfine
    have HPN := Lib.hid hpne; clear hpne
    have iL : ∀ w, (method 508 197 (.pointer (some ⟨L, 0, none⟩)) "pub-tokenroad/pub/natsserver/server/stree.isLeaf").run Tryz.prog w = .ok (291, .pointer (some ⟨L, 0, none⟩)) w := fun w => isLeafM _ w
    have iP : ∀ w, (method 508 197 (.pointer (some ⟨L, 0, none⟩)) "pub-tokenroad/pub/natsserver/server/stree.path").run Tryz.prog w = .ok (295, .pointer (some ⟨L, 0, none⟩)) w := fun w => pathM _ w
    have iA : ∀ w, (Instr.typeAssert (.iface 197 (.pointer (some ⟨L, 0, none⟩))) 137 197 false).run Tryz.prog w = .ok (.pointer (some ⟨L, 0, none⟩)) w := fun w => leafAs _ w
    have hLF0 : F' L ∧ L ≠ C.Bp ∧ L ≠ r' := HR.out.tw.fp L rfl
    have HLF := Lib.hid hLF0; clear hLF0
    replace ha : _ = Value.iface 197 (.pointer (some ⟨L, 0, none⟩)) := ha
    subst ha
    have qN : ∀ w, (binOp .neq 137 (.iface 197 (.pointer (some ⟨L, 0, none⟩))) .nilIface).run Tryz.prog w = .ok (.bool true) w := fun w => leafNe2 _ w
    go_wp2_with fail
    refine (leafPath_any L _ (mk s) _ hat).mono ?_
    rintro e w2 ⟨rfl, rfl⟩
    go_wp2_with fail
    refine htest.mono ?_
    intro e w1 hmp
    clear htest
    cases hq : mpF ps' s with
    | none =>
     obtain ⟨v0, rfl, ho1, hk1⟩ := MpC_none hmp hq
     have H := Lib.hid (HR.out.none ho1 hk1 (HFL.out.1 hq))
     clear hq hmp ho1 hk1
     go_wp2
     go_ret
     exact ⟨rfl, H.out⟩
    | some qs =>
     cases qs with
     | nil =>
      obtain ⟨rfl, ho1, hk1⟩ := MpC_nil hmp hq
      have HQ := Lib.hid hq
      have HM1 := Lib.hid (HR.out.mw.stay ho1 hk1)
      have hat1 := (ho1.block L (HR.out.tw.at'.lt L rfl) HLF.out.2.2).trans hat
      have HO := Lib.hid ho1
      have HK := Lib.hid hk1
      clear hq hmp ho1 hk1
      go_wp2_with fail
      refine (leafIs_any _ w1).mono ?_
      rintro e w3 ⟨rfl, hw3⟩
      subst w3
      go_wp2_with fail
      have hMd := (HM1.out).bel (Below.refl _ w1).drew
      have hLd : w1.drew.heap[L]? = some (.cells #[.int .i64 v, .string (mk s)] 199 (0, 0)) := hat1
      have hLF := HLF.out
      obtain ⟨cur, hbufd, hcz⟩ := hMd.buf
      have cs := (cell_row (j := 1) hLd).trans (show _ = some (Value.string (mk s)) from rfl)
      have hpre := hMd.pre
      have hms : (mk s).size = (s).length := mk_size s
      have HMD := Lib.hid hMd; clear hMd
      refine wp_region_L [0, 1, 2, 3, 4, 5, 7, 8, 9] (fun W' => W'.cell? ⟨L, 1, none⟩ = some (.string (mk s))) (by kernel_rfl) (by kernel_rfl) cs (fun ne => ?_)
      have S0 := fun x : SubC (fun W' => W'.cell? ⟨L, 1, none⟩ = some (.string (mk s))) => x.ok
      repeat (refine wpCL_q rfl rfl ?_; go_big_quiet_step (fail); refine wpQuiet_nil ?_)
      refine wpCL_n rfl rfl rfl rfl ?_
      go_simp
      repeat (refine wpCL_q rfl rfl ?_; go_big_quiet_step (fail); refine wpQuiet_nil ?_)
      refine wpCL_ch rfl rfl (fun K hK => ?_)
      refine runs_appStr (W := w1.drew) _ _ rfl C.Bp 256 (pl'.length) cur (pl') (mk s) (rfl) rfl rfl hbufd hpre (by have := hroom; omega) (by have := hroom; omega) ?_
      intro W1 cur1 hBp1 hcur1 hbs1 honly1
      rw [bs_mk] at hbs1
      refine hK _ _ ⟨⟨W1, cell_only cs honly1 hLF.2.1⟩, rfl⟩ ?_
      clear hK K
      have hcb := cbM HMD.out hLd hLF (by have h1 := hroom; omega) (by have := hcn; omega) ⟨cur1, hBp1, hcur1.trans hcz⟩ hbs1 honly1
      rw [← hms] at hcb
      have cs1 := cell_only cs honly1 hLF.2.1
      have hLlt := World.block_lt_of_cell? _ _ cs1
      clear hBp1 hcur1 hbs1 hbufd hcz hpre
      go_simp
      repeat (refine wpCL_q rfl rfl ?_; go_big_quiet_step (fail); refine wpQuiet_nil ?_)
      refine wpCL_n rfl rfl rfl rfl ?_
      go_simp
      repeat (refine wpCL_q rfl rfl ?_; go_big_quiet_step (fail); refine wpQuiet_nil ?_)
      refine wpCL_ch rfl rfl (fun K hK => ?_)
      go_simp
      simp only [runsTo_enter]
      refine hcb.mono ?_
      rintro e w4 ⟨rfl, hMP⟩
      refine ⟨_, rfl, hK _ _ ⟨⟨w4, cell_only cs hMP.only (HMD.out.bo hLF.1 hLF.2.1 hLF.2.2)⟩, rfl⟩ ?_⟩
      clear hK K hcb cs1 cs
      have HMP := Lib.hid hMP; clear hMP
      go_simp
      refine wpCL_last ?_
      go_wp2
      go_ret
      exact ⟨rfl, HR.out.doneAt HO.out HK.out ((MP.refl HM1.out (Below.refl _ w1).drew).both HMD.out.out HMP.out (.inl ⟨rfl, Nat.le_refl _⟩) (Nat.le_refl _)) (by rw [HFL.out.2.1 HQ.out]; rfl)⟩
     | cons q qs =>
      obtain ⟨r2, o2, cap2, us2, rfl, hpv2, hpf2, hl2, ho1, hk1⟩ := MpC_some hmp hq
      have HQ := Lib.hid hq
      have hfq := HFL.out.2.2 q qs hq
      have HFQ := Lib.hid hfq
      have HM1 := Lib.hid (HR.out.mw.stay ho1 hk1)
      have hat1 := (ho1.block L (HR.out.tw.at'.lt L rfl) HLF.out.2.2).trans hat
      have hlast := (mpF_parts ps' s _ HR.out.mw.pb hq).2.1 (by simp)
      have HLA := Lib.hid hlast
      have HO := Lib.hid ho1
      have HK := Lib.hid hk1
      have el0 : (((qs.length : Int) + 1) == 0) = false := by rw [beq_eq_false_iff_ne]; omega
      clear hq hmp ho1 hk1 hfq hlast hpv2 hpf2 hl2
      have hqe : ¬ (q :: qs = [[62]]) := fun e => HF.out (HR.out.lst.2 (HLA.out.2 (by rw [e]; rfl)))
      have H := Lib.hid (HR.out.none HO.out HK.out (by rw [HFQ.out, if_neg hqe]))
      clear hqe
      go_wp2_with fail
      refine (leafIs_any _ w1).mono ?_
      rintro e w3 ⟨rfl, hw3⟩
      subst w3
      go_wp2
      go_ret
      exact ⟨rfl, H.out⟩
  ·obtain ⟨wo, rfl⟩ : ∃ x : World, x = wr := ⟨_, rfl⟩
   have hrow : wo.heap[nb]? = some (.cells (rowN k pre nk key kid).toArray (tyN k) (0, 0)) := HR.out.tw.at'.1
   have hp0 : wo.cell? ⟨nb, k.cap, none⟩ = some (.string (mk pre)) := row_at hrow rowN_pre
   have hroom : pl'.length + pre.length ≤ 256 := HR.out.tw.room
   have hnk : nk ≤ k.cap := HR.out.tw.wf.2.1
   have hkc : k.cap ≤ 48 := by cases k <;> decide
   have hms : (mk pre).size = pre.length := mk_size pre
   have hpne : ps' ≠ [] := fun e => by have h1 := HR.out.mw.ne; have h2 := HR.out.mw.pf.1; have h3 := HR.out.mw.ln; rw [e] at h2; simp at h2; rw [h2] at h3; simp at h3; omega
   have htest := mw_test HR.out.mw pre (by omega)
   have HPN := Lib.hid hpne; clear hpne
   have iL : ∀ w, (method 508 (tyP k) (.pointer (some ⟨nb, 0, none⟩)) "pub-tokenroad/pub/natsserver/server/stree.isLeaf").run Tryz.prog w = .ok (299, .pointer (some ⟨nb, k.cap, none⟩)) w := fun w => isLeafN k nb w
   have iB : ∀ w, (method 508 (tyP k) (.pointer (some ⟨nb, 0, none⟩)) "pub-tokenroad/pub/natsserver/server/stree.base").run Tryz.prog w = .ok (298, .pointer (some ⟨nb, k.cap, none⟩)) w := fun w => baseN k nb w
   have iP : ∀ w, (method 508 (tyP k) (.pointer (some ⟨nb, 0, none⟩)) "pub-tokenroad/pub/natsserver/server/stree.path").run Tryz.prog w = .ok (301, .pointer (some ⟨nb, k.cap, none⟩)) w := fun w => pathN k nb w
   have iK : ∀ w, (method 508 (tyP k) (.pointer (some ⟨nb, 0, none⟩)) "pub-tokenroad/pub/natsserver/server/stree.children").run Tryz.prog w = .ok (kidsF k, .pointer (some ⟨nb, 0, none⟩)) w := fun w => childrenN k _ w
   have iF : ∀ w, (method 508 (tyP k) (.pointer (some ⟨nb, 0, none⟩)) "pub-tokenroad/pub/natsserver/server/stree.findChild").run Tryz.prog w = .ok (findF k, .pointer (some ⟨nb, 0, none⟩)) w := fun w => findChildN k _ w
   have iCK := fun (args : Array Value) (w : World) => callKids k args w
   have iCF := fun (args : Array Value) (w : World) => callFind k args w
   replace ha : _ = Value.iface (tyP k) (.pointer (some ⟨nb, 0, none⟩)) := ha
   subst ha
   have qN : ∀ w, (binOp .neq 137 (.iface (tyP k) (.pointer (some ⟨nb, 0, none⟩))) .nilIface).run Tryz.prog w = .ok (.bool true) w := fun w => nodeNe2 k _ w
   go_wp2_with fail
   refine (nodePath_any nb k.cap (mk pre) _ hp0).mono ?_
   rintro e w2 ⟨rfl, hw2⟩
   subst w2
   go_wp2_with fail
   refine htest.mono ?_
   intro e w1 hmp
   clear htest
   cases hq : mpF ps' pre with
   | none =>
    obtain ⟨v0, rfl, ho1, hk1⟩ := MpC_none hmp hq
    have H := Lib.hid (HR.out.none ho1 hk1 (fnd_none HR.out.tw.fine HR.out.mw.pb HPN.out hq))
    clear hq hmp ho1 hk1
    go_wp2
    go_ret
    exact ⟨rfl, H.out⟩
   | some qs =>
    cases qs with
    | nil =>
     obtain ⟨rfl, ho1, hk1⟩ := MpC_nil hmp hq
     have HQ := Lib.hid hq
     have HM0 := Lib.hid (HR.out.mw.stay ho1 hk1)
     have HM1 := HM0
     have HT1 := Lib.hid (HR.out.tw.stay ho1)
     have HO := Lib.hid ho1
     have HK := Lib.hid hk1
     have hp1 : w1.cell? ⟨nb, k.cap, none⟩ = some (.string (mk pre)) := row_at HT1.out.at'.1 rowN_pre
     clear hq hmp ho1 hk1 hrow hp0
     go_wp2_with fail
     refine (nodeIs_any _ w1).mono ?_
     rintro e w3 ⟨rfl, hw3⟩
     subst w3
     go_wp2_with fail
     refine (base_any _ w1).mono ?_
     rintro e w3 ⟨rfl, hw3⟩
     subst w3
     obtain ⟨PL, HPL⟩ : ∃ PL, Hid (PL = pl' ++ pre) := ⟨_, Lib.hid rfl⟩
     go_upto_if 95 with fail
     go_cut [3] (fun c wc => c = .slice (some ⟨C.Bp, 0, none⟩) PL.length 256 ∧ MW C F' r' o' n' cap' us' ps' PL ov cnt xs wc ∧ TW C F' r' (.node k nb pre nk key kid) pl'.length wc ∧ MP C r' o' n' pl'.length ov cnt xs [] wo wc)
     case first =>
      by_cases hpe : pre = []
      ·have hlp : ¬ ((pre.length : Int) > 0) := by rw [hpe]; simp
       have HE := Lib.hid (show PL = pl' by rw [HPL.out, hpe, List.append_nil]); clear hpe
       go_wp2
       go_meet
       case rel => exact ⟨by rw [HE.out], by rw [HE.out]; exact HM1.out, HT1.out, MP.still HR.out.mw HO.out HK.out⟩
      ·have hlp : ((pre.length : Int) > 0) := by have := List.length_pos_iff.2 hpe; omega
       clear hpe
       obtain ⟨cur, hbuf1, hcz1⟩ := HM1.out.buf
       have hpre1 := HM1.out.pre
       go_wp2_with (at_builtin; go_must (refine wpList_appStr rfl _ _ rfl C.Bp 256 pl'.length cur pl' (mk pre) rfl rfl rfl hbuf1 hpre1 (by omega) (by omega) ?_); intro W1 cur1 hBp1 hcur1 hbs1 honly1; rw [bs_mk] at hbs1)
       obtain ⟨hM2, -⟩ := HM1.out.longer ⟨cur1, hBp1, hcur1.trans hcz1⟩ hbs1 honly1
       have hmp0 := (HM0.out.longer ⟨cur1, hBp1, hcur1.trans hcz1⟩ hbs1 honly1).2
       go_meet
       case rel => exact ⟨by rw [HPL.out, List.length_append], by rw [HPL.out]; exact hM2, HT1.out.prefixed honly1, (MP.still (m := pl'.length) HR.out.mw HO.out HK.out).both HM0.out.out hmp0 (.inl ⟨rfl, Nat.le_refl _⟩) (Nat.le_refl _)⟩
     case rest =>
      obtain ⟨rfl, hM2, hT2, hmp2⟩ := hcut
      have hrow2 := hT2.at'.1
      have HM2 := Lib.hid hM2
      have HT2 := Lib.hid hT2
      have HMP2 := Lib.hid hmp2
      have HLN := Lib.hid (show PL.length = pl'.length + pre.length by rw [HPL.out, List.length_append])
      have hPLb : PL.length ≤ 256 := by have := HLN.out; omega
      clear hM2 hT2 hmp2 hp1
      as_aux_lemma =>
       obtain ⟨p1, ou1, cc1, ch1, hl1, hu1, hpl1, ca1, cb1, -, j42, j1⟩ := HM2.out.last
       have hn1 := HM2.out.ne
       have hcp : n' ≤ cap' := by have := HM2.out.pv.n; have := HM2.out.ln; omega
       have hnb1 := HM2.out.small
       have y1 : ((n' : Int) - 1).toNat = n' - 1 := by omega
       have y2 : (0 : Int) ≤ (n' : Int) - 1 := by omega
       have eln1 : ((n' : Int) > 0) := by omega
       have hl62 : ps'.getLast? ≠ some [62] := fun e => HF.out (HR.out.lst.2 e)
       have HL62 := Lib.hid hl62; clear hl62
       by_cases h42 : p1 = [42]
       ·have e42 : ((ch1.toNat : Int) == 42) = true := by rw [j42.1 h42]; rfl
        have el1 : ((p1.length : Int) == 1) = true := by rw [h42]; rfl
        have hlr := fun w => lastRun r' o' n' cap' hn1 hcp w
        rw [h42] at hl1
        have HM3 := Lib.hid (HM2.out.tail hl1)
        have HL1 := Lib.hid hl1
        have HLI : Hid (Lies C ov wo r' o' n' r' (o' + (n' - 1)) 1) := Lib.hid (.inl ⟨rfl, by omega⟩)
        clear hl1 hu1 j42 j1 h42
        go_wp2_with fail
        refine (children_any k nb pre nk key kid wc hrow2 hnk).mono ?_
        rintro e wd ⟨rfl, hwd⟩
        have hbd : Below wc.heap.size wc wd := by obtain ⟨md, rfl⟩ := hwd; exact below_drewN (Below.refl _ _) md
        have HMd := Lib.hid (HM3.out.bel hbd)
        have HTD := Lib.hid (HT2.out.bel hbd)
        have HBD := Lib.hid hbd
        clear hwd hbd hrow2
        go_wp2
        go_loopw [140] (fun i wr => ∃ j : Nat, j ≤ nk ∧ i = .int .i64 j ∧ MP C r' (o' + (n' - 1)) (1) PL.length ov cnt xs ((List.range j).flatMap fun i => (endFnd (some [42]) (kid i)).map (shift PL)) wd wr) (fun i _ => nk - (intOf i).toNat)
        case atStart => exact ⟨0, Nat.zero_le _, rfl, MP.refl HMd.out (Below.refl _ _)⟩
        case round =>
         obtain ⟨j, hj, rfl, hmpj⟩ := hrel
         by_cases hlt : j < nk
         ·obtain ⟨ovj, kj1, hMj⟩ := HMd.out.next hmpj (Nat.le_refl _)
          have hTj := HTD.out.keep HMd.out hmpj
          have cj : wr.cell? ⟨nb, j, none⟩ = some (kid j).ref := row_at hTj.at'.1 (by rw [rowN_kid (by omega), if_pos hlt])
          have hcj : cnt + ((List.range j).flatMap fun i => (endFnd (some [42]) (kid i)).map (shift PL)).length + (kid j).ents.length ≤ 100000 := by
           have := kid_cnt (k := k) (nb := nb) (pre := pre) (key := key) (kid := kid) hlt (fun i => (endFnd (some [42]) (kid i)).map (shift PL)) (fun i _ => by rw [List.length_map]; exact endFnd_len _ _)
           have := HR.out.cn
           omega
          have hdj : ∃ e, e < d ∧ (kid j).Deep e := by
           have hd := HR.out.dp
           cases d with
           | zero => exact hd.elim
           | succ d => exact ⟨d, Nat.lt_succ_self d, hd j hlt⟩
          have HMP := Lib.hid hmpj
          have HKJ := Lib.hid kj1
          have HMJ := Lib.hid hMj
          have HTJ := Lib.hid (show TW C _ _ (kid j) PL.length wr by rw [HLN.out]; exact hTj.kid hlt)
          have HCJ := Lib.hid hcj
          have HDJ := Lib.hid hdj
          clear hmpj kj1 hMj hTj hcj hdj
          as_aux_lemma =>
           cases hkid : kid j with
           | leaf L2 v2 s2 =>
            have hrf : (kid j).ref = .iface 197 (.pointer (some ⟨L2, 0, none⟩)) := by rw [hkid]; rfl
            rw [hrf] at cj
            have htj := HTJ.out
            rw [hkid] at htj
            have HLF := Lib.hid (htj.fp L2 rfl)
            have HAT := Lib.hid (show wr.heap[L2]? = some (.cells #[.int .i64 v2, .string (mk s2)] 199 (0, 0)) from htj.at')
            have HRO := Lib.hid (show PL.length + s2.length ≤ 256 from htj.room)
            have HCN := HCJ
            clear htj hrf
            have cs2 := (cell_row (j := 1) HAT.out).trans (show _ = some (Value.string (mk s2)) from rfl)
            have hms2 : (mk s2).size = s2.length := mk_size s2
            have hs2m : s2.length ≤ 256 := by have := HRO.out; omega
            have qJ : ∀ w, (binOp .eql 137 (.iface 197 (.pointer (some ⟨L2, 0, none⟩))) .nilIface).run Tryz.prog w = .ok (.bool false) w := fun w => refNe1 (.leaf L2 v2 s2) w
            have iL : ∀ w, (method 508 197 (.pointer (some ⟨L2, 0, none⟩)) "pub-tokenroad/pub/natsserver/server/stree.isLeaf").run Tryz.prog w = .ok (291, .pointer (some ⟨L2, 0, none⟩)) w := fun w => isLeafM _ w
            have iA : ∀ w, (Instr.typeAssert (.iface 197 (.pointer (some ⟨L2, 0, none⟩))) 137 197 false).run Tryz.prog w = .ok (.pointer (some ⟨L2, 0, none⟩)) w := fun w => leafAs _ w
            have HKD := Lib.hid hkid; clear hkid
            by_cases hs2 : s2.length = 0
            ·have es2 : ((s2.length : Int) == 0) = true := by rw [beq_iff_eq]; omega
             have hke : (endFnd (some [42]) (kid j)).map (shift PL) = [(PL ++ s2, v2)] := by
              rw [HKD.out, endFnd_yes (.inl (List.eq_nil_of_length_eq_zero hs2))]; rfl
             have HKE := Lib.hid hke; clear hke hs2
             have HMP0 := HMP
             go_wp2_with fail
             refine (leafIs_any _ wr).mono ?_
             rintro e w3 ⟨rfl, hw3⟩
             subst w3
             go_wp2_with fail
             have hMd := (HMJ.out).bel (Below.refl _ wr).drew
             have hLd : wr.drew.heap[L2]? = some (.cells #[.int .i64 v2, .string (mk s2)] 199 (0, 0)) := HAT.out
             have hLF := HLF.out
             obtain ⟨cur, hbufd, hcz⟩ := hMd.buf
             have cs := (cell_row (j := 1) hLd).trans (show _ = some (Value.string (mk s2)) from rfl)
             have hpre := hMd.pre
             have hms : (mk s2).size = (s2).length := mk_size s2
             have HMD := Lib.hid hMd; clear hMd
             refine wp_region_L [0, 1, 2, 3, 4, 5, 7, 8, 9] (fun W' => W'.cell? ⟨L2, 1, none⟩ = some (.string (mk s2))) (by kernel_rfl) (by kernel_rfl) cs (fun ne => ?_)
             have S0 := fun x : SubC (fun W' => W'.cell? ⟨L2, 1, none⟩ = some (.string (mk s2))) => x.ok
             repeat (refine wpCL_q rfl rfl ?_; go_big_quiet_step (fail); refine wpQuiet_nil ?_)
             refine wpCL_n rfl rfl rfl rfl ?_
             go_simp
             repeat (refine wpCL_q rfl rfl ?_; go_big_quiet_step (fail); refine wpQuiet_nil ?_)
             refine wpCL_ch rfl rfl (fun K hK => ?_)
             refine runs_appStr (W := wr.drew) _ _ rfl C.Bp 256 (PL.length) cur (PL) (mk s2) (rfl) rfl rfl hbufd hpre (by have := HRO.out; omega) (by have := HRO.out; omega) ?_
             intro W1 cur1 hBp1 hcur1 hbs1 honly1
             rw [bs_mk] at hbs1
             refine hK _ _ ⟨⟨W1, cell_only cs honly1 hLF.2.1⟩, rfl⟩ ?_
             clear hK K
             have hcb := cbM HMD.out hLd hLF (by have h1 := HRO.out; omega) (by have := HCN.out; omega) ⟨cur1, hBp1, hcur1.trans hcz⟩ hbs1 honly1
             rw [← hms] at hcb
             have cs1 := cell_only cs honly1 hLF.2.1
             have hLlt := World.block_lt_of_cell? _ _ cs1
             clear hBp1 hcur1 hbs1 hbufd hcz hpre
             go_simp
             repeat (refine wpCL_q rfl rfl ?_; go_big_quiet_step (fail); refine wpQuiet_nil ?_)
             refine wpCL_n rfl rfl rfl rfl ?_
             go_simp
             repeat (refine wpCL_q rfl rfl ?_; go_big_quiet_step (fail); refine wpQuiet_nil ?_)
             refine wpCL_ch rfl rfl (fun K hK => ?_)
             go_simp
             simp only [runsTo_enter]
             refine hcb.mono ?_
             rintro e w4 ⟨rfl, hMP⟩
             refine ⟨_, rfl, hK _ _ ⟨⟨w4, cell_only cs hMP.only (HMD.out.bo hLF.1 hLF.2.1 hLF.2.2)⟩, rfl⟩ ?_⟩
             clear hK K hcb cs1 cs
             have HMP := Lib.hid hMP; clear hMP
             go_simp
             refine wpCL_last ?_
             go_wp2
             have HM9 := Lib.hid (HMP0.out.then HKJ.out ((MP.refl (m := PL.length) HMJ.out (Below.refl _ wr).drew).both HMD.out.out HMP.out (.inl ⟨rfl, Nat.le_refl _⟩) (Nat.le_refl _)) (Nat.le_refl _) (Nat.le_refl _))
             go_roundw
             case rel => exact ⟨j + 1, hlt, by go_num, by rw [List.range_succ, List.flatMap_append]; simp only [List.flatMap_cons, List.flatMap_nil, List.append_nil]; rw [HKE.out]; exact HM9.out⟩
             case measure => simp [intOf]; omega
            ·have es2 : ((s2.length : Int) == 0) = false := by rw [beq_eq_false_iff_ne]; omega
             have hs2n : s2 ≠ [] := fun e => hs2 (by rw [e]; rfl)
             have hix := Tryz.strings_IndexByte (mk s2) 46 wr
             rw [show (mk s2).data.toList = s2 from bs_mk s2] at hix
             by_cases hdot : 46 ∈ s2
             ·obtain ⟨ta, tb, er, ht⟩ := first46 hdot
              rw [show Lib.indexByte s2 ((46 : Int).toNat.toUInt8) = (ta.length : Int) from indexByte_at er ht] at hix
              have hke : (endFnd (some [42]) (kid j)).map (shift PL) = [] := by
               rw [HKD.out, endFnd_no (by rintro (e | ⟨-, e⟩); exact hs2n e; exact e hdot)]; rfl
              have HKE := Lib.hid hke
              have hta : ¬ ((ta.length : Int) < 0) := by omega
              clear hke hs2 hs2n hdot er ht
              go_wp2_with fail
              refine (leafIs_any _ wr).mono ?_
              rintro e w3 ⟨rfl, hw3⟩
              subst w3
              go_wp2_with fail
              refine hix.mono ?_
              rintro e w5 ⟨rfl, hw5⟩
              subst w5
              clear hix
              go_wp2
              go_roundw
              case rel => exact ⟨j + 1, hlt, by go_num, by rw [List.range_succ, List.flatMap_append]; simp only [List.flatMap_cons, List.flatMap_nil, List.append_nil]; rw [HKE.out, List.append_nil]; exact HMP.out⟩
              case measure => simp [intOf]; omega
             ·rw [show Lib.indexByte s2 ((46 : Int).toNat.toUInt8) = -1 from indexByte_no hdot] at hix
              have hke : (endFnd (some [42]) (kid j)).map (shift PL) = [(PL ++ s2, v2)] := by
               rw [HKD.out, endFnd_yes (.inr ⟨rfl, hdot⟩)]; rfl
              have HKE := Lib.hid hke
              have HMP0 := HMP
              clear hke hs2 hs2n hdot
              go_wp2_with fail
              refine (leafIs_any _ wr).mono ?_
              rintro e w3 ⟨rfl, hw3⟩
              subst w3
              go_wp2_with fail
              refine hix.mono ?_
              rintro e w5 ⟨rfl, hw5⟩
              subst w5
              clear hix
              go_wp2_with fail
              have hMd := (HMJ.out).bel (Below.refl _ wr).drew
              have hLd : wr.drew.heap[L2]? = some (.cells #[.int .i64 v2, .string (mk s2)] 199 (0, 0)) := HAT.out
              have hLF := HLF.out
              obtain ⟨cur, hbufd, hcz⟩ := hMd.buf
              have cs := (cell_row (j := 1) hLd).trans (show _ = some (Value.string (mk s2)) from rfl)
              have hpre := hMd.pre
              have hms : (mk s2).size = (s2).length := mk_size s2
              have HMD := Lib.hid hMd; clear hMd
              refine wp_region_L [0, 1, 2, 3, 4, 5, 7, 8, 9] (fun W' => W'.cell? ⟨L2, 1, none⟩ = some (.string (mk s2))) (by kernel_rfl) (by kernel_rfl) cs (fun ne => ?_)
              have S0 := fun x : SubC (fun W' => W'.cell? ⟨L2, 1, none⟩ = some (.string (mk s2))) => x.ok
              repeat (refine wpCL_q rfl rfl ?_; go_big_quiet_step (fail); refine wpQuiet_nil ?_)
              refine wpCL_n rfl rfl rfl rfl ?_
              go_simp
              repeat (refine wpCL_q rfl rfl ?_; go_big_quiet_step (fail); refine wpQuiet_nil ?_)
              refine wpCL_ch rfl rfl (fun K hK => ?_)
              refine runs_appStr (W := wr.drew) _ _ rfl C.Bp 256 (PL.length) cur (PL) (mk s2) (rfl) rfl rfl hbufd hpre (by have := HRO.out; omega) (by have := HRO.out; omega) ?_
              intro W1 cur1 hBp1 hcur1 hbs1 honly1
              rw [bs_mk] at hbs1
              refine hK _ _ ⟨⟨W1, cell_only cs honly1 hLF.2.1⟩, rfl⟩ ?_
              clear hK K
              have hcb := cbM HMD.out hLd hLF (by have h1 := HRO.out; omega) (by have := HCN.out; omega) ⟨cur1, hBp1, hcur1.trans hcz⟩ hbs1 honly1
              rw [← hms] at hcb
              have cs1 := cell_only cs honly1 hLF.2.1
              have hLlt := World.block_lt_of_cell? _ _ cs1
              clear hBp1 hcur1 hbs1 hbufd hcz hpre
              go_simp
              repeat (refine wpCL_q rfl rfl ?_; go_big_quiet_step (fail); refine wpQuiet_nil ?_)
              refine wpCL_n rfl rfl rfl rfl ?_
              go_simp
              repeat (refine wpCL_q rfl rfl ?_; go_big_quiet_step (fail); refine wpQuiet_nil ?_)
              refine wpCL_ch rfl rfl (fun K hK => ?_)
              go_simp
              simp only [runsTo_enter]
              refine hcb.mono ?_
              rintro e w4 ⟨rfl, hMP⟩
              refine ⟨_, rfl, hK _ _ ⟨⟨w4, cell_only cs hMP.only (HMD.out.bo hLF.1 hLF.2.1 hLF.2.2)⟩, rfl⟩ ?_⟩
              clear hK K hcb cs1 cs
              have HMP := Lib.hid hMP; clear hMP
              go_simp
              refine wpCL_last ?_
              go_wp2
              have HM9 := Lib.hid (HMP0.out.then HKJ.out ((MP.refl (m := PL.length) HMJ.out (Below.refl _ wr).drew).both HMD.out.out HMP.out (.inl ⟨rfl, Nat.le_refl _⟩) (Nat.le_refl _)) (Nat.le_refl _) (Nat.le_refl _))
              go_roundw
              case rel => exact ⟨j + 1, hlt, by go_num, by rw [List.range_succ, List.flatMap_append]; simp only [List.flatMap_cons, List.flatMap_nil, List.append_nil]; rw [HKE.out]; exact HM9.out⟩
              case measure => simp [intOf]; omega
           | node k2 nb2 pre2 nk2 key2 kid2 =>
            have hke : endFnd (some [42]) (kid j) = fnd (kid j) [[42]] := by
             rw [hkid]; exact endFnd_star
            have HKE := Lib.hid hke; clear hke
            obtain ⟨dj, hdj1, hdj2⟩ := HDJ.out
            have hrec := HIH.out dj hdj1 (kid j) C _ _ _ _ _ _ _ _ _ _ _ wr t hdj2 HMJ.out HTJ.out HCJ.out
            clear hdj1 hdj2
            have hrf : (kid j).ref = .iface (tyP k2) (.pointer (some ⟨nb2, 0, none⟩)) := by rw [hkid]; rfl
            rw [hrf] at cj hrec
            clear hrf
            have qJ : ∀ w, (binOp .eql 137 (.iface (tyP k2) (.pointer (some ⟨nb2, 0, none⟩))) .nilIface).run Tryz.prog w = .ok (.bool false) w := fun w => nodeNe k2 _ w
            have iL : ∀ w, (method 508 (tyP k2) (.pointer (some ⟨nb2, 0, none⟩)) "pub-tokenroad/pub/natsserver/server/stree.isLeaf").run Tryz.prog w = .ok (299, .pointer (some ⟨nb2, k2.cap, none⟩)) w := fun w => isLeafN k2 nb2 w
            have HKD := Lib.hid hkid; clear hkid
            go_wp2_with fail
            refine (nodeIs_any _ wr).mono ?_
            rintro e w3 ⟨rfl, hw3⟩
            subst w3
            go_wp2_with fail
            refine hrec.mono ?_
            rintro e w9 ⟨rfl, hmp9⟩
            have HM9 := Lib.hid (HMP.out.then HKJ.out hmp9 (Nat.le_refl _) (Nat.le_refl _))
            clear hrec hmp9
            go_wp2
            go_roundw
            case rel => exact ⟨j + 1, hlt, by go_num, by rw [List.range_succ, List.flatMap_append]; simp only [List.flatMap_cons, List.flatMap_nil, List.append_nil]; rw [HKE.out]; exact HM9.out⟩
            case measure => simp [intOf]; omega
         ·obtain rfl : j = nk := by omega
          have HMP := Lib.hid hmpj; clear hmpj
          go_wp2
          go_ret
          exact ⟨rfl, HR.out.done (by rw [show (fnd (Art.node k nb pre j key kid) ps').map (shift pl') = ((List.range j).flatMap fun i => (endFnd (some [42]) (kid i)).map (shift PL)) from by rw [HPL.out]; exact Eq.symm ((show _ = _ from by have := kids_end HR.out HQ.out HL62.out; rw [HL1.out] at this; exact this))]; exact HMP2.out.both HM2.out.out ((MP.refl (m := PL.length) HM3.out HBD.out).both HMd.out.out HMP.out (.inl ⟨rfl, Nat.le_refl _⟩) (Nat.le_refl _)) (by exact HLI.out) (by have := HLN.out; omega))⟩
       ·have e42 : ((ch1.toNat : Int) == 42) = false := by
         rw [beq_eq_false_iff_ne]; intro e; exact h42 (j42.2 (UInt8.toNat_inj.1 (show ch1.toNat = 42 by omega)))
        have H42 := Lib.hid (show ps'.getLast? ≠ some [42] by rw [hl1]; exact fun e => h42 (Option.some.inj e))
        have HM3 := HM2
        have HLI : Hid (Lies C ov wo r' o' n' r' o' n') := Lib.hid (.inl ⟨rfl, Nat.le_refl _⟩)
        have el1 : ((p1.length : Int) == 1) = true ∨ ((p1.length : Int) == 1) = false := by cases ((p1.length : Int) == 1) <;> simp
        clear hl1 hu1 j42 j1 h42
        rcases el1 with el1 | el1
        all_goals
         go_wp2_with fail
         refine (children_any k nb pre nk key kid wc hrow2 hnk).mono ?_
         rintro e wd ⟨rfl, hwd⟩
         have hbd : Below wc.heap.size wc wd := by obtain ⟨md, rfl⟩ := hwd; exact below_drewN (Below.refl _ _) md
         have HMd := Lib.hid (HM3.out.bel hbd)
         have HTD := Lib.hid (HT2.out.bel hbd)
         have HBD := Lib.hid hbd
         clear hwd hbd hrow2
         go_wp2
         go_loopw [140] (fun i wr => ∃ j : Nat, j ≤ nk ∧ i = .int .i64 j ∧ MP C r' (o') (n') PL.length ov cnt xs ((List.range j).flatMap fun i => (endFnd ps'.getLast? (kid i)).map (shift PL)) wd wr) (fun i _ => nk - (intOf i).toNat)
         case atStart => exact ⟨0, Nat.zero_le _, rfl, MP.refl HMd.out (Below.refl _ _)⟩
         case round =>
          obtain ⟨j, hj, rfl, hmpj⟩ := hrel
          by_cases hlt : j < nk
          ·obtain ⟨ovj, kj1, hMj⟩ := HMd.out.next hmpj (Nat.le_refl _)
           have hTj := HTD.out.keep HMd.out hmpj
           have cj : wr.cell? ⟨nb, j, none⟩ = some (kid j).ref := row_at hTj.at'.1 (by rw [rowN_kid (by omega), if_pos hlt])
           have hcj : cnt + ((List.range j).flatMap fun i => (endFnd ps'.getLast? (kid i)).map (shift PL)).length + (kid j).ents.length ≤ 100000 := by
            have := kid_cnt (k := k) (nb := nb) (pre := pre) (key := key) (kid := kid) hlt (fun i => (endFnd ps'.getLast? (kid i)).map (shift PL)) (fun i _ => by rw [List.length_map]; exact endFnd_len _ _)
            have := HR.out.cn
            omega
           have hdj : ∃ e, e < d ∧ (kid j).Deep e := by
            have hd := HR.out.dp
            cases d with
            | zero => exact hd.elim
            | succ d => exact ⟨d, Nat.lt_succ_self d, hd j hlt⟩
           have HMP := Lib.hid hmpj
           have HKJ := Lib.hid kj1
           have HMJ := Lib.hid hMj
           have HTJ := Lib.hid (show TW C _ _ (kid j) PL.length wr by rw [HLN.out]; exact hTj.kid hlt)
           have HCJ := Lib.hid hcj
           have HDJ := Lib.hid hdj
           clear hmpj kj1 hMj hTj hcj hdj
           as_aux_lemma =>
            cases hkid : kid j with
            | leaf L2 v2 s2 =>
             have hrf : (kid j).ref = .iface 197 (.pointer (some ⟨L2, 0, none⟩)) := by rw [hkid]; rfl
             rw [hrf] at cj
             have htj := HTJ.out
             rw [hkid] at htj
             have HLF := Lib.hid (htj.fp L2 rfl)
             have HAT := Lib.hid (show wr.heap[L2]? = some (.cells #[.int .i64 v2, .string (mk s2)] 199 (0, 0)) from htj.at')
             have HRO := Lib.hid (show PL.length + s2.length ≤ 256 from htj.room)
             have HCN := HCJ
             clear htj hrf
             have cs2 := (cell_row (j := 1) HAT.out).trans (show _ = some (Value.string (mk s2)) from rfl)
             have hms2 : (mk s2).size = s2.length := mk_size s2
             have hs2m : s2.length ≤ 256 := by have := HRO.out; omega
             have qJ : ∀ w, (binOp .eql 137 (.iface 197 (.pointer (some ⟨L2, 0, none⟩))) .nilIface).run Tryz.prog w = .ok (.bool false) w := fun w => refNe1 (.leaf L2 v2 s2) w
             have iL : ∀ w, (method 508 197 (.pointer (some ⟨L2, 0, none⟩)) "pub-tokenroad/pub/natsserver/server/stree.isLeaf").run Tryz.prog w = .ok (291, .pointer (some ⟨L2, 0, none⟩)) w := fun w => isLeafM _ w
             have iA : ∀ w, (Instr.typeAssert (.iface 197 (.pointer (some ⟨L2, 0, none⟩))) 137 197 false).run Tryz.prog w = .ok (.pointer (some ⟨L2, 0, none⟩)) w := fun w => leafAs _ w
             have HKD := Lib.hid hkid; clear hkid
             by_cases hs2 : s2.length = 0
             ·have es2 : ((s2.length : Int) == 0) = true := by rw [beq_iff_eq]; omega
              have hke : (endFnd ps'.getLast? (kid j)).map (shift PL) = [(PL ++ s2, v2)] := by
               rw [HKD.out, endFnd_yes (.inl (List.eq_nil_of_length_eq_zero hs2))]; rfl
              have HKE := Lib.hid hke; clear hke hs2
              have HMP0 := HMP
              go_wp2_with fail
              refine (leafIs_any _ wr).mono ?_
              rintro e w3 ⟨rfl, hw3⟩
              subst w3
              go_wp2_with fail
              have hMd := (HMJ.out).bel (Below.refl _ wr).drew
              have hLd : wr.drew.heap[L2]? = some (.cells #[.int .i64 v2, .string (mk s2)] 199 (0, 0)) := HAT.out
              have hLF := HLF.out
              obtain ⟨cur, hbufd, hcz⟩ := hMd.buf
              have cs := (cell_row (j := 1) hLd).trans (show _ = some (Value.string (mk s2)) from rfl)
              have hpre := hMd.pre
              have hms : (mk s2).size = (s2).length := mk_size s2
              have HMD := Lib.hid hMd; clear hMd
              refine wp_region_L [0, 1, 2, 3, 4, 5, 7, 8, 9] (fun W' => W'.cell? ⟨L2, 1, none⟩ = some (.string (mk s2))) (by kernel_rfl) (by kernel_rfl) cs (fun ne => ?_)
              have S0 := fun x : SubC (fun W' => W'.cell? ⟨L2, 1, none⟩ = some (.string (mk s2))) => x.ok
              repeat (refine wpCL_q rfl rfl ?_; go_big_quiet_step (fail); refine wpQuiet_nil ?_)
              refine wpCL_n rfl rfl rfl rfl ?_
              go_simp
              repeat (refine wpCL_q rfl rfl ?_; go_big_quiet_step (fail); refine wpQuiet_nil ?_)
              refine wpCL_ch rfl rfl (fun K hK => ?_)
              refine runs_appStr (W := wr.drew) _ _ rfl C.Bp 256 (PL.length) cur (PL) (mk s2) (rfl) rfl rfl hbufd hpre (by have := HRO.out; omega) (by have := HRO.out; omega) ?_
              intro W1 cur1 hBp1 hcur1 hbs1 honly1
              rw [bs_mk] at hbs1
              refine hK _ _ ⟨⟨W1, cell_only cs honly1 hLF.2.1⟩, rfl⟩ ?_
              clear hK K
              have hcb := cbM HMD.out hLd hLF (by have h1 := HRO.out; omega) (by have := HCN.out; omega) ⟨cur1, hBp1, hcur1.trans hcz⟩ hbs1 honly1
              rw [← hms] at hcb
              have cs1 := cell_only cs honly1 hLF.2.1
              have hLlt := World.block_lt_of_cell? _ _ cs1
              clear hBp1 hcur1 hbs1 hbufd hcz hpre
              go_simp
              repeat (refine wpCL_q rfl rfl ?_; go_big_quiet_step (fail); refine wpQuiet_nil ?_)
              refine wpCL_n rfl rfl rfl rfl ?_
              go_simp
              repeat (refine wpCL_q rfl rfl ?_; go_big_quiet_step (fail); refine wpQuiet_nil ?_)
              refine wpCL_ch rfl rfl (fun K hK => ?_)
              go_simp
              simp only [runsTo_enter]
              refine hcb.mono ?_
              rintro e w4 ⟨rfl, hMP⟩
              refine ⟨_, rfl, hK _ _ ⟨⟨w4, cell_only cs hMP.only (HMD.out.bo hLF.1 hLF.2.1 hLF.2.2)⟩, rfl⟩ ?_⟩
              clear hK K hcb cs1 cs
              have HMP := Lib.hid hMP; clear hMP
              go_simp
              refine wpCL_last ?_
              go_wp2
              have HM9 := Lib.hid (HMP0.out.then HKJ.out ((MP.refl (m := PL.length) HMJ.out (Below.refl _ wr).drew).both HMD.out.out HMP.out (.inl ⟨rfl, Nat.le_refl _⟩) (Nat.le_refl _)) (Nat.le_refl _) (Nat.le_refl _))
              go_roundw
              case rel => exact ⟨j + 1, hlt, by go_num, by rw [List.range_succ, List.flatMap_append]; simp only [List.flatMap_cons, List.flatMap_nil, List.append_nil]; rw [HKE.out]; exact HM9.out⟩
              case measure => simp [intOf]; omega
             ·have es2 : ((s2.length : Int) == 0) = false := by rw [beq_eq_false_iff_ne]; omega
              have hs2n : s2 ≠ [] := fun e => hs2 (by rw [e]; rfl)
              have hke : (endFnd ps'.getLast? (kid j)).map (shift PL) = [] := by
               rw [HKD.out, endFnd_no (by rintro (e | ⟨e, -⟩); exact hs2n e; exact H42.out e)]; rfl
              have HKE := Lib.hid hke
              clear hke hs2 hs2n
              go_wp2_with fail
              refine (leafIs_any _ wr).mono ?_
              rintro e w3 ⟨rfl, hw3⟩
              subst w3
              go_wp2
              go_roundw
              case rel => exact ⟨j + 1, hlt, by go_num, by rw [List.range_succ, List.flatMap_append]; simp only [List.flatMap_cons, List.flatMap_nil, List.append_nil]; rw [HKE.out, List.append_nil]; exact HMP.out⟩
              case measure => simp [intOf]; omega
            | node k2 nb2 pre2 nk2 key2 kid2 =>
             have hke : endFnd ps'.getLast? (kid j) = [] := by
              rw [hkid]; exact endFnd_none H42.out
             have HKE := Lib.hid hke; clear hke
             have hrf : (kid j).ref = .iface (tyP k2) (.pointer (some ⟨nb2, 0, none⟩)) := by rw [hkid]; rfl
             rw [hrf] at cj
             clear hrf
             have qJ : ∀ w, (binOp .eql 137 (.iface (tyP k2) (.pointer (some ⟨nb2, 0, none⟩))) .nilIface).run Tryz.prog w = .ok (.bool false) w := fun w => nodeNe k2 _ w
             have iL : ∀ w, (method 508 (tyP k2) (.pointer (some ⟨nb2, 0, none⟩)) "pub-tokenroad/pub/natsserver/server/stree.isLeaf").run Tryz.prog w = .ok (299, .pointer (some ⟨nb2, k2.cap, none⟩)) w := fun w => isLeafN k2 nb2 w
             have HKD := Lib.hid hkid; clear hkid
             go_wp2_with fail
             refine (nodeIs_any _ wr).mono ?_
             rintro e w3 ⟨rfl, hw3⟩
             subst w3
             go_wp2
             go_roundw
             case rel => exact ⟨j + 1, hlt, by go_num, by rw [List.range_succ, List.flatMap_append]; simp only [List.flatMap_cons, List.flatMap_nil, List.append_nil]; rw [HKE.out, List.map_nil, List.append_nil]; exact HMP.out⟩
             case measure => simp [intOf]; omega
          ·obtain rfl : j = nk := by omega
           have HMP := Lib.hid hmpj; clear hmpj
           go_wp2
           go_ret
           exact ⟨rfl, HR.out.done (by rw [show (fnd (Art.node k nb pre j key kid) ps').map (shift pl') = ((List.range j).flatMap fun i => (endFnd ps'.getLast? (kid i)).map (shift PL)) from by rw [HPL.out]; exact Eq.symm (kids_end HR.out HQ.out HL62.out)]; exact HMP2.out.both HM2.out.out ((MP.refl (m := PL.length) HM3.out HBD.out).both HMd.out.out HMP.out (.inl ⟨rfl, Nat.le_refl _⟩) (Nat.le_refl _)) (by exact HLI.out) (by have := HLN.out; omega))⟩
    | cons q qs =>
     obtain ⟨r2, o2, cap2, us2, rfl, hpv2, hpf2, hl2, ho1, hk1⟩ := MpC_some hmp hq
     have HQ := Lib.hid hq
     have HM0 := Lib.hid (HR.out.mw.stay ho1 hk1)
     have HM1 := Lib.hid (show MW C _ r2 o2 (qs.length + 1) cap2 us2 (q :: qs) pl' ov cnt xs w1 from HR.out.mw.parts hq (by simp) hpv2 hpf2 hl2 ho1 hk1)
     have HT1 := Lib.hid (HR.out.tw.parts (r' := r2) (hl2.imp (fun h => h.1) id) ho1)
     have HO := Lib.hid ho1
     have HK := Lib.hid hk1
     have HL2 := Lib.hid (show r2 = r' ∧ o' + n' ≤ o2 + (qs.length + 1) ∨ wo.heap.size ≤ r2 from hl2)
     have hp1 : w1.cell? ⟨nb, k.cap, none⟩ = some (.string (mk pre)) := row_at HT1.out.at'.1 rowN_pre
     have el0 : (((qs.length : Int) + 1) == 0) = false := by rw [beq_eq_false_iff_ne]; omega
     have hcp2 : qs.length + 1 ≤ cap2 := by have := hpv2.n; have := hpf2.1; simp at this; omega
     clear hq hmp ho1 hk1 hrow hp0 hpv2 hpf2 hl2
     go_wp2_with fail
     refine (nodeIs_any _ w1).mono ?_
     rintro e w3 ⟨rfl, hw3⟩
     subst w3
     go_wp2_with fail
     refine (base_any _ w1).mono ?_
     rintro e w3 ⟨rfl, hw3⟩
     subst w3
     obtain ⟨PL, HPL⟩ : ∃ PL, Hid (PL = pl' ++ pre) := ⟨_, Lib.hid rfl⟩
     go_upto_if 95 with fail
     go_cut [3] (fun c wc => c = .slice (some ⟨C.Bp, 0, none⟩) PL.length 256 ∧ MW C (fun k => F' k ∨ k = r2) r2 o2 (qs.length + 1) cap2 us2 (q :: qs) PL ov cnt xs wc ∧ TW C (fun k => F' k ∨ k = r2) r2 (.node k nb pre nk key kid) pl'.length wc ∧ MP C r' o' n' pl'.length ov cnt xs [] wo wc)
     case first =>
      by_cases hpe : pre = []
      ·have hlp : ¬ ((pre.length : Int) > 0) := by rw [hpe]; simp
       have HE := Lib.hid (show PL = pl' by rw [HPL.out, hpe, List.append_nil]); clear hpe
       go_wp2
       go_meet
       case rel => exact ⟨by rw [HE.out], by rw [HE.out]; exact HM1.out, HT1.out, MP.still HR.out.mw HO.out HK.out⟩
      ·have hlp : ((pre.length : Int) > 0) := by have := List.length_pos_iff.2 hpe; omega
       clear hpe
       obtain ⟨cur, hbuf1, hcz1⟩ := HM1.out.buf
       have hpre1 := HM1.out.pre
       go_wp2_with (at_builtin; go_must (refine wpList_appStr rfl _ _ rfl C.Bp 256 pl'.length cur pl' (mk pre) rfl rfl rfl hbuf1 hpre1 (by omega) (by omega) ?_); intro W1 cur1 hBp1 hcur1 hbs1 honly1; rw [bs_mk] at hbs1)
       obtain ⟨hM2, -⟩ := HM1.out.longer ⟨cur1, hBp1, hcur1.trans hcz1⟩ hbs1 honly1
       have hmp0 := (HM0.out.longer ⟨cur1, hBp1, hcur1.trans hcz1⟩ hbs1 honly1).2
       go_meet
       case rel => exact ⟨by rw [HPL.out, List.length_append], by rw [HPL.out]; exact hM2, HT1.out.prefixed honly1, (MP.still (m := pl'.length) HR.out.mw HO.out HK.out).both HM0.out.out hmp0 (.inl ⟨rfl, Nat.le_refl _⟩) (Nat.le_refl _)⟩
     case rest =>
      obtain ⟨rfl, hM2, hT2, hmp2⟩ := hcut
      have hrow2 := hT2.at'.1
      have HM2 := Lib.hid hM2
      have HT2 := Lib.hid hT2
      have HMP2 := Lib.hid hmp2
      have HLN := Lib.hid (show PL.length = pl'.length + pre.length by rw [HPL.out, List.length_append])
      have hPLb : PL.length ≤ 256 := by have := HLN.out; omega
      clear hM2 hT2 hmp2 hp1
      as_aux_lemma =>
       obtain ⟨p1, qs1, ou1, cc1, hpe1, hu1, hp10, cf1, hsl1⟩ := HM2.out.first
       obtain ⟨rfl, rfl⟩ := List.cons.inj hpe1
       have hpv := pivot0 _ q wc hsl1
       clear hpe1 hu1 hp10 hsl1
       by_cases hw : q = [42] ∨ q = [62]
       ·have elq : ((q.length : Int) == 1) = true := by rcases hw with e | e <;> rw [e] <;> rfl
        have hor : (((piv q).toNat : Int) == 42) = true ∨ ((((piv q).toNat : Int) == 42) = false ∧ (((piv q).toNat : Int) == 62) = true) := by
         rcases hw with e | e
         ·left; rw [e]; rfl
         ·right; rw [e]; exact ⟨rfl, rfl⟩
        have HM3 := HM2
        have HLI := Lib.hid (HR.out.mw.lies HL2.out)
        clear hw
        as_aux_lemma =>
         rcases hor with e42 | ⟨e42, e62⟩
         all_goals
          go_wp2_with fail
          refine hpv.mono ?_
          rintro e w7 ⟨rfl, hw7⟩
          subst w7
          clear hpv
          go_wp2_with fail
          refine (children_any k nb pre nk key kid wc hrow2 hnk).mono ?_
          rintro e wd ⟨rfl, hwd⟩
          have hbd : Below wc.heap.size wc wd := by obtain ⟨md, rfl⟩ := hwd; exact below_drewN (Below.refl _ _) md
          have HMd := Lib.hid (HM3.out.bel hbd)
          have HTD := Lib.hid (HT2.out.bel hbd)
          have HBD := Lib.hid hbd
          clear hwd hbd hrow2
          go_wp2
          go_loopw [228] (fun i wr => ∃ j : Nat, j ≤ nk ∧ i = .int .i64 j ∧ MP C r2 (o2) ((qs.length + 1)) PL.length ov cnt xs ((List.range j).flatMap fun i => (fnd (kid i) (q :: qs)).map (shift PL)) wd wr) (fun i _ => nk - (intOf i).toNat)
          case atStart => exact ⟨0, Nat.zero_le _, rfl, MP.refl HMd.out (Below.refl _ _)⟩
          case round =>
           obtain ⟨j, hj, rfl, hmpj⟩ := hrel
           by_cases hlt : j < nk
           ·obtain ⟨ovj, kj1, hMj⟩ := HMd.out.next hmpj (Nat.le_refl _)
            have hTj := HTD.out.keep HMd.out hmpj
            have cj : wr.cell? ⟨nb, j, none⟩ = some (kid j).ref := row_at hTj.at'.1 (by rw [rowN_kid (by omega), if_pos hlt])
            have hcj : cnt + ((List.range j).flatMap fun i => (fnd (kid i) (q :: qs)).map (shift PL)).length + (kid j).ents.length ≤ 100000 := by
             have := kid_cnt (k := k) (nb := nb) (pre := pre) (key := key) (kid := kid) hlt (fun i => (fnd (kid i) (q :: qs)).map (shift PL)) (fun i _ => by rw [List.length_map]; exact fnd_len _ _)
             have := HR.out.cn
             omega
            have hdj : ∃ e, e < d ∧ (kid j).Deep e := by
             have hd := HR.out.dp
             cases d with
             | zero => exact hd.elim
             | succ d => exact ⟨d, Nat.lt_succ_self d, hd j hlt⟩
            have HMP := Lib.hid hmpj
            have HKJ := Lib.hid kj1
            have HMJ := Lib.hid hMj
            have HTJ := Lib.hid (show TW C _ _ (kid j) PL.length wr by rw [HLN.out]; exact hTj.kid hlt)
            have HCJ := Lib.hid hcj
            have HDJ := Lib.hid hdj
            clear hmpj kj1 hMj hTj hcj hdj
            as_aux_lemma =>
             obtain ⟨dj, hdj1, hdj2⟩ := HDJ.out
             have hrec := HIH.out dj hdj1 (kid j) C _ _ _ _ _ _ _ _ _ _ _ wr t hdj2 HMJ.out HTJ.out HCJ.out
             clear hdj1 hdj2
             obtain ⟨jty, jb, hrf⟩ := (kid j).ref_form
             have qJ : ∀ w, (binOp .neq 137 (.iface jty (.pointer (some ⟨jb, 0, none⟩))) .nilIface).run Tryz.prog w = .ok (.bool true) w := fun w => by have h := refNe2 (kid j) w; rw [hrf] at h; exact h
             rw [hrf] at cj hrec
             clear hrf
             go_wp2_with fail
             refine hrec.mono ?_
             rintro e w9 ⟨rfl, hmp9⟩
             have HM9 := Lib.hid (HMP.out.then HKJ.out hmp9 (Nat.le_refl _) (Nat.le_refl _))
             clear hrec hmp9
             go_wp2
             go_roundw
             case rel => exact ⟨j + 1, hlt, by go_num, by rw [List.range_succ, List.flatMap_append]; simpa using HM9.out⟩
             case measure => simp [intOf]; omega
           ·obtain rfl : j = nk := by omega
            have HMP := Lib.hid hmpj; clear hmpj
            go_wp2
            go_ret
            exact ⟨rfl, HR.out.done (by rw [show (fnd (Art.node k nb pre j key kid) ps').map (shift pl') = ((List.range j).flatMap fun i => (fnd (kid i) (q :: qs)).map (shift PL)) from by rw [HPL.out]; exact Eq.symm (kids_more HR.out HQ.out)]; exact HMP2.out.both HM2.out.out ((MP.refl (m := PL.length) HM3.out HBD.out).both HMd.out.out HMP.out (.inl ⟨rfl, Nat.le_refl _⟩) (Nat.le_refl _)) (by exact HLI.out) (by have := HLN.out; omega))⟩
       ·as_aux_lemma =>
         have hqp : piv q ≠ 42 ∧ piv q ≠ 62 := by
          rcases HM2.out.pb 0 q rfl with e | ⟨e, -⟩ | e
          ·exact absurd (.inl e) hw
          ·exact absurd (.inr e) hw
          ·obtain ⟨c0, t0, hc0⟩ := List.exists_cons_of_ne_nil e.1
           have := e.2 c0 (by rw [hc0]; simp)
           rw [hc0]; exact this
         have e42 : (((piv q).toNat : Int) == 42) = false := by
          rw [beq_eq_false_iff_ne]; intro e; exact hqp.1 (UInt8.toNat_inj.1 (show (piv q).toNat = 42 by omega))
         have e62 : (((piv q).toNat : Int) == 62) = false := by
          rw [beq_eq_false_iff_ne]; intro e; exact hqp.2 (UInt8.toNat_inj.1 (show (piv q).toNat = 62 by omega))
         have HW := Lib.hid hw; clear hw hqp
         have hfc := findChild_any k nb pre nk key kid (piv q) wc hrow2 hnk
         have HROW := Lib.hid hrow2; clear hrow2
         have elq : ((q.length : Int) == 1) = true ∨ ((q.length : Int) == 1) = false := by cases ((q.length : Int) == 1) <;> simp
         rcases elq with elq | elq
         all_goals
          go_wp2_with fail
          refine hpv.mono ?_
          rintro e w7 ⟨rfl, hw7⟩
          subst w7
          clear hpv
          go_wp2_with fail
          refine hfc.mono ?_
          rintro e w8 ⟨hfound, hw8⟩
          subst w8
          clear hfc
          rcases hfound with ⟨c, hc, hkc, rfl⟩ | ⟨hno, rfl⟩
          ·have cc : wc.cell? ⟨nb, c, none⟩ = some (kid c).ref := row_at HROW.out (by rw [rowN_kid (by omega), if_pos hc])
           have qc := ptrEq nb c
           have HDN := Lib.hid (show MRel C r o n ps pl ov cnt xs T d w (kid c) _ _ _ _ _ _ _ PL wc by rw [HPL.out]; exact HR.out.down HQ.out (fun e => HW.out (.inl e)) (fun e => HW.out (.inr e)) hc hkc (HPL.out ▸ HM2.out) HT2.out HMP2.out HL2.out)
           have HLD := Lib.hid (left_down HR.out hc)
           have HKC := Lib.hid hkc; clear hkc
           go_wp2
           go_roundw
           case rel => exact ⟨kid c, _, _, _, _, _, _, _, PL, rfl, rfl, rfl, HDN.out⟩
           case measure => exact HLD.out _ _ _ HLN.out
          ·have H := Lib.hid (HR.out.done (by rw [(fnd_lit HR.out.tw.wf HR.out.tw.fine HR.out.mw.pb HQ.out (fun e => HW.out (.inl e)) (fun e => HW.out (.inr e))).2 hno]; exact HMP2.out))
           clear hno
           go_wp2
           go_ret
           exact ⟨rfl, H.out⟩
end Go.Proofs.YtehlmjecbljafaaGreatDoor
