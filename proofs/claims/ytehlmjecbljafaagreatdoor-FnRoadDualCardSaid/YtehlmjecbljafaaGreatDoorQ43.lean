/- The law FnRoadDual, walked. -/
import Derived.Test.YtehlmjecbljafaaGreatDoorQ40
import Derived.Test.YtehlmjecbljafaaGreatDoorQ41
import Derived.Test.YtehlmjecbljafaaGreatDoorQ42
namespace Go.Proofs.YtehlmjecbljafaaGreatDoor
open Go Go.RowKit
theorem outC_items (l : List Ent) : outC l = (l.map fun e => (mk e.1, e.2)).flatMap itemC := by
  unfold outC
  rw [List.flatMap_map]
  rfl
theorem ints_snoc (l : List Int) (x : Int) : ints (l ++ [x]) = ints l ++ [.int .i64 x] := by unfold ints; rw [List.map_append]; rfl
theorem hits_len (p : Nat → Bool) (n : Nat) : (hits p n).length ≤ n := by
  unfold hits
  rw [List.length_map]
  have := List.length_filter_le p (List.range n)
  rwa [List.length_range] at this
def stepN (s : ByteArray) (k : Nat) : List Value := [.int .i64 0, .string s, .string ⟨#[]⟩, .int .i64 k, .string ⟨#[]⟩, .slice none 0 0]
theorem puts_snoc {ds : List Deed} {k : Nat} {d : Deed} (h : ds[k]? = some d) : (putAt ds (k + 1)).flatMap StepD.cells = (putAt ds k).flatMap StepD.cells ++ stepN d.subj k := by
  rw [putAt_succ h, List.flatMap_append]; rfl
/-- The numbers of the subscriptions. -/
def idsN (n : Nat) : List Int := (List.range n).map fun k : Nat => (k : Int)
theorem idsN_at {n k : Nat} (h : k < n) : (idsN n)[k]? = some (k : Int) := by unfold idsN; rw [List.getElem?_map, List.getElem?_range h]; rfl
theorem idsN_nd (n : Nat) : (idsN n).Nodup := by
  unfold idsN List.Nodup
  rw [List.pairwise_map]
  exact (List.nodup_range (n := n)).imp fun h e => h (Int.ofNat.inj e)
theorem nums_len {ids : List Int} {subs l : List Nat} {out : List Int} (h : NumsOf ids subs l out) (hl : l.Nodup) : out.length ≤ subs.length := by
  rw [h.1]
  refine nd_sub hl fun x hx => ?_
  obtain ⟨j, hj, e⟩ := List.mem_iff_getElem.1 hx
  obtain ⟨k, y, h1, -, -⟩ := h.2 j x (by rw [List.getElem?_eq_getElem hj, e])
  exact List.mem_of_getElem? h1
set_option maxRecDepth 100000 in
set_option maxHeartbeats 12800000 in
theorem dual_any (v : Value) (ds : List Deed) (f : ByteArray) (w : World) (hds : DeedsAt w v ds) (hn : ds.length ≤ 274877906944)
    (hTree : ∀ w1, DeedsAt w1 v ds → ds.length ≤ 40 → Calls Tryz.prog 61 #[v] w1 (TreeC ds w1)) :
    Calls Tryz.prog 4 #[v, .string f] w fun e w' => e = .returned (.bool true) ∧ Below w.heap.size w w' := by
  have hfi := fits5_any v ds w hds hn
  obtain ⟨va, vc, rfl⟩ := Sl.form hds
  have HP := Lib.hid hds; clear hds
  have HTR := Lib.hid hTree; clear hTree
  go_enter Tryz.func4, Tryz.ntmps4
  go_wp2_with fail
  refine hfi.mono ?_
  rintro e w1 ⟨bb, rfl, hbb, hb1⟩
  clear hfi
  cases bb
  · go_wp2
    go_ret
    exact ⟨rfl, hb1⟩
  · have hl1 := hbb rfl
    clear hbb
    by_cases hf1 : f.size ≤ 2147483647
    case neg =>
      have hf1' : (f.size : Int) > 2147483647 := by omega
      go_wp2
      go_ret
      exact ⟨rfl, hb1⟩
    have hf1' : ¬ ((f.size : Int) > 2147483647) := by omega
    have hgr := grown_any _ ds w1 (Sl.keep HP.out hb1) hl1 HTR.out
    go_wp2_with fail
    refine hgr.mono ?_
    rintro e w2 ⟨ga, gn, gc, bl, rfl, hg, hb2⟩
    clear hgr
    replace hb2 := bel2 hb1 hb2
    cases bl
    · go_wp2_with fail
      refine (awakeTree_any _).mono ?_
      rintro e x1 ⟨rfl, y1⟩
      have z1 := bel2 hb2 y1
      go_wp2_with fail
      refine (awakeList_any _).mono ?_
      rintro e x2 ⟨rfl, y2⟩
      have z2 := bel2 z1 y2
      go_wp2_with fail
      refine (awakeSublist_any _).mono ?_
      rintro e x3 ⟨rfl, y3⟩
      go_wp2
      go_ret
      exact ⟨rfl, bel2 z2 y3⟩
    · have HG := Lib.hid (hg rfl); clear hg
      by_cases hgn : gn = ds.length
      case neg =>
        have hgn' : ¬ ((gn : Int) = (ds.length : Int)) := by omega
        go_wp2_with fail
        refine (awakeTree_any _).mono ?_
        rintro e x1 ⟨rfl, y1⟩
        have z1 := bel2 hb2 y1
        go_wp2_with fail
        refine (awakeList_any _).mono ?_
        rintro e x2 ⟨rfl, y2⟩
        have z2 := bel2 z1 y2
        go_wp2_with fail
        refine (awakeSublist_any _).mono ?_
        rintro e x3 ⟨rfl, y3⟩
        go_wp2
        go_ret
        exact ⟨rfl, bel2 z2 y3⟩
      subst hgn
      have hva := valid_any f w2 (by omega)
      go_wp2_with fail
      refine hva.mono ?_
      rintro e w3 ⟨vb, rfl, hvb, hb3⟩
      clear hva
      replace hb3 := bel2 hb2 hb3
      cases vb
      · go_wp2_with fail
        refine (awakeTree_any _).mono ?_
        rintro e x1 ⟨rfl, y1⟩
        have z1 := bel2 hb3 y1
        go_wp2_with fail
        refine (awakeList_any _).mono ?_
        rintro e x2 ⟨rfl, y2⟩
        have z2 := bel2 z1 y2
        go_wp2_with fail
        refine (awakeSublist_any _).mono ?_
        rintro e x3 ⟨rfl, y3⟩
        go_wp2
        go_ret
        exact ⟨rfl, bel2 z2 y3⟩
      · have HV := Lib.hid (hvb rfl); clear hvb
        by_cases h25 : ds.length ≤ 25
        case neg =>
          have h25' : (ds.length : Int) > 25 := by omega
          go_wp2_with fail
          refine (awakeTree_any _).mono ?_
          rintro e x1 ⟨rfl, y1⟩
          have z1 := bel2 hb3 y1
          go_wp2_with fail
          refine (awakeList_any _).mono ?_
          rintro e x2 ⟨rfl, y2⟩
          have z2 := bel2 z1 y2
          go_wp2_with fail
          refine (awakeSublist_any _).mono ?_
          rintro e x3 ⟨rfl, y3⟩
          go_wp2
          go_ret
          exact ⟨rfl, bel2 z2 y3⟩
        have h25' : ¬ ((ds.length : Int) > 25) := by omega
        have HD : Hid (DualP ds f) := Lib.hid ⟨h25, (HG.out.2.1 (by trivial)).1, fun d hd => HG.out.2.2.2 d hd, (HG.out.2.1 (by trivial)).2, HV.out⟩
        clear HG
        have hwz3 := hb3.size
        have hf5 : f.size ≤ 100000 := by have := HV.out.clean.1; omega
        have hdo : ∀ e ∈ [(⟨0, f, 0⟩ : Deed)], e.op = 0 ∧ e.subj.size ≤ 100000 ∧ PatP (pathOf e) ∧ (Lit.int .i64 e.val).wf = true := fun e he => by
          rw [List.mem_singleton] at he
          subst he
          exact ⟨rfl, hf5, HD.out.fpat, (show (Lit.int .i64 0).wf = true by decide)⟩
        have HDO := Lib.hid hdo; clear hdo
        generalize hp : hitB ds f = p at *
        have HPP := Lib.hid hp; clear hp
        go_wp2
        go_loopw [7, 8, 9] (fun s o i wr => ∃ k : Nat, k ≤ ds.length ∧ i = .int .i64 k ∧ Own wr w.heap.size 6 s k ((putAt ds k).flatMap StepD.cells) ∧ Own wr w.heap.size 1 o (hits p k).length (ints (hits p k)) ∧ (∀ q, s.ownBlock = some q → o.ownBlock ≠ some q) ∧ Below w.heap.size w wr) (fun _ _ i _ => ds.length - (intOf i).toNat)
        case atStart => exact ⟨0, Nat.zero_le _, rfl, by simpa [putAt] using Own.nil _ _ _, by simpa [hits, ints] using Own.nil _ _ _, by simp [Value.ownBlock], hb3⟩
        case round =>
          obtain ⟨k, hk, rfl, hs, ho, hne, hb⟩ := hrel
          by_cases hlt : k < ds.length
          · obtain ⟨b, o', d, rfl, Hd, c0w, c1w, c2w⟩ := HP.out.at' (Below.refl _ w) hlt
            have C1 := Lib.hid c1w
            clear c0w c1w c2w
            have hdm := List.mem_of_getElem? Hd.out
            have hsz : d.subj.size ≤ 100000 := by have := (HD.out.deed d hdm).1.2.1; omega
            have hwz := hb.size
            obtain ⟨sa, sc, rfl, -⟩ := hs.form
            obtain ⟨oa, oc, rfl, -⟩ := ho.form
            have hk6 : k < 549755813888 := by omega
            have hh6 : (hits p k).length < 549755813888 := by have := hits_len p k; omega
            have hol := fun q hq => (ho.lt q hq).2
            have c1 := cell_bel C1.out hb
            go_wp2_with (at_builtin; refine wpList_app1B (W := wr) et50 rfl _ _ rfl w.heap.size (v := .slice sa k sc) (n := k) (xs := (putAt ds k).flatMap StepD.cells) rfl hs [.int .i64 0, .string d.subj, .string ⟨#[]⟩, .int .i64 k, .string ⟨#[]⟩, .slice none 0 0] rfl rfl (by simp [Value.oneCell']) hk6 hwz ?_; intro s1 w4 hs1 hg1 hr1; have hb4 := bel_app hb hg1 hs hwz; have c1 := cell_bel C1.out hb4; have c1a := cell_alloc (.cells #[.int .i64 0, .string f, .int .i64 0] 39) c1)
            have hho := own_grown ho hg1 hne
            have hn1 := ne_grown hr1 hne (fun q hq => Nat.lt_succ_of_lt (hol q hq))
            have hz4 := hb4.size
            have hl24 := listMatch_any _ [⟨0, f, 0⟩] d.subj _ (deeds_one w4 f 0) HDO.out (by simp) (HD.out.good hdm) hsz (fun T t1 t2 t3 => by rw [HD.out.num Hd.out t1 t2 t3]; split <;> omega)
            have HS1 := Lib.hid hs1
            have HHO := Lib.hid hho
            have HB4 := Lib.hid hb4
            have HN1 := Lib.hid hn1
            clear hs1 hho hb4 hg1 hr1 hs ho hne c1 c1a hn1 hol
            refine hl24.mono ?_
            rintro e w5 ⟨T, u, ys, rfl, t1, t2, t3, hu, hb5⟩
            clear hl24
            have hb45 : Below w4.heap.size w4 w5 := bel2 ((Below.refl _ w4).alloc (Nat.le_refl _) _) hb5
            have hb5' := bel2 HB4.out hb45
            have hwz5 := hb5'.size
            have hs5 := HS1.out.keep hb45
            have ho5 := HHO.out.keep hb45
            have hnum := HD.out.num Hd.out t1 t2 t3
            rw [HPP.out] at hnum
            by_cases hpk : p k = true
            · rw [hnum, if_pos hpk] at hu
              obtain ⟨ua, uc, rfl, -⟩ := hu.form
              have hsl5 := fun q hq => (hs5.lt q hq).2
              have HSL := Lib.hid hsl5
              have HS5 := Lib.hid hs5
              clear hu t1 t2 t3 hnum hsl5 hs5
              go_wp2_with (at_builtin; refine wpList_app1B (W := w5) et33 rfl _ _ rfl w.heap.size (v := .slice oa (hits p k).length oc) (n := (hits p k).length) (xs := ints (hits p k)) rfl ho5 [.int .i64 k] rfl rfl (by simp [Value.oneCell']) hh6 hwz5 ?_; intro o1 w6 ho6 hg6 hr6)
              go_roundw
              case rel =>
                have hn2 := ne_grown (v2 := s1) hr6 (fun q h1 h2 => HN1.out q h2 h1) (fun q hq => Nat.lt_succ_of_lt (HSL.out q hq))
                have e1 : hits p (k + 1) = hits p k ++ [(k : Int)] := by rw [hits_succ, if_pos hpk]
                refine ⟨k + 1, hlt, by go_num, ?_, ?_, fun q h1 h2 => hn2 q h2 h1, bel_app hb5' hg6 ho5 hwz5⟩
                · rw [puts_snoc Hd.out]
                  exact own_grown HS5.out hg6 (fun q h1 h2 => HN1.out q h2 h1)
                · rw [e1, ints_snoc, List.length_append]
                  exact ho6
              case measure => simp [intOf] <;> omega
            · rw [hnum, if_neg hpk] at hu
              obtain ⟨ua, uc, rfl, -⟩ := hu.form
              have HS5 := Lib.hid hs5
              have HO5 := Lib.hid ho5
              clear hu t1 t2 t3 hnum hs5 ho5
              go_wp2
              go_roundw
              case rel =>
                have e1 : hits p (k + 1) = hits p k := by rw [hits_succ, if_neg hpk, List.append_nil]
                refine ⟨k + 1, hlt, by go_num, ?_, ?_, HN1.out, hb5'⟩
                · rw [puts_snoc Hd.out]; exact HS5.out
                · rw [e1]; exact HO5.out
              case measure => simp [intOf] <;> omega
          · obtain rfl : k = ds.length := by omega
            have htm := treeMatchF_any _ ds f wr (Sl.keep HP.out hb) HD.out.ok (fun d hd => .inl (HD.out.op d hd)) (fun d hd => HD.out.fine hd) (fun b => artQ_puts ds b HD.out.ok HD.out.op) HD.out.wild HD.out.parts HD.out.gpos hf5
            have HS := Lib.hid hs
            have HO := Lib.hid ho
            clear hs ho hne
            obtain ⟨wo, rfl⟩ : ∃ x : World, x = wr := ⟨_, rfl⟩
            go_wp2_with fail
            refine htm.mono ?_
            rintro e wA ⟨u, l, rfl, hu, hfound, hbA⟩
            clear htm
            have hbw := bel2 hb hbA
            have hwzA := hbw.size
            have HSA := Lib.hid (HS.out.keep hbA)
            have HOA := Lib.hid (HO.out.keep hbA)
            have HF := Lib.hid hfound
            obtain ⟨ua, uc, rfl, -⟩ := hu.form
            have hui : ItemsAt wA (.slice ua l.length uc) (l.map fun e => (mk e.1, e.2)) := by
              unfold ItemsAt
              rw [List.length_map, ← outC_items]
              exact hu.sl
            have HUI := Lib.hid hui
            have hul := hu.sl.len
            clear hfound hu hui HS HO
            go_wp2
            go_loopw [11, 12] (fun o i wr => ∃ k : Nat, k ≤ ds.length ∧ i = .int .i64 k ∧ Own wr wA.heap.size 1 o (hits p k).length (ints (hits p k)) ∧ Below wA.heap.size wA wr) (fun _ i _ => ds.length - (intOf i).toNat)
            case atStart => exact ⟨0, Nat.zero_le _, rfl, by simpa [hits, ints] using Own.nil _ _ _, Below.refl _ _⟩
            case round =>
              obtain ⟨k, hk, rfl, ho2, hb2⟩ := hrel
              by_cases hlt : k < ds.length
              · obtain ⟨b, o', d, rfl, Hd, c0w, c1w, c2w⟩ := HP.out.at' (Below.refl _ w) hlt
                have C1 := Lib.hid c1w
                clear c0w c1w c2w
                have HO2 := Lib.hid ho2; clear ho2
                have hh6 : (hits p k).length ≤ k := hits_len p k
                obtain ⟨wp, rfl⟩ : ∃ x : World, x = wr := ⟨_, rfl⟩
                go_wp2
                go_loopw [11, 13] (fun o j wr => ∃ q : Nat, q ≤ l.length ∧ j = .int .i64 q ∧ Own wr wA.heap.size 1 o (hits p k ++ metL l (bs d.subj) k q).length (ints (hits p k ++ metL l (bs d.subj) k q)) ∧ Below wA.heap.size wA wr) (fun _ j _ => l.length - (intOf j).toNat)
                case atStart => exact ⟨0, Nat.zero_le _, rfl, by rw [metL_zero, List.append_nil]; exact HO2.out, hb2⟩
                case round =>
                  obtain ⟨q, hq, rfl, ho3, hb3'⟩ := hrel
                  have hbq := bel2 hbw hb3'
                  have c1 := cell_bel C1.out hbq
                  by_cases hlq : q < l.length
                  · obtain ⟨ub, uo, e', rfl, He, e0, e1⟩ := HUI.out.at' hb3' (by rw [List.length_map]; exact hlq)
                    have he' : e' = (mk l[q].1, l[q].2) := by
                      have h := He.out
                      rw [List.getElem?_map, List.getElem?_eq_getElem hlq] at h
                      exact (Option.some.inj h).symm
                    subst he'
                    have hlq? : l[q]? = some l[q] := List.getElem?_eq_getElem hlq
                    have HLQ := Lib.hid hlq?
                    clear hlq? He
                    generalize l[q] = en at *
                    dsimp only at e0 e1
                    by_cases he : en.1 = bs d.subj
                    · have hcmp : ((mk en.1).toList == d.subj.toList) = true := by rw [he, mk_bs]; simp
                      have hmt := metL_yes (i := k) HF.out.nd HLQ.out he
                      rw [hmt.1, List.append_nil] at ho3
                      have HMT := Lib.hid hmt.2
                      have HE := Lib.hid he
                      clear hmt he
                      obtain ⟨oa, oc, rfl, -⟩ := ho3.form
                      go_wp2
                      go_quiet (fail)
                      have ho4 := ho3.keep (below_drewN (Below.refl _ wr) nq)
                      have hb4 := below_drewN hb3' nq
                      have hz4 := hb4.size
                      have hh7 : (hits p k).length < 549755813888 := by omega
                      go_wp2_with (at_builtin; refine wpList_app1 (W := wr.drewN nq) et33 rfl _ _ rfl wA.heap.size (v := .slice oa (hits p k).length oc) (n := (hits p k).length) (xs := ints (hits p k)) rfl ho4 [.int .i64 k] rfl rfl (by simp [Value.oneCell']) hh7 hz4 ?_; intro o1 w6 ho6 hg6)
                      go_roundw
                      case rel =>
                        refine ⟨q + 1, hlq, by go_num, ?_, bel_app hb4 hg6 ho4 hz4⟩
                        rw [HMT.out, ints_snoc, List.length_append]
                        exact ho6
                      case measure => simp [intOf] <;> omega
                    · have hcmp : ((mk en.1).toList == d.subj.toList) = false := by
                        rw [beq_eq_false_iff_ne]
                        intro e
                        apply he
                        rw [toList_bs, toList_bs, bs_mk] at e
                        exact e
                      have hmt := metL_no (i := k) HLQ.out he
                      have HMT := Lib.hid hmt
                      have HE := Lib.hid he
                      clear hmt he
                      go_wp2
                      go_quiet (fail)
                      go_wp2
                      go_roundw
                      case rel =>
                        refine ⟨q + 1, hlq, by go_num, ?_, below_drewN hb3' nq⟩
                        rw [HMT.out]
                        exact ho3.keep (below_drewN (Below.refl _ wr) nq)
                      case measure => simp [intOf] <;> omega
                  · obtain rfl : q = l.length := by omega
                    have hga := HD.out.gather HF.out Hd.out
                    rw [HPP.out] at hga
                    have HGA := Lib.hid hga
                    clear hga
                    go_wp2
                    go_roundw
                    case rel =>
                      refine ⟨k + 1, hlt, by go_num, ?_, hb3'⟩
                      rw [← HGA.out]
                      exact ho3
                    case measure => simp [intOf] <;> omega
              · obtain rfl : k = ds.length := by omega
                have hpl := putAt_len (Nat.le_refl ds.length)
                have hsB : StepsAt wr u7 (putAt ds ds.length) := by
                  unfold StepsAt
                  rw [hpl]
                  exact (HSA.out.keep hb2).sl
                have hoB := (HOA.out.keep hb2).sl
                have htB := ho2.sl
                have hh25 : (hits p ds.length).length ≤ ds.length := hits_len p ds.length
                have has := asked_any _ (putAt ds ds.length) f wr hsB (by omega)
                have hbB := bel2 hbw hb2
                have HOB := Lib.hid hoB
                have HTB := Lib.hid htB
                have HPL := Lib.hid hpl
                clear hsB hoB htB ho2 hpl
                go_wp2_with fail
                refine has.mono ?_
                rintro e w6 ⟨u6, rfl, hst, hb6⟩
                clear has
                have hb6' := bel2 hbB hb6
                have hsp := slPlay_any (idsN ds.length) (ds.map Deed.subj) f u6 (putAt ds ds.length ++ [⟨5, ⟨#[]⟩, 0, f⟩]) w6 hst (by rw [List.length_append, HPL.out, List.length_map]; rfl)
                  (fun k s x h1 h2 => by
                    have hk1 := (List.getElem?_eq_some_iff.1 h1).1
                    rw [List.length_map] at hk1
                    rw [List.getElem?_map] at h1
                    rw [idsN_at hk1] at h2
                    obtain ⟨d, hd, rfl⟩ := Option.map_eq_some_iff.1 h1
                    injection h2 with h2
                    subst h2
                    rw [List.getElem?_append_left (by rw [HPL.out]; exact hk1)]
                    exact putAt_at hd hk1)
                  (by rw [List.length_map, List.getElem?_append_right (by rw [HPL.out]; exact Nat.le_refl _), HPL.out, Nat.sub_self]; rfl)
                  (by unfold idsN; simp) (idsN_nd _) HD.out.plain (fun s hs => by obtain ⟨d, hd, rfl⟩ := List.mem_map.1 hs; exact HD.out.ppat hd) (by rw [List.length_map]; omega) HD.out.fpat hf5
                have HB6 := Lib.hid hb6'
                have HB6b := Lib.hid hb6
                clear hst hb6 hb6'
                go_wp2_with fail
                refine hsp.mono ?_
                rintro e w7 ⟨u7b, rfl, rest, uf, out, nl, subs, e1, e2, e3, e4, e5, e6, e7, e8⟩
                clear hsp
                have hb7' := bel2 HB6.out e8
                have hol : out.length ≤ ds.length := by
                  have := nums_len e3 e4
                  rw [e6, List.length_map] at this
                  exact this
                obtain ⟨fa, fc, rfl, -⟩ := e2.form
                have hrl : rest.length = (ds.map Deed.subj).length * 4 := by
                  have := e1.1
                  rw [List.length_append] at this
                  simp only [List.length_cons, List.length_nil] at this
                  omega
                have hla := last_any u7b (ds.map Deed.subj).length rest _ _ fa out.length fc w7 e1.sl hrl (by rw [List.length_map]; omega)
                have E2 := Lib.hid e2
                have E8 := Lib.hid e8
                have HN := Lib.hid (And.intro e3 (And.intro e4 (And.intro e5 (And.intro e6 e7))))
                have HB7 := Lib.hid hb7'
                clear e1 e2 e3 e4 e5 e6 e7 e8 hrl hb7'
                go_wp2_with fail
                refine hla.mono ?_
                rintro e w8 ⟨rfl, hb8⟩
                clear hla
                have hb8' := bel2 HB7.out hb8
                have hwh := who_any _ out w8 (E2.out.keep hb8).sl (by omega)
                have HB8 := Lib.hid hb8
                have HB8b := Lib.hid hb8'
                clear hb8 hb8'
                go_wp2_with fail
                refine hwh.mono ?_
                rintro e w9 ⟨u9, m, rfl, k1, k2, k3, k4⟩
                clear hwh
                have hm : m = hits p ds.length := by
                  obtain ⟨e3, e4, e5, e6, e7⟩ := HN.out
                  have := nums_hits (ss := ds.map Deed.subj) (xs := idsN ds.length) (fun k hk => idsN_at (by rw [List.length_map] at hk; exact hk)) e3 e4 e5 e6 e7 k2 k3
                  rw [List.length_map] at this
                  rw [this, ← HPP.out]
                  rfl
                have hb9' := bel2 HB8b.out k4
                have hB9 : Below wr.heap.size wr w9 := bel2 (bel2 (bel2 HB6b.out E8.out) HB8.out) k4
                have hs1 := sameInts_any _ _ (hits p ds.length) (hits p ds.length) w9 (HTB.out.keep hB9) (HOB.out.keep hB9) rfl (by omega)
                have HM := Lib.hid hm
                have K1 := Lib.hid k1
                have HB9 := Lib.hid hB9
                clear hm k1 k2 k3 k4 hB9
                go_wp2_with fail
                refine hs1.mono ?_
                rintro e w10 ⟨rfl, hb10⟩
                clear hs1
                have hs2 := sameInts_any u9 _ m (hits p ds.length) w10 (K1.out.sl.keep hb10) (HOB.out.keep (bel2 HB9.out hb10)) HM.out (by rw [HM.out]; omega)
                have hb10' := bel2 hb9' hb10
                clear hb10 hb9'
                go_wp2_with fail
                refine hs2.mono ?_
                rintro e w11 ⟨rfl, hb11⟩
                clear hs2
                have hb11' := bel2 hb10' hb11
                go_wp2_with fail
                refine (awakeTree_any _).mono ?_
                rintro e x1 ⟨rfl, y1⟩
                have z1 := bel2 hb11' y1
                go_wp2_with fail
                refine (awakeList_any _).mono ?_
                rintro e x2 ⟨rfl, y2⟩
                have z2 := bel2 z1 y2
                go_wp2_with fail
                refine (awakeSublist_any _).mono ?_
                rintro e x3 ⟨rfl, y3⟩
                go_wp2
                go_ret
                exact ⟨rfl, bel2 z2 y3⟩
end Go.Proofs.YtehlmjecbljafaaGreatDoor
