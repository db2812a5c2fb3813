/- The law FnRoadMapped, walked. -/
import Derived.Test.YtehlmjecbljafaaGreatDoorM10
import Derived.Test.YtehlmjecbljafaaGreatDoorM14
import Derived.Test.YtehlmjecbljafaaGreatDoorM24
namespace Go.Proofs.YtehlmjecbljafaaGreatDoor
open Go Go.RowKit
theorem match_sum : ∀ {P l : List (List UInt8)}, matchT l P = true → (∀ k : Nat, P[k]? = some [62] → k + 1 = P.length) → (∀ t ∈ l, t ≠ []) → sumL P ≤ sumL l
  | [], _, _, _, _ => by simp [sumL]
  | q :: P, [], h, _, _ => by simp [matchT] at h
  | q :: P, t :: l, h, hl, hne => by
    have ht : 0 < t.length := List.length_pos_iff.2 (hne t (by simp))
    simp only [sumL, List.foldr_cons]
    unfold matchT at h
    by_cases h1 : q = [62]
    · have := hl 0 (by rw [h1]; rfl)
      have hP : P = [] := List.eq_nil_of_length_eq_zero (by simp only [List.length_cons] at this; omega)
      subst hP h1
      simp only [List.foldr_nil, List.length_cons, List.length_nil]
      omega
    · rw [if_neg h1] at h
      by_cases h2 : q ≠ [42] ∧ q ≠ t
      · rw [if_pos h2] at h; cases h
      · rw [if_neg h2] at h
        have ih := match_sum h (fun k hk => by
          have := hl (k + 1) (by simpa using hk)
          simpa using this) (fun u hu => hne u (by simp [hu]))
        simp only [sumL] at ih
        have hq : q.length ≤ t.length := by
          by_cases h3 : q = [42]
          · subst h3; show 1 ≤ t.length; omega
          · have : q = t := by by_cases e : q = t; exact e; exact absurd ⟨h3, e⟩ h2
            rw [this]; exact Nat.le_refl _
        omega
set_option maxRecDepth 100000 in
set_option maxHeartbeats 6400000 in
theorem mapped_any (s A : ByteArray) (v : Value) (ps : List Part) (w : World) (hps : PartsAt w v ps) (hn : ps.length ≤ 274877906944) (hs : s.size ≤ maxLen) (hA : A.size ≤ maxLen) :
    Calls Tryz.prog 3 #[.string s, v, .string A] w fun e w' => e = .returned (.bool true) ∧ Below w.heap.size w w' := by
  have HPS := Lib.hid hps
  by_cases hs1 : s.size ≤ 2147483647
  · have hs1' : ¬ ((s.size : Int) > 2147483647) := by omega
    go_enter Tryz.func3, Tryz.ntmps3
    go_wp2_with fail
    refine (fits10_any v ps _ hps hn).mono ?_
    rintro e w1 ⟨b, rfl, hb, hb1⟩
    clear hps
    cases b
    · go_wp2
      go_ret
      exact ⟨rfl, hb1⟩
    · have hfit := Lib.hid (hb rfl); clear hb
      by_cases hA1 : A.size ≤ 2147483647
      · have hA1' : ¬ ((A.size : Int) > 2147483647) := by omega
        go_wp2_with fail
        refine (mapping_any s v ps _ (by omega) (HPS.out.keep hb1) hn).mono ?_
        rintro e w2 ⟨b, rfl, hm, hb2⟩
        replace hb2 := bel2 hb1 hb2
        cases b
        · clear hm
          go_wp2_with fail
          refine (awakeTransform_any _).mono ?_
          rintro e x1 ⟨rfl, y1⟩
          have z1 := bel2 hb2 y1
          go_wp2_with fail
          refine (awakeTree_any _).mono ?_
          rintro e x2 ⟨rfl, y2⟩
          have z2 := bel2 z1 y2
          go_wp2_with fail
          refine (awakeList_any _).mono ?_
          rintro e x3 ⟨rfl, y3⟩
          go_wp2
          go_ret
          exact ⟨rfl, bel2 z2 y3⟩
        · have HM := Lib.hid (hm rfl); clear hm
          go_wp2_with fail
          refine (plain_any A _ (by omega)).mono ?_
          rintro e w3 ⟨b, rfl, hm, hb3⟩
          replace hb3 := bel2 hb2 hb3
          cases b
          · clear hm
            go_wp2_with fail
            refine (awakeTransform_any _).mono ?_
            rintro e x1 ⟨rfl, y1⟩
            have z1 := bel2 hb3 y1
            go_wp2_with fail
            refine (awakeTree_any _).mono ?_
            rintro e x2 ⟨rfl, y2⟩
            have z2 := bel2 z1 y2
            go_wp2_with fail
            refine (awakeList_any _).mono ?_
            rintro e x3 ⟨rfl, y3⟩
            go_wp2
            go_ret
            exact ⟨rfl, bel2 z2 y3⟩
          · have HPl := Lib.hid (hm rfl); clear hm
            go_wp2_with fail
            refine (rev_any s v ps _ (by omega) (HPS.out.keep hb3) hn).mono ?_
            rintro e w4 ⟨b, rfl, hm, hb4⟩
            replace hb4 := bel2 hb3 hb4
            cases b
            · clear hm
              go_wp2_with fail
              refine (awakeTransform_any _).mono ?_
              rintro e x1 ⟨rfl, y1⟩
              have z1 := bel2 hb4 y1
              go_wp2_with fail
              refine (awakeTree_any _).mono ?_
              rintro e x2 ⟨rfl, y2⟩
              have z2 := bel2 z1 y2
              go_wp2_with fail
              refine (awakeList_any _).mono ?_
              rintro e x3 ⟨rfl, y3⟩
              go_wp2
              go_ret
              exact ⟨rfl, bel2 z2 y3⟩
            · have HR := Lib.hid (hm rfl); clear hm
              go_wp2_with fail
              refine (match_any A s _ (by omega) (by omega)).mono ?_
              rintro e w5 ⟨b, rfl, hm, hb5⟩
              replace hb5 := bel2 hb4 hb5
              cases b
              · clear hm
                go_wp2_with fail
                refine (awakeTransform_any _).mono ?_
                rintro e x1 ⟨rfl, y1⟩
                have z1 := bel2 hb5 y1
                go_wp2_with fail
                refine (awakeTree_any _).mono ?_
                rintro e x2 ⟨rfl, y2⟩
                have z2 := bel2 z1 y2
                go_wp2_with fail
                refine (awakeList_any _).mono ?_
                rintro e x3 ⟨rfl, y3⟩
                go_wp2
                go_ret
                exact ⟨rfl, bel2 z2 y3⟩
              · have hmt := hm rfl
                rw [← toks_bs, ← toks_bs] at hmt
                have hC : Cond A s ps := ⟨HPl.out, HM.out, HR.out, hfit.out.2, hmt⟩
                have HC := Lib.hid hC
                clear hC hm hmt
                have hps5 := HPS.out.keep hb5
                have hpo := (cond_parts HC.out)
                have HPO := Lib.hid hpo; clear hpo
                go_wp2_with fail
                refine (back_any s v ps _ (by omega) hps5 HPO.out.1 HM.out.few).mono ?_
                rintro e w6 ⟨u, rfl, hb6⟩
                replace hb6 := bel2 hb5 hb6
                clear hps5
                go_wp2_with fail
                refine (plan_any s v ps _ (by omega) (HPS.out.keep hb6) HPO.out.1 HM.out.few).mono ?_
                rintro e w7 ⟨pu, rfl, hplan, hb7⟩
                replace hb7 := bel2 hb6 hb7
                have hsum := cond_sum HC.out
                have hgood := cond_good HC.out
                have htok := cond_toks HC.out
                have hbyte := cond_bytes HC.out
                have htr := transform_any pu s A ps (placesN ((toks s).map bs)) _ w7 hplan HPO.out HC.out.hit (cond_head HC.out) (cond_pl HC.out) (fun _ => cond_len HC.out) (by omega) (by omega) (cond_src0 HC.out) (cond_dest0 HC.out) (cond_all HC.out)
                have hmet := cond_met HC.out
                have hnd : ∀ t ∈ outT (toks A) (placesN ((toks s).map bs)) (toks s).length ps, 46 ∉ t := fun t ht => cond_nodot HC.out ht
                have hjl := joinD_len (outT (toks A) (placesN ((toks s).map bs)) (toks s).length ps)
                generalize hO : outT (toks A) (placesN ((toks s).map bs)) (toks s).length ps = O at *
                have hSz : (mk (joinD O)).size ≤ 137438953472 := by rw [mk_size]; omega
                generalize hS : mk (joinD O) = S at *
                have HG := Lib.hid (And.intro hgood (And.intro htok (And.intro hbyte hmet)))
                have hOt : ∀ t ∈ O, t ≠ [] ∧ 46 ∉ t := fun t ht => by
                  refine ⟨fun e => ?_, hnd t ht⟩
                  have hm : mk t ∈ toks S := by rw [htok]; exact List.mem_map_of_mem ht
                  obtain ⟨j, hj, ej⟩ := List.mem_iff_getElem.1 hm
                  have := (hgood.heads j (mk t) (by rw [List.getElem?_eq_getElem hj, ej])).pos
                  rw [mk_size, e] at this
                  exact absurd this (by decide)
                have HOt := Lib.hid hOt
                clear hOt hnd
                clear hgood htok hbyte hmet hsum hjl hplan
                go_wp2_with fail
                refine htr.mono ?_
                rintro e w8 ⟨rfl, hb8⟩
                replace hb8 := bel2 hb7 hb8
                clear htr
                go_wp2_with fail
                refine (publish_any S _ HG.out.1 hSz).mono ?_
                rintro e w9 ⟨rfl, hb9⟩
                replace hb9 := bel2 hb8 hb9
                by_cases h80 : S.size ≤ 80
                · have h80' : ¬ ((S.size : Int) > 80) := by omega
                  have hbsS : bs S = joinD O := by rw [← hS, bs_mk]
                  have hpat := backs_pat HPO.out
                  have hsumO : sumL O = S.size + 1 := by
                    have h1 : O = splitDot (bs S) := by
                      have h2 : (toks S).map bs = O := by rw [HG.out.2.1, map_mk_bs]
                      rw [← h2, toks_bs]
                    rw [h1, sum_splitDot, bs_len]
                  have hfs : (mk (joinD (backs ps))).size ≤ 100000 := by
                    have h1 := match_sum HG.out.2.2.2 hpat.last (fun t ht => (HOt.out t ht).1)
                    have h2 := joinD_len (backs ps)
                    rw [mk_size]; omega
                  have hpos : 0 < S.size := by
                    rcases Nat.eq_zero_or_pos S.size with h | h
                    · have hO1 := toks_pos S
                      obtain ⟨t, ht⟩ : ∃ t, (toks S)[0]? = some t := ⟨_, List.getElem?_eq_getElem hO1⟩
                      have := (HG.out.1.heads 0 t ht).pos
                      have := toks_mem (List.mem_of_getElem? ht)
                      omega
                    · exact h
                  have htm := treeMatch_any _ ⟨0, S, 7⟩ (mk (joinD (backs ps))) _ (deeds_one w9 S 7) rfl (fun h => (HG.out.2.2.1 127 (by rw [← hbsS]; exact h)).2 rfl) hpos (by show S.size ≤ 256; omega) (by rw [bs_mk]; exact hpat.wild)
                    (by
                      have := ok_parts (backs ps) [] O hpat (by simp) (.inl rfl) HOt.out HG.out.2.2.2
                      rw [show dots [] = [] from rfl, List.nil_append] at this
                      show okP (gB [] (bs (mk (joinD (backs ps))))) (bs S)
                      rw [bs_mk, hbsS]; exact this) hfs
                  have hzq : (w9.alloc (.cells #[.int .i64 0, .string S, .int .i64 7] 39)).heap.size = w9.heap.size + 1 := by simp
                  have hpath : pathOf ⟨0, mk (joinD (backs ps)), 0⟩ = backs ps := by
                    show (toks (mk (joinD (backs ps)))).map bs = _
                    rw [toks_join hpat.some' hpat.nodot, map_mk_bs]
                  have hlh := fun w => listHas_any _ [⟨0, mk (joinD (backs ps)), 0⟩] S _ (deeds_one w (mk (joinD (backs ps))) 0) (fun d hd => by
                    rw [List.mem_singleton] at hd
                    subst hd
                    exact ⟨rfl, hfs, by rw [hpath]; exact hpat, (show (Lit.int .i64 0).wf = true by decide)⟩) (by simp) HG.out.1 (by omega)
                  have hbl : ∀ bl, (∃ T : Trie, (∀ q, T.N q ↔ q = [] ∨ ∃ d ∈ [(⟨0, mk (joinD (backs ps)), 0⟩ : Deed)], q <+: pathOf d) ∧ (∀ q, 0 < T.V q ↔ ∃ d ∈ [(⟨0, mk (joinD (backs ps)), 0⟩ : Deed)], q = pathOf d) ∧ (bl = true ↔ hasT T [] ((toks S).map bs))) → bl = true := by
                    rintro bl ⟨T, t1, t2, t3⟩
                    refine t3.2 ?_
                    have h2 : (toks S).map bs = O := by rw [HG.out.2.1, map_mk_bs]
                    rw [h2]
                    refine has_of_match T (backs ps) O [] hpat.some' (fun q hq _ => (t1 _).2 (.inr ⟨_, List.mem_singleton.2 rfl, by rw [hpath]; exact hq⟩)) ((t2 _).2 ⟨_, List.mem_singleton.2 rfl, by rw [hpath]; rfl⟩) HG.out.2.2.2
                  have HBL := Lib.hid hbl
                  clear hbl hpath hpat hsumO hbsS hfs hS
                  go_wp2_with fail
                  refine htm.mono ?_
                  rintro e w10 ⟨tv, rfl, hto, hb10⟩
                  clear htm
                  have hb10' : Below w.heap.size w w10 := bel2 (bel2 hb9 ((Below.refl _ w9).alloc (Nat.le_refl _) _)) hb10
                  have htl := hto.sl
                  obtain ⟨ta, tc, rfl, -⟩ := hto.form
                  obtain ⟨tb, tO, rfl, htc⟩ := htl.cell (Below.refl _ w10) (by simp)
                  have t0 : w10.cell? ⟨tb, tO, none⟩ = some (.string S) := htc 0 _ rfl
                  have t1 : w10.cell? ⟨tb, tO + 1, none⟩ = some (.int .i64 7) := htc 1 _ rfl
                  clear htc htl hto
                  go_wp2_with fail
                  refine (hlh w10).mono ?_
                  rintro e w11 ⟨bl, rfl, hbT, hb11⟩
                  obtain rfl := HBL.out bl hbT
                  have hb11' : Below w.heap.size w w11 := bel2 (bel2 hb10' ((Below.refl _ w10).alloc (Nat.le_refl _) _)) hb11
                  clear hlh hbT HBL
                  go_wp2_with fail
                  refine (awakeTransform_any _).mono ?_
                  rintro e x1 ⟨rfl, y1⟩
                  have z1 := bel2 hb11' y1
                  go_wp2_with fail
                  refine (awakeTree_any _).mono ?_
                  rintro e x2 ⟨rfl, y2⟩
                  have z2 := bel2 z1 y2
                  go_wp2_with fail
                  refine (awakeList_any _).mono ?_
                  rintro e x3 ⟨rfl, y3⟩
                  go_wp2
                  go_ret
                  exact ⟨rfl, bel2 z2 y3⟩
                · have h80' : (S.size : Int) > 80 := by omega
                  go_wp2_with fail
                  refine (publish_any S _ HG.out.1 hSz).mono ?_
                  rintro e w10 ⟨rfl, hb10⟩
                  go_wp2
                  go_ret
                  exact ⟨rfl, bel2 hb9 hb10⟩
      · have hA1' : (A.size : Int) > 2147483647 := by omega
        go_wp2
        go_ret
        exact ⟨rfl, hb1⟩
  · have hs1' : (s.size : Int) > 2147483647 := by omega
    go_enter Tryz.func3, Tryz.ntmps3
    go_wp2
    go_ret
    exact ⟨rfl, Below.refl _ _⟩
end Go.Proofs.YtehlmjecbljafaaGreatDoor
