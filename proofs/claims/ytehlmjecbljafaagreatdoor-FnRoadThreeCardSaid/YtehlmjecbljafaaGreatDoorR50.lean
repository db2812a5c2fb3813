/- Tree. -/
import Derived.Test.YtehlmjecbljafaaGreatDoorR34
namespace Go.Proofs.YtehlmjecbljafaaGreatDoor
open Go Go.RowKit
set_option maxRecDepth 100000 in
set_option maxHeartbeats 12800000 in
theorem specTree_any (v : Value) (ds : List Deed) (w : World) (hds : DeedsAt w v ds) (hn : ds.length ≤ 40) : Calls Tryz.prog 61 #[v] w (TreeC ds w) := by
 obtain ⟨va, vc, rfl⟩ := Sl.form hds
 have HP := Lib.hid hds; clear hds
 go_enter Tryz.func61, Tryz.ntmps61
 go_wp2
 go_loopw [4, 5, 6] (fun l o i wr => ∃ (k : Nat) (es : List (ByteArray × Int)) (xs : List Value), k ≤ ds.length ∧ i = .int .i64 k ∧ Own wr w.heap.size 2 l es.length (es.flatMap itemC) ∧ Own wr w.heap.size 2 o k xs ∧ (∀ q, l.ownBlock = some q → o.ownBlock ≠ some q) ∧ Hid (TreeI ds k es) ∧ Below w.heap.size w wr) (fun _ _ i _ => ds.length - (intOf i).toNat)
 case atStart => exact ⟨0, [], [], Nat.zero_le _, rfl, Own.nil _ _ _, Own.nil _ _ _, by simp [Value.ownBlock], Lib.hid (TreeI.start ds), Below.refl _ _⟩
 case round =>
  obtain ⟨k, es, xs, hk, rfl, hl, ho, hne, HI, hb⟩ := hrel
  obtain ⟨la, lc, rfl, hlc⟩ := hl.form
  obtain ⟨oa, oc, rfl, -⟩ := ho.form
  by_cases hlt : k < ds.length
  ·obtain ⟨b, o, ⟨dop, dsu, dva⟩, rfl, Hd, c0, c1, c2⟩ := HP.out.at' hb hlt
   dsimp only at c0 c1 c2
   have hek : es.length ≤ k := HI.out.1
   have hwz := hb.size
   have hk6 : k < 549755813888 := by omega
   have hn2 : 0 + es.length ≤ 549755813888 := by omega
   have hb1 := (Below.refl wr.heap.size wr).alloc (Nat.le_refl _) (.cells #[.int .i64 dop, .string dsu, .int .i64 dva] 39)
   have hfi := find_any _ es dsu _ (hl.sl.keep hb1) (by omega)
   have HL := Lib.hid hl; clear hl
   have HO := Lib.hid ho; clear ho
   have HB1 := Lib.hid hb1; clear hb1
   clear hne
   go_wp2_with fail
   refine hfi.mono ?_
   rintro e w1 ⟨i, rfl, hfr, rfl⟩
   clear hfi
   rcases hfr with ⟨rfl, hno⟩ | ⟨j, x, rfl, hj⟩
   ·have HNO := Lib.hid hno; clear hno
    by_cases h0 : dop = 0
    ·subst h0
     have hz2 : ((wr.alloc (.cells #[.int .i64 0, .string dsu, .int .i64 dva] 39)).alloc (.cells #[.bool false, .int .i64 0] 150)).heap.size = wr.heap.size + 1 + 1 := by simp
     have ho1 := own_empty ((wr.alloc (.cells #[.int .i64 0, .string dsu, .int .i64 dva] 39)).alloc (.cells #[.bool false, .int .i64 0] 150)) (wr.heap.size + 1 + 1) 2 44 (by rw [hz2]; omega)
     rw [hz2] at ho1
     have hb3 := ((HB1.out.alloc (by simp) (.cells #[.bool false, .int .i64 0] 150)).alloc (by rw [hz2]; omega) (.cells #[] 44))
     have hz3 := hb3.size
     have hl3 := HL.out.sl.keep hb3
     have ho1m := ho1.mono (show wr.heap.size ≤ wr.heap.size + 1 + 1 by omega)
     have hA3 : (((wr.alloc (.cells #[.int .i64 0, .string dsu, .int .i64 dva] 39)).alloc (.cells #[.bool false, .int .i64 0] 150)).alloc (.cells #[] 44)).heap[wr.heap.size]? = some (.cells #[.int .i64 0, .string dsu, .int .i64 dva] 39) := by
      have h1 := ((Below.refl (wr.heap.size + 1) (wr.alloc (.cells #[.int .i64 0, .string dsu, .int .i64 dva] 39))).alloc (by simp) (.cells #[.bool false, .int .i64 0] 150)).alloc (by rw [hz2]; omega) (.cells #[] 44)
      rw [h1.block _ (Nat.lt_succ_self _)]
      exact heap_alloc_new wr _
     have hT3 : (((wr.alloc (.cells #[.int .i64 0, .string dsu, .int .i64 dva] 39)).alloc (.cells #[.bool false, .int .i64 0] 150)).alloc (.cells #[] 44)).heap[wr.heap.size + 1]? = some (.cells #[.bool false, .int .i64 0] 150) := by
      have h1 := (Below.refl (wr.heap.size + 1 + 1) ((wr.alloc (.cells #[.int .i64 0, .string dsu, .int .i64 dva] 39)).alloc (.cells #[.bool false, .int .i64 0] 150))).alloc (by rw [hz2]; omega) (.cells #[] 44)
      rw [h1.block _ (Nat.lt_succ_self _)]
      have := heap_alloc_new (wr.alloc (.cells #[.int .i64 0, .string dsu, .int .i64 dva] 39)) (.cells #[.bool false, .int .i64 0] 150)
      simpa using this
     have hs3 : (((wr.alloc (.cells #[.int .i64 0, .string dsu, .int .i64 dva] 39)).alloc (.cells #[.bool false, .int .i64 0] 150)).alloc (.cells #[] 44)).heap.size = wr.heap.size + 1 + 1 + 1 := by simp
     have hz3b : wr.heap.size + 1 + 1 ≤ wr.heap.size + 1 + 1 + 1 := by omega
     rw [← hs3] at hz3b
     have HA3 := Lib.hid hA3; clear hA3
     have HT3 := Lib.hid hT3; clear hT3
     clear hz2
     go_wp2_with (at_builtin; refine wpList_appS (w := (((wr.alloc (.cells #[.int .i64 0, .string dsu, .int .i64 dva] 39)).alloc (.cells #[.bool false, .int .i64 0] 150)).alloc (.cells #[] 44))) et41 rfl _ _ rfl (wr.heap.size + 1 + 1) (v := .slice (some ⟨wr.heap.size + 1 + 1, 0, none⟩) 0 0) (n := 0) (xs := []) rfl ho1 (u := .slice la es.length lc) (m := es.length) rfl hl3 (items_one es) hn2 hz3b ?_; intro v4 w4 hown4 hgr4; rw [Nat.zero_add, List.nil_append] at hown4; have hb4 := bel_app hb3 hgr4 ho1m hz3; have hz4 := hb4.size; have hA4 := (hgr4.block wr.heap.size (by rw [hs3]; omega) (by simp [Value.ownBlock] <;> omega)).trans HA3.out; have hT4 := (hgr4.block (wr.heap.size + 1) (by rw [hs3]; omega) (by simp [Value.ownBlock] <;> omega)).trans HT3.out; have x0 := (cell_row (j := 0) hA4).trans (show _ = some (Value.int .i64 0) from rfl); have x1 := (cell_row (j := 1) hA4).trans (show _ = some (Value.string dsu) from rfl); have x2 := (cell_row (j := 2) hA4).trans (show _ = some (Value.int .i64 dva) from rfl); have y0 := (cell_row (j := 0) hT4).trans (show _ = some (Value.bool false) from rfl); have y1 := (cell_row (j := 1) hT4).trans (show _ = some (Value.int .i64 0) from rfl); have hoc := HO.out.keep hb4; have hwc := (bel2 hb hb4).size)
     have HX0 := Lib.hid x0; clear x0
     have HX1 := Lib.hid x1; clear x1
     have HX2 := Lib.hid x2; clear x2
     have HY0 := Lib.hid y0; clear y0
     have HY1 := Lib.hid y1; clear y1
     have HTO := Lib.hid (fun c (hc : c ≤ es.length) => items_to la es.length lc c hc hlc)
     have HFR := Lib.hid (fun c (hc : c ≤ es.length) => items_from la es.length lc c hc)
     obtain ⟨wo, rfl⟩ : ∃ x : World, x = wr := ⟨_, rfl⟩
     go_loopw [11] (fun m wr => ∃ c : Nat, c ≤ es.length ∧ m = .int .i64 c ∧ Below w4.heap.size w4 wr) (fun m _ => es.length - (intOf m).toNat)
     case atStart => exact ⟨0, Nat.zero_le _, rfl, Below.refl _ _⟩
     case round =>
      obtain ⟨c, hc, rfl, hbi⟩ := hrel
      have x1 := cell_bel HX1.out hbi
      have hbi2 := below_up hb4 hz4 hbi
      by_cases hcl : c < es.length
      ·obtain ⟨lb, lo, e', rfl, He, e0, e1⟩ := ItemsAt.at' HL.out.sl hbi2 hcl
       cases hs : Op.bytesLess e'.1.toList dsu.toList
       ·go_wp2_with fail
        go_quiet (fail)
        have hbx := below_drewN hbi nq
        have hbX : Below w4.heap.size w4 (wr.drewN nq).drew := hbx.drew
        have hzX := hbX.size
        obtain ⟨s1, hr1, hs1⟩ := HTO.out c hc
        obtain ⟨s2, hr2, hs2⟩ := HFR.out c hc
        have q1 := hs1 w4 es (HL.out.sl.keep hb4)
        have q2 := hs2 w4 es rfl (HL.out.sl.keep hb4)
        have hzD : (wr.drewN nq).drew.heap.size = (wr.drewN nq).heap.size := rfl
        have o1 := own_empty (wr.drewN nq).drew w4.heap.size 2 44 hzX
        rw [hzD] at o1
        have bw1 := hbX.alloc hzX (.cells #[] 44)
        have bz1 := bw1.size
        have hzD1 : ((wr.drewN nq).drew.alloc (.cells #[] 44)).heap.size = (wr.drewN nq).heap.size + 1 := by simp
        have o2 := o1.alloc (.cells #[.string dsu, .int .i64 dva] 44)
        have bw2 := bw1.alloc bz1 (.cells #[.string dsu, .int .i64 dva] 44)
        have bz2 := bw2.size
        have hbx2 := heap_alloc_new ((wr.drewN nq).drew.alloc (.cells #[] 44)) (.cells #[.string dsu, .int .i64 dva] 44)
        rw [hzD1] at hbx2
        have bw3a := hbX.alloc hzX (.cells #[.string dsu, .int .i64 dva] 44)
        have hzD3 : ((wr.drewN nq).drew.alloc (.cells #[.string dsu, .int .i64 dva] 44)).heap.size = (wr.drewN nq).heap.size + 1 := by simp
        have o3 := own_empty ((wr.drewN nq).drew.alloc (.cells #[.string dsu, .int .i64 dva] 44)) w4.heap.size 2 44 bw3a.size
        rw [hzD3] at o3
        have bw3 := bw3a.alloc bw3a.size (.cells #[] 44)
        have bz3 := bw3.size
        have hbx3 : (((wr.drewN nq).drew.alloc (.cells #[.string dsu, .int .i64 dva] 44)).alloc (.cells #[] 44)).heap[(wr.drewN nq).heap.size]? = some (.cells #[.string dsu, .int .i64 dva] 44) := by
         have h1 := (Below.refl ((wr.drewN nq).heap.size + 1) ((wr.drewN nq).drew.alloc (.cells #[.string dsu, .int .i64 dva] 44))).alloc (by simp) (.cells #[] 44)
         rw [h1.block _ (Nat.lt_succ_self _)]
         exact heap_alloc_new (wr.drewN nq).drew _
        have x1d := cell_bel HX1.out hbX
        have x2d := cell_bel HX2.out hbX
        have hc1 : 0 + c ≤ 549755813888 := by omega
        have hc2 : c + 1 ≤ 549755813888 := by omega
        have hc3 : c + 1 + (es.length - c) ≤ 549755813888 := by omega
        have one2 : ∀ u ∈ [Value.string dsu, Value.int .i64 dva], u.oneCell' = true := by simp [Value.oneCell']
        clear hs1 hs2 hzD hzD1 hzD3
        go_wp2_with fail
        go_region_held3 (fun w1 => w1.cell? ⟨wo.heap.size, 1, none⟩ = some (.string dsu) ∧ w1.cell? ⟨wo.heap.size, 2, none⟩ = some (.int .i64 dva)) (first | exact ⟨x18, x28⟩ | exact ⟨x17, x27⟩ | exact ⟨x16, x26⟩ | exact ⟨cell_alloc _ x16, cell_alloc _ x26⟩ | exact ⟨x1d, x2d⟩ | exact ⟨cell_alloc _ x1d, cell_alloc _ x2d⟩ | exact ⟨cell_alloc _ (cell_alloc _ x1d), cell_alloc _ (cell_alloc _ x2d)⟩) (first
         | (refine step_appS (w := ((wr.drewN nq).drew.alloc (.cells #[] 44))) et41 rfl _ _ rfl w4.heap.size (v := (.slice (some ⟨(wr.drewN nq).heap.size, 0, none⟩) 0 0)) (n := 0) (xs := []) rfl o1 (u := (.slice s1 c lc)) (m := c) rfl (q1.keep bw1) (items_one _) hc1 bz1 ?_; intro v6 w6 o6 g6; have b6 := bel_app bw1 g6 o1 bz1; have bz6 := b6.size; have x16 := cell_bel HX1.out b6; have x26 := cell_bel HX2.out b6; rw [Nat.zero_add, List.nil_append] at o6)
         | (refine step_appS (w := (((wr.drewN nq).drew.alloc (.cells #[] 44)).alloc (.cells #[.string dsu, .int .i64 dva] 44))) et41 rfl _ _ rfl w4.heap.size (v := (.slice (some ⟨(wr.drewN nq).heap.size, 0, none⟩) 0 0)) (n := 0) (xs := []) rfl o2 (u := (.slice s1 c lc)) (m := c) rfl (q1.keep bw2) (items_one _) hc1 bz2 ?_; intro v6 w6 o6 g6; have b6 := bel_app bw2 g6 o2 bz2; have bz6 := b6.size; have x16 := cell_bel HX1.out b6; have x26 := cell_bel HX2.out b6; rw [Nat.zero_add, List.nil_append] at o6; have sb6 := sl_box ((g6.block ((wr.drewN nq).heap.size + 1) (by simp) (by simp [Value.ownBlock])).trans hbx2))
         | (refine step_appS (w := (((wr.drewN nq).drew.alloc (.cells #[.string dsu, .int .i64 dva] 44)).alloc (.cells #[] 44))) et41 rfl _ _ rfl w4.heap.size (v := (.slice (some ⟨(wr.drewN nq).heap.size + 1, 0, none⟩) 0 0)) (n := 0) (xs := []) rfl o3 (u := (.slice s1 c lc)) (m := c) rfl (q1.keep bw3) (items_one _) hc1 bz3 ?_; intro v6 w6 o6 g6; have b6 := bel_app bw3 g6 o3 bz3; have bz6 := b6.size; have x16 := cell_bel HX1.out b6; have x26 := cell_bel HX2.out b6; rw [Nat.zero_add, List.nil_append] at o6; have sb6 := sl_box ((g6.block (wr.drewN nq).heap.size (by simp; omega) (by simp [Value.ownBlock])).trans hbx3))
         | (refine step_appS (w := (w6.alloc (.cells #[.string dsu, .int .i64 dva] 44))) et41 rfl _ _ rfl w4.heap.size (v := v6) (n := c) (xs := ((es.take c).flatMap itemC)) rfl (o6.alloc (.cells #[.string dsu, .int .i64 dva] 44)) (u := (.slice (some ⟨w6.heap.size, 0, none⟩) 1 1)) (m := 1) rfl (sl_box (heap_alloc_new w6 _)) one2 hc2 (b6.alloc bz6 (.cells #[.string dsu, .int .i64 dva] 44)).size ?_; intro v7 w7 o7 g7; have b7 := bel_app (b6.alloc bz6 (.cells #[.string dsu, .int .i64 dva] 44)) g7 (o6.alloc (.cells #[.string dsu, .int .i64 dva] 44)) (b6.alloc bz6 (.cells #[.string dsu, .int .i64 dva] 44)).size; have bz7 := b7.size; have x17 := cell_bel HX1.out b7; have x27 := cell_bel HX2.out b7)
         | (refine step_appS (w := w6) et41 rfl _ _ rfl w4.heap.size (v := v6) (n := c) (xs := ((es.take c).flatMap itemC)) rfl o6 (u := (.slice (some ⟨(wr.drewN nq).heap.size + 1, 0, none⟩) 1 1)) (m := 1) rfl sb6 one2 hc2 bz6 ?_; intro v7 w7 o7 g7; have b7 := bel_app b6 g7 o6 bz6; have bz7 := b7.size; have x17 := cell_bel HX1.out b7; have x27 := cell_bel HX2.out b7)
         | (refine step_appS (w := w6) et41 rfl _ _ rfl w4.heap.size (v := v6) (n := c) (xs := ((es.take c).flatMap itemC)) rfl o6 (u := (.slice (some ⟨(wr.drewN nq).heap.size, 0, none⟩) 1 1)) (m := 1) rfl sb6 one2 hc2 bz6 ?_; intro v7 w7 o7 g7; have b7 := bel_app b6 g7 o6 bz6; have bz7 := b7.size; have x17 := cell_bel HX1.out b7; have x27 := cell_bel HX2.out b7)
         | (refine step_appS (w := w7) et41 rfl _ _ rfl w4.heap.size (v := v7) (n := (c + 1)) (xs := (((es.take c).flatMap itemC) ++ [.string dsu, .int .i64 dva])) rfl o7 (u := (.slice s2 (es.length - c) (lc - c))) (m := (es.length - c)) rfl (q2.keep b7) (items_one _) hc3 bz7 ?_; intro v8 w8 o8 g8; have b8 := bel_app b7 g8 o7 bz7; have bz8 := b8.size; have x18 := cell_bel HX1.out b8; have x28 := cell_bel HX2.out b8))
        all_goals
         have x0 := cell_bel HX0.out b8
         have y0 := cell_bel HY0.out b8
         have y1 := cell_bel HY1.out b8
         have hbc8 := below_up hb4 hz4 b8
         have hoc := hoc.keep b8
         have hwc := (bel2 hb hbc8).size
         have hE : (es.take c ++ (dsu, dva) :: es.drop c).length = es.length + 1 := by rw [List.length_append, List.length_cons, List.length_take, List.length_drop]; omega
         have hown8 : Own w8 wo.heap.size 2 v8 (es.take c ++ (dsu, dva) :: es.drop c).length ((es.take c ++ (dsu, dva) :: es.drop c).flatMap itemC) := by
          have h1 := (o8.mono hz4).cast (show c + 1 + (es.length - c) = (es.take c ++ (dsu, dva) :: es.drop c).length by rw [hE]; omega)
          rw [List.append_assoc] at h1
          rw [List.flatMap_append, List.flatMap_cons]
          exact h1
         have HE := Lib.hid hE
         have HOWN := Lib.hid hown8
         clear hE hown8 o8
         go_wp2_with (at_builtin; refine wpList_app1B (W := w8) et75 rfl _ _ rfl w.heap.size (v := .slice oa k oc) (n := k) (xs := xs) rfl hoc [.bool false, .int .i64 0] rfl rfl (by simp [Value.oneCell']) hk6 hwc ?_; intro v5 w5 h5 hg5 hr5)
         go_roundw
         case rel =>
          obtain ⟨r1, r2, r3⟩ := tree_rel HOWN.out HO.out h5 hg5 hr5 hb hbc8
          exact ⟨k + 1, (es.take c ++ (dsu, dva) :: es.drop c), _, hlt, by go_num, r1, h5, r2, Lib.hid (HI.out.put Hd.out rfl HNO.out HE.out (fun e he => by rw [← List.take_append_drop c es] at he; rcases List.mem_append.1 he with h | h; exact List.mem_append_left _ h; exact List.mem_append_right _ (List.mem_cons_of_mem _ h)) ⟨(dsu, dva), by simp, rfl⟩), r3⟩
         case measure => simp [intOf] <;> omega
       ·go_wp2_with fail
        go_quiet (fail)
        go_wp2
        go_roundw
        case rel => exact ⟨c + 1, hcl, by go_num, below_drewN hbi nq⟩
        case measure => simp [intOf] <;> omega
      ·go_wp2_with fail
       go_quiet (fail)
       have hbx := below_drewN hbi nq
       have hbX : Below w4.heap.size w4 (wr.drewN nq).drew := hbx.drew
       have hzX := hbX.size
       obtain ⟨s1, hr1, hs1⟩ := HTO.out c hc
       obtain ⟨s2, hr2, hs2⟩ := HFR.out c hc
       have q1 := hs1 w4 es (HL.out.sl.keep hb4)
       have q2 := hs2 w4 es rfl (HL.out.sl.keep hb4)
       have hzD : (wr.drewN nq).drew.heap.size = (wr.drewN nq).heap.size := rfl
       have o1 := own_empty (wr.drewN nq).drew w4.heap.size 2 44 hzX
       rw [hzD] at o1
       have bw1 := hbX.alloc hzX (.cells #[] 44)
       have bz1 := bw1.size
       have hzD1 : ((wr.drewN nq).drew.alloc (.cells #[] 44)).heap.size = (wr.drewN nq).heap.size + 1 := by simp
       have o2 := o1.alloc (.cells #[.string dsu, .int .i64 dva] 44)
       have bw2 := bw1.alloc bz1 (.cells #[.string dsu, .int .i64 dva] 44)
       have bz2 := bw2.size
       have hbx2 := heap_alloc_new ((wr.drewN nq).drew.alloc (.cells #[] 44)) (.cells #[.string dsu, .int .i64 dva] 44)
       rw [hzD1] at hbx2
       have bw3a := hbX.alloc hzX (.cells #[.string dsu, .int .i64 dva] 44)
       have hzD3 : ((wr.drewN nq).drew.alloc (.cells #[.string dsu, .int .i64 dva] 44)).heap.size = (wr.drewN nq).heap.size + 1 := by simp
       have o3 := own_empty ((wr.drewN nq).drew.alloc (.cells #[.string dsu, .int .i64 dva] 44)) w4.heap.size 2 44 bw3a.size
       rw [hzD3] at o3
       have bw3 := bw3a.alloc bw3a.size (.cells #[] 44)
       have bz3 := bw3.size
       have hbx3 : (((wr.drewN nq).drew.alloc (.cells #[.string dsu, .int .i64 dva] 44)).alloc (.cells #[] 44)).heap[(wr.drewN nq).heap.size]? = some (.cells #[.string dsu, .int .i64 dva] 44) := by
        have h1 := (Below.refl ((wr.drewN nq).heap.size + 1) ((wr.drewN nq).drew.alloc (.cells #[.string dsu, .int .i64 dva] 44))).alloc (by simp) (.cells #[] 44)
        rw [h1.block _ (Nat.lt_succ_self _)]
        exact heap_alloc_new (wr.drewN nq).drew _
       have x1d := cell_bel HX1.out hbX
       have x2d := cell_bel HX2.out hbX
       have hc1 : 0 + c ≤ 549755813888 := by omega
       have hc2 : c + 1 ≤ 549755813888 := by omega
       have hc3 : c + 1 + (es.length - c) ≤ 549755813888 := by omega
       have one2 : ∀ u ∈ [Value.string dsu, Value.int .i64 dva], u.oneCell' = true := by simp [Value.oneCell']
       clear hs1 hs2 hzD hzD1 hzD3
       go_wp2_with fail
       go_region_held3 (fun w1 => w1.cell? ⟨wo.heap.size, 1, none⟩ = some (.string dsu) ∧ w1.cell? ⟨wo.heap.size, 2, none⟩ = some (.int .i64 dva)) (first | exact ⟨x18, x28⟩ | exact ⟨x17, x27⟩ | exact ⟨x16, x26⟩ | exact ⟨cell_alloc _ x16, cell_alloc _ x26⟩ | exact ⟨x1d, x2d⟩ | exact ⟨cell_alloc _ x1d, cell_alloc _ x2d⟩ | exact ⟨cell_alloc _ (cell_alloc _ x1d), cell_alloc _ (cell_alloc _ x2d)⟩) (first
        | (refine step_appS (w := ((wr.drewN nq).drew.alloc (.cells #[] 44))) et41 rfl _ _ rfl w4.heap.size (v := (.slice (some ⟨(wr.drewN nq).heap.size, 0, none⟩) 0 0)) (n := 0) (xs := []) rfl o1 (u := (.slice s1 c lc)) (m := c) rfl (q1.keep bw1) (items_one _) hc1 bz1 ?_; intro v6 w6 o6 g6; have b6 := bel_app bw1 g6 o1 bz1; have bz6 := b6.size; have x16 := cell_bel HX1.out b6; have x26 := cell_bel HX2.out b6; rw [Nat.zero_add, List.nil_append] at o6)
        | (refine step_appS (w := (((wr.drewN nq).drew.alloc (.cells #[] 44)).alloc (.cells #[.string dsu, .int .i64 dva] 44))) et41 rfl _ _ rfl w4.heap.size (v := (.slice (some ⟨(wr.drewN nq).heap.size, 0, none⟩) 0 0)) (n := 0) (xs := []) rfl o2 (u := (.slice s1 c lc)) (m := c) rfl (q1.keep bw2) (items_one _) hc1 bz2 ?_; intro v6 w6 o6 g6; have b6 := bel_app bw2 g6 o2 bz2; have bz6 := b6.size; have x16 := cell_bel HX1.out b6; have x26 := cell_bel HX2.out b6; rw [Nat.zero_add, List.nil_append] at o6; have sb6 := sl_box ((g6.block ((wr.drewN nq).heap.size + 1) (by simp) (by simp [Value.ownBlock])).trans hbx2))
        | (refine step_appS (w := (((wr.drewN nq).drew.alloc (.cells #[.string dsu, .int .i64 dva] 44)).alloc (.cells #[] 44))) et41 rfl _ _ rfl w4.heap.size (v := (.slice (some ⟨(wr.drewN nq).heap.size + 1, 0, none⟩) 0 0)) (n := 0) (xs := []) rfl o3 (u := (.slice s1 c lc)) (m := c) rfl (q1.keep bw3) (items_one _) hc1 bz3 ?_; intro v6 w6 o6 g6; have b6 := bel_app bw3 g6 o3 bz3; have bz6 := b6.size; have x16 := cell_bel HX1.out b6; have x26 := cell_bel HX2.out b6; rw [Nat.zero_add, List.nil_append] at o6; have sb6 := sl_box ((g6.block (wr.drewN nq).heap.size (by simp; omega) (by simp [Value.ownBlock])).trans hbx3))
        | (refine step_appS (w := (w6.alloc (.cells #[.string dsu, .int .i64 dva] 44))) et41 rfl _ _ rfl w4.heap.size (v := v6) (n := c) (xs := ((es.take c).flatMap itemC)) rfl (o6.alloc (.cells #[.string dsu, .int .i64 dva] 44)) (u := (.slice (some ⟨w6.heap.size, 0, none⟩) 1 1)) (m := 1) rfl (sl_box (heap_alloc_new w6 _)) one2 hc2 (b6.alloc bz6 (.cells #[.string dsu, .int .i64 dva] 44)).size ?_; intro v7 w7 o7 g7; have b7 := bel_app (b6.alloc bz6 (.cells #[.string dsu, .int .i64 dva] 44)) g7 (o6.alloc (.cells #[.string dsu, .int .i64 dva] 44)) (b6.alloc bz6 (.cells #[.string dsu, .int .i64 dva] 44)).size; have bz7 := b7.size; have x17 := cell_bel HX1.out b7; have x27 := cell_bel HX2.out b7)
        | (refine step_appS (w := w6) et41 rfl _ _ rfl w4.heap.size (v := v6) (n := c) (xs := ((es.take c).flatMap itemC)) rfl o6 (u := (.slice (some ⟨(wr.drewN nq).heap.size + 1, 0, none⟩) 1 1)) (m := 1) rfl sb6 one2 hc2 bz6 ?_; intro v7 w7 o7 g7; have b7 := bel_app b6 g7 o6 bz6; have bz7 := b7.size; have x17 := cell_bel HX1.out b7; have x27 := cell_bel HX2.out b7)
        | (refine step_appS (w := w6) et41 rfl _ _ rfl w4.heap.size (v := v6) (n := c) (xs := ((es.take c).flatMap itemC)) rfl o6 (u := (.slice (some ⟨(wr.drewN nq).heap.size, 0, none⟩) 1 1)) (m := 1) rfl sb6 one2 hc2 bz6 ?_; intro v7 w7 o7 g7; have b7 := bel_app b6 g7 o6 bz6; have bz7 := b7.size; have x17 := cell_bel HX1.out b7; have x27 := cell_bel HX2.out b7)
        | (refine step_appS (w := w7) et41 rfl _ _ rfl w4.heap.size (v := v7) (n := (c + 1)) (xs := (((es.take c).flatMap itemC) ++ [.string dsu, .int .i64 dva])) rfl o7 (u := (.slice s2 (es.length - c) (lc - c))) (m := (es.length - c)) rfl (q2.keep b7) (items_one _) hc3 bz7 ?_; intro v8 w8 o8 g8; have b8 := bel_app b7 g8 o7 bz7; have bz8 := b8.size; have x18 := cell_bel HX1.out b8; have x28 := cell_bel HX2.out b8))
       all_goals
        have x0 := cell_bel HX0.out b8
        have y0 := cell_bel HY0.out b8
        have y1 := cell_bel HY1.out b8
        have hbc8 := below_up hb4 hz4 b8
        have hoc := hoc.keep b8
        have hwc := (bel2 hb hbc8).size
        have hE : (es.take c ++ (dsu, dva) :: es.drop c).length = es.length + 1 := by rw [List.length_append, List.length_cons, List.length_take, List.length_drop]; omega
        have hown8 : Own w8 wo.heap.size 2 v8 (es.take c ++ (dsu, dva) :: es.drop c).length ((es.take c ++ (dsu, dva) :: es.drop c).flatMap itemC) := by
         have h1 := (o8.mono hz4).cast (show c + 1 + (es.length - c) = (es.take c ++ (dsu, dva) :: es.drop c).length by rw [hE]; omega)
         rw [List.append_assoc] at h1
         rw [List.flatMap_append, List.flatMap_cons]
         exact h1
        have HE := Lib.hid hE
        have HOWN := Lib.hid hown8
        clear hE hown8 o8
        go_wp2_with (at_builtin; refine wpList_app1B (W := w8) et75 rfl _ _ rfl w.heap.size (v := .slice oa k oc) (n := k) (xs := xs) rfl hoc [.bool false, .int .i64 0] rfl rfl (by simp [Value.oneCell']) hk6 hwc ?_; intro v5 w5 h5 hg5 hr5)
        go_roundw
        case rel =>
         obtain ⟨r1, r2, r3⟩ := tree_rel HOWN.out HO.out h5 hg5 hr5 hb hbc8
         exact ⟨k + 1, (es.take c ++ (dsu, dva) :: es.drop c), _, hlt, by go_num, r1, h5, r2, Lib.hid (HI.out.put Hd.out rfl HNO.out HE.out (fun e he => by rw [← List.take_append_drop c es] at he; rcases List.mem_append.1 he with h | h; exact List.mem_append_left _ h; exact List.mem_append_right _ (List.mem_cons_of_mem _ h)) ⟨(dsu, dva), by simp, rfl⟩), r3⟩
        case measure => simp [intOf] <;> omega
    ·by_cases h1 : dop = 1
     ·subst h1
      clear h0
      have hz2 : ((wr.alloc (.cells #[.int .i64 1, .string dsu, .int .i64 dva] 39)).alloc (.cells #[.bool false, .int .i64 0] 150)).heap.size = wr.heap.size + 1 + 1 := by simp
      have ho1 := own_empty ((wr.alloc (.cells #[.int .i64 1, .string dsu, .int .i64 dva] 39)).alloc (.cells #[.bool false, .int .i64 0] 150)) (wr.heap.size + 1 + 1) 2 44 (by rw [hz2]; omega)
      rw [hz2] at ho1
      have hb3 := ((HB1.out.alloc (by simp) (.cells #[.bool false, .int .i64 0] 150)).alloc (by rw [hz2]; omega) (.cells #[] 44))
      have hz3 := hb3.size
      have hl3 := HL.out.sl.keep hb3
      have ho1m := ho1.mono (show wr.heap.size ≤ wr.heap.size + 1 + 1 by omega)
      have hA3 : (((wr.alloc (.cells #[.int .i64 1, .string dsu, .int .i64 dva] 39)).alloc (.cells #[.bool false, .int .i64 0] 150)).alloc (.cells #[] 44)).heap[wr.heap.size]? = some (.cells #[.int .i64 1, .string dsu, .int .i64 dva] 39) := by
       have h1 := ((Below.refl (wr.heap.size + 1) (wr.alloc (.cells #[.int .i64 1, .string dsu, .int .i64 dva] 39))).alloc (by simp) (.cells #[.bool false, .int .i64 0] 150)).alloc (by rw [hz2]; omega) (.cells #[] 44)
       rw [h1.block _ (Nat.lt_succ_self _)]
       exact heap_alloc_new wr _
      have hT3 : (((wr.alloc (.cells #[.int .i64 1, .string dsu, .int .i64 dva] 39)).alloc (.cells #[.bool false, .int .i64 0] 150)).alloc (.cells #[] 44)).heap[wr.heap.size + 1]? = some (.cells #[.bool false, .int .i64 0] 150) := by
       have h1 := (Below.refl (wr.heap.size + 1 + 1) ((wr.alloc (.cells #[.int .i64 1, .string dsu, .int .i64 dva] 39)).alloc (.cells #[.bool false, .int .i64 0] 150))).alloc (by rw [hz2]; omega) (.cells #[] 44)
       rw [h1.block _ (Nat.lt_succ_self _)]
       have := heap_alloc_new (wr.alloc (.cells #[.int .i64 1, .string dsu, .int .i64 dva] 39)) (.cells #[.bool false, .int .i64 0] 150)
       simpa using this
      have hs3 : (((wr.alloc (.cells #[.int .i64 1, .string dsu, .int .i64 dva] 39)).alloc (.cells #[.bool false, .int .i64 0] 150)).alloc (.cells #[] 44)).heap.size = wr.heap.size + 1 + 1 + 1 := by simp
      have hz3b : wr.heap.size + 1 + 1 ≤ wr.heap.size + 1 + 1 + 1 := by omega
      rw [← hs3] at hz3b
      have HA3 := Lib.hid hA3; clear hA3
      have HT3 := Lib.hid hT3; clear hT3
      clear hz2
      go_wp2_with (first | (at_builtin; refine wpList_appS (w := (((wr.alloc (.cells #[.int .i64 1, .string dsu, .int .i64 dva] 39)).alloc (.cells #[.bool false, .int .i64 0] 150)).alloc (.cells #[] 44))) et41 rfl _ _ rfl (wr.heap.size + 1 + 1) (v := .slice (some ⟨wr.heap.size + 1 + 1, 0, none⟩) 0 0) (n := 0) (xs := []) rfl ho1 (u := .slice la es.length lc) (m := es.length) rfl hl3 (items_one es) hn2 hz3b ?_; intro v4 w4 hown4 hgr4; rw [Nat.zero_add, List.nil_append] at hown4; have hb4 := bel_app hb3 hgr4 ho1m hz3; have hz4 := hb4.size; have hA4 := (hgr4.block wr.heap.size (by rw [hs3]; omega) (by simp [Value.ownBlock] <;> omega)).trans HA3.out; have hT4 := (hgr4.block (wr.heap.size + 1) (by rw [hs3]; omega) (by simp [Value.ownBlock] <;> omega)).trans HT3.out; have x0 := (cell_row (j := 0) hA4).trans (show _ = some (Value.int .i64 1) from rfl); have x1 := (cell_row (j := 1) hA4).trans (show _ = some (Value.string dsu) from rfl); have x2 := (cell_row (j := 2) hA4).trans (show _ = some (Value.int .i64 dva) from rfl); have y0 := (cell_row (j := 0) hT4).trans (show _ = some (Value.bool false) from rfl); have y1 := (cell_row (j := 1) hT4).trans (show _ = some (Value.int .i64 0) from rfl); have hoc := HO.out.keep hb4; have hwc := (bel2 hb hb4).size) | (at_builtin; refine wpList_app1B (W := w4) et75 rfl _ _ rfl w.heap.size (v := .slice oa k oc) (n := k) (xs := xs) rfl hoc [.bool false, .int .i64 0] rfl rfl (by simp [Value.oneCell']) hk6 hwc ?_; intro v5 w5 h5 hg5 hr5))
      go_roundw
      case rel =>
       obtain ⟨r1, r2, r3⟩ := tree_rel (hown4.mono (by omega)) HO.out h5 hg5 hr5 hb hb4
       exact ⟨k + 1, es, _, hlt, by go_num, r1, h5, r2, Lib.hid (HI.out.stay (Nat.le_refl _)), r3⟩
      case measure => simp [intOf] <;> omega
     ·have hz2 : ((wr.alloc (.cells #[.int .i64 dop, .string dsu, .int .i64 dva] 39)).alloc (.cells #[.bool false, .int .i64 0] 150)).heap.size = wr.heap.size + 1 + 1 := by simp
      have ho1 := own_empty ((wr.alloc (.cells #[.int .i64 dop, .string dsu, .int .i64 dva] 39)).alloc (.cells #[.bool false, .int .i64 0] 150)) (wr.heap.size + 1 + 1) 2 44 (by rw [hz2]; omega)
      rw [hz2] at ho1
      have hb3 := ((HB1.out.alloc (by simp) (.cells #[.bool false, .int .i64 0] 150)).alloc (by rw [hz2]; omega) (.cells #[] 44))
      have hz3 := hb3.size
      have hl3 := HL.out.sl.keep hb3
      have ho1m := ho1.mono (show wr.heap.size ≤ wr.heap.size + 1 + 1 by omega)
      have hA3 : (((wr.alloc (.cells #[.int .i64 dop, .string dsu, .int .i64 dva] 39)).alloc (.cells #[.bool false, .int .i64 0] 150)).alloc (.cells #[] 44)).heap[wr.heap.size]? = some (.cells #[.int .i64 dop, .string dsu, .int .i64 dva] 39) := by
       have h1 := ((Below.refl (wr.heap.size + 1) (wr.alloc (.cells #[.int .i64 dop, .string dsu, .int .i64 dva] 39))).alloc (by simp) (.cells #[.bool false, .int .i64 0] 150)).alloc (by rw [hz2]; omega) (.cells #[] 44)
       rw [h1.block _ (Nat.lt_succ_self _)]
       exact heap_alloc_new wr _
      have hT3 : (((wr.alloc (.cells #[.int .i64 dop, .string dsu, .int .i64 dva] 39)).alloc (.cells #[.bool false, .int .i64 0] 150)).alloc (.cells #[] 44)).heap[wr.heap.size + 1]? = some (.cells #[.bool false, .int .i64 0] 150) := by
       have h1 := (Below.refl (wr.heap.size + 1 + 1) ((wr.alloc (.cells #[.int .i64 dop, .string dsu, .int .i64 dva] 39)).alloc (.cells #[.bool false, .int .i64 0] 150))).alloc (by rw [hz2]; omega) (.cells #[] 44)
       rw [h1.block _ (Nat.lt_succ_self _)]
       have := heap_alloc_new (wr.alloc (.cells #[.int .i64 dop, .string dsu, .int .i64 dva] 39)) (.cells #[.bool false, .int .i64 0] 150)
       simpa using this
      have hs3 : (((wr.alloc (.cells #[.int .i64 dop, .string dsu, .int .i64 dva] 39)).alloc (.cells #[.bool false, .int .i64 0] 150)).alloc (.cells #[] 44)).heap.size = wr.heap.size + 1 + 1 + 1 := by simp
      have hz3b : wr.heap.size + 1 + 1 ≤ wr.heap.size + 1 + 1 + 1 := by omega
      rw [← hs3] at hz3b
      have HA3 := Lib.hid hA3; clear hA3
      have HT3 := Lib.hid hT3; clear hT3
      clear hz2
      go_wp2_with (first | (at_builtin; refine wpList_appS (w := (((wr.alloc (.cells #[.int .i64 dop, .string dsu, .int .i64 dva] 39)).alloc (.cells #[.bool false, .int .i64 0] 150)).alloc (.cells #[] 44))) et41 rfl _ _ rfl (wr.heap.size + 1 + 1) (v := .slice (some ⟨wr.heap.size + 1 + 1, 0, none⟩) 0 0) (n := 0) (xs := []) rfl ho1 (u := .slice la es.length lc) (m := es.length) rfl hl3 (items_one es) hn2 hz3b ?_; intro v4 w4 hown4 hgr4; rw [Nat.zero_add, List.nil_append] at hown4; have hb4 := bel_app hb3 hgr4 ho1m hz3; have hz4 := hb4.size; have hA4 := (hgr4.block wr.heap.size (by rw [hs3]; omega) (by simp [Value.ownBlock] <;> omega)).trans HA3.out; have hT4 := (hgr4.block (wr.heap.size + 1) (by rw [hs3]; omega) (by simp [Value.ownBlock] <;> omega)).trans HT3.out; have x0 := (cell_row (j := 0) hA4).trans (show _ = some (Value.int .i64 dop) from rfl); have x1 := (cell_row (j := 1) hA4).trans (show _ = some (Value.string dsu) from rfl); have x2 := (cell_row (j := 2) hA4).trans (show _ = some (Value.int .i64 dva) from rfl); have y0 := (cell_row (j := 0) hT4).trans (show _ = some (Value.bool false) from rfl); have y1 := (cell_row (j := 1) hT4).trans (show _ = some (Value.int .i64 0) from rfl); have hoc := HO.out.keep hb4; have hwc := (bel2 hb hb4).size) | (at_builtin; refine wpList_app1B (W := w4) et75 rfl _ _ rfl w.heap.size (v := .slice oa k oc) (n := k) (xs := xs) rfl hoc [.bool false, .int .i64 0] rfl rfl (by simp [Value.oneCell']) hk6 hwc ?_; intro v5 w5 h5 hg5 hr5))
      go_roundw
      case rel =>
       obtain ⟨r1, r2, r3⟩ := tree_rel (hown4.mono (by omega)) HO.out h5 hg5 hr5 hb hb4
       exact ⟨k + 1, es, _, hlt, by go_num, r1, h5, r2, Lib.hid (HI.out.stay (Nat.le_refl _)), r3⟩
      case measure => simp [intOf] <;> omega
   ·have hjl : j < es.length := (List.getElem?_eq_some_iff.1 hj).1
    have HJ := Lib.hid hj; clear hj
    by_cases h0 : dop = 0
    ·subst h0
     have hz1 : (wr.alloc (.cells #[.int .i64 0, .string dsu, .int .i64 dva] 39)).heap.size = wr.heap.size + 1 := by simp
     obtain ⟨lb, lo, e', rfl, He, e0, e1⟩ := ItemsAt.at' HL.out.sl (HB1.out.alloc (by rw [hz1]; omega) (.cells #[.bool false, .int .i64 0] 150)) hjl
     obtain rfl : e' = (dsu, x) := by have h := He.out; rw [HJ.out] at h; exact (Option.some.inj h).symm
     dsimp only at e0 e1
     clear e0 hz1
     have hz2 : ((wr.alloc (.cells #[.int .i64 0, .string dsu, .int .i64 dva] 39)).alloc (.cells #[.bool true, .int .i64 x] 150)).heap.size = wr.heap.size + 1 + 1 := by simp
     have ho1 := own_empty ((wr.alloc (.cells #[.int .i64 0, .string dsu, .int .i64 dva] 39)).alloc (.cells #[.bool true, .int .i64 x] 150)) (wr.heap.size + 1 + 1) 2 44 (by rw [hz2]; omega)
     rw [hz2] at ho1
     have hb3 := ((HB1.out.alloc (by simp) (.cells #[.bool true, .int .i64 x] 150)).alloc (by rw [hz2]; omega) (.cells #[] 44))
     have hz3 := hb3.size
     have hl3 := HL.out.sl.keep hb3
     have ho1m := ho1.mono (show wr.heap.size ≤ wr.heap.size + 1 + 1 by omega)
     have hA3 : (((wr.alloc (.cells #[.int .i64 0, .string dsu, .int .i64 dva] 39)).alloc (.cells #[.bool true, .int .i64 x] 150)).alloc (.cells #[] 44)).heap[wr.heap.size]? = some (.cells #[.int .i64 0, .string dsu, .int .i64 dva] 39) := by
      have h1 := ((Below.refl (wr.heap.size + 1) (wr.alloc (.cells #[.int .i64 0, .string dsu, .int .i64 dva] 39))).alloc (by simp) (.cells #[.bool true, .int .i64 x] 150)).alloc (by rw [hz2]; omega) (.cells #[] 44)
      rw [h1.block _ (Nat.lt_succ_self _)]
      exact heap_alloc_new wr _
     have hT3 : (((wr.alloc (.cells #[.int .i64 0, .string dsu, .int .i64 dva] 39)).alloc (.cells #[.bool true, .int .i64 x] 150)).alloc (.cells #[] 44)).heap[wr.heap.size + 1]? = some (.cells #[.bool true, .int .i64 x] 150) := by
      have h1 := (Below.refl (wr.heap.size + 1 + 1) ((wr.alloc (.cells #[.int .i64 0, .string dsu, .int .i64 dva] 39)).alloc (.cells #[.bool true, .int .i64 x] 150))).alloc (by rw [hz2]; omega) (.cells #[] 44)
      rw [h1.block _ (Nat.lt_succ_self _)]
      have := heap_alloc_new (wr.alloc (.cells #[.int .i64 0, .string dsu, .int .i64 dva] 39)) (.cells #[.bool true, .int .i64 x] 150)
      simpa using this
     have hs3 : (((wr.alloc (.cells #[.int .i64 0, .string dsu, .int .i64 dva] 39)).alloc (.cells #[.bool true, .int .i64 x] 150)).alloc (.cells #[] 44)).heap.size = wr.heap.size + 1 + 1 + 1 := by simp
     have hz3b : wr.heap.size + 1 + 1 ≤ wr.heap.size + 1 + 1 + 1 := by omega
     rw [← hs3] at hz3b
     have HA3 := Lib.hid hA3; clear hA3
     have HT3 := Lib.hid hT3; clear hT3
     clear hz2
     go_wp2_with (first | (at_builtin; refine wpList_appS (w := (((wr.alloc (.cells #[.int .i64 0, .string dsu, .int .i64 dva] 39)).alloc (.cells #[.bool true, .int .i64 x] 150)).alloc (.cells #[] 44))) et41 rfl _ _ rfl (wr.heap.size + 1 + 1) (v := .slice (some ⟨wr.heap.size + 1 + 1, 0, none⟩) 0 0) (n := 0) (xs := []) rfl ho1 (u := .slice (some ⟨lb, lo, none⟩) es.length lc) (m := es.length) rfl hl3 (items_one es) hn2 hz3b ?_; intro v4 w4 hown4 hgr4; rw [Nat.zero_add, List.nil_append] at hown4; have hb4 := bel_app hb3 hgr4 ho1m hz3; have hz4 := hb4.size; have hA4 := (hgr4.block wr.heap.size (by rw [hs3]; omega) (by simp [Value.ownBlock] <;> omega)).trans HA3.out; have hT4 := (hgr4.block (wr.heap.size + 1) (by rw [hs3]; omega) (by simp [Value.ownBlock] <;> omega)).trans HT3.out; have x0 := (cell_row (j := 0) hA4).trans (show _ = some (Value.int .i64 0) from rfl); have x1 := (cell_row (j := 1) hA4).trans (show _ = some (Value.string dsu) from rfl); have x2 := (cell_row (j := 2) hA4).trans (show _ = some (Value.int .i64 dva) from rfl); have y0 := (cell_row (j := 0) hT4).trans (show _ = some (Value.bool true) from rfl); have y1 := (cell_row (j := 1) hT4).trans (show _ = some (Value.int .i64 x) from rfl); have hoc := HO.out.keep hb4; have hwc := (bel2 hb hb4).size; obtain ⟨g4, cap4, rfl, hcap4, hbg4, hgl4, hcell4⟩ := own_row hown4 (by omega); have zc := hcell4 (j * 2 + 1) (.int .i64 x) (by rw [flat_at (f := itemC) (sz := 2) (fun _ => rfl) es j 1 (by omega) _ HJ.out]; rfl); have zc1 := zc.1; have zc2 := zc.2; have x0b := (World.cell?_setCell_far w4 ⟨g4, j * 2 + 1, none⟩ ⟨wr.heap.size, 0, none⟩ (.int .i64 dva) (by simp; omega)).trans x0; have y0b := (World.cell?_setCell_far w4 ⟨g4, j * 2 + 1, none⟩ ⟨wr.heap.size + 1, 0, none⟩ (.int .i64 dva) (by simp; omega)).trans y0; have y1b := (World.cell?_setCell_far w4 ⟨g4, j * 2 + 1, none⟩ ⟨wr.heap.size + 1, 1, none⟩ (.int .i64 dva) (by simp; omega)).trans y1; have hbc := Below.setCell hb4 (p := ⟨g4, j * 2 + 1, none⟩) (show wr.heap.size ≤ g4 by omega) (.int .i64 dva); have hoc := HO.out.keep hbc; have hwc := (bel2 hb hbc).size; have howc := (hown4.mono (show wr.heap.size ≤ wr.heap.size + 1 + 1 by omega)).setN (j * 2 + 1) (.int .i64 dva)) | (at_builtin; refine wpList_app1Z (zz := w4.heap.size) (W := (w4.setCell ⟨g4, j * 2 + 1, none⟩ (.int .i64 dva))) et75 rfl _ _ rfl w.heap.size (v := .slice oa k oc) (n := k) (xs := xs) rfl hoc [.bool true, .int .i64 x] (size_setCell _ _ _) rfl rfl (by simp [Value.oneCell']) hk6 hwc ?_; intro v5 w5 h5 hg5 hr5))
     have howd : Own (w4.setCell ⟨g4, j * 2 + 1, none⟩ (.int .i64 dva)) wr.heap.size 2 (.slice (some ⟨g4, 0, none⟩) es.length cap4) (es.set j (dsu, dva)).length ((es.set j (dsu, dva)).flatMap itemC) := by
      rw [List.length_set, ← items_set es j dsu x dva HJ.out]; exact howc
     go_roundw
     case rel =>
      obtain ⟨r1, r2, r3⟩ := tree_rel howd HO.out h5 hg5 hr5 hb hbc
      exact ⟨k + 1, (es.set j (dsu, dva)), _, hlt, by go_num, r1, h5, r2, Lib.hid (HI.out.stay (by rw [List.length_set]; exact Nat.le_refl _)), r3⟩
     case measure => simp [intOf] <;> omega
    ·by_cases h1 : dop = 1
     ·subst h1
      clear h0
      have hz1 : (wr.alloc (.cells #[.int .i64 1, .string dsu, .int .i64 dva] 39)).heap.size = wr.heap.size + 1 := by simp
      obtain ⟨lb, lo, e', rfl, He, e0, e1⟩ := ItemsAt.at' HL.out.sl (HB1.out.alloc (by rw [hz1]; omega) (.cells #[.bool false, .int .i64 0] 150)) hjl
      obtain rfl : e' = (dsu, x) := by have h := He.out; rw [HJ.out] at h; exact (Option.some.inj h).symm
      dsimp only at e0 e1
      clear e0 hz1
      have hz2 : ((wr.alloc (.cells #[.int .i64 1, .string dsu, .int .i64 dva] 39)).alloc (.cells #[.bool true, .int .i64 x] 150)).heap.size = wr.heap.size + 1 + 1 := by simp
      have ho1 := own_empty ((wr.alloc (.cells #[.int .i64 1, .string dsu, .int .i64 dva] 39)).alloc (.cells #[.bool true, .int .i64 x] 150)) (wr.heap.size + 1 + 1) 2 44 (by rw [hz2]; omega)
      rw [hz2] at ho1
      have hb3 := ((HB1.out.alloc (by simp) (.cells #[.bool true, .int .i64 x] 150)).alloc (by rw [hz2]; omega) (.cells #[] 44))
      have hz3 := hb3.size
      have hl3 := HL.out.sl.keep hb3
      have ho1m := ho1.mono (show wr.heap.size ≤ wr.heap.size + 1 + 1 by omega)
      have hA3 : (((wr.alloc (.cells #[.int .i64 1, .string dsu, .int .i64 dva] 39)).alloc (.cells #[.bool true, .int .i64 x] 150)).alloc (.cells #[] 44)).heap[wr.heap.size]? = some (.cells #[.int .i64 1, .string dsu, .int .i64 dva] 39) := by
       have h1 := ((Below.refl (wr.heap.size + 1) (wr.alloc (.cells #[.int .i64 1, .string dsu, .int .i64 dva] 39))).alloc (by simp) (.cells #[.bool true, .int .i64 x] 150)).alloc (by rw [hz2]; omega) (.cells #[] 44)
       rw [h1.block _ (Nat.lt_succ_self _)]
       exact heap_alloc_new wr _
      have hT3 : (((wr.alloc (.cells #[.int .i64 1, .string dsu, .int .i64 dva] 39)).alloc (.cells #[.bool true, .int .i64 x] 150)).alloc (.cells #[] 44)).heap[wr.heap.size + 1]? = some (.cells #[.bool true, .int .i64 x] 150) := by
       have h1 := (Below.refl (wr.heap.size + 1 + 1) ((wr.alloc (.cells #[.int .i64 1, .string dsu, .int .i64 dva] 39)).alloc (.cells #[.bool true, .int .i64 x] 150))).alloc (by rw [hz2]; omega) (.cells #[] 44)
       rw [h1.block _ (Nat.lt_succ_self _)]
       have := heap_alloc_new (wr.alloc (.cells #[.int .i64 1, .string dsu, .int .i64 dva] 39)) (.cells #[.bool true, .int .i64 x] 150)
       simpa using this
      have hs3 : (((wr.alloc (.cells #[.int .i64 1, .string dsu, .int .i64 dva] 39)).alloc (.cells #[.bool true, .int .i64 x] 150)).alloc (.cells #[] 44)).heap.size = wr.heap.size + 1 + 1 + 1 := by simp
      have hz3b : wr.heap.size + 1 + 1 ≤ wr.heap.size + 1 + 1 + 1 := by omega
      rw [← hs3] at hz3b
      have HA3 := Lib.hid hA3; clear hA3
      have HT3 := Lib.hid hT3; clear hT3
      clear hz2
      obtain ⟨s1, hr1, hs1⟩ := items_to (some ⟨lb, lo, none⟩) es.length lc j (Nat.le_of_lt hjl) hlc
      obtain ⟨s2, hr2, hs2⟩ := items_from (some ⟨lb, lo, none⟩) es.length lc (j + 1) hjl
      rw [show ((j + 1 : Nat) : Int) = (j : Int) + 1 by omega] at hr2
      have hwr : wrap64 ((j : Int) + 1) = (j : Int) + 1 := IntWalk.wrap64_in _ (by omega)
      have hwi : IntKind.i64.wrap ((j : Int) + 1) = (j : Int) + 1 := by rw [IntKind.wrap_i64]; omega
      have hi0 : (0 : Int) ≤ (j : Int) + 1 := by omega
      have hi1 : (j : Int) + 1 ≤ (es.length : Int) := by omega
      go_wp2_with (at_builtin; refine wpList_appS (w := (((wr.alloc (.cells #[.int .i64 1, .string dsu, .int .i64 dva] 39)).alloc (.cells #[.bool true, .int .i64 x] 150)).alloc (.cells #[] 44))) et41 rfl _ _ rfl (wr.heap.size + 1 + 1) (v := .slice (some ⟨wr.heap.size + 1 + 1, 0, none⟩) 0 0) (n := 0) (xs := []) rfl ho1 (u := .slice (some ⟨lb, lo, none⟩) es.length lc) (m := es.length) rfl hl3 (items_one es) hn2 hz3b ?_; intro v4 w4 hown4 hgr4; rw [Nat.zero_add, List.nil_append] at hown4; have hb4 := bel_app hb3 hgr4 ho1m hz3; have hz4 := hb4.size; have hA4 := (hgr4.block wr.heap.size (by rw [hs3]; omega) (by simp [Value.ownBlock] <;> omega)).trans HA3.out; have hT4 := (hgr4.block (wr.heap.size + 1) (by rw [hs3]; omega) (by simp [Value.ownBlock] <;> omega)).trans HT3.out; have x0 := (cell_row (j := 0) hA4).trans (show _ = some (Value.int .i64 1) from rfl); have x1 := (cell_row (j := 1) hA4).trans (show _ = some (Value.string dsu) from rfl); have x2 := (cell_row (j := 2) hA4).trans (show _ = some (Value.int .i64 dva) from rfl); have y0 := (cell_row (j := 0) hT4).trans (show _ = some (Value.bool true) from rfl); have y1 := (cell_row (j := 1) hT4).trans (show _ = some (Value.int .i64 x) from rfl); have hoc := HO.out.keep hb4; have hwc := (bel2 hb hb4).size)
      have q1 := hs1 w4 es (HL.out.sl.keep hb4)
      have q2 := hs2 w4 es rfl (HL.out.sl.keep hb4)
      have hbX := (Below.refl w4.heap.size w4).drew
      have o1 := own_empty w4.drew w4.heap.size 2 44 (Nat.le_refl _)
      rw [show w4.drew.heap.size = w4.heap.size from rfl] at o1
      have bw1 := hbX.alloc hbX.size (.cells #[] 44)
      have bz1 := bw1.size
      have hc1 : 0 + j ≤ 549755813888 := by omega
      have hc2 : j + (es.length - (j + 1)) ≤ 549755813888 := by omega
      clear hs1 hs2
      go_region_held3 (fun _ => True) (trivial) (first
       | (refine step_appS (w := (w4.drew.alloc (.cells #[] 44))) et41 rfl _ _ rfl w4.heap.size (v := (.slice (some ⟨w4.heap.size, 0, none⟩) 0 0)) (n := 0) (xs := []) rfl o1 (u := (.slice s1 j lc)) (m := j) rfl (q1.keep bw1) (items_one _) hc1 bz1 ?_; intro v6 w6 o6 g6; have b6 := bel_app bw1 g6 o1 bz1; have bz6 := b6.size; rw [Nat.zero_add, List.nil_append] at o6)
       | (refine step_appS (w := w6) et41 rfl _ _ rfl w4.heap.size (v := v6) (n := j) (xs := ((es.take j).flatMap itemC)) rfl o6 (u := (.slice s2 (es.length - (j + 1)) (lc - (j + 1)))) (m := (es.length - (j + 1))) rfl (q2.keep b6) (items_one _) hc2 bz6 ?_; intro v7 w7 o7 g7; have b7 := bel_app b6 g7 o6 bz6; have bz7 := b7.size))
      have y0 := cell_bel y0 b7
      have y1 := cell_bel y1 b7
      have hbc8 := below_up hb4 hz4 b7
      have hoc := hoc.keep b7
      have hwc := (bel2 hb hbc8).size
      have hown8 : Own w7 wr.heap.size 2 v7 (es.take j ++ es.drop (j + 1)).length ((es.take j ++ es.drop (j + 1)).flatMap itemC) := by
       have h1 := (o7.mono hz4).cast (show j + (es.length - (j + 1)) = (es.take j ++ es.drop (j + 1)).length by rw [List.length_append, List.length_take, List.length_drop]; omega)
       rw [List.flatMap_append]
       exact h1
      have HOWN := Lib.hid hown8
      clear hown8 o7
      go_wp2_with (at_builtin; refine wpList_app1B (W := w7) et75 rfl _ _ rfl w.heap.size (v := .slice oa k oc) (n := k) (xs := xs) rfl hoc [.bool true, .int .i64 x] rfl rfl (by simp [Value.oneCell']) hk6 hwc ?_; intro v5 w5 h5 hg5 hr5)
      go_roundw
      case rel =>
       obtain ⟨r1, r2, r3⟩ := tree_rel HOWN.out HO.out h5 hg5 hr5 hb hbc8
       exact ⟨k + 1, (es.take j ++ es.drop (j + 1)), _, hlt, by go_num, r1, h5, r2, Lib.hid (HI.out.stay (by rw [List.length_append, List.length_take, List.length_drop]; omega)), r3⟩
      case measure => simp [intOf] <;> omega
     ·have hz1 : (wr.alloc (.cells #[.int .i64 dop, .string dsu, .int .i64 dva] 39)).heap.size = wr.heap.size + 1 := by simp
      obtain ⟨lb, lo, e', rfl, He, e0, e1⟩ := ItemsAt.at' HL.out.sl (HB1.out.alloc (by rw [hz1]; omega) (.cells #[.bool false, .int .i64 0] 150)) hjl
      obtain rfl : e' = (dsu, x) := by have h := He.out; rw [HJ.out] at h; exact (Option.some.inj h).symm
      dsimp only at e0 e1
      clear e0 hz1
      have hz2 : ((wr.alloc (.cells #[.int .i64 dop, .string dsu, .int .i64 dva] 39)).alloc (.cells #[.bool true, .int .i64 x] 150)).heap.size = wr.heap.size + 1 + 1 := by simp
      have ho1 := own_empty ((wr.alloc (.cells #[.int .i64 dop, .string dsu, .int .i64 dva] 39)).alloc (.cells #[.bool true, .int .i64 x] 150)) (wr.heap.size + 1 + 1) 2 44 (by rw [hz2]; omega)
      rw [hz2] at ho1
      have hb3 := ((HB1.out.alloc (by simp) (.cells #[.bool true, .int .i64 x] 150)).alloc (by rw [hz2]; omega) (.cells #[] 44))
      have hz3 := hb3.size
      have hl3 := HL.out.sl.keep hb3
      have ho1m := ho1.mono (show wr.heap.size ≤ wr.heap.size + 1 + 1 by omega)
      have hA3 : (((wr.alloc (.cells #[.int .i64 dop, .string dsu, .int .i64 dva] 39)).alloc (.cells #[.bool true, .int .i64 x] 150)).alloc (.cells #[] 44)).heap[wr.heap.size]? = some (.cells #[.int .i64 dop, .string dsu, .int .i64 dva] 39) := by
       have h1 := ((Below.refl (wr.heap.size + 1) (wr.alloc (.cells #[.int .i64 dop, .string dsu, .int .i64 dva] 39))).alloc (by simp) (.cells #[.bool true, .int .i64 x] 150)).alloc (by rw [hz2]; omega) (.cells #[] 44)
       rw [h1.block _ (Nat.lt_succ_self _)]
       exact heap_alloc_new wr _
      have hT3 : (((wr.alloc (.cells #[.int .i64 dop, .string dsu, .int .i64 dva] 39)).alloc (.cells #[.bool true, .int .i64 x] 150)).alloc (.cells #[] 44)).heap[wr.heap.size + 1]? = some (.cells #[.bool true, .int .i64 x] 150) := by
       have h1 := (Below.refl (wr.heap.size + 1 + 1) ((wr.alloc (.cells #[.int .i64 dop, .string dsu, .int .i64 dva] 39)).alloc (.cells #[.bool true, .int .i64 x] 150))).alloc (by rw [hz2]; omega) (.cells #[] 44)
       rw [h1.block _ (Nat.lt_succ_self _)]
       have := heap_alloc_new (wr.alloc (.cells #[.int .i64 dop, .string dsu, .int .i64 dva] 39)) (.cells #[.bool true, .int .i64 x] 150)
       simpa using this
      have hs3 : (((wr.alloc (.cells #[.int .i64 dop, .string dsu, .int .i64 dva] 39)).alloc (.cells #[.bool true, .int .i64 x] 150)).alloc (.cells #[] 44)).heap.size = wr.heap.size + 1 + 1 + 1 := by simp
      have hz3b : wr.heap.size + 1 + 1 ≤ wr.heap.size + 1 + 1 + 1 := by omega
      rw [← hs3] at hz3b
      have HA3 := Lib.hid hA3; clear hA3
      have HT3 := Lib.hid hT3; clear hT3
      clear hz2
      go_wp2_with (first | (at_builtin; refine wpList_appS (w := (((wr.alloc (.cells #[.int .i64 dop, .string dsu, .int .i64 dva] 39)).alloc (.cells #[.bool true, .int .i64 x] 150)).alloc (.cells #[] 44))) et41 rfl _ _ rfl (wr.heap.size + 1 + 1) (v := .slice (some ⟨wr.heap.size + 1 + 1, 0, none⟩) 0 0) (n := 0) (xs := []) rfl ho1 (u := .slice (some ⟨lb, lo, none⟩) es.length lc) (m := es.length) rfl hl3 (items_one es) hn2 hz3b ?_; intro v4 w4 hown4 hgr4; rw [Nat.zero_add, List.nil_append] at hown4; have hb4 := bel_app hb3 hgr4 ho1m hz3; have hz4 := hb4.size; have hA4 := (hgr4.block wr.heap.size (by rw [hs3]; omega) (by simp [Value.ownBlock] <;> omega)).trans HA3.out; have hT4 := (hgr4.block (wr.heap.size + 1) (by rw [hs3]; omega) (by simp [Value.ownBlock] <;> omega)).trans HT3.out; have x0 := (cell_row (j := 0) hA4).trans (show _ = some (Value.int .i64 dop) from rfl); have x1 := (cell_row (j := 1) hA4).trans (show _ = some (Value.string dsu) from rfl); have x2 := (cell_row (j := 2) hA4).trans (show _ = some (Value.int .i64 dva) from rfl); have y0 := (cell_row (j := 0) hT4).trans (show _ = some (Value.bool true) from rfl); have y1 := (cell_row (j := 1) hT4).trans (show _ = some (Value.int .i64 x) from rfl); have hoc := HO.out.keep hb4; have hwc := (bel2 hb hb4).size) | (at_builtin; refine wpList_app1B (W := w4) et75 rfl _ _ rfl w.heap.size (v := .slice oa k oc) (n := k) (xs := xs) rfl hoc [.bool true, .int .i64 x] rfl rfl (by simp [Value.oneCell']) hk6 hwc ?_; intro v5 w5 h5 hg5 hr5))
      go_roundw
      case rel =>
       obtain ⟨r1, r2, r3⟩ := tree_rel (hown4.mono (by omega)) HO.out h5 hg5 hr5 hb hb4
       exact ⟨k + 1, es, _, hlt, by go_num, r1, h5, r2, Lib.hid (HI.out.stay (Nat.le_refl _)), r3⟩
      case measure => simp [intOf] <;> omega
  ·obtain rfl : k = ds.length := by omega
   have hd := HI.out.done
   have HD := Lib.hid hd
   clear hl ho hd hne
   go_wp2
   go_ret2
   exact ⟨_, _, _, _, rfl, HD.out.1, HD.out.2, hb⟩
end Go.Proofs.YtehlmjecbljafaaGreatDoor
