/- Lists of entries out of deeds. -/
import Derived.Test.YtehlmjecbljafaaGreatDoorR6
import Derived.Test.YtehlmjecbljafaaGreatDoorR42
namespace Go.Proofs.YtehlmjecbljafaaGreatDoor
open Go Go.RowKit
theorem tree_relG {sz : Nat} {w wr wc w5 : World} {nv o v5 : Value} {n' k : Nat} {ys xs zs : List Value} (hnv : Own wc wr.heap.size 2 nv n' ys) (ho : Own wr w.heap.size sz o k xs) (_h5 : Own w5 w.heap.size sz v5 (k + 1) zs) (hg : wc.grownBy w5 o.ownBlock) (hr : v5.ownBlock = o.ownBlock ∨ v5.ownBlock = some (wc.heap.size + 1))
  (hb : Below w.heap.size w wr) (hc : Below wr.heap.size wr wc) : Own w5 w.heap.size 2 nv n' ys ∧ (∀ q, nv.ownBlock = some q → v5.ownBlock ≠ some q) ∧ Below w.heap.size w w5 := by
 have hne : ∀ q, o.ownBlock = some q → nv.ownBlock ≠ some q := fun q h1 h2 => by
  have := (ho.lt q h1).2
  have := (hnv.lt q h2).1
  omega
 have hz := hb.size
 refine ⟨own_grown (hnv.mono hz) hg hne, fun q h1 h2 => ne_grown hr hne (fun q hq => Nat.lt_succ_of_lt (hnv.lt q hq).2) q h2 h1, bel_app (bel2 hb hc) hg (ho.keep hc) (bel2 hb hc).size⟩
/-- The same row of items stays. -/
theorem tree_stayG {sz : Nat} {w wr wc w5 : World} {l o v5 : Value} {n' k : Nat} {ys xs zs : List Value} (hl : Own wr w.heap.size 2 l n' ys) (hne : ∀ q, l.ownBlock = some q → o.ownBlock ≠ some q) (ho : Own wr w.heap.size sz o k xs) (_h5 : Own w5 w.heap.size sz v5 (k + 1) zs) (hg : wc.grownBy w5 o.ownBlock) (hr : v5.ownBlock = o.ownBlock ∨ v5.ownBlock = some (wc.heap.size + 1))
  (hb : Below w.heap.size w wr) (hc : Below wr.heap.size wr wc) : Own w5 w.heap.size 2 l n' ys ∧ (∀ q, l.ownBlock = some q → v5.ownBlock ≠ some q) ∧ Below w.heap.size w w5 := by
 have hlc := hl.keep hc
 refine ⟨own_grown hlc hg fun q h1 h2 => hne q h2 h1, fun q h1 h2 => ne_grown hr (fun q a b => hne q b a) (fun q hq => Nat.lt_succ_of_lt (hlc.lt q hq).2) q h2 h1, bel_app (bel2 hb hc) hg (ho.keep hc) (bel2 hb hc).size⟩
/-- What List answers: no more items than deeds. -/
def ListC (ds : List Deed) (w : World) (e : Ending) (w' : World) : Prop := ∃ l u es, e = .returned (.tuple #[l, u]) ∧ ItemsAt w' l es ∧ es.length ≤ ds.length ∧ Below w.heap.size w w'
set_option maxRecDepth 100000 in
set_option maxHeartbeats 12800000 in
theorem specList_any (v : Value) (ds : List Deed) (w : World) (hds : DeedsAt w v ds) (hn : ds.length ≤ 40) (hsz : ∀ d ∈ ds, d.subj.size ≤ 100000) : Calls Tryz.prog 104 #[v] w (ListC ds w) := by
 obtain ⟨va, vc, rfl⟩ := Sl.form hds
 have HP := Lib.hid hds; clear hds
 have HSZ := Lib.hid hsz; clear hsz
 go_enter Tryz.func104, Tryz.ntmps104
 go_wp2
 go_loopw [4, 5, 6] (fun l o i wr => ∃ (k : Nat) (es : List (ByteArray × Int)) (xs : List Value), k ≤ ds.length ∧ i = .int .i64 k ∧ es.length ≤ k ∧ Own wr w.heap.size 2 l es.length (es.flatMap itemC) ∧ Own wr w.heap.size 1 o k xs ∧ (∀ q, l.ownBlock = some q → o.ownBlock ≠ some q) ∧ Below w.heap.size w wr) (fun _ _ i _ => ds.length - (intOf i).toNat)
 case atStart => exact ⟨0, [], [], Nat.zero_le _, rfl, Nat.le_refl _, Own.nil _ _ _, Own.nil _ _ _, by simp [Value.ownBlock], Below.refl _ _⟩
 case round =>
  obtain ⟨k, es, xs, hk, rfl, hek, hl, ho, hne, hb⟩ := hrel
  obtain ⟨la, lc, rfl, hlc⟩ := hl.form
  obtain ⟨oa, oc, rfl, -⟩ := ho.form
  by_cases hlt : k < ds.length
  ·obtain ⟨b, o, ⟨dop, dsu, dva⟩, rfl, Hd, c0, c1, c2⟩ := HP.out.at' hb hlt
   dsimp only at c0 c1 c2
   have hds8 : dsu.size ≤ 100000 := HSZ.out _ (List.mem_of_getElem? Hd.out)
   have hwz := hb.size
   have hk6 : k < 549755813888 := by omega
   have hn2 : 0 + es.length ≤ 549755813888 := by omega
   have hb1 := (Below.refl wr.heap.size wr).alloc (Nat.le_refl _) (.cells #[.int .i64 dop, .string dsu, .int .i64 dva] 39)
   have hA1 := heap_alloc_new wr (.cells #[.int .i64 dop, .string dsu, .int .i64 dva] 39)
   have hfi := place_any _ es dsu dva _ (hl.sl.keep hb1) (by omega)
   have htk := toks_any dsu (wr.alloc (.cells #[.int .i64 dop, .string dsu, .int .i64 dva] 39)) (by omega)
   have HL := Lib.hid hl; clear hl
   have HO := Lib.hid ho; clear ho
   have HNE := Lib.hid hne; clear hne
   generalize hW1 : wr.alloc (.cells #[.int .i64 dop, .string dsu, .int .i64 dva] 39) = w1 at *
   have HB1 := Lib.hid hb1; clear hb1
   have HA1 := Lib.hid hA1; clear hA1
   have x00 := (cell_row (j := 0) HA1.out).trans (show _ = some (Value.int .i64 dop) from rfl)
   have x10 := (cell_row (j := 1) HA1.out).trans (show _ = some (Value.string dsu) from rfl)
   have x20 := (cell_row (j := 2) HA1.out).trans (show _ = some (Value.int .i64 dva) from rfl)
   by_cases h0 : dop = 0
   ·subst h0
    go_wp2_with fail
    refine hfi.mono ?_
    rintro e w2 ⟨i, rfl, hpr, rfl⟩
    clear hfi
    rcases hpr with rfl | ⟨j, rfl, hj⟩
    ·go_wp2_with fail
     refine htk.mono ?_
     rintro e w3 ⟨tv, rfl, hto, hb3⟩
     clear htk
     obtain ⟨ta, tc, rfl, -⟩ := hto.form
     have hfo := formed_any _ (toks dsu) w3 hto.sl (by have := toks_len dsu; omega)
     have hb13 := bel2 HB1.out hb3
     have HB13 := Lib.hid hb13
     have HB3 := Lib.hid hb3
     clear hb13 hb3 hto
     go_wp2_with fail
     refine hfo.mono ?_
     rintro e w4 ⟨bb, rfl, -, hw4⟩
     clear hfo
     have hbc : Below wr.heap.size wr w4 := by subst hw4; exact HB13.out
     have hA4 : w4.heap[wr.heap.size]? = some (.cells #[.int .i64 0, .string dsu, .int .i64 dva] 39 (0, 0)) := by
      subst hw4
      exact (HB3.out.block _ (Array.getElem?_eq_some_iff.1 HA1.out).1).trans HA1.out
     clear hw4
     have x0 := (cell_row (j := 0) hA4).trans (show _ = some (Value.int .i64 0) from rfl)
     have x1 := (cell_row (j := 1) hA4).trans (show _ = some (Value.string dsu) from rfl)
     have x2 := (cell_row (j := 2) hA4).trans (show _ = some (Value.int .i64 dva) from rfl)
     have X0 := Lib.hid x0
     have X1 := Lib.hid x1
     have X2 := Lib.hid x2
     cases bb
     ·have hoc := HO.out.keep hbc
      have hwc := (bel2 hb hbc).size
      go_wp2_with (at_builtin; refine wpList_app1B (W := w4) et33 rfl _ _ rfl w.heap.size (v := .slice oa k oc) (n := k) (xs := xs) rfl hoc [.int .i64 1] rfl rfl (by simp [Value.oneCell']) hk6 hwc ?_; intro v5 w5 h5 hg5 hr5)
      go_roundw
      case rel =>
       obtain ⟨r1, r2, r3⟩ := tree_stayG HL.out HNE.out HO.out h5 hg5 hr5 hb hbc
       exact ⟨k + 1, es, _, hlt, by go_num, by omega, r1, h5, r2, r3⟩
      case measure => simp [intOf] <;> omega
     ·have q1 := HL.out.sl.keep hbc
      have hbX : Below w4.heap.size w4 w4.drew := (Below.refl _ w4).drew
      have hzX := hbX.size
      have hzD : w4.drew.heap.size = w4.heap.size := rfl
      have o1 := own_empty w4.drew w4.heap.size 2 44 hzX
      rw [hzD] at o1
      have bw1 := hbX.alloc hzX (.cells #[] 44)
      have bz1 := bw1.size
      have hzD1 : (w4.drew.alloc (.cells #[] 44)).heap.size = w4.heap.size + 1 := by simp
      have o2 := o1.alloc (.cells #[.string dsu, .int .i64 dva] 44)
      have bw2 := bw1.alloc bz1 (.cells #[.string dsu, .int .i64 dva] 44)
      have bz2 := bw2.size
      have hbx2 := heap_alloc_new (w4.drew.alloc (.cells #[] 44)) (.cells #[.string dsu, .int .i64 dva] 44)
      rw [hzD1] at hbx2
      have bw3a := hbX.alloc hzX (.cells #[.string dsu, .int .i64 dva] 44)
      have hzD3 : (w4.drew.alloc (.cells #[.string dsu, .int .i64 dva] 44)).heap.size = w4.heap.size + 1 := by simp
      have o3 := own_empty (w4.drew.alloc (.cells #[.string dsu, .int .i64 dva] 44)) w4.heap.size 2 44 bw3a.size
      rw [hzD3] at o3
      have bw3 := bw3a.alloc bw3a.size (.cells #[] 44)
      have bz3 := bw3.size
      have hbx3 : ((w4.drew.alloc (.cells #[.string dsu, .int .i64 dva] 44)).alloc (.cells #[] 44)).heap[w4.heap.size]? = some (.cells #[.string dsu, .int .i64 dva] 44 (0, 0)) := by
       have h1 := (Below.refl (w4.heap.size + 1) (w4.drew.alloc (.cells #[.string dsu, .int .i64 dva] 44))).alloc (by simp) (.cells #[] 44)
       rw [h1.block _ (Nat.lt_succ_self _)]
       exact heap_alloc_new w4.drew _
      have x1d := cell_bel X1.out hbX
      have x2d := cell_bel X2.out hbX
      have hc2 : es.length + 1 ≤ 549755813888 := by omega
      have one2 : ∀ u ∈ [Value.string dsu, Value.int .i64 dva], u.oneCell' = true := by simp [Value.oneCell']
      have HBC := Lib.hid hbc
      have hz4 := hbc.size
      clear hzD hzD1 hzD3 hbc
      go_wp2_with fail
      go_region_held3 (fun w1 => w1.cell? ⟨wr.heap.size, 1, none⟩ = some (.string dsu) ∧ w1.cell? ⟨wr.heap.size, 2, none⟩ = some (.int .i64 dva)) (first | exact ⟨x17, x27⟩ | exact ⟨x16, x26⟩ | exact ⟨cell_alloc _ x16, cell_alloc _ x26⟩ | exact ⟨x1d, x2d⟩ | exact ⟨cell_alloc _ x1d, cell_alloc _ x2d⟩ | exact ⟨cell_alloc _ (cell_alloc _ x1d), cell_alloc _ (cell_alloc _ x2d)⟩) (first
       | (refine step_appS (w := (w4.drew.alloc (.cells #[] 44))) et41 rfl _ _ rfl w4.heap.size (v := (.slice (some ⟨w4.heap.size, 0, none⟩) 0 0)) (n := 0) (xs := []) rfl o1 (u := (.slice la es.length lc)) (m := es.length) rfl (q1.keep bw1) (items_one _) hn2 bz1 ?_; intro v6 w6 o6 g6; have b6 := bel_app bw1 g6 o1 bz1; have bz6 := b6.size; have x16 := cell_bel X1.out b6; have x26 := cell_bel X2.out b6; rw [Nat.zero_add, List.nil_append] at o6)
       | (refine step_appS (w := ((w4.drew.alloc (.cells #[] 44)).alloc (.cells #[.string dsu, .int .i64 dva] 44))) et41 rfl _ _ rfl w4.heap.size (v := (.slice (some ⟨w4.heap.size, 0, none⟩) 0 0)) (n := 0) (xs := []) rfl o2 (u := (.slice la es.length lc)) (m := es.length) rfl (q1.keep bw2) (items_one _) hn2 bz2 ?_; intro v6 w6 o6 g6; have b6 := bel_app bw2 g6 o2 bz2; have bz6 := b6.size; have x16 := cell_bel X1.out b6; have x26 := cell_bel X2.out b6; rw [Nat.zero_add, List.nil_append] at o6; have sb6 := sl_box ((g6.block (w4.heap.size + 1) (by simp) (by simp [Value.ownBlock])).trans hbx2))
       | (refine step_appS (w := ((w4.drew.alloc (.cells #[.string dsu, .int .i64 dva] 44)).alloc (.cells #[] 44))) et41 rfl _ _ rfl w4.heap.size (v := (.slice (some ⟨w4.heap.size + 1, 0, none⟩) 0 0)) (n := 0) (xs := []) rfl o3 (u := (.slice la es.length lc)) (m := es.length) rfl (q1.keep bw3) (items_one _) hn2 bz3 ?_; intro v6 w6 o6 g6; have b6 := bel_app bw3 g6 o3 bz3; have bz6 := b6.size; have x16 := cell_bel X1.out b6; have x26 := cell_bel X2.out b6; rw [Nat.zero_add, List.nil_append] at o6; have sb6 := sl_box ((g6.block w4.heap.size (by simp; omega) (by simp [Value.ownBlock])).trans hbx3))
       | (refine step_appS (w := (w6.alloc (.cells #[.string dsu, .int .i64 dva] 44))) et41 rfl _ _ rfl w4.heap.size (v := v6) (n := es.length) (xs := (es.flatMap itemC)) rfl (o6.alloc (.cells #[.string dsu, .int .i64 dva] 44)) (u := (.slice (some ⟨w6.heap.size, 0, none⟩) 1 1)) (m := 1) rfl (sl_box (heap_alloc_new w6 _)) one2 hc2 (b6.alloc bz6 (.cells #[.string dsu, .int .i64 dva] 44)).size ?_; intro v7 w7 o7 g7; have b7 := bel_app (b6.alloc bz6 (.cells #[.string dsu, .int .i64 dva] 44)) g7 (o6.alloc (.cells #[.string dsu, .int .i64 dva] 44)) (b6.alloc bz6 (.cells #[.string dsu, .int .i64 dva] 44)).size; have bz7 := b7.size; have x17 := cell_bel X1.out b7; have x27 := cell_bel X2.out b7)
       | (refine step_appS (w := w6) et41 rfl _ _ rfl w4.heap.size (v := v6) (n := es.length) (xs := (es.flatMap itemC)) rfl o6 (u := (.slice (some ⟨w4.heap.size + 1, 0, none⟩) 1 1)) (m := 1) rfl sb6 one2 hc2 bz6 ?_; intro v7 w7 o7 g7; have b7 := bel_app b6 g7 o6 bz6; have bz7 := b7.size; have x17 := cell_bel X1.out b7; have x27 := cell_bel X2.out b7)
       | (refine step_appS (w := w6) et41 rfl _ _ rfl w4.heap.size (v := v6) (n := es.length) (xs := (es.flatMap itemC)) rfl o6 (u := (.slice (some ⟨w4.heap.size, 0, none⟩) 1 1)) (m := 1) rfl sb6 one2 hc2 bz6 ?_; intro v7 w7 o7 g7; have b7 := bel_app b6 g7 o6 bz6; have bz7 := b7.size; have x17 := cell_bel X1.out b7; have x27 := cell_bel X2.out b7))
      all_goals
       have hbc8 := below_up HBC.out hz4 b7
       have x07 := cell_bel X0.out b7
       have hoc := HO.out.keep hbc8
       have hwc := (bel2 hb hbc8).size
       have hown8 : Own w7 wr.heap.size 2 v7 (es ++ [(dsu, dva)]).length ((es ++ [(dsu, dva)]).flatMap itemC) := by
        have h1 := (o7.mono hz4).cast (show es.length + 1 = (es ++ [(dsu, dva)]).length by rw [List.length_append]; rfl)
        rw [List.flatMap_append]
        exact h1
       have HOWN := Lib.hid hown8
       clear hown8 o7
       go_wp2_with (at_builtin; refine wpList_app1B (W := w7) et33 rfl _ _ rfl w.heap.size (v := .slice oa k oc) (n := k) (xs := xs) rfl hoc [.int .i64 0] rfl rfl (by simp [Value.oneCell']) hk6 hwc ?_; intro v5 w5 h5 hg5 hr5)
       go_roundw
       case rel =>
        obtain ⟨r1, r2, r3⟩ := tree_relG HOWN.out HO.out h5 hg5 hr5 hb hbc8
        exact ⟨k + 1, es ++ [(dsu, dva)], _, hlt, by go_num, by rw [List.length_append, List.length_singleton]; omega, r1, h5, r2, r3⟩
       case measure => simp [intOf] <;> omega
    ·go_wp2_with fail
     refine htk.mono ?_
     rintro e w3 ⟨tv, rfl, hto, hb3⟩
     clear htk
     obtain ⟨ta, tc, rfl, -⟩ := hto.form
     have hfo := formed_any _ (toks dsu) w3 hto.sl (by have := toks_len dsu; omega)
     have hb13 := bel2 HB1.out hb3
     have HB13 := Lib.hid hb13
     have HB3 := Lib.hid hb3
     clear hb13 hb3 hto
     go_wp2_with fail
     refine hfo.mono ?_
     rintro e w4 ⟨bb, rfl, -, hw4⟩
     clear hfo
     have hbc : Below wr.heap.size wr w4 := by subst hw4; exact HB13.out
     have hA4 : w4.heap[wr.heap.size]? = some (.cells #[.int .i64 0, .string dsu, .int .i64 dva] 39 (0, 0)) := by
      subst hw4
      exact (HB3.out.block _ (Array.getElem?_eq_some_iff.1 HA1.out).1).trans HA1.out
     clear hw4
     have x0 := (cell_row (j := 0) hA4).trans (show _ = some (Value.int .i64 0) from rfl)
     have x1 := (cell_row (j := 1) hA4).trans (show _ = some (Value.string dsu) from rfl)
     have x2 := (cell_row (j := 2) hA4).trans (show _ = some (Value.int .i64 dva) from rfl)
     have X0 := Lib.hid x0
     have X1 := Lib.hid x1
     have X2 := Lib.hid x2
     cases bb
     ·have hoc := HO.out.keep hbc
      have hwc := (bel2 hb hbc).size
      go_wp2_with (at_builtin; refine wpList_app1B (W := w4) et33 rfl _ _ rfl w.heap.size (v := .slice oa k oc) (n := k) (xs := xs) rfl hoc [.int .i64 1] rfl rfl (by simp [Value.oneCell']) hk6 hwc ?_; intro v5 w5 h5 hg5 hr5)
      go_roundw
      case rel =>
       obtain ⟨r1, r2, r3⟩ := tree_stayG HL.out HNE.out HO.out h5 hg5 hr5 hb hbc
       exact ⟨k + 1, es, _, hlt, by go_num, by omega, r1, h5, r2, r3⟩
      case measure => simp [intOf] <;> omega
     ·have hoc := HO.out.keep hbc
      have hwc := (bel2 hb hbc).size
      go_wp2_with (at_builtin; refine wpList_app1B (W := w4) et33 rfl _ _ rfl w.heap.size (v := .slice oa k oc) (n := k) (xs := xs) rfl hoc [.int .i64 0] rfl rfl (by simp [Value.oneCell']) hk6 hwc ?_; intro v5 w5 h5 hg5 hr5)
      go_roundw
      case rel =>
       obtain ⟨r1, r2, r3⟩ := tree_stayG HL.out HNE.out HO.out h5 hg5 hr5 hb hbc
       exact ⟨k + 1, es, _, hlt, by go_num, by omega, r1, h5, r2, r3⟩
      case measure => simp [intOf] <;> omega
   ·by_cases h1 : dop = 1
    ·subst h1
     clear h0
     clear htk
     go_wp2_with fail
     refine hfi.mono ?_
     rintro e w2 ⟨i, rfl, hpr, rfl⟩
     clear hfi
     rcases hpr with rfl | ⟨j, rfl, hj⟩
     ·have hbc : Below wr.heap.size wr w2 := HB1.out
      have hoc := HO.out.keep hbc
      have hwc := (bel2 hb hbc).size
      go_wp2_with (at_builtin; refine wpList_app1B (W := w2) et33 rfl _ _ rfl w.heap.size (v := .slice oa k oc) (n := k) (xs := xs) rfl hoc [.int .i64 1] rfl rfl (by simp [Value.oneCell']) hk6 hwc ?_; intro v5 w5 h5 hg5 hr5)
      go_roundw
      case rel =>
       obtain ⟨r1, r2, r3⟩ := tree_stayG HL.out HNE.out HO.out h5 hg5 hr5 hb hbc
       exact ⟨k + 1, es, _, hlt, by go_num, by omega, r1, h5, r2, r3⟩
      case measure => simp [intOf] <;> omega
     ·obtain ⟨w4, rfl⟩ : ∃ x : World, x = w2 := ⟨_, rfl⟩
      obtain ⟨s1, hr1, hs1⟩ := items_to la es.length lc j (Nat.le_of_lt hj) hlc
      obtain ⟨s2, hr2, hs2⟩ := items_from la es.length lc (j + 1) hj
      rw [show ((j + 1 : Nat) : Int) = (j : Int) + 1 by omega] at hr2
      have hwi : IntKind.i64.wrap ((j : Int) + 1) = (j : Int) + 1 := by rw [IntKind.wrap_i64]; omega
      have hi0 : (0 : Int) ≤ (j : Int) + 1 := by omega
      have hi1 : (j : Int) + 1 ≤ (es.length : Int) := by omega
      have q1 := hs1 w4 es (HL.out.sl.keep HB1.out)
      have q2 := hs2 w4 es rfl (HL.out.sl.keep HB1.out)
      have hbX := (Below.refl w4.heap.size w4).drew
      have o1 := own_empty w4.drew w4.heap.size 2 44 (Nat.le_refl _)
      rw [show w4.drew.heap.size = w4.heap.size from rfl] at o1
      have bw1 := hbX.alloc hbX.size (.cells #[] 44)
      have bz1 := bw1.size
      have hc1 : 0 + j ≤ 549755813888 := by omega
      have hc2 : j + (es.length - (j + 1)) ≤ 549755813888 := by omega
      have hz4 := HB1.out.size
      clear hs1 hs2
      go_wp2_with fail
      go_region_held3 (fun _ => True) (trivial) (first
       | (refine step_appS (w := (w4.drew.alloc (.cells #[] 44))) et41 rfl _ _ rfl w4.heap.size (v := (.slice (some ⟨w4.heap.size, 0, none⟩) 0 0)) (n := 0) (xs := []) rfl o1 (u := (.slice s1 j lc)) (m := j) rfl (q1.keep bw1) (items_one _) hc1 bz1 ?_; intro v6 w6 o6 g6; have b6 := bel_app bw1 g6 o1 bz1; have bz6 := b6.size; rw [Nat.zero_add, List.nil_append] at o6)
       | (refine step_appS (w := w6) et41 rfl _ _ rfl w4.heap.size (v := v6) (n := j) (xs := ((es.take j).flatMap itemC)) rfl o6 (u := (.slice s2 (es.length - (j + 1)) (lc - (j + 1)))) (m := (es.length - (j + 1))) rfl (q2.keep b6) (items_one _) hc2 bz6 ?_; intro v7 w7 o7 g7; have b7 := bel_app b6 g7 o6 bz6; have bz7 := b7.size))
      have hbc8 := below_up HB1.out hz4 b7
      have hoc := HO.out.keep hbc8
      have hwc := (bel2 hb hbc8).size
      have hown8 : Own w7 wr.heap.size 2 v7 (es.take j ++ es.drop (j + 1)).length ((es.take j ++ es.drop (j + 1)).flatMap itemC) := by
       have h1 := (o7.mono hz4).cast (show j + (es.length - (j + 1)) = (es.take j ++ es.drop (j + 1)).length by rw [List.length_append, List.length_take, List.length_drop]; omega)
       rw [List.flatMap_append]
       exact h1
      have HOWN := Lib.hid hown8
      clear hown8 o7
      go_wp2_with (at_builtin; refine wpList_app1B (W := w7) et33 rfl _ _ rfl w.heap.size (v := .slice oa k oc) (n := k) (xs := xs) rfl hoc [.int .i64 0] rfl rfl (by simp [Value.oneCell']) hk6 hwc ?_; intro v5 w5 h5 hg5 hr5)
      go_roundw
      case rel =>
       obtain ⟨r1, r2, r3⟩ := tree_relG HOWN.out HO.out h5 hg5 hr5 hb hbc8
       exact ⟨k + 1, es.take j ++ es.drop (j + 1), _, hlt, by go_num, by rw [List.length_append, List.length_take, List.length_drop]; omega, r1, h5, r2, r3⟩
      case measure => simp [intOf] <;> omega
    ·clear htk
     go_wp2_with fail
     refine hfi.mono ?_
     rintro e w2 ⟨i, rfl, hpr, rfl⟩
     clear hfi
     rcases hpr with rfl | ⟨j, rfl, hj⟩
     ·have hbc : Below wr.heap.size wr w2 := HB1.out
      have hoc := HO.out.keep hbc
      have hwc := (bel2 hb hbc).size
      go_wp2_with (at_builtin; refine wpList_app1B (W := w2) et33 rfl _ _ rfl w.heap.size (v := .slice oa k oc) (n := k) (xs := xs) rfl hoc [.int .i64 1] rfl rfl (by simp [Value.oneCell']) hk6 hwc ?_; intro v5 w5 h5 hg5 hr5)
      go_roundw
      case rel =>
       obtain ⟨r1, r2, r3⟩ := tree_stayG HL.out HNE.out HO.out h5 hg5 hr5 hb hbc
       exact ⟨k + 1, es, _, hlt, by go_num, by omega, r1, h5, r2, r3⟩
      case measure => simp [intOf] <;> omega
     ·have hbc : Below wr.heap.size wr w2 := HB1.out
      have hoc := HO.out.keep hbc
      have hwc := (bel2 hb hbc).size
      go_wp2_with (at_builtin; refine wpList_app1B (W := w2) et33 rfl _ _ rfl w.heap.size (v := .slice oa k oc) (n := k) (xs := xs) rfl hoc [.int .i64 1] rfl rfl (by simp [Value.oneCell']) hk6 hwc ?_; intro v5 w5 h5 hg5 hr5)
      go_roundw
      case rel =>
       obtain ⟨r1, r2, r3⟩ := tree_stayG HL.out HNE.out HO.out h5 hg5 hr5 hb hbc
       exact ⟨k + 1, es, _, hlt, by go_num, by omega, r1, h5, r2, r3⟩
      case measure => simp [intOf] <;> omega
  ·obtain rfl : k = ds.length := by omega
   have HL := Lib.hid hl
   clear hl ho hne
   go_wp2
   go_ret2
   exact ⟨_, _, es, rfl, HL.out.sl, hek, hb⟩
end Go.Proofs.YtehlmjecbljafaaGreatDoor
