/- The law FnRoadThree, walked. -/
import Derived.Test.YtehlmjecbljafaaGreatDoorR33
import Derived.Test.YtehlmjecbljafaaGreatDoorR34
import Derived.Test.YtehlmjecbljafaaGreatDoorR42
import Derived.Test.YtehlmjecbljafaaGreatDoorR44
import Derived.Test.YtehlmjecbljafaaGreatDoorR46
import Derived.Test.YtehlmjecbljafaaGreatDoorR47
import Derived.Test.YtehlmjecbljafaaGreatDoorR48
import Derived.Laws.StructEq
namespace Go.Proofs.YtehlmjecbljafaaGreatDoor
open Go Go.RowKit
def scr (d : Deed) : StepD := ⟨0, d.subj, d.val, ⟨#[]⟩⟩
def scrOf (l : List Deed) : List StepD := l.map scr
theorem scr_snoc {list : List Deed} {k : Nat} {d : Deed} (h : list[k]? = some d) : (scrOf (list.take (k + 1))).flatMap StepD.cells = (scrOf (list.take k)).flatMap StepD.cells ++ [.int .i64 0, .string d.subj, .string ⟨#[]⟩, .int .i64 d.val, .string ⟨#[]⟩, .slice none 0 0] := by
 rw [List.take_add_one, h]
 unfold scrOf
 rw [List.map_append, List.flatMap_append]
 rfl
theorem steps_of {w : World} {B : Nat} {u : Value} {list : List Deed} (h : Own w B 6 u list.length ((scrOf list).flatMap StepD.cells)) : StepsAt w u (scrOf list) := by
 unfold StepsAt
 rw [show (scrOf list).length = list.length from List.length_map ..]
 exact h.sl
def MetBy (list : List Deed) (p : List UInt8) : Prop := ∃ d ∈ list, matchT (splitDot p) (pathOf d) = true
theorem sl_boxG {w : World} {g : Nat} {a b c d e f : Value} {t : TypeId} (h : w.heap[g]? = some (.cells #[a, b, c, d, e, f] t (0, 0))) : Sl w 6 (.slice (some ⟨g, 0, none⟩) 1 1) 1 [a, b, c, d, e, f] :=
 ⟨rfl, _, _, rfl, Nat.le_refl _, by decide, fun _ => ⟨g, 0, rfl, fun j x hj => by
  rw [Nat.zero_add, cell_row h]
  simpa using hj⟩⟩
theorem outC_it (l : List Ent) : outC l = (l.map fun e => (mk e.1, e.2)).flatMap itemC := by
 unfold outC
 rw [List.flatMap_map]
 rfl
theorem ent_items {w : World} {B : Nat} {u : Value} {l : List Ent} (h : Own w B 2 u l.length (outC l)) : ItemsAt w u (l.map fun e => (mk e.1, e.2)) := by
 unfold ItemsAt
 rw [List.length_map, ← outC_it]
 exact h.sl
theorem ent_at {w wr : World} {a : Option Addr} {n cap : Nat} {l : List Ent} (h : ItemsAt w (.slice a n cap) (l.map fun e => (mk e.1, e.2))) (hb : Below w.heap.size w wr) {k : Nat} {e : Ent} (he : l[k]? = some e) :
  ∃ b o, a = some ⟨b, o, none⟩ ∧ wr.cell? ⟨b, o + k * 2, none⟩ = some (.string (mk e.1)) ∧ wr.cell? ⟨b, o + k * 2 + 1, none⟩ = some (.int .i64 e.2) := by
 obtain ⟨b, o, d, rfl, Hd, c0, c1⟩ := h.at' hb (by rw [List.length_map]; exact (List.getElem?_eq_some_iff.1 he).1)
 have h2 := Hd.out
 rw [List.getElem?_map, he] at h2
 obtain rfl := Option.some.inj h2
 exact ⟨b, o, rfl, c0, c1⟩
theorem ent_eq {x en : Ent} (h1 : ((mk x.1).toList == (mk en.1).toList) = true) (h2 : (x.2 == en.2) = true) : x = en := by
 have h1 := eq_of_beq h1
 rw [toList_bs, toList_bs, bs_mk, bs_mk] at h1
 exact Prod.ext h1 (eq_of_beq h2)
theorem ent_ne1 {x en : Ent} (h1 : ((mk x.1).toList == (mk en.1).toList) = false) : x ≠ en := fun e => by subst e; simp at h1
theorem ent_ne2 {x en : Ent} (h2 : (x.2 == en.2) = false) : x ≠ en := fun e => by subst e; simp at h2
theorem mem_take_succ {α : Type} {l : List α} {q : Nat} {x en : α} (h : l[q]? = some x) : en ∈ l.take (q + 1) ↔ en ∈ l.take q ∨ x = en := by
 rw [List.take_add_one, h]
 simp [eq_comm]
theorem some_take_succ {list : List Deed} {k : Nat} {d : Deed} {p : Deed → Prop} (h : list[k]? = some d) : (∃ x ∈ list.take (k + 1), p x) ↔ (∃ x ∈ list.take k, p x) ∨ p d := by
 rw [List.take_add_one, h]
 simp only [List.mem_append, Option.toList_some, List.mem_singleton]
 constructor
 ·rintro ⟨x, hx | rfl, hp⟩
  ·exact .inl ⟨x, hx, hp⟩
  ·exact .inr hp
 ·rintro (⟨x, hx, hp⟩ | hp)
  ·exact ⟨x, .inl hx, hp⟩
  ·exact ⟨d, .inr rfl, hp⟩
set_option maxRecDepth 100000 in
set_option maxHeartbeats 12800000 in
theorem three_any (cache : Bool) (v v2 : Value) (ds list : List Deed) (w : World) (hds : DeedsAt w v ds) (hn : ds.length ≤ 274877906944) (hds2 : DeedsAt w v2 list) (hn2 : list.length ≤ 274877906944) (hwf : ∀ d ∈ list, (Lit.int .i64 d.val).wf = true)
  (hTree : ∀ w1, DeedsAt w1 v ds → ds.length ≤ 40 → Calls Tryz.prog 61 #[v] w1 (TreeC ds w1)) :
  Calls Tryz.prog 5 #[.bool cache, v, v2] w fun e w' => e = .returned (.bool true) ∧ Below w.heap.size w w' := by
 have hfi := fits5_any v ds w hds hn
 obtain ⟨va, vc, rfl⟩ := Sl.form hds
 obtain ⟨vb, vd, rfl⟩ := Sl.form hds2
 have HP := Lib.hid hds; clear hds
 have HP2 := Lib.hid hds2; clear hds2
 have HTR := Lib.hid hTree; clear hTree
 have HWF := Lib.hid hwf; clear hwf
 go_enter Tryz.func5, Tryz.ntmps5
 go_wp2_with fail
 refine hfi.mono ?_
 rintro e w1 ⟨bb, rfl, hbb, hb1⟩
 clear hfi
 cases bb
 ·go_wp2
  go_ret
  exact ⟨rfl, hb1⟩
 ·have hl1 := hbb rfl
  clear hbb
  have hfi2 := fits5_any _ list w1 (Sl.keep HP2.out hb1) hn2
  go_wp2_with fail
  refine hfi2.mono ?_
  rintro e w2 ⟨bb, rfl, hbb, hb2⟩
  clear hfi2
  replace hb2 := bel2 hb1 hb2
  cases bb
  ·go_wp2
   go_ret
   exact ⟨rfl, hb2⟩
  ·have hl2 := hbb rfl
   clear hbb
   have hgr := grown_any _ ds w2 (Sl.keep HP.out hb2) hl1 HTR.out
   go_wp2_with fail
   refine hgr.mono ?_
   rintro e w3 ⟨ga, gn, gc, bl, rfl, hg, hb3⟩
   clear hgr
   replace hb3 := bel2 hb2 hb3
   cases bl
   ·go_wp2_with fail
    refine (awakeTree_any _).mono ?_
    rintro e x1 ⟨rfl, y1⟩
    have z1 := bel2 hb3 y1
    go_wp2_with fail
    refine (awakeList_any _).mono ?_
    rintro e x2 ⟨rfl, y2⟩
    have z2 := bel2 z1 y2
    go_wp2_with fail
    refine (awakeSublist_any _).mono ?_
    rintro e x3 ⟨rfl, y3⟩
    go_wp2
    go_ret
    exact ⟨rfl, bel2 z2 y3⟩
   ·have HG := Lib.hid (hg rfl); clear hg
    have hpu := puts_any _ list w3 (Sl.keep HP2.out hb3) hl2
    go_wp2_with fail
    refine hpu.mono ?_
    rintro e w4 ⟨pb, rfl, hpb, hb4⟩
    clear hpu
    replace hb4 := bel2 hb3 hb4
    cases pb
    ·go_wp2_with fail
     refine (awakeTree_any _).mono ?_
     rintro e x1 ⟨rfl, y1⟩
     have z1 := bel2 hb4 y1
     go_wp2_with fail
     refine (awakeList_any _).mono ?_
     rintro e x2 ⟨rfl, y2⟩
     have z2 := bel2 z1 y2
     go_wp2_with fail
     refine (awakeSublist_any _).mono ?_
     rintro e x3 ⟨rfl, y3⟩
     go_wp2
     go_ret
     exact ⟨rfl, bel2 z2 y3⟩
    ·have HPU := Lib.hid (hpb rfl); clear hpb
     by_cases h12 : list.length ≤ 12
     case neg =>
      have h12' : (list.length : Int) > 12 := by omega
      go_wp2_with fail
      refine (awakeTree_any _).mono ?_
      rintro e x1 ⟨rfl, y1⟩
      have z1 := bel2 hb4 y1
      go_wp2_with fail
      refine (awakeList_any _).mono ?_
      rintro e x2 ⟨rfl, y2⟩
      have z2 := bel2 z1 y2
      go_wp2_with fail
      refine (awakeSublist_any _).mono ?_
      rintro e x3 ⟨rfl, y3⟩
      go_wp2
      go_ret
      exact ⟨rfl, bel2 z2 y3⟩
     have h12' : ¬ ((list.length : Int) > 12) := by omega
     have H : Hid (ThreeP ds list) := Lib.hid ⟨HG.out.2.2.1, HG.out.2.2.2, HPU.out, h12, HWF.out⟩
     clear HG HPU HWF
     go_wp2
     go_loopw [9, 10] (fun s i wr => ∃ k : Nat, k ≤ list.length ∧ i = .int .i64 k ∧ Own wr w.heap.size 6 s k ((scrOf (list.take k)).flatMap StepD.cells) ∧ Below w.heap.size w wr) (fun _ i _ => list.length - (intOf i).toNat)
     case atStart => exact ⟨0, Nat.zero_le _, rfl, by simpa [scrOf] using Own.nil _ _ _, hb4⟩
     case round =>
      obtain ⟨k, hk, rfl, hs, hb⟩ := hrel
      by_cases hlt : k < list.length
      ·obtain ⟨b, o', d, rfl, Hd, c0w, c1w, c2w⟩ := HP2.out.at' (Below.refl _ w) hlt
       have hwz := hb.size
       obtain ⟨sa, sc, rfl, -⟩ := hs.form
       have hbd := hb.drew
       have hbx := hbd.alloc hbd.size (.cells #[.int .i64 0, .string d.subj, .string ⟨#[]⟩, .int .i64 d.val, .string ⟨#[]⟩, .slice none 0 0] 55)
       have x1 : wr.drew.cell? _ = _ := cell_bel c1w hbd
       have x2 : wr.drew.cell? _ = _ := cell_bel c2w hbd
       have y1 := cell_bel c1w hbx
       have y2 := cell_bel c2w hbx
       have hsx : Own (wr.drew.alloc (.cells #[.int .i64 0, .string d.subj, .string ⟨#[]⟩, .int .i64 d.val, .string ⟨#[]⟩, .slice none 0 0] 55)) w.heap.size 6 _ k _ := (hs.keep (Below.refl _ wr).drew).alloc (.cells #[.int .i64 0, .string d.subj, .string ⟨#[]⟩, .int .i64 d.val, .string ⟨#[]⟩, .slice none 0 0] 55)
       have hzx := hbx.size
       have HC := Lib.hid (And.intro c1w c2w)
       have hkk : k + 1 ≤ 549755813888 := by omega
       have one6 : ∀ u ∈ [Value.int .i64 0, .string d.subj, .string ⟨#[]⟩, .int .i64 d.val, .string ⟨#[]⟩, .slice none 0 0], u.oneCell' = true := by simp [Value.oneCell']
       clear c0w c1w c2w hs
       go_wp2_with fail
       go_region_held3 (fun w1 => w1.cell? ⟨b, o' + k * 3 + 1, none⟩ = some (.string d.subj) ∧ w1.cell? ⟨b, o' + k * 3 + 2, none⟩ = some (.int .i64 d.val)) (first | exact ⟨z1, z2⟩ | exact ⟨y1, y2⟩ | exact ⟨x1, x2⟩) (first
        | (refine step_appS (w := wr.drew.alloc (.cells #[.int .i64 0, .string d.subj, .string ⟨#[]⟩, .int .i64 d.val, .string ⟨#[]⟩, .slice none 0 0] 55)) et50 rfl _ _ rfl w.heap.size (v := .slice sa k sc) (n := k) (xs := (scrOf (list.take k)).flatMap StepD.cells) rfl hsx (u := .slice (some ⟨wr.heap.size, 0, none⟩) 1 1) (m := 1) rfl (sl_boxG (heap_alloc_new wr.drew _)) one6 hkk hzx ?_; intro v6 w6 o6 g6; have b6 := bel_app hbx g6 hsx hzx; have z1 := cell_bel HC.out.1 b6; have z2 := cell_bel HC.out.2 b6))
       go_wp2
       go_roundw
       case rel =>
        refine ⟨k + 1, hlt, by go_num, ?_, b6⟩
        rw [scr_snoc Hd.out]
        exact o6
       case measure => simp [intOf] <;> omega
      ·obtain rfl : k = list.length := by omega
       rw [List.take_length] at hs
       have hto := treeOrdered_any (.slice va ds.length vc) ds wr (Sl.keep HP.out hb) H.out.ok (fun d hd => H.out.op hd)
       have HS := Lib.hid hs
       clear hs
       obtain ⟨wo, rfl⟩ : ∃ x : World, x = wr := ⟨_, rfl⟩
       go_wp2_with fail
       refine hto.mono ?_
       rintro e wA ⟨ua, all, rfl, hua, hall, hbA⟩
       clear hto
       have hbw := bel2 hb hbA
       have hti := treeInterest_any (.slice va ds.length vc) (.slice vb list.length vd) ds list wA (Sl.keep HP.out hbw) H.out.ok (fun d hd => H.out.op hd) (fun d hd => H.out.good hd) (Sl.keep HP2.out hbw) H.out.list4 (by have := H.out.len2; omega)
       have HALL := Lib.hid hall
       have HSA := Lib.hid (HS.out.keep hbA)
       have HUA := Lib.hid hua
       obtain ⟨aa, ac, rfl, -⟩ := hua.form
       clear hua hall HS
       go_wp2_with fail
       refine hti.mono ?_
       rintro e wB ⟨ub, both, rfl, hub, hboth, hbB⟩
       clear hti
       have hbwB := bel2 hbw hbB
       have HBO := Lib.hid hboth
       obtain ⟨ba, bc, rfl, -⟩ := hub.form
       have hai : ItemsAt wB (.slice aa all.length ac) (all.map fun e => (mk e.1, e.2)) := Sl.keep (ent_items HUA.out) hbB
       have hsB := steps_of (HSA.out.keep hbB)
       have hal : all.length ≤ 9223372036854775807 := HUA.out.sl.len
       have hbl : both.length ≤ 9223372036854775807 := hub.sl.len
       have HAI := Lib.hid hai
       have HBI := Lib.hid (ent_items hub)
       have HSB := Lib.hid hsB
       have hlen := H.out.both_len hboth HALL.out
       clear hub hai hsB HUA HSA hboth
       go_wp2
       go_loopw [13] (fun i wr => ∃ k : Nat, k ≤ all.length ∧ i = .int .i64 k ∧ Below wB.heap.size wB wr) (fun i _ => all.length - (intOf i).toNat)
       case atStart => exact ⟨0, Nat.zero_le _, rfl, Below.refl _ _⟩
       case round =>
        obtain ⟨k, hk, rfl, hb2⟩ := hrel
        by_cases hlt : k < all.length
        ·obtain ⟨en, hen⟩ : ∃ x, all[k]? = some x := ⟨_, List.getElem?_eq_getElem hlt⟩
         have HEN := Lib.hid hen
         have hmem := List.mem_of_getElem? hen
         have HM := Lib.hid hmem
         clear hen hmem
         obtain ⟨wp, rfl⟩ : ∃ x : World, x = wr := ⟨_, rfl⟩
         go_wp2
         go_loopw [14, 16] (fun t j wr => ∃ (q : Nat) (bl : Bool), q ≤ both.length ∧ j = .int .i64 q ∧ t = .bool bl ∧ Hid (bl = true ↔ en ∈ both.take q) ∧ Below wB.heap.size wB wr) (fun _ j _ => both.length - (intOf j).toNat)
         case atStart => exact ⟨0, false, Nat.zero_le _, rfl, rfl, Lib.hid (by simp), hb2⟩
         case round =>
          obtain ⟨q, bl, hq, rfl, rfl, HBL, hb3⟩ := hrel
          by_cases hlq : q < both.length
          ·obtain ⟨x, hx⟩ : ∃ x, both[q]? = some x := ⟨_, List.getElem?_eq_getElem hlq⟩
           obtain ⟨b1, o1, rfl, x0, x1⟩ := ent_at HBI.out hb3 hx
           obtain ⟨b2, o2, rfl, y0, y1⟩ := ent_at HAI.out hb3 HEN.out
           have HX := Lib.hid hx
           clear hx
           cases bl with
           | true =>
            have HMm : Hid (en ∈ both.take q) := Lib.hid (HBL.out.1 rfl)
            clear HBL
            go_wp2_with fail
            go_quiet (fail)
            go_wp2
            go_roundw
            case rel => exact ⟨q + 1, true, hlq, by go_num, rfl, Lib.hid ⟨fun _ => (mem_take_succ HX.out).2 (.inl HMm.out), fun _ => rfl⟩, below_drewN hb3 nq⟩
            case measure => simp [intOf] <;> omega
           | false =>
            have HNn : Hid (¬ en ∈ both.take q) := Lib.hid fun h => by have := HBL.out.2 h; cases this
            clear HBL
            cases hcmp : ((mk x.1).toList == (mk en.1).toList) with
            | false =>
             have HN := Lib.hid (ent_ne1 hcmp)
             go_wp2_with fail
             go_quiet (fail)
             go_wp2
             go_roundw
             case rel => exact ⟨q + 1, false, hlq, by go_num, rfl, Lib.hid ⟨(fun h => by cases h), fun h => absurd ((mem_take_succ HX.out).1 h) (fun h => h.elim HNn.out HN.out)⟩, below_drewN hb3 nq⟩
             case measure => simp [intOf] <;> omega
            | true =>
             cases hc2 : (x.2 == en.2) with
             | false =>
              have HN := Lib.hid (ent_ne2 hc2)
              go_wp2_with fail
              go_quiet (fail)
              go_wp2
              go_roundw
              case rel => exact ⟨q + 1, false, hlq, by go_num, rfl, Lib.hid ⟨(fun h => by cases h), fun h => absurd ((mem_take_succ HX.out).1 h) (fun h => h.elim HNn.out HN.out)⟩, below_drewN hb3 nq⟩
              case measure => simp [intOf] <;> omega
             | true =>
              have HN := Lib.hid (ent_eq hcmp hc2)
              go_wp2_with fail
              go_quiet (fail)
              go_wp2
              go_roundw
              case rel => exact ⟨q + 1, true, hlq, by go_num, rfl, Lib.hid ⟨fun _ => (mem_take_succ HX.out).2 (.inr HN.out), fun _ => rfl⟩, below_drewN hb3 nq⟩
              case measure => simp [intOf] <;> omega
          ·obtain rfl : q = both.length := by omega
           have hwant : bl = true ↔ ∃ d ∈ list, matchT (splitDot en.1) (pathOf d) = true := by
            have h1 := HBL.out
            rw [List.take_length] at h1
            rw [h1, H.out.both HBO.out HALL.out HM.out]
           have HW := Lib.hid hwant
           clear hwant HBL
           obtain ⟨wq, rfl⟩ : ∃ x : World, x = wr := ⟨_, rfl⟩
           go_wp2
           go_loopw [15, 17] (fun t j wr => ∃ (k : Nat) (b2 : Bool), k ≤ list.length ∧ j = .int .i64 k ∧ t = .bool b2 ∧ Hid (b2 = true ↔ ∃ d ∈ list.take k, matchT (splitDot en.1) (pathOf d) = true) ∧ Below wB.heap.size wB wr) (fun _ j _ => list.length - (intOf j).toNat)
           case atStart => exact ⟨0, false, Nat.zero_le _, rfl, rfl, Lib.hid (by simp), hb3⟩
           case round =>
            obtain ⟨n, b2, hn3, rfl, rfl, HB2, hb4⟩ := hrel
            by_cases hln : n < list.length
            ·obtain ⟨b, o', d, rfl, Hd, c0, c1, c2⟩ := HP2.out.at' (bel2 hbwB hb4) hln
             have hdm := List.mem_of_getElem? Hd.out
             have htm := treeMatchF_any (.slice va ds.length vc) ds d.subj wr (Sl.keep HP.out (bel2 hbwB hb4)) H.out.ok (fun d hd => H.out.op hd) (fun d hd => H.out.fine hd) (fun b => artQ_all ds b H.out.ok) (H.out.wild hdm) (H.out.parts hdm) (H.out.gpos hdm) (H.out.fsz hdm)
             have HDM := Lib.hid hdm
             clear hdm c0 c2
             go_wp2_with fail
             refine htm.mono ?_
             rintro e wC ⟨uc, l, rfl, huc, hfound, hbC⟩
             clear htm c1
             have hb5 := bel2 hb4 hbC
             have HF := Lib.hid hfound
             have HCI := Lib.hid (ent_items huc)
             have hcl : l.length ≤ 9223372036854775807 := huc.sl.len
             obtain ⟨ca, cc, rfl, -⟩ := huc.form
             clear huc hfound
             go_wp2
             go_loopw [15, 19] (fun t j wr => ∃ (q : Nat) (b3 : Bool), q ≤ l.length ∧ j = .int .i64 q ∧ t = .bool b3 ∧ Hid (b3 = true ↔ b2 = true ∨ en ∈ l.take q) ∧ Below wC.heap.size wC wr) (fun _ j _ => l.length - (intOf j).toNat)
             case atStart => exact ⟨0, b2, Nat.zero_le _, rfl, rfl, Lib.hid (by simp), Below.refl _ _⟩
             case round =>
              obtain ⟨q, b3, hq, rfl, rfl, HB3, hb6⟩ := hrel
              have hb7 := bel2 hb5 hb6
              by_cases hlq : q < l.length
              ·obtain ⟨x, hx⟩ : ∃ x, l[q]? = some x := ⟨_, List.getElem?_eq_getElem hlq⟩
               obtain ⟨b1, o1, rfl, x0, x1⟩ := ent_at HCI.out hb6 hx
               obtain ⟨b2', o2, e2, y0, y1⟩ := ent_at HAI.out hb7 HEN.out
               cases e2
               have HX := Lib.hid hx
               clear hx
               cases b3 with
               | true =>
                have HMm : Hid (b2 = true ∨ en ∈ l.take q) := Lib.hid (HB3.out.1 rfl)
                clear HB3
                go_wp2_with fail
                go_quiet (fail)
                go_wp2
                go_roundw
                case rel => exact ⟨q + 1, true, hlq, by go_num, rfl, Lib.hid ⟨fun _ => HMm.out.imp id fun h => (mem_take_succ HX.out).2 (.inl h), fun _ => rfl⟩, below_drewN hb6 nq⟩
                case measure => simp [intOf] <;> omega
               | false =>
                have HNn : Hid (¬ (b2 = true ∨ en ∈ l.take q)) := Lib.hid fun h => by have := HB3.out.2 h; cases this
                clear HB3
                cases hcmp : ((mk x.1).toList == (mk en.1).toList) with
                | false =>
                 have HN := Lib.hid (ent_ne1 hcmp)
                 go_wp2_with fail
                 go_quiet (fail)
                 go_wp2
                 go_roundw
                 case rel => exact ⟨q + 1, false, hlq, by go_num, rfl, Lib.hid ⟨(fun h => by cases h), fun h => absurd (h.imp id fun h => ((mem_take_succ HX.out).1 h).resolve_right HN.out) HNn.out⟩, below_drewN hb6 nq⟩
                 case measure => simp [intOf] <;> omega
                | true =>
                 cases hc2 : (x.2 == en.2) with
                 | false =>
                  have HN := Lib.hid (ent_ne2 hc2)
                  go_wp2_with fail
                  go_quiet (fail)
                  go_wp2
                  go_roundw
                  case rel => exact ⟨q + 1, false, hlq, by go_num, rfl, Lib.hid ⟨(fun h => by cases h), fun h => absurd (h.imp id fun h => ((mem_take_succ HX.out).1 h).resolve_right HN.out) HNn.out⟩, below_drewN hb6 nq⟩
                  case measure => simp [intOf] <;> omega
                 | true =>
                  have HN := Lib.hid (ent_eq hcmp hc2)
                  go_wp2_with fail
                  go_quiet (fail)
                  go_wp2
                  go_roundw
                  case rel => exact ⟨q + 1, true, hlq, by go_num, rfl, Lib.hid ⟨fun _ => .inr ((mem_take_succ HX.out).2 (.inr HN.out)), fun _ => rfl⟩, below_drewN hb6 nq⟩
                  case measure => simp [intOf] <;> omega
              ·obtain rfl : q = l.length := by omega
               have hnext : b3 = true ↔ ∃ d ∈ list.take (n + 1), matchT (splitDot en.1) (pathOf d) = true := by
                have h1 := HB3.out
                rw [List.take_length] at h1
                rw [h1, some_take_succ Hd.out, HB2.out, H.out.found HALL.out HM.out HDM.out HF.out]
               have HNX := Lib.hid hnext
               clear hnext
               go_wp2
               go_roundw
               case rel => exact ⟨n + 1, b3, hln, by go_num, rfl, HNX, hb7⟩
               case measure => simp [intOf] <;> omega
            ·obtain rfl : n = list.length := by omega
             obtain rfl : b2 = bl := by
              have h1 := HB2.out
              rw [List.take_length] at h1
              rw [Bool.eq_iff_iff, h1, HW.out]
             obtain ⟨g1, g2, g3, g4⟩ := three_good H.out HALL.out HM.out
             have hbq := bel2 hbwB hb4
             obtain ⟨b9, o9, rfl, y0, y1⟩ := ent_at HAI.out hb4 HEN.out
             have hlh := listHas_any (.slice vb list.length vd) list (mk en.1) wr (Sl.keep HP2.out hbq) H.out.list4 (by have := H.out.len2; omega) g1 g2
             have HGG := Lib.hid (And.intro g1 g2)
             clear g1 g2 g3 g4 y1
             cases b2 with
             | true =>
              have HE : Hid (MetBy list en.1) := Lib.hid (HW.out.1 rfl)
              clear HW HB2
              go_wp2_with fail
              refine hlh.mono ?_
              rintro e wD ⟨bl1, rfl, ⟨T, tN, tV, hbl⟩, hbD⟩
              clear hlh
              obtain rfl : bl1 = true := by
               rw [toks_bs, bs_mk, H.out.has (TrieOf.mk tN tV) HALL.out HM.out] at hbl
               exact hbl.2 HE.out
              have hb8 := bel2 hb4 hbD
              have hsh := sublistHas_any cache [] list _ (scrOf list) (mk en.1) wD (Sl.keep HSB.out hb8) (List.length_map ..) (fun k d hd => by unfold scrOf; rw [List.getElem?_map, hd]; rfl) H.out.puts.nd (fun d hd => H.out.fsz hd) (fun d hd => H.out.fpat hd) (by have := H.out.len2; omega) HGG.out.1 HGG.out.2
              have y0 := cell_bel y0 hbD
              clear tN tV hbl
              go_wp2_with fail
              refine hsh.mono ?_
              rintro e wE ⟨bl2, rfl, ⟨T2, hT2, hbl⟩, hbE⟩
              clear hsh
              obtain rfl : bl2 = true := by
               rw [toks_bs, bs_mk, H.out.has hT2 HALL.out HM.out] at hbl
               exact hbl.2 HE.out
              clear hT2 hbl
              go_wp2
              go_roundw
              case rel => exact ⟨k + 1, hlt, by go_num, bel2 hb8 hbE⟩
              case measure => simp [intOf] <;> omega
             | false =>
              have HE : Hid (¬ MetBy list en.1) := Lib.hid fun h => by have := HW.out.2 h; cases this
              clear HW HB2
              go_wp2_with fail
              refine hlh.mono ?_
              rintro e wD ⟨bl1, rfl, ⟨T, tN, tV, hbl⟩, hbD⟩
              clear hlh
              obtain rfl : bl1 = false := by
               rw [toks_bs, bs_mk, H.out.has (TrieOf.mk tN tV) HALL.out HM.out] at hbl
               exact Bool.eq_false_iff.2 fun h => HE.out (hbl.1 h)
              have hb8 := bel2 hb4 hbD
              have hsh := sublistHas_any cache [] list _ (scrOf list) (mk en.1) wD (Sl.keep HSB.out hb8) (List.length_map ..) (fun k d hd => by unfold scrOf; rw [List.getElem?_map, hd]; rfl) H.out.puts.nd (fun d hd => H.out.fsz hd) (fun d hd => H.out.fpat hd) (by have := H.out.len2; omega) HGG.out.1 HGG.out.2
              have y0 := cell_bel y0 hbD
              clear tN tV hbl
              go_wp2_with fail
              refine hsh.mono ?_
              rintro e wE ⟨bl2, rfl, ⟨T2, hT2, hbl⟩, hbE⟩
              clear hsh
              obtain rfl : bl2 = false := by
               rw [toks_bs, bs_mk, H.out.has hT2 HALL.out HM.out] at hbl
               exact Bool.eq_false_iff.2 fun h => HE.out (hbl.1 h)
              clear hT2 hbl
              go_wp2
              go_roundw
              case rel => exact ⟨k + 1, hlt, by go_num, bel2 hb8 hbE⟩
              case measure => simp [intOf] <;> omega
        ·obtain rfl : k = all.length := by omega
         have hbq := bel2 hbwB hb2
         have hlen' : (both.length : Int) ≤ (all.length : Int) := by omega
         go_wp2_with fail
         refine (awakeTree_any _).mono ?_
         rintro e x1 ⟨rfl, y1⟩
         have z1 := bel2 hbq y1
         go_wp2_with fail
         refine (awakeList_any _).mono ?_
         rintro e x2 ⟨rfl, y2⟩
         have z2 := bel2 z1 y2
         go_wp2_with fail
         refine (awakeSublist_any _).mono ?_
         rintro e x3 ⟨rfl, y3⟩
         go_wp2
         go_ret
         exact ⟨rfl, bel2 z2 y3⟩
end Go.Proofs.YtehlmjecbljafaaGreatDoor
