/- Twice. Deeds that put, each another value. The plain law of the two lists: the same numbers. What a filter finds among plain subjects: the tree's answer as matchT. The list of interest: ListMatch. Plain words: what becomes of a subject is a good subject, and the pattern that is made back matches it. The plain law of Dual: tree, list turned round and list alone tell the same numbers. Plain words: interest is some pattern that matches. The server's list with a cache: whether a text is plain; a cache that holds nothing. The server's list with a cache that holds nothing. -/
import Derived.Test.YtehlmjecbljafaaGreatDoorR7
import Derived.Test.YtehlmjecbljafaaGreatDoorR8
import Derived.Test.YtehlmjecbljafaaGreatDoorR10
import Derived.Test.YtehlmjecbljafaaGreatDoorR15
import Derived.Test.YtehlmjecbljafaaGreatDoorR29
import Derived.Test.YtehlmjecbljafaaGreatDoorR31
import Derived.Test.YtehlmjecbljafaaGreatDoorR32
import Derived.Test.YtehlmjecbljafaaGreatDoorR33
import Derived.Test.YtehlmjecbljafaaGreatDoorR37
import Derived.Test.YtehlmjecbljafaaGreatDoorR42
import Derived.Test.YtehlmjecbljafaaGreatDoorR43
namespace Go.Proofs.YtehlmjecbljafaaGreatDoor
open Go Go.RowKit
theorem deeds_take : ∀ (ds : List Deed) (k : Nat), (ds.flatMap Deed.cells).take (k * 3) = (ds.take k).flatMap Deed.cells
 | [], k => by simp
 | d :: ds, 0 => by simp
 | d :: ds, k + 1 => by
  rw [List.take_succ_cons, List.flatMap_cons, List.flatMap_cons, ← deeds_take ds k, Nat.succ_mul]
  rfl
theorem elem40 : Tryz.prog.elem 40 = 39 := by kernel_rfl
theorem size39 (w : World) : (sizeOf 39).run Tryz.prog w = .ok 3 w := by kernel_rfl
theorem deeds_to (a : Option Addr) (n cap k : Nat) (hk : k ≤ n) (hc : n ≤ cap) : ∃ sa, (∀ w, (Instr.slice 40 (.slice a n cap) none (some (.int .i64 k)) none).run Tryz.prog w = .ok (.slice sa k cap) w) ∧
  ∀ w (ds : List Deed), ds.length = n → DeedsAt w (.slice a n cap) ds → DeedsAt w (.slice sa k cap) (ds.take k) := by
 refine ⟨if cap = 0 then a else a.map (·.add (0 * 3)), fun w => ?_, fun w ds hn h => ?_⟩
 ·rw [run_slice_h w 40 a n cap (by rw [elem40]; exact Tryz.underlying40) .i64 k (by omega) (by omega), elem40, size39]
  simp [Result.andThen, sliced]
 ·subst hn
  have := Sl.cutN (w := w) (sz := 3) (xs := ds.flatMap Deed.cells) h (j := 0) (k := k) (Nat.zero_le _) hk
  rw [deeds_take] at this
  unfold DeedsAt
  rw [List.length_take, Nat.min_eq_left hk]
  simpa using this
set_option maxRecDepth 100000 in
set_option maxHeartbeats 3200000 in
theorem twice_any (v : Value) (ds : List Deed) (w : World) (hds : DeedsAt w v ds) (hn : ds.length ≤ 40) (hsz : ∀ d ∈ ds, d.subj.size ≤ 100000) : Calls Tryz.prog 69 #[v] w fun e w' => ∃ bl, e = .returned (.bool bl) ∧ Below w.heap.size w w' := by
 obtain ⟨va, vc, rfl⟩ := Sl.form hds
 have hlc : ds.length ≤ vc := by obtain ⟨-, a', cap', e', h2, -⟩ := id hds; cases e'; exact h2
 have HP := Lib.hid hds; clear hds
 have HSZ := Lib.hid hsz; clear hsz
 go_enter Tryz.func69, Tryz.ntmps69
 go_wp2
 go_loopw [3] (fun i wr => ∃ k : Nat, k ≤ ds.length ∧ i = .int .i64 k ∧ Below w.heap.size w wr) (fun i _ => ds.length - (intOf i).toNat)
 case atStart => exact ⟨0, Nat.zero_le _, rfl, Below.refl _ _⟩
 case round =>
  obtain ⟨k, hk, rfl, hb⟩ := hrel
  by_cases hlt : k < ds.length
  ·obtain ⟨sa, hr1, hs1⟩ := deeds_to va ds.length vc k hk (by omega)
   have hd1 := hs1 wr ds rfl (Sl.keep HP.out hb)
   have hli := specList_any _ (ds.take k) wr hd1 (by rw [List.length_take]; omega) (fun d hd => HSZ.out d (List.mem_of_mem_take hd))
   clear hs1 hd1
   go_wp2_with fail
   refine hli.mono ?_
   rintro e w2 ⟨l, u, es, rfl, hi, hel, hb2⟩
   clear hli hr1
   rw [List.length_take] at hel
   have hb3 := bel2 hb hb2
   obtain ⟨b, o, ⟨dop, dsu, dva⟩, rfl, Hd, c0, c1, c2⟩ := HP.out.at' hb3 hlt
   dsimp only at c0 c1 c2
   have hbX : Below w.heap.size w w2.drew := hb3.drew
   have hpl := place_any l es dsu dva w2.drew (Sl.keep hi (Below.refl _ w2).drew) (by omega)
   obtain ⟨la, lc, rfl⟩ := Sl.form hi
   have HB3 := Lib.hid hb3
   have HBX := Lib.hid hbX
   have c0d : w2.drew.cell? ⟨b, o + k * 3, none⟩ = some (.int .i64 dop) := c0
   have c1d : w2.drew.cell? ⟨b, o + k * 3 + 1, none⟩ = some (.string dsu) := c1
   have c2d : w2.drew.cell? ⟨b, o + k * 3 + 2, none⟩ = some (.int .i64 dva) := c2
   clear hi hb2 hbX
   by_cases h0 : dop = 0
   ·subst h0
    go_wp2_with fail
    go_region_held3 (fun w1 => w1.cell? ⟨b, o + k * 3, none⟩ = some (.int .i64 0) ∧ w1.cell? ⟨b, o + k * 3 + 1, none⟩ = some (.string dsu) ∧ w1.cell? ⟨b, o + k * 3 + 2, none⟩ = some (.int .i64 dva)) (exact ⟨c0d, c1d, c2d⟩) (first
     | (go_at_call 105; refine hpl.mono ?_; rintro e w5 ⟨i5, rfl, hp5, rfl⟩))
    all_goals
     rcases hp5 with rfl | ⟨j, rfl, hj⟩
     ·go_wp2
      go_roundw
      case rel => exact ⟨k + 1, hlt, by go_num, HBX.out⟩
      case measure => simp [intOf] <;> omega
     ·go_wp2
      go_ret
      exact ⟨_, rfl, HBX.out⟩
   ·clear hpl
    go_wp2_with fail
    go_quiet (fail)
    go_wp2
    go_roundw
    case rel => exact ⟨k + 1, hlt, by go_num, below_drewN HB3.out nq⟩
    case measure => simp [intOf] <;> omega
  ·go_wp2
   go_ret
   exact ⟨_, rfl, hb⟩
end Go.Proofs.YtehlmjecbljafaaGreatDoor
namespace Go.Proofs.YtehlmjecbljafaaGreatDoor
open Go Go.RowKit
/-- What is known of deeds that put. -/
structure PutsP (ds : List Deed) : Prop where
 len : ds.length ≤ 40
 deed : ∀ d ∈ ds, d.op = 0 ∧ DeedP d ∧ FormedP (toks d.subj) (toks d.subj).length
 nd : (ds.map (·.val)).Nodup
set_option maxRecDepth 100000 in
set_option maxHeartbeats 3200000 in
theorem puts_any (v : Value) (ds : List Deed) (w : World) (hds : DeedsAt w v ds) (hn : ds.length ≤ 2147483647) : Calls Tryz.prog 30 #[v] w (RBb (PutsP ds) w) := by
 have hde := deeds_any v ds w hds hn
 obtain ⟨va, vc, rfl⟩ := Sl.form hds
 have HP := Lib.hid hds; clear hds
 go_enter Tryz.func30, Tryz.ntmps30
 go_wp2_with fail
 refine hde.mono ?_
 rintro e w1 ⟨bb, rfl, hbb, hb1⟩
 clear hde
 cases bb
 ·go_wp2
  go_ret
  exact RBb.no hb1
 ·have HD := Lib.hid (hbb rfl); clear hbb
  have h40 := HD.out.1
  have htw := twice_any _ ds w1 (Sl.keep HP.out hb1) h40 (fun d hd => by have := (HD.out.2 d hd).2.1; omega)
  go_wp2_with fail
  refine htw.mono ?_
  rintro e w2 ⟨bb, rfl, hb2⟩
  clear htw
  replace hb2 := bel2 hb1 hb2
  cases bb
  case true =>
   go_wp2
   go_ret
   exact RBb.no hb2
  case false =>
   go_wp2
   go_loopw [3] (fun i wr => ∃ k : Nat, k ≤ ds.length ∧ i = .int .i64 k ∧ Hid ((∀ d ∈ ds.take k, d.op = 0 ∧ FormedP (toks d.subj) (toks d.subj).length) ∧ ((ds.take k).map (·.val)).Nodup) ∧ Below w.heap.size w wr) (fun i _ => ds.length - (intOf i).toNat)
   case atStart => exact ⟨0, Nat.zero_le _, rfl, Lib.hid ⟨fun d h => by simp at h, by simp⟩, hb2⟩
   case round =>
    obtain ⟨k, hk, rfl, HI, hb⟩ := hrel
    by_cases hlt : k < ds.length
    ·obtain ⟨b, o, d, rfl, Hd, c0, c1, c2⟩ := HP.out.at' hb hlt
     have hsz : d.subj.size ≤ 137438953472 := by have := (HD.out.2 d (List.mem_of_getElem? Hd.out)).2.1; omega
     have hsv := svalid_any d.subj wr hsz
     by_cases h0 : d.op = 0
     case neg =>
      clear c1 c2 hsv
      go_wp2
      go_ret
      exact RBb.no hb
     case pos =>
      have H0 := Lib.hid h0
      rw [h0] at c0
      clear h0
      go_wp2_with fail
      refine hsv.mono ?_
      rintro e w3 ⟨bv, rfl, hbv, hb3⟩
      clear hsv
      have hb3' := bel2 hb hb3
      have c0 := cell_bel c0 hb3
      cases bv
      ·go_wp2
       go_ret
       exact RBb.no hb3'
      ·have HV := Lib.hid (hbv rfl); clear hbv
       clear c1 c2
       obtain ⟨wo, rfl⟩ : ∃ x : World, x = w3 := ⟨_, rfl⟩
       go_wp2
       go_loopw [4] (fun i wr => ∃ m : Nat, m ≤ k ∧ i = .int .i64 m ∧ Hid (∀ x ∈ ds.take m, x.val ≠ d.val) ∧ Below w.heap.size w wr) (fun i _ => k - (intOf i).toNat)
       case atStart => exact ⟨0, Nat.zero_le _, rfl, Lib.hid (fun d h => by simp at h), hb3'⟩
       case round =>
        obtain ⟨m, hm, rfl, HM, hbm⟩ := hrel
        by_cases hlm : m < k
        ·obtain ⟨b1, o1, d1, e1, Hd1, -, -, c21⟩ := HP.out.at' hbm (show m < ds.length by omega)
         cases e1
         obtain ⟨b2, o2, d2, e2, Hd2, -, -, c22⟩ := HP.out.at' hbm hlt
         cases e2
         obtain rfl : d2 = d := by have := Hd2.out; rw [Hd.out] at this; exact (Option.some.inj this).symm
         have hlm2 : m < ds.length := by omega
         cases hc : (d1.val == d2.val) with
         | true =>
          go_wp2_with fail
          go_quiet (fail)
          go_wp2
          go_ret
          exact RBb.no (below_drewN hbm nq)
         | false =>
          have HC := Lib.hid hc
          go_wp2_with fail
          go_quiet (fail)
          go_wp2
          go_roundw
          case rel =>
           refine ⟨m + 1, hlm, by go_num, Lib.hid fun x hx => ?_, below_drewN hbm nq⟩
           rw [List.take_add_one, Hd1.out] at hx
           rcases List.mem_append.1 hx with hx | hx
           ·exact HM.out x hx
           ·have : x = d1 := by simpa using hx
            subst this
            intro e
            have := HC.out
            rw [e] at this
            simp at this
          case measure => simp [intOf] <;> omega
        ·obtain rfl : m = k := by omega
         go_wp2
         go_roundw
         case rel =>
          refine ⟨m + 1, hlt, by go_num, Lib.hid ⟨fun x hx => ?_, ?_⟩, hbm⟩
          ·rw [List.take_add_one, Hd.out] at hx
           rcases List.mem_append.1 hx with hx | hx
           ·exact HI.out.1 x hx
           ·have : x = d := by simpa using hx
            subst this
            exact ⟨H0.out, HV.out⟩
          ·rw [List.take_add_one, Hd.out, List.map_append]
           refine List.nodup_append.2 ⟨HI.out.2, by simp, fun x hx y hy e => ?_⟩
           obtain ⟨d', hd', rfl⟩ := List.mem_map.1 hx
           have hy' : y = d.val := by simpa using hy
           exact HM.out d' hd' (e.trans hy')
         case measure => simp [intOf] <;> omega
    ·obtain rfl : k = ds.length := by omega
     go_wp2
     go_ret
     refine RBb.of (fun _ => ⟨h40, fun d hd => ?_, ?_⟩) hb
     ·have h1 := HI.out.1 d (by rw [List.take_length]; exact hd)
      exact ⟨h1.1, HD.out.2 d hd, h1.2⟩
     ·have h1 := HI.out.2
      rw [List.take_length] at h1
      exact h1
end Go.Proofs.YtehlmjecbljafaaGreatDoor
namespace Go.Proofs.YtehlmjecbljafaaGreatDoor
open Go Go.RowKit
end Go.Proofs.YtehlmjecbljafaaGreatDoor
namespace Go.Proofs.YtehlmjecbljafaaGreatDoor
open Go Go.RowKit
theorem okM_match {s f : ByteArray} (hf : PatP (pathS f)) (hs : ∀ t ∈ pathS s, t ≠ []) : okM (gB [] (bs f)) (bs s) ↔ matchT (pathS s) (pathS f) = true := by
 have e1 : bs f = joinD (pathS f) := by unfold pathS; rw [toks_bs, joinD_splitDot]
 have e2 : bs s = joinD (pathS s) := by unfold pathS; rw [toks_bs, joinD_splitDot]
 have h := okM_iff (pathS f) [] (pathS s) hf (fun t h => by cases h) (.inl rfl) (fun t ht => ⟨hs t ht, by
  unfold pathS at ht
  rw [toks_bs] at ht
  exact splitDot_nodot ht⟩) (by
  unfold pathS
  intro e
  have := congrArg List.length e
  have h2 := toks_pos s
  rw [List.length_map, List.length_nil] at this
  omega)
 rw [← e1] at h
 have e3 : dots [] ++ joinD (pathS s) = bs s := by rw [e2]; rfl
 rw [e3] at h
 exact h
end Go.Proofs.YtehlmjecbljafaaGreatDoor
namespace Go.Proofs.YtehlmjecbljafaaGreatDoor
open Go Go.RowKit
end Go.Proofs.YtehlmjecbljafaaGreatDoor
namespace Go.Proofs.YtehlmjecbljafaaGreatDoor
open Go Go.RowKit
theorem formed_last {s : ByteArray} (h : FormedP (toks s) (toks s).length) (k : Nat) (hk : ((toks s).map bs)[k]? = some [62]) : k + 1 = ((toks s).map bs).length := by
 rw [List.getElem?_map] at hk
 cases ht : (toks s)[k]? with
 | none => rw [ht] at hk; cases hk
 | some t =>
  rw [ht] at hk
  have hk' : k < (toks s).length := (List.getElem?_eq_some_iff.1 ht).1
  have := (h k t hk' ht).2 (Option.some.inj hk)
  rw [List.length_map]; exact this
theorem toks_nodot {s t : ByteArray} (h : t ∈ toks s) : 46 ∉ bs t := by
 obtain ⟨u, hu, rfl⟩ := List.mem_map.1 h
 rw [bs_mk]; exact splitDot_nodot hu
theorem valid_pat {s : ByteArray} (h : ValidS s) : PatP ((toks s).map bs) := by
 refine ⟨fun t ht => ?_, fun t ht => ?_, formed_last h.formed, fun t ht => ?_, ?_⟩
 ·obtain ⟨u, hu, rfl⟩ := List.mem_map.1 ht
  obtain ⟨j, hj, e⟩ := List.mem_iff_getElem.1 hu
  exact (h.formed j u hj (by rw [List.getElem?_eq_getElem hj, e])).1
 ·obtain ⟨u, hu, rfl⟩ := List.mem_map.1 ht
  exact toks_nodot hu
 ·obtain ⟨u, hu, rfl⟩ := List.mem_map.1 ht
  obtain ⟨j, hj, e⟩ := List.mem_iff_getElem.1 hu
  exact h.tame j u hj (by rw [List.getElem?_eq_getElem hj, e])
 ·intro e
  have h1 := congrArg List.length e
  have h2 := toks_pos s
  rw [List.length_map, List.length_nil] at h1
  omega
end Go.Proofs.YtehlmjecbljafaaGreatDoor
namespace Go.Proofs.YtehlmjecbljafaaGreatDoor
open Go Go.RowKit
theorem bs_path (f : ByteArray) : bs f = joinD (pathS f) := by unfold pathS; rw [toks_bs, joinD_splitDot]
theorem gB_pos : ∀ (n : Nat) (l run : List UInt8), l.length ≤ n → (l ≠ [] ∨ run ≠ []) → 0 < (gB run l).length
 | _, [], run, _, h => by
  rw [gB, if_neg (h.resolve_left (fun e => e rfl))]; exact Nat.one_pos
 | 0, c :: l, _, hl, _ => by simp at hl
 | n + 1, c :: l, run, hl, _ => by
  rw [gB]
  split
  ·simp
  ·split
   ·simp
   ·split
    ·simp
    ·split
     ·simp
     ·exact gB_pos n l _ (by simpa using hl) (.inr (by simp))
theorem bs_ne {s : ByteArray} (h : PatP (pathS s)) : bs s ≠ [] := by rw [bs_path]; exact h.wild.ne
end Go.Proofs.YtehlmjecbljafaaGreatDoor
namespace Go.Proofs.YtehlmjecbljafaaGreatDoor
open Go Go.RowKit
theorem match_of_has {T : Trie} {list : List Deed} (hT : TrieOf list T) : ∀ (l p : Path), (∀ t ∈ l, t ≠ [42] ∧ t ≠ [62]) → hasT T p l → ∃ d ∈ list, ∃ R, pathOf d = p ++ R ∧ matchT l R = true
 | [], p, _, h => by simp [hasT] at h
 | t :: r, p, hl, h => by
  have key : ∀ q, (q = [42] ∨ q = t) → (if r = [] then 0 < T.V (p ++ [q]) else hasT T (p ++ [q]) r) → ∃ d ∈ list, ∃ R, pathOf d = p ++ R ∧ matchT (t :: r) R = true := fun q hq hk => by
   have hq62 : q ≠ [62] := by
    rcases hq with rfl | rfl
    ·decide
    ·exact (hl q (by simp)).2
   have hqm : ¬ (q ≠ [42] ∧ q ≠ t) := fun h => by rcases hq with e | e; exact h.1 e; exact h.2 e
   by_cases hr : r = []
   ·subst hr
    rw [if_pos rfl] at hk
    obtain ⟨d, hd, e⟩ := (hT.V _).1 hk
    exact ⟨d, hd, [q], e.symm, by rw [matchT, if_neg hq62, if_neg hqm]; rfl⟩
   ·rw [if_neg hr] at hk
    obtain ⟨d, hd, R, e, hm⟩ := match_of_has hT r (p ++ [q]) (fun x hx => hl x (List.mem_cons_of_mem _ hx)) hk
    exact ⟨d, hd, q :: R, by rw [e, List.append_assoc]; rfl, by rw [matchT, if_neg hq62, if_neg hqm]; exact hm⟩
  rw [hasT] at h
  rcases h with h | ⟨-, h⟩ | ⟨-, h⟩
  ·rcases (hT.N _).1 h with e | ⟨d, hd, x, hx⟩
   ·simp at e
   ·exact ⟨d, hd, [62] :: x, by rw [← hx, List.append_assoc]; rfl, by rw [matchT, if_pos rfl]⟩
  ·exact key [42] (.inl rfl) h
  ·exact key t (.inr rfl) h
theorem has_iff {T : Trie} {list : List Deed} (hT : TrieOf list T) (hpat : ∀ d ∈ list, pathOf d ≠ []) {l : Path} (hl : ∀ t ∈ l, t ≠ [42] ∧ t ≠ [62]) : hasT T [] l ↔ ∃ d ∈ list, matchT l (pathOf d) = true := by
 constructor
 ·intro h
  obtain ⟨d, hd, R, e, hm⟩ := match_of_has hT l [] hl h
  rw [List.nil_append] at e
  exact ⟨d, hd, e ▸ hm⟩
 ·rintro ⟨d, hd, hm⟩
  exact has_of_match T (pathOf d) l [] (hpat d hd) (fun q hq _ => (hT.N _).2 (.inr ⟨d, hd, hq⟩)) ((hT.V _).2 ⟨d, hd, rfl⟩) hm
/-- What the law's conditions tell. -/
structure ThreeP (ds list : List Deed) : Prop where
 len : ds.length ≤ 40
 deed : ∀ d ∈ ds, DeedP d ∧ FormedP (toks d.subj) (toks d.subj).length ∧ LitP (toks d.subj) (toks d.subj).length
 puts : PutsP list
 len2 : list.length ≤ 12
 wf : ∀ d ∈ list, (Lit.int .i64 d.val).wf = true
theorem ThreeP.valid {ds list : List Deed} (h : ThreeP ds list) {d : Deed} (hd : d ∈ ds) : ValidS d.subj := ⟨(h.deed d hd).1.2.2.1, (h.deed d hd).2.1, (h.deed d hd).1.2.2.2⟩
theorem ThreeP.good {ds list : List Deed} (h : ThreeP ds list) {d : Deed} (hd : d ∈ ds) : GoodS d.subj :=
 ⟨fun _ _ ht => headOK (h.valid hd).formed (h.deed d hd).2.2 (h.valid hd).tame ht, fun c hc => ((h.valid hd).clean.2 c hc).1⟩
theorem ThreeP.ppat {ds list : List Deed} (h : ThreeP ds list) {d : Deed} (hd : d ∈ ds) : PatP (pathS d.subj) := valid_pat (h.valid hd)
theorem ThreeP.lit {ds list : List Deed} (h : ThreeP ds list) {d : Deed} (hd : d ∈ ds) : ∀ t ∈ pathS d.subj, t ≠ [42] ∧ t ≠ [62] := fun t ht => by
 obtain ⟨u, hu, rfl⟩ := List.mem_map.1 ht
 obtain ⟨j, hj, e⟩ := List.mem_iff_getElem.1 hu
 exact (h.deed d hd).2.2 j u hj (by rw [List.getElem?_eq_getElem hj, e])
theorem ThreeP.op {ds list : List Deed} (h : ThreeP ds list) {d : Deed} (hd : d ∈ ds) : d.op = 0 ∨ d.op = 1 := (h.deed d hd).1.1
theorem ThreeP.ok {ds list : List Deed} (h : ThreeP ds list) : DeedsOK ds := ⟨h.len, fun d hd => ⟨fun h7 => ((h.valid hd).clean.2 127 h7).2 rfl, bs_ne (h.ppat hd), (h.deed d hd).1.2.1⟩⟩
theorem ThreeP.fine {ds list : List Deed} (h : ThreeP ds list) {d : Deed} (hd : d ∈ ds) : NoEnd (bs d.subj) := fun y e => by
 refine (h.ppat hd).ne [] ?_ rfl
 unfold pathS
 rw [toks_bs, e, show y ++ [46] = y ++ 46 :: [] from rfl, splitDot_app]
 exact List.mem_append_right _ (by simp [splitDot])
theorem ThreeP.valid2 {ds list : List Deed} (h : ThreeP ds list) {d : Deed} (hd : d ∈ list) : ValidS d.subj := ⟨(h.puts.deed d hd).2.1.2.2.1, (h.puts.deed d hd).2.2, (h.puts.deed d hd).2.1.2.2.2⟩
theorem ThreeP.fpat {ds list : List Deed} (h : ThreeP ds list) {d : Deed} (hd : d ∈ list) : PatP (pathOf d) := valid_pat (h.valid2 hd)
theorem ThreeP.fsz {ds list : List Deed} (h : ThreeP ds list) {d : Deed} (hd : d ∈ list) : d.subj.size ≤ 100000 := by have := (h.puts.deed d hd).2.1.2.1; omega
theorem ThreeP.wild {ds list : List Deed} (h : ThreeP ds list) {d : Deed} (hd : d ∈ list) : WildB (bs d.subj) := by rw [bs_path]; exact (h.fpat hd).wild
theorem ThreeP.parts {ds list : List Deed} (h : ThreeP ds list) {d : Deed} (hd : d ∈ list) : PartsB (gB [] (bs d.subj)) := gB_parts _ _ _ (Nat.le_refl _) (fun c hc => by cases hc) (h.wild hd).last
theorem ThreeP.gpos {ds list : List Deed} (h : ThreeP ds list) {d : Deed} (hd : d ∈ list) : 0 < (gB [] (bs d.subj)).length := gB_pos _ _ _ (Nat.le_refl _) (.inl (h.wild hd).ne)
theorem ThreeP.list4 {ds list : List Deed} (h : ThreeP ds list) : ∀ d ∈ list, d.op = 0 ∧ d.subj.size ≤ 100000 ∧ PatP (pathOf d) ∧ (Lit.int .i64 d.val).wf = true := fun d hd => ⟨(h.puts.deed d hd).1, h.fsz hd, h.fpat hd, h.wf d hd⟩
/-- Each entry is some deed's text. -/
theorem ThreeP.ent {ds list : List Deed} (_h : ThreeP ds list) {all : List Ent} (ha : AllIn ds all) {e : Ent} (he : e ∈ all) : ∃ d ∈ ds, e.1 = bs d.subj := by
 have h1 := (ha.mem e).1 he
 rw [← List.take_length (l := ds)] at h1
 exact treeM_mem ds.length ds (Nat.le_refl _) h1
theorem three_good {ds list : List Deed} (h : ThreeP ds list) {all : List Ent} (ha : AllIn ds all) {e : Ent} (he : e ∈ all) : GoodS (mk e.1) ∧ (mk e.1).size ≤ 100000 ∧ (∀ t ∈ splitDot e.1, t ≠ [42] ∧ t ≠ [62]) ∧ ∀ t ∈ splitDot e.1, t ≠ [] := by
 obtain ⟨d, hd, e1⟩ := h.ent ha he
 rw [e1, mk_bs, ← toks_bs]
 exact ⟨h.good hd, by have := (h.deed d hd).1.2.1; omega, h.lit hd, (h.ppat hd).ne⟩
/-- Some pattern of the list meets a text. -/
theorem ThreeP.has {ds list : List Deed} (h : ThreeP ds list) {T : Trie} (hT : TrieOf list T) {all : List Ent} (ha : AllIn ds all) {e : Ent} (he : e ∈ all) : hasT T [] (splitDot e.1) ↔ ∃ d ∈ list, matchT (splitDot e.1) (pathOf d) = true :=
 has_iff hT (fun _ hd => (h.fpat hd).some') (three_good h ha he).2.2.1
theorem ThreeP.both {ds list : List Deed} (h : ThreeP ds list) {both all : List Ent} (hb : BothIn ds list both) (ha : AllIn ds all) {e : Ent} (he : e ∈ all) : e ∈ both ↔ ∃ d ∈ list, matchT (splitDot e.1) (pathOf d) = true := by
 obtain ⟨Tr, le, h1, h2, rfl⟩ := hb
 rw [← h.has h1 ha he]
 unfold metF
 rw [List.mem_filter]
 have hle : e ∈ le := (h2.mem e).2 ((ha.mem e).1 he)
 simp [hle]
theorem ThreeP.both_len {ds list : List Deed} (_h : ThreeP ds list) {both all : List Ent} (hb : BothIn ds list both) (ha : AllIn ds all) : both.length ≤ all.length := by
 obtain ⟨Tr, le, h1, h2, rfl⟩ := hb
 refine Nat.le_trans (metF_len _ _) ?_
 have hnd : le.Nodup := by
  have := h2.nd
  exact List.Pairwise.of_map (·.1) (fun a b hab e => hab (by rw [e])) this
 exact nd_sub hnd fun e he => (ha.mem e).2 ((h2.mem e).1 he)
/-- The tree's answer of one filter. -/
theorem ThreeP.found {ds list : List Deed} (h : ThreeP ds list) {all l : List Ent} (ha : AllIn ds all) {e : Ent} (he : e ∈ all) {d : Deed} (hd : d ∈ list) (hl : FoundIn ds (bs d.subj) l) : e ∈ l ↔ matchT (splitDot e.1) (pathOf d) = true := by
 obtain ⟨x, hx, e1⟩ := h.ent ha he
 have h1 := okM_match (s := x.subj) (f := d.subj) (h.fpat hd) (h.ppat hx).ne
 unfold pathS at h1
 rw [toks_bs, ← e1] at h1
 rw [hl.mem e, h1]
 exact ⟨fun hh => hh.2, fun hh => ⟨(ha.mem e).1 he, hh⟩⟩
end Go.Proofs.YtehlmjecbljafaaGreatDoor
namespace Go.Proofs.YtehlmjecbljafaaGreatDoor
open Go Go.RowKit
set_option maxRecDepth 100000 in
set_option maxHeartbeats 3200000 in
theorem isLitG_any (s : ByteArray) (w : World) (hs : s.size ≤ 137438953472) : Calls Tryz.prog 90 #[.string s] w fun e w' => ∃ bl, e = .returned (.bool bl) ∧ Below w.heap.size w w' := by
 go_enter Tryz.func90, Tryz.ntmps90
 go_wp2
 generalize hN : w.heap.size = N at *
 go_loopw [] (fun wr => ∃ pos : Nat, wr.heap[N]? = some (.stringIter s pos) ∧ Below N w wr) (fun wr => s.size - wr.iterPos N)
 case atStart => exact ⟨0, by rw [← hN]; exact World.iter_heap w s 0, (Below.refl _ w).alloc (by omega) _⟩
 case round =>
  obtain ⟨pos, hit, hb⟩ := hrel
  have hsz : N < wr.heap.size := (Array.getElem?_eq_some_iff.1 hit).1
  by_cases hp : pos < s.size
  ·have hnx : ∀ ty, (Instr.next (.pointer (some ⟨N, 0, none⟩)) true ty).run Tryz.prog wr = _ := fun ty => Lib.run_next_any_at wr N s pos ty hit hp
   have hwd := width_pos s pos hp
   have hit2 := Lib.iterAt_heap wr N s pos (pos + (Utf8.decode s pos).2) hit
   have hb2 := Lib.below_iterAt hb (k := N) (Nat.le_refl _) s (pos + (Utf8.decode s pos).2)
   have hdle := decode_le s pos
   generalize hW1 : wr.iterAt N s (pos + (Utf8.decode s pos).2) = W1 at *
   by_cases hw : (Utf8.decode s pos).1 = 42 ∨ (Utf8.decode s pos).1 = 62
   ·rcases hw with e | e
    ·rw [e] at hnx
     by_cases hp0 : pos = 0
     ·have hz : (((pos : Int)) == 0) = true := by rw [beq_iff_eq]; omega
      clear hp0
      by_cases hb0 : pos + 1 = s.size
      ·have hz1 : (((pos : Int) + 1) == (s.size : Int)) = true := by rw [beq_iff_eq]; omega
       clear hb0
       go_wp2
       go_ret
       exact ⟨_, rfl, by rw [hN]; exact hb2⟩
      ·have hz1 : (((pos : Int) + 1) == (s.size : Int)) = false := by rw [beq_eq_false_iff_ne]; omega
       have hnr : pos + 1 < s.size := by omega
       clear hb0
       by_cases hn : s[pos + 1] = 46
       ·have hnb : (((s[pos + 1]).toNat : Int) == 46) = true := by rw [hn]; rfl
        clear hn
        go_wp2
        go_ret
        exact ⟨_, rfl, by rw [hN]; exact hb2⟩
       ·have hnb : (((s[pos + 1]).toNat : Int) == 46) = false := by
         rw [beq_eq_false_iff_ne]; intro e; exact hn (UInt8.toNat_inj.1 (show (s[pos + 1]).toNat = 46 by omega))
        clear hn
        go_wp2
        go_roundw
        case rel => exact ⟨pos + (Utf8.decode s pos).2, hit2, hb2⟩
        case measure => simp only [World.iterPos, hit2, hit]; omega
     ·have hz : (((pos : Int)) == 0) = false := by rw [beq_eq_false_iff_ne]; omega
      have hpr : pos - 1 < s.size := by omega
      have hx1 : ((pos : Int) - 1).toNat = pos - 1 := by omega
      have hx2 : (0 : Int) ≤ (pos : Int) - 1 := by omega
      have hx3 : (pos : Int) - 1 < (s.size : Int) := by omega
      by_cases hq : s[pos - 1] = 46
      ·have hprev : (((s[pos - 1]).toNat : Int) == 46) = true := by rw [hq]; rfl
       clear hq
       by_cases hb0 : pos + 1 = s.size
       ·have hz1 : (((pos : Int) + 1) == (s.size : Int)) = true := by rw [beq_iff_eq]; omega
        clear hb0
        go_wp2
        go_ret
        exact ⟨_, rfl, by rw [hN]; exact hb2⟩
       ·have hz1 : (((pos : Int) + 1) == (s.size : Int)) = false := by rw [beq_eq_false_iff_ne]; omega
        have hnr : pos + 1 < s.size := by omega
        clear hb0
        by_cases hn : s[pos + 1] = 46
        ·have hnb : (((s[pos + 1]).toNat : Int) == 46) = true := by rw [hn]; rfl
         clear hn
         go_wp2
         go_ret
         exact ⟨_, rfl, by rw [hN]; exact hb2⟩
        ·have hnb : (((s[pos + 1]).toNat : Int) == 46) = false := by
          rw [beq_eq_false_iff_ne]; intro e; exact hn (UInt8.toNat_inj.1 (show (s[pos + 1]).toNat = 46 by omega))
         clear hn
         go_wp2
         go_roundw
         case rel => exact ⟨pos + (Utf8.decode s pos).2, hit2, hb2⟩
         case measure => simp only [World.iterPos, hit2, hit]; omega
      ·have hprev : (((s[pos - 1]).toNat : Int) == 46) = false := by
        rw [beq_eq_false_iff_ne]; intro e; exact hq (UInt8.toNat_inj.1 (show (s[pos - 1]).toNat = 46 by omega))
       clear hq
       go_wp2
       go_roundw
       case rel => exact ⟨pos + (Utf8.decode s pos).2, hit2, hb2⟩
       case measure => simp only [World.iterPos, hit2, hit]; omega
    ·rw [e] at hnx
     by_cases hp0 : pos = 0
     ·have hz : (((pos : Int)) == 0) = true := by rw [beq_iff_eq]; omega
      clear hp0
      by_cases hb0 : pos + 1 = s.size
      ·have hz1 : (((pos : Int) + 1) == (s.size : Int)) = true := by rw [beq_iff_eq]; omega
       clear hb0
       go_wp2
       go_ret
       exact ⟨_, rfl, by rw [hN]; exact hb2⟩
      ·have hz1 : (((pos : Int) + 1) == (s.size : Int)) = false := by rw [beq_eq_false_iff_ne]; omega
       have hnr : pos + 1 < s.size := by omega
       clear hb0
       by_cases hn : s[pos + 1] = 46
       ·have hnb : (((s[pos + 1]).toNat : Int) == 46) = true := by rw [hn]; rfl
        clear hn
        go_wp2
        go_ret
        exact ⟨_, rfl, by rw [hN]; exact hb2⟩
       ·have hnb : (((s[pos + 1]).toNat : Int) == 46) = false := by
         rw [beq_eq_false_iff_ne]; intro e; exact hn (UInt8.toNat_inj.1 (show (s[pos + 1]).toNat = 46 by omega))
        clear hn
        go_wp2
        go_roundw
        case rel => exact ⟨pos + (Utf8.decode s pos).2, hit2, hb2⟩
        case measure => simp only [World.iterPos, hit2, hit]; omega
     ·have hz : (((pos : Int)) == 0) = false := by rw [beq_eq_false_iff_ne]; omega
      have hpr : pos - 1 < s.size := by omega
      have hx1 : ((pos : Int) - 1).toNat = pos - 1 := by omega
      have hx2 : (0 : Int) ≤ (pos : Int) - 1 := by omega
      have hx3 : (pos : Int) - 1 < (s.size : Int) := by omega
      by_cases hq : s[pos - 1] = 46
      ·have hprev : (((s[pos - 1]).toNat : Int) == 46) = true := by rw [hq]; rfl
       clear hq
       by_cases hb0 : pos + 1 = s.size
       ·have hz1 : (((pos : Int) + 1) == (s.size : Int)) = true := by rw [beq_iff_eq]; omega
        clear hb0
        go_wp2
        go_ret
        exact ⟨_, rfl, by rw [hN]; exact hb2⟩
       ·have hz1 : (((pos : Int) + 1) == (s.size : Int)) = false := by rw [beq_eq_false_iff_ne]; omega
        have hnr : pos + 1 < s.size := by omega
        clear hb0
        by_cases hn : s[pos + 1] = 46
        ·have hnb : (((s[pos + 1]).toNat : Int) == 46) = true := by rw [hn]; rfl
         clear hn
         go_wp2
         go_ret
         exact ⟨_, rfl, by rw [hN]; exact hb2⟩
        ·have hnb : (((s[pos + 1]).toNat : Int) == 46) = false := by
          rw [beq_eq_false_iff_ne]; intro e; exact hn (UInt8.toNat_inj.1 (show (s[pos + 1]).toNat = 46 by omega))
         clear hn
         go_wp2
         go_roundw
         case rel => exact ⟨pos + (Utf8.decode s pos).2, hit2, hb2⟩
         case measure => simp only [World.iterPos, hit2, hit]; omega
      ·have hprev : (((s[pos - 1]).toNat : Int) == 46) = false := by
        rw [beq_eq_false_iff_ne]; intro e; exact hq (UInt8.toNat_inj.1 (show (s[pos - 1]).toNat = 46 by omega))
       clear hq
       go_wp2
       go_roundw
       case rel => exact ⟨pos + (Utf8.decode s pos).2, hit2, hb2⟩
       case measure => simp only [World.iterPos, hit2, hit]; omega
   ·have h42 : (((Utf8.decode s pos).1 : Int) == 42) = false := by rw [beq_eq_false_iff_ne]; omega
    have h62 : (((Utf8.decode s pos).1 : Int) == 62) = false := by rw [beq_eq_false_iff_ne]; omega
    clear hw
    go_wp2
    go_roundw
    case rel => exact ⟨pos + (Utf8.decode s pos).2, hit2, hb2⟩
    case measure => simp only [World.iterPos, hit2, hit]; omega
  ·have hnx : ∀ ty, (Instr.next (.pointer (some ⟨N, 0, none⟩)) true ty).run Tryz.prog wr = _ := fun ty => Lib.run_next_end_at wr N s pos ty hit hp
   go_wp2
   go_ret
   exact ⟨_, rfl, by rw [hN]; exact hb⟩
end Go.Proofs.YtehlmjecbljafaaGreatDoor
namespace Go.Proofs.YtehlmjecbljafaaGreatDoor
open Go Go.RowKit
theorem z234 (w : World) : (zeroValue 234).run Tryz.prog w = .ok (.pointer none) w := by kernel_rfl
set_option maxRecDepth 100000 in
set_option maxHeartbeats 3200000 in
theorem cacheE_any (b root a : Nat) (s : ByteArray) (cm : Option Nat) (g m h i r sw c : Int) (w : World) (hb : w.heap[b]? = some (.cells (slHeld root (.map cm) g m h i r sw c) 229 (0, 0))) (hcm : ∀ k, cm = some k → MapE w k []) (hs : s.size ≤ 137438953472) :
  Calls Tryz.prog 186 #[.pointer (some ⟨b, 0, none⟩), .string s, .pointer (some ⟨a, 0, none⟩)] w fun e w' => e = .returned (.tuple #[]) ∧ Below w.heap.size w w' := by
 cases cm with
 | none => exact cache0_any b root a s g m h i r sw c w hb
 | some k =>
  have hm := hcm k rfl
  have c12 := (cell_row (j := 12) hb).trans (show _ = some (Value.map (some k)) from rfl)
  have hlb := (Array.getElem?_eq_some_iff.1 hb).1
  have q1 := fun w => nil226' k w
  have hl := isLitG_any s w hs
  have HM := Lib.hid hm; clear hm
  clear hcm
  go_enter Tryz.func186, Tryz.ntmps186
  go_wp2_with fail
  refine hl.mono ?_
  rintro e w1 ⟨bl, rfl, hb1⟩
  have hm1 : MapE w1 k [] := HM.out.keep (hb1.block k HM.out.lt)
  have c13 : w1.cell? ⟨b, 12, none⟩ = some (Value.map (some k)) := (World.cell?_of_block (hb1.block b hlb)).trans c12
  clear hl c12
  cases bl with
  | true =>
   have hlk := hm1.look_no (P := Tryz.prog) Tryz.underlying226 (z234 w1) (keyAt_string (P := Tryz.prog) (k := 9) Tryz.underlying9 w1 s (kv := []) (by simp)) (by simp) false
   go_wp2
   exact bodyPost_ret (results_none rfl _ _ _) rfl ⟨rfl, hb1⟩
  | false =>
   go_wp2_with (at_range; refine wpList_rangeE _ rfl _ 226 rfl 9 234 Tryz.underlying226 k [] rfl hm1 ?_; intro w0 hit hb0 hz0)
   go_frame
   have HB := Lib.hid (bel2 hb1 hb0)
   clear hb0 hz0
   go_loopw [] (fun wr => IterE wr k w1.heap.size [] [] ∧ wr = w0) (fun wr => 0)
   case atStart => exact ⟨hit, rfl⟩
   case round =>
    obtain ⟨hitr, rfl⟩ := hrel
    go_wp2_with (at_next; refine wpList_nextE _ rfl _ rfl k w1.heap.size [] [] rfl hitr ?_ ?_)
    go_end0
    exact ⟨rfl, HB.out⟩
end Go.Proofs.YtehlmjecbljafaaGreatDoor
