/- A subject tree made by deeds that put and that delete. The tree is walked in order: all entries that deeds leave. The meeting of a tree and a list of interest: whole trees, and what deeds leave. The meeting of a tree and a list of interest, out of deeds. Plain words: a pattern among the deeds that matches gives interest. The place of an entry; lists of entries out of deeds. -/
import Derived.Test.YtehlmjecbljafaaGreatDoorR11
import Derived.Test.YtehlmjecbljafaaGreatDoorR34
import Derived.Test.YtehlmjecbljafaaGreatDoorR37
import Derived.Test.YtehlmjecbljafaaGreatDoorR38
import Derived.Test.YtehlmjecbljafaaGreatDoorR41
namespace Go.Proofs.YtehlmjecbljafaaGreatDoor
open Go Go.RowKit
theorem OldP.put {w : World} {o : Value} {b : Nat} {r : Option Art} {n m : Int} (h : OldP w o) (hb : w.heap[b]? = some (.cells #[rootV r, .int .i64 n] 139 (0, 0))) : OldP (w.setCell ⟨b, 1, none⟩ (.int .i64 m)) o := by
 rcases h with h | ⟨g, q, y, h1, h2⟩
 ·exact .inl h
 ·by_cases hgb : g = b
  ·subst hgb
   have h3 := cell_row (j := q) hb
   rw [h2] at h3
   match q, h3, h1 with
   | 0, h3, _ =>
    have h3 : some (Value.int .i64 y) = some (rootV r) := h3
    cases r with
    | none => cases h3
    | some T =>
     obtain ⟨ty, tb, e⟩ := T.ref_form
     have h3 : some (Value.int .i64 y) = some T.ref := h3
     rw [e] at h3; cases h3
   | 1, _, h1 => exact .inr ⟨g, 1, m, h1, (cell_row (heap_setCell_same w g 1 _ 139 (.int .i64 m) hb)).trans rfl⟩
   | q + 2, h3, _ => simp at h3
  ·refine .inr ⟨g, q, y, h1, ?_⟩
   rw [World.cell?_of_block (heap_setCell_other _ _ _ _ hgb)]; exact h2
set_option maxRecDepth 100000 in
set_option maxHeartbeats 1600000 in
theorem deleteTree_any (ds : List Deed) (b k : Nat) (d : Deed) (F : Nat → Prop) (v : Value) (w : World) (h : ArtT ds b k F w) (hds : DeedsOK ds) (hd : ds[k]? = some d) (hop : d.op = 1) (hv : Sl w 1 v d.subj.size (u8s (bs d.subj)))
  (hfar : ∀ g o m c, v = .slice (some ⟨g, o, none⟩) m c → ¬ F g) :
  Calls Tryz.prog 111 #[.pointer (some ⟨b, 0, none⟩), v] w fun e w' =>
  ∃ o u F', e = .returned (.tuple #[o, .bool u]) ∧ OldP w' o ∧ ArtT ds b (k + 1) F' w' ∧ Only F w w' ∧ ∀ x, F' x → F x ∨ w.heap.size ≤ x := by
 obtain ⟨r, n, hR, hF⟩ := h
 have hkl : k < ds.length := (List.getElem?_eq_some_iff.1 hd).1
 have hlen := hds.len
 have hn0 := hR.n0
 have hin := delRoot_any b ds b k d r n v w hR hds hd hop hv (fun g o m c e hx => hfar g o m c e ((hF g).2 hx))
 have hlb := (Array.getElem?_eq_some_iff.1 hR.row).1
 obtain ⟨a, cap, rfl⟩ := hv.form
 have HR := Lib.hid hR; clear hR
 have HF := Lib.hid hF; clear hF
 clear hv
 go_enter Tryz.func111, Tryz.ntmps111
 go_wp2_with fail
 refine hin.mono ?_
 rintro e w3 ⟨o, u, r', rfl, ho, hrow, hat, hmem, hon⟩
 have hz3 := hon.size
 have c1 := (cell_row (j := 1) hrow).trans (show _ = some (Value.int .i64 n) from rfl)
 have f1 := frozen_row (j := 1) hrow
 have HM := Lib.hid hmem; clear hmem
 have HO := Lib.hid hon; clear hon
 have HRW := Lib.hid hrow; clear hrow
 have HOLD := Lib.hid ho; clear ho
 have hat2 : ∀ T', r' = some T' → T'.At w3 ∧ T'.Sep ∧ T'.WF ∧ ¬ T'.Fp b ∧ ∀ x, T'.Fp x → b ≤ x := fun T' hT' => by
  obtain ⟨q1, q2, q3, q4⟩ := hat T' hT'
  refine ⟨q1, q2, q3, fun hx => ?_, fun x hx => ?_⟩
  ·rcases q4 b hx with ⟨T, hT, h1⟩ | h1
   ·exact (HR.out.at' T hT).2.2.2.1 h1
   ·omega
  ·rcases q4 x hx with ⟨T, hT, h1⟩ | h1
   ·exact (HR.out.at' T hT).2.2.2.2 x h1
   ·omega
 have hfp : ∀ T', r' = some T' → ∀ x, T'.Fp x → F x ∨ w.heap.size ≤ x := fun T' hT' x hx => by
  rcases (hat T' hT').2.2.2 x hx with h1 | h1
  ·exact .inl ((HF.out x).2 (.inr h1))
  ·exact .inr h1
 have HAT := Lib.hid hat2; clear hat2 hat
 have HFP := Lib.hid hfp; clear hfp hin
 have fin : ∀ (m : Int) (W : World), -((k + 1 : Nat) : Int) ≤ m ∧ m ≤ (k + 1 : Nat) → W.heap[b]? = some (.cells #[rootV r', .int .i64 m] 139 (0, 0)) → (∀ x, x ≠ b → W.heap[x]? = w3.heap[x]?) → Only (fun x => x = b) w3 W → OldP W o →
   ∃ o' u' F', Ending.returned (Value.tuple #[o, Value.bool u]) = .returned (.tuple #[o', .bool u']) ∧ OldP W o' ∧ ArtT ds b (k + 1) F' W ∧ Only F w W ∧ ∀ x, F' x → F x ∨ w.heap.size ≤ x := by
  intro m W hm hrW hoth hoW hold
  refine ⟨o, u, fun x => x = b ∨ ∃ T, r' = some T ∧ T.Fp x, rfl, hold, ⟨r', m, ⟨hm, hrW, fun T hT => ?_, fun e => HM.out e⟩, fun x => Iff.rfl⟩, ?_, fun x hx => ?_⟩
  ·obtain ⟨q1, q2, q3, q4, q5⟩ := HAT.out T hT
   exact ⟨q1.keep fun x hx => hoth x (fun e => q4 (e ▸ hx)), q2, q3, q4, q5⟩
  ·refine (HO.out.mono (F' := F) fun x hx => (HF.out x).2 hx).trans hoW fun x hx => .inl ((HF.out x).2 (.inl hx))
  ·rcases hx with rfl | ⟨T, hT, hx⟩
   ·exact .inl ((HF.out x).2 (.inl rfl))
   ·exact HFP.out T hT x hx
 have HFIN := Lib.hid fin; clear fin
 have hn1 : n ≤ 40 := by omega
 have hn2 : -40 ≤ n := by omega
 cases u with
 | false =>
  go_wp2
  go_ret2
  exact HFIN.out n w3 (by omega) HRW.out (fun x _ => rfl) (Only.refl _ _) HOLD.out
 | true =>
  go_wp2
  go_ret2
  exact HFIN.out (n - 1) _ (by omega) (heap_setCell_same w3 b 1 _ 139 (.int .i64 (n - 1)) HRW.out) (fun x hx => heap_setCell_other _ _ _ _ hx) ((Only.refl (· = b) w3).set (.inl rfl) _) (HOLD.out.put HRW.out)
/-- Deeds that put and that delete. -/
theorem artQ_all (ds : List Deed) (b : Nat) (hds : DeedsOK ds) : TreeQ ds b b (ArtT ds b) := by
 refine ⟨fun k F w w' h hF => ?_, fun k F w h x hx => ?_, fun k d F w v hd h0 h hv hfar => ?_, fun k d F w v hd h1 h hv hfar => ?_⟩
 ·obtain ⟨r, n, hR, hFF⟩ := h
  exact ⟨r, n, hR.keep (hF b ((hFF b).2 (.inl rfl))) (fun T hT x hx => hF x ((hFF x).2 (.inr ⟨T, hT, hx⟩))), hFF⟩
 ·obtain ⟨r, n, hR, hFF⟩ := h
  rcases (hFF x).1 hx with rfl | ⟨T, hT, hx⟩
  ·exact ⟨Nat.le_refl _, (Array.getElem?_eq_some_iff.1 hR.row).1⟩
  ·obtain ⟨q1, -, -, -, q5⟩ := hR.at' T hT
   exact ⟨q5 x hx, q1.lt x hx⟩
 ·exact insertTree_any ds b k d F v w h hds hd h0 hv hfar
 ·exact deleteTree_any ds b k d F v w h hds hd h1 hv hfar
end Go.Proofs.YtehlmjecbljafaaGreatDoor
namespace Go.Proofs.YtehlmjecbljafaaGreatDoor
open Go Go.RowKit
set_option maxRecDepth 100000 in
set_option maxHeartbeats 1600000 in
theorem order70N_any (b : Nat) (x v : Value) (w : World) (hrow : w.heap[b]? = some (.cells #[.nilIface, x] 139 (0, 0))) :
  Calls Tryz.prog 70 #[.pointer (some ⟨b, 0, none⟩), v] w fun e w' => e = .returned (.tuple #[]) ∧ Below w.heap.size w w' := by
 have ct := (cell_row (j := 0) hrow).trans (show _ = some Value.nilIface from rfl)
 have hlb := (Array.getElem?_eq_some_iff.1 hrow).1
 have qN : ∀ w, (binOp .eql 137 .nilIface .nilIface).run Tryz.prog w = .ok (.bool true) w := fun w => by kernel_rfl
 go_enter Tryz.func70, Tryz.ntmps70
 go_wp2
 exact bodyPost_ret (results_none rfl _ _ _) rfl ⟨rfl, Below.refl _ _⟩
/-- All that deeds leave. -/
structure AllIn (ds : List Deed) (l : List Ent) : Prop where
 nd : (l.map (·.1)).Nodup
 mem : ∀ e : Ent, e ∈ l ↔ treeM ds e.1 = some e.2
theorem AllIn.perm {ds : List Deed} {l l' : List Ent} (h : AllIn ds l) (hp : l'.Perm l) : AllIn ds l' := ⟨(hp.map _).nodup_iff.2 h.nd, fun e => hp.mem_iff.trans (h.mem e)⟩
theorem all_ents {ds : List Deed} {b : Nat} {T : Art} {n : Int} {w : World} (h : ArtR ds b ds.length (some T) n w) : AllIn ds T.ents := by
 refine ⟨ents_nd (h.at' T rfl).2.2.1, fun e => ?_⟩
 have h2 := h.mem e
 rw [List.take_length] at h2
 rw [← h2]
 exact ⟨fun he => ⟨T, rfl, he⟩, fun ⟨T', e1, he⟩ => by cases e1; exact he⟩
theorem all_none {ds : List Deed} {b : Nat} {n : Int} {w : World} (h : ArtR ds b ds.length none n w) : AllIn ds [] := by
 refine ⟨List.nodup_nil, fun e => ⟨(fun he => by cases he), fun he => ?_⟩⟩
 have h2 := h.mem e
 rw [List.take_length] at h2
 obtain ⟨T, hT, -⟩ := h2.2 he
 cases hT
set_option maxRecDepth 100000 in
set_option maxHeartbeats 3200000 in
theorem treeOrdered_any (v : Value) (ds : List Deed) (w : World) (hd : DeedsAt w v ds) (hds : DeedsOK ds) (hop : ∀ d ∈ ds, d.op = 0 ∨ d.op = 1) :
  Calls Tryz.prog 31 #[v, .int .i64 100] w fun e w' => ∃ u l, e = .returned u ∧ Own w' w.heap.size 2 u l.length (outC l) ∧ AllIn ds l ∧ Below w.heap.size w w' := by
 obtain ⟨va, vc, rfl⟩ := Sl.form hd
 have hQ := fun b => artQ_all ds b hds
 have hz1 : (w.alloc (.cells #[.int .i64 100] 3)).heap.size = w.heap.size + 1 := by simp
 have hz : ((w.alloc (.cells #[.int .i64 100] 3)).alloc (.cells #[.slice none 0 0] 41)).heap.size = w.heap.size + 2 := by simp
 have hb0 : Below w.heap.size w ((w.alloc (.cells #[.int .i64 100] 3)).alloc (.cells #[.slice none 0 0] 41)) := ((Below.refl _ w).alloc (Nat.le_refl _) _).alloc (by omega) _
 have hbm : ((w.alloc (.cells #[.int .i64 100] 3)).alloc (.cells #[.slice none 0 0] 41)).heap[w.heap.size]? = some (.cells #[.int .i64 100] 3 (0, 0)) := by
  rw [((Below.refl (w.heap.size + 1) (w.alloc (.cells #[.int .i64 100] 3))).alloc (by omega) _).block w.heap.size (by omega)]
  exact heap_alloc_new w _
 have hbo : ((w.alloc (.cells #[.int .i64 100] 3)).alloc (.cells #[.slice none 0 0] 41)).heap[w.heap.size + 1]? = some (.cells #[.slice none 0 0] 41 (0, 0)) := by
  have := heap_alloc_new (w.alloc (.cells #[.int .i64 100] 3)) (.cells #[.slice none 0 0] 41)
  rw [hz1] at this
  exact this
 have ht := tree2_any _ ds (ArtT ds ((w.alloc (.cells #[.int .i64 100] 3)).alloc (.cells #[.slice none 0 0] 41)).heap.size) ((w.alloc (.cells #[.int .i64 100] 3)).alloc (.cells #[.slice none 0 0] 41)) (Sl.keep hd hb0)
  (fun x hx => ⟨hop x hx, by have := (hds.sub x hx).2.2; unfold maxLen; omega⟩) (by have := hds.len; omega) (hQ _) (artT0 ds _)
 rw [hz] at ht
 have hmf : ∀ (fn : Fn) (first cap : Array Value) (w : World), (Instr.makeFunc fn first cap).run Tryz.prog w = .ok (.func fn first cap) w := fun _ _ _ _ => rfl
 have HB0 := Lib.hid hb0; clear hb0
 have HZ := Lib.hid hz; clear hz
 go_enter Tryz.func31, Tryz.ntmps31
 go_wp2_with fail
 refine ht.mono ?_
 rintro e w1 ⟨F, rfl, hT, hb1⟩
 have hs1 : w.heap.size + 2 ≤ w1.heap.size := by rw [← HZ.out]; exact hb1.size
 have hbo1 := (hb1.block (w.heap.size + 1) (by omega)).trans hbo
 have hbm1 := (hb1.block w.heap.size (by omega)).trans hbm
 have h1 : Below w.heap.size w w1 := HB0.out.trans (hb1.mono (by omega))
 obtain ⟨r, n, hR, hF⟩ := hT
 have HR := Lib.hid hR
 clear ht hQ hF hbm hbo
 cases r with
 | none =>
  have hm := order70N_any (w.heap.size + 2) (.int .i64 n) (.func (.func 71) #[] #[.pointer (some ⟨w.heap.size + 1, 0, none⟩), .pointer (some ⟨w.heap.size, 0, none⟩)]) w1 hR.row
  clear hR
  go_wp2_with fail
  refine hm.mono ?_
  rintro e w2 ⟨rfl, hb2⟩
  have k1 := (hb2.block (w.heap.size + 1) (by omega)).trans hbo1
  have c0 := (cell_row (j := 0) k1).trans (show _ = some (Value.slice none 0 0) from rfl)
  clear hm
  go_wp2
  go_ret
  exact ⟨_, [], rfl, Own.nil _ _ _, all_none HR.out, bel2 h1 hb2⟩
 | some T =>
  obtain ⟨q1, q2, q3, q4, q5⟩ := hR.at' T rfl
  have hent : ∀ e ∈ T.ents, ∃ d ∈ ds, e.1 = bs d.subj := fun e he => ent_sub hR (Nat.le_refl _) he
  have htw : TreeV w1 T (w.heap.size + 2) n := ⟨hR.row, q1, q3, q2, fun e he => by obtain ⟨d, hd', e2⟩ := hent e he; have := (hds.sub d hd').2.2; rw [e2, bs_len]; omega, q4⟩
  have hm := order70_any (w.heap.size + 2) (w.heap.size + 1) w.heap.size T n w1 htw (by have := ents_le hR (Nat.le_refl _); have := hds.len; omega) hbo1 hbm1 (fun x hx => by have := q5 x hx; omega)
  clear hR q1 q2 q3 q4 q5 htw hent
  go_wp2_with fail
  refine hm.mono ?_
  rintro e w2 ⟨rfl, o', l, k1, kp, k2, k3⟩
  have c0 := (cell_row (j := 0) k1).trans (show _ = some o' from rfl)
  obtain ⟨oa, oc, rfl, -⟩ := k2.form
  have K2 := Lib.hid k2; clear k2
  have KP := Lib.hid kp; clear kp
  clear hm
  go_wp2
  go_ret
  exact ⟨_, l, rfl, K2.out.mono (by omega), (all_ents HR.out).perm KP.out, h1.trans (k3.mono (by omega))⟩
end Go.Proofs.YtehlmjecbljafaaGreatDoor
namespace Go.Proofs.YtehlmjecbljafaaGreatDoor
open Go Go.RowKit
theorem meetOK (Bp Bo b : Nat) (c : Int) (Tr : Trie) (FT : Nat → Prop) (n d : Nat) : MeetOK Bp Bo b c Tr FT n d := by
 induction d using Nat.strongRecOn with
 | _ d ih =>
  intro T F pl ov cnt xs w hd hM hT hg hc
  rcases T with ⟨L, v, s⟩ | ⟨k, nb, pre, nk, key, kid⟩
  ·exact meetLeaf_any Bp Bo b c Tr FT n F L v s pl ov cnt xs w hM hT (hg (s, v) (by simp [Art.ents])) (by simp [Art.ents] at hc; omega)
  ·exact meetNode_any Bp Bo b c Tr FT n d ih k nb pre nk key kid F pl ov cnt xs w hd hM hT hg hc
set_option maxRecDepth 100000 in
set_option maxHeartbeats 3200000 in
theorem meet72_any (b Bo bl : Nat) (c : Int) (Tr : Trie) (FT : Nat → Prop) (m : Nat) (T : Art) (n : Int) (w : World) (hT : TreeV w T b n) (hlen : T.ents.length ≤ 100000) (hg : ∀ e ∈ T.ents, GoodS (mk e.1))
  (hBo : w.heap[Bo]? = some (.cells #[.slice none 0 0] 41 (0, 0))) (hK : (ixM 0 Bo bl c Tr FT m).K w) (hfp : ∀ x, T.Fp x → x ≠ Bo ∧ x ≠ bl) (hob : ¬ FT Bo) :
  Calls Tryz.prog 72 #[.pointer (some ⟨b, 0, none⟩), .pointer (some ⟨bl, 0, none⟩), .func (.func 73) #[] #[.pointer (some ⟨Bo, 0, none⟩)]] w fun e w' => e = .returned (.tuple #[]) ∧ ∃ o', w'.heap[Bo]? = some (.cells #[o'] 41 (0, 0)) ∧
   Own w' (Bo + 1) 2 o' (metF Tr T.ents).length (outC (metF Tr T.ents)) ∧ Only (fun k => k = Bo ∨ k = bl) w w' := by
 have hlb := (Array.getElem?_eq_some_iff.1 hT.row).1
 have hlo := (Array.getElem?_eq_some_iff.1 hBo).1
 have hbo : b ≠ Bo := cells_ne hT.row hBo (by decide)
 have hblo : bl ≠ Bo := cells_ne hK.1 hBo (by decide)
 have hbbl : b ≠ bl := cells_ne hT.row hK.1 (by decide)
 have hlbl := (Array.getElem?_eq_some_iff.1 hK.1).1
 have ct := (cell_row (j := 0) hT.row).trans (show _ = some T.ref from rfl)
 have HT := Lib.hid hT; clear hT
 have HK := Lib.hid hK; clear hK
 obtain ⟨rt, rb, hrf⟩ := T.ref_form
 have qN : ∀ w, (binOp .eql 137 (.iface rt (.pointer (some ⟨rb, 0, none⟩))) .nilIface).run Tryz.prog w = .ok (.bool false) w := fun w => by have h := refNe1 T w; rw [hrf] at h; exact h
 rw [hrf] at ct
 have HRF := Lib.hid hrf; clear hrf
 go_enter Tryz.func72, Tryz.ntmps72
 go_wp2
 refine wp_any (fun W => (∃ cur, W.heap[w.heap.size]? = some (.cells cur 143 (0, 0)) ∧ cur.size = 256) ∧ Below w.heap.size w W ∧ w.heap.size + 1 ≤ W.heap.size) ⟨⟨_, heap_alloc_new _ _, rfl⟩, (Below.refl _ w).alloc (Nat.le_refl _) _, by simp⟩ ?_
 rintro W ⟨hbuf, hbW, hzW⟩
 have hTW := HT.out
 have hrowW := (hbW.block b hlb).trans hTW.row
 have hBoW := (hbW.block Bo hlo).trans hBo
 have ctW := (cell_row (j := 0) hrowW).trans (show _ = some T.ref from rfl)
 rw [HRF.out] at ctW
 have hFlt := fun x hx => hTW.at'.lt x hx
 have hKW : (ixM w.heap.size Bo bl c Tr FT m).K W.drew := (ixM_ok w.heap.size Bo bl c Tr FT m).keep w W.drew HK.out fun x hx => by
  have hxl : x < w.heap.size := by
   rcases hx with rfl | hx
   ·exact hlbl
   ·exact HK.out.2.2.1 x hx
  exact hbW.block x hxl
 have hiw : IW (ixM w.heap.size Bo bl c Tr FT m) (fun k => T.Fp k ∨ k = b ∨ (k = bl ∨ FT k) ∨ k = w.heap.size) [] (.slice none 0 0) 0 [] W.drew := by
  refine ⟨hbuf, (fun j c hj => by simp at hj), hBoW, Own.nil _ _ _, (fun k hk => by cases hk), ?_, .inr (.inr (.inr rfl)), ?_, fun x hx => ?_, hKW, ixM_ok _ _ _ _ _ _ _⟩
  ·rintro k (h | rfl | (rfl | h) | rfl)
   ·have := hFlt k h; show k < W.heap.size; omega
   ·show _ < W.heap.size; omega
   ·show _ < W.heap.size; omega
   ·have := HK.out.2.2.1 k h; show _ < W.heap.size; omega
   ·show _ < W.heap.size; omega
  ·rintro (h | h | (h | h) | h)
   ·exact (hfp Bo h).1 rfl
   ·exact hbo h.symm
   ·exact hblo h.symm
   ·exact hob h
   ·have h : Bo = w.heap.size := h; omega
  ·refine ⟨.inr (.inr (.inl hx)), fun e => ?_⟩
   have e : x = w.heap.size := e
   rcases hx with rfl | hx
   ·omega
   ·have := HK.out.2.2.1 x hx; omega
 have hit : IT (ixM w.heap.size Bo bl c Tr FT m) (fun k => T.Fp k ∨ k = b ∨ (k = bl ∨ FT k) ∨ k = w.heap.size) T 0 W.drew :=
  ⟨(hTW.at'.bel hbW).bel (Below.refl _ W).drew, hTW.wf, hTW.sep, fun x hx => ⟨.inl hx, by have := hFlt x hx; show x ≠ w.heap.size; omega, (hfp x hx).2⟩, fun e he => by have := hTW.fits e he; omega⟩
 obtain ⟨dd, hdd⟩ := T.deep
 have hm : Calls Tryz.prog 107 #[.iface rt (.pointer (some ⟨rb, 0, none⟩)), .slice (some ⟨w.heap.size, 0, none⟩) 0 256, .pointer (some ⟨bl, 0, none⟩), .func (.func 73) #[] #[.pointer (some ⟨Bo, 0, none⟩)]] W.drew fun e w' => e = .returned (.bool true) ∧ IP (ixM w.heap.size Bo bl c Tr FT m) 0 (.slice none 0 0) 0 [] (metF Tr (T.ents.map (shift []))) W.drew w' := by
  rw [← HRF.out]
  exact meetOK _ _ _ _ _ _ _ dd T _ [] _ 0 [] W.drew hdd hiw hit (fun e he => hg e he) (by omega)
 have HIW := Lib.hid hiw; clear hiw
 clear hit hdd hrowW hBoW ct hbuf hFlt hKW
 have ctD : W.drew.cell? ⟨b, 0, none⟩ = some (.iface rt (.pointer (some ⟨rb, 0, none⟩))) := ctW
 go_region_held3 (fun w1 => w1.cell? ⟨b, 0, none⟩ = some (.iface rt (.pointer (some ⟨rb, 0, none⟩)))) (first | exact x1 | exact ctD) (first
  | (go_at_call 107; refine hm.mono ?_; rintro e w5 ⟨rfl, hip⟩; have x1 := (show w5.cell? ⟨b, 0, none⟩ = some (.iface rt (.pointer (some ⟨rb, 0, none⟩))) from by obtain ⟨ov', h5⟩ := hip; exact cell_only ctD h5.only (HIW.out.bo (.inr (.inl rfl)) (by show b ≠ w.heap.size; omega) hbbl))))
 clear hm
 go_wp2
 go_end0
 obtain ⟨o', h5⟩ := hip
 have e0 : T.ents.map (shift []) = T.ents := by
  rw [show shift [] = id from by funext e; rfl]; exact List.map_id _
 have k2 := h5.own
 rw [Nat.zero_add, List.nil_append, e0] at k2
 refine ⟨rfl, o', h5.out, k2, ?_⟩
 refine (Only.of (F := fun k => k = Bo ∨ k = bl) (hbW.drew)).trans h5.only fun k hk => ?_
 rcases hk with h | h | h | h
 ·exact .inl (.inl h)
 ·exact .inr (Nat.le_of_eq h.symm)
 ·exact .inl (.inr h)
 ·cases h
set_option maxRecDepth 100000 in
set_option maxHeartbeats 1600000 in
theorem meet72N_any (b bl : Nat) (x v : Value) (w : World) (hrow : w.heap[b]? = some (.cells #[.nilIface, x] 139 (0, 0))) :
  Calls Tryz.prog 72 #[.pointer (some ⟨b, 0, none⟩), .pointer (some ⟨bl, 0, none⟩), v] w fun e w' => e = .returned (.tuple #[]) ∧ Below w.heap.size w w' := by
 have ct := (cell_row (j := 0) hrow).trans (show _ = some Value.nilIface from rfl)
 have hlb := (Array.getElem?_eq_some_iff.1 hrow).1
 have qN : ∀ w, (binOp .eql 137 .nilIface .nilIface).run Tryz.prog w = .ok (.bool true) w := fun w => by kernel_rfl
 go_enter Tryz.func72, Tryz.ntmps72
 go_wp2
 exact bodyPost_ret (results_none rfl _ _ _) rfl ⟨rfl, Below.refl _ _⟩
end Go.Proofs.YtehlmjecbljafaaGreatDoor
namespace Go.Proofs.YtehlmjecbljafaaGreatDoor
open Go Go.RowKit
/-- A trie that deeds have made. -/
structure TrieOf (ds : List Deed) (T : Trie) : Prop where
 N : ∀ q, T.N q ↔ q = [] ∨ ∃ d ∈ ds, q <+: pathOf d
 V : ∀ q, 0 < T.V q ↔ ∃ d ∈ ds, q = pathOf d
/-- What meets interest of all that deeds leave. -/
def BothIn (ds list : List Deed) (l : List Ent) : Prop := ∃ Tr le, TrieOf list Tr ∧ AllIn ds le ∧ l = metF Tr le
set_option maxRecDepth 100000 in
set_option maxHeartbeats 3200000 in
theorem treeInterest_any (v v2 : Value) (ds list : List Deed) (w : World) (hd : DeedsAt w v ds) (hds : DeedsOK ds) (hop : ∀ d ∈ ds, d.op = 0 ∨ d.op = 1) (hg : ∀ d ∈ ds, GoodS d.subj)
  (hd2 : DeedsAt w v2 list) (hop2 : ∀ d ∈ list, d.op = 0 ∧ d.subj.size ≤ 100000 ∧ PatP (pathOf d) ∧ (Lit.int .i64 d.val).wf = true) (hn2 : list.length ≤ 1000) :
  Calls Tryz.prog 32 #[v, v2] w fun e w' => ∃ u l, e = .returned u ∧ Own w' w.heap.size 2 u l.length (outC l) ∧ BothIn ds list l ∧ Below w.heap.size w w' := by
 obtain ⟨va, vc, rfl⟩ := Sl.form hd
 obtain ⟨va2, vc2, rfl⟩ := Sl.form hd2
 have hli := list_any _ list w hd2 hop2 hn2
 have hmf : ∀ (fn : Fn) (first cap : Array Value) (w : World), (Instr.makeFunc fn first cap).run Tryz.prog w = .ok (.func fn first cap) w := fun _ _ _ _ => rfl
 have HDS := Lib.hid hds
 have HOP := Lib.hid hop
 have HG := Lib.hid hg
 have HD := Lib.hid hd
 clear hd hd2 hds hop hg hop2
 go_enter Tryz.func32, Tryz.ntmps32
 go_wp2_with fail
 refine hli.mono ?_
 rintro e w1 ⟨bl, u, xs, Tr, FT, m, rfl, hbl, hL, -, -, -⟩
 clear hli
 have hz : (w1.alloc (.cells #[.slice none 0 0] 41)).heap.size = w1.heap.size + 1 := by simp
 have hbo := heap_alloc_new w1 (.cells #[.slice none 0 0] 41)
 have hb0 : Below w1.heap.size w1 (w1.alloc (.cells #[.slice none 0 0] 41)) := (Below.refl _ w1).alloc (Nat.le_refl _) _
 have hb0w : Below w.heap.size w (w1.alloc (.cells #[.slice none 0 0] 41)) := hL.bel.trans (hb0.mono hL.bel.size)
 have ht := tree2_any _ ds (ArtT ds (w1.alloc (.cells #[.slice none 0 0] 41)).heap.size) (w1.alloc (.cells #[.slice none 0 0] 41)) (Sl.keep HD.out hb0w)
  (fun x hx => ⟨HOP.out x hx, by have := (HDS.out.sub x hx).2.2; unfold maxLen; omega⟩) (by have := HDS.out.len; omega) (artQ_all ds _ HDS.out) (artT0 ds _)
 rw [hz] at ht
 have HL := Lib.hid hL; clear hL
 have HB0 := Lib.hid hb0; clear hb0
 have HB0w := Lib.hid hb0w; clear hb0w
 have HZ := Lib.hid hz; clear hz
 go_wp2_with fail
 refine ht.mono ?_
 rintro e w2 ⟨F, rfl, hT, hb2⟩
 clear ht
 have hs2 : w1.heap.size + 1 ≤ w2.heap.size := by rw [← HZ.out]; exact hb2.size
 have hb12 : Below w1.heap.size w1 w2 := HB0.out.trans (hb2.mono (by omega))
 have hbo2 := (hb2.block w1.heap.size (by omega)).trans hbo
 have hbw2 : Below w.heap.size w w2 := HL.out.bel.trans (hb12.mono HL.out.bel.size)
 obtain ⟨r, n, hR, hF⟩ := hT
 have HR := Lib.hid hR
 have HBW2 := Lib.hid hbw2
 clear hF hbo hbw2
 have htof : TrieOf list Tr := ⟨fun q => by rw [HL.out.N q, List.take_length], fun q => by rw [HL.out.V q, List.take_length]⟩
 have HTO := Lib.hid htof; clear htof
 cases r with
 | none =>
  have hm := meet72N_any (w1.heap.size + 1) bl (.int .i64 n) (.func (.func 73) #[] #[.pointer (some ⟨w1.heap.size, 0, none⟩)]) w2 hR.row
  clear hR
  go_wp2_with fail
  refine hm.mono ?_
  rintro e w3 ⟨rfl, hb3⟩
  have k1 := (hb3.block w1.heap.size (by omega)).trans hbo2
  have c0 := (cell_row (j := 0) k1).trans (show _ = some (Value.slice none 0 0) from rfl)
  clear hm
  go_wp2
  go_ret
  exact ⟨_, [], rfl, Own.nil _ _ _, ⟨Tr, [], HTO.out, all_none HR.out, rfl⟩, bel2 HBW2.out hb3⟩
 | some T =>
  obtain ⟨q1, q2, q3, q4, q5⟩ := hR.at' T rfl
  have hent : ∀ e ∈ T.ents, ∃ d ∈ ds, e.1 = bs d.subj := fun e he => ent_sub hR (Nat.le_refl _) he
  have htw : TreeV w2 T (w1.heap.size + 1) n := ⟨hR.row, q1, q3, q2, fun e he => by obtain ⟨d, hd', e2⟩ := hent e he; have := (HDS.out.sub d hd').2.2; rw [e2, bs_len]; omega, q4⟩
  have hlbl : bl < w1.heap.size := (Array.getElem?_eq_some_iff.1 HL.out.head).1
  have hK : (ixM 0 w1.heap.size bl list.length Tr FT m).K w2 := (ixM_ok 0 w1.heap.size bl list.length Tr FT m).keep w1 w2 ⟨HL.out.head, HL.out.ok, fun x hx => (HL.out.range x hx).2, HL.out.nb⟩ fun x hx => by
   rcases hx with rfl | hx
   ·exact hb12.block _ hlbl
   ·exact hb12.block _ (HL.out.range x hx).2
  have hm := meet72_any (w1.heap.size + 1) w1.heap.size bl list.length Tr FT m T n w2 htw (by have := ents_le hR (Nat.le_refl _); have := HDS.out.len; omega) (fun e he => by obtain ⟨d, hd', e2⟩ := hent e he; rw [e2, mk_bs]; exact HG.out d hd')
   hbo2 hK (fun x hx => by have := q5 x hx; omega) (fun hx => by have := (HL.out.range _ hx).2; omega)
  clear hR q1 q2 q3 q4 q5 htw hent hK
  go_wp2_with fail
  refine hm.mono ?_
  rintro e w3 ⟨rfl, o', k1, k2, k3⟩
  have c0 := (cell_row (j := 0) k1).trans (show _ = some o' from rfl)
  obtain ⟨oa, oc, rfl, -⟩ := k2.form
  have K2 := Lib.hid k2; clear k2
  have K3 := Lib.hid k3; clear k3
  clear hm
  go_wp2
  go_ret
  have hws := HL.out.bel.size
  exact ⟨_, metF Tr T.ents, rfl, K2.out.mono (by omega), ⟨Tr, T.ents, HTO.out, all_ents HR.out, rfl⟩, HBW2.out.trans (K3.out.below (fun x hx => by rcases hx with rfl | rfl <;> omega) (by omega))⟩
end Go.Proofs.YtehlmjecbljafaaGreatDoor
namespace Go.Proofs.YtehlmjecbljafaaGreatDoor
open Go Go.RowKit
theorem has_of_match (T : Trie) : ∀ (P l p : Path), P ≠ [] → (∀ q, q <+: P → q ≠ [] → T.N (p ++ q)) → 0 < T.V (p ++ P) → matchT l P = true → hasT T p l
 | [], _, _, h, _, _, _ => absurd rfl h
 | q :: P, [], p, _, _, _, hm => by simp [matchT] at hm
 | q :: P, t :: l, p, _, hN, hV, hm => by
  have h1 : T.N (p ++ [q]) := hN [q] (by simp) (by simp)
  rw [hasT]
  by_cases h62 : q = [62]
  ·exact .inl (h62 ▸ h1)
  ·rw [matchT, if_neg h62] at hm
   by_cases hc : q ≠ [42] ∧ q ≠ t
   ·rw [if_pos hc] at hm; cases hm
   ·rw [if_neg hc] at hm
    have key : if l = [] then 0 < T.V (p ++ [q]) else hasT T (p ++ [q]) l := by
     by_cases hl : l = []
     ·subst hl
      rw [if_pos rfl]
      cases P with
      | nil => exact hV
      | cons a b => simp [matchT] at hm
     ·rw [if_neg hl]
      have hP : P ≠ [] := by
       rintro rfl
       cases l with
       | nil => exact hl rfl
       | cons a b => simp [matchT] at hm
      refine has_of_match T P l (p ++ [q]) hP (fun x hx _ => ?_) (by rw [List.append_assoc]; exact hV) hm
      rw [List.append_assoc]
      exact hN ([q] ++ x) (by obtain ⟨y, hy⟩ := hx; exact ⟨y, by rw [← hy]; simp⟩) (by simp)
    by_cases h42 : q = [42]
    ·subst h42; exact .inr (.inl ⟨h1, key⟩)
    ·have : q = t := by by_cases e : q = t; exact e; exact absurd ⟨h42, e⟩ hc
     subst this
     exact .inr (.inr ⟨h1, key⟩)
end Go.Proofs.YtehlmjecbljafaaGreatDoor
namespace Go.Proofs.YtehlmjecbljafaaGreatDoor
open Go Go.RowKit
/-- A place in a list, or none. -/
def PlaceR (es : List (ByteArray × Int)) (i : Int) : Prop := i = -1 ∨ ∃ j : Nat, i = j ∧ j < es.length
set_option maxRecDepth 100000 in
set_option maxHeartbeats 3200000 in
theorem place_any (u : Value) (es : List (ByteArray × Int)) (s : ByteArray) (x : Int) (w : World) (hu : ItemsAt w u es) (hn : es.length ≤ 1000) :
  Calls Tryz.prog 105 #[u, .string s, .int .i64 x] w fun e w' => ∃ i : Int, e = .returned (.int .i64 i) ∧ PlaceR es i ∧ w' = w := by
 obtain ⟨ua, uc, rfl⟩ := Sl.form hu
 have HU := Lib.hid hu; clear hu
 go_enter Tryz.func105, Tryz.ntmps105
 go_wp2
 go_loop [7] (fun i => ∃ k : Nat, k ≤ es.length ∧ i = .int .i64 k) (fun i => es.length - (intOf i).toNat)
 case atStart => exact ⟨0, Nat.zero_le _, rfl⟩
 case round =>
  obtain ⟨k, hk, rfl⟩ := hrel
  by_cases hlt : k < es.length
  ·obtain ⟨b, o, d, rfl, Hd, c0, c1⟩ := HU.out.at' (Below.refl _ _) hlt
   cases hcmp : (d.1.toList == s.toList) with
   | false =>
    go_wp2
    go_round
    case rel => exact ⟨k + 1, hlt, by go_num⟩
    case measure => simp [intOf] <;> omega
   | true =>
    cases hc2 : (d.2 == x) with
    | true =>
     go_wp2
     go_ret
     exact ⟨_, rfl, .inr ⟨k, rfl, hlt⟩, rfl⟩
    | false =>
     go_wp2
     go_round
     case rel => exact ⟨k + 1, hlt, by go_num⟩
     case measure => simp [intOf] <;> omega
  ·go_wp2
   go_ret
   exact ⟨_, rfl, .inl rfl, rfl⟩
end Go.Proofs.YtehlmjecbljafaaGreatDoor
