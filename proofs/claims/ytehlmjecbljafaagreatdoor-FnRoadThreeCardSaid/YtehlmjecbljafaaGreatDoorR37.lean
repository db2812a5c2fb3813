/- A subject tree: Match, and what is found by deeds and a filter. The tree's filters: the match of any tree, and what is found by deeds and a filter. The tree's filters: what is found by deeds and a filter. The tree is walked in order: whole trees, and what deeds leave. The meeting of a tree and a list of interest: is there interest below. The meeting of a tree and a list of interest: a leaf. -/
import Derived.Test.YtehlmjecbljafaaGreatDoorR14
import Derived.Test.YtehlmjecbljafaaGreatDoorR17
import Derived.Test.YtehlmjecbljafaaGreatDoorR21
import Derived.Test.YtehlmjecbljafaaGreatDoorR34
import Derived.Test.YtehlmjecbljafaaGreatDoorR35
import Derived.Test.YtehlmjecbljafaaGreatDoorR36
namespace Go.Proofs.YtehlmjecbljafaaGreatDoor
open Go Go.RowKit
theorem gB_len : ∀ (n : Nat) (l run : List UInt8), l.length ≤ n → (gB run l).length ≤ l.length + 1
 | _, [], run, _ => by rw [gB]; split <;> simp
 | 0, c :: l, run, hl => by simp at hl
 | n + 1, c :: l, run, hl => by
  simp only [List.length_cons] at hl
  rw [gB]
  split
  ·rename_i h
   have h1 : 0 < l.length := by
    cases l with
    | nil => simp at h
    | cons a r => simp
   have ih := gB_len n (l.drop 2) [] (by rw [List.length_drop]; omega)
   rw [List.length_drop] at ih
   simp only [List.length_cons]
   omega
  ·split
   ·simp
   ·split
    ·have ih := gB_len n (l.drop 1) [] (by rw [List.length_drop]; omega)
     rw [List.length_drop] at ih
     simp only [List.length_cons]
     omega
    ·split
     ·simp
     ·have ih := gB_len n l (run ++ [c]) (by omega)
      simp only [List.length_cons]
      omega
theorem cbSome (w : World) (c : Array Value) : (binOp .eql 96 (.func (.func 55) #[] c) .nilFunc).run Tryz.prog w = .ok (.bool false) w := by kernel_rfl
end Go.Proofs.YtehlmjecbljafaaGreatDoor
namespace Go.Proofs.YtehlmjecbljafaaGreatDoor
open Go Go.RowKit
theorem matchOK (d : Nat) : MatchOK d := by
 induction d using Nat.strongRecOn with
 | _ d ih =>
  intro T C F r o n cap us ps pl ov cnt xs w t hd hM hT hc
  by_cases hF : ps.getLast? = some [62]
  ·exact match_yes d ih T C F r o n cap us ps pl ov cnt xs w t hd hM hT hc hF
  ·exact match_no d ih T C F r o n cap us ps pl ov cnt xs w t hd hM hT hc hF
theorem matchT_any (T : Art) (C : MCx) (F : Nat → Prop) (r o n cap : Nat) (us : List Value) (ps : List (List UInt8)) (pl : List UInt8) (ov : Value) (cnt : Nat) (xs : List Value) (w : World) (t : Value)
  (hM : MW C F r o n cap us ps pl ov cnt xs w) (hT : TW C F r T pl.length w) (hc : cnt + T.ents.length ≤ 100000) :
  Calls Tryz.prog 92 #[t, T.ref, .slice (some ⟨r, o, none⟩) n cap, .slice (some ⟨C.Bp, 0, none⟩) pl.length 256, .func (.func 93) #[] #[.pointer (some ⟨C.Bc, 0, none⟩)]] w fun e w' => e = .returned (.bool true) ∧ MP C r o n pl.length ov cnt xs ((fnd T ps).map (shift pl)) w w' := by
 obtain ⟨d, hd⟩ := T.deep
 exact matchOK d T C F r o n cap us ps pl ov cnt xs w t hd hM hT hc
/-- What is said of a tree that is matched whole. -/
structure TreeW (w : World) (T : Art) (b : Nat) (n : Int) : Prop where
 row : w.heap[b]? = some (.cells #[T.ref, .int .i64 n] 139 (0, 0))
 at' : T.At w
 wf : T.WF
 sep : T.Sep
 len : T.ents.length ≤ 100000
 fits : ∀ e ∈ T.ents, e.1.length ≤ 256
 fine : Fine T
set_option maxRecDepth 100000 in
set_option maxHeartbeats 3200000 in
theorem match54F_any (b Bo : Nat) (T : Art) (n : Int) (bf cf : Nat) (f : List UInt8) (w : World) (hT : TreeW w T b n)
  (hW : WildB f) (hf : BsAt w bf 0 f) (hcap : f.length ≤ cf) (hm : cf ≤ maxLen) (hfl : f.length ≤ 100000) (hPB : PartsB (gB [] f)) (hgl0 : 0 < (gB [] f).length) (hgp : ∀ p ∈ gB [] f, p.length ≤ 100000)
  (hBo : w.heap[Bo]? = some (.cells #[.slice none 0 0] 41 (0, 0))) (hfp : ∀ x, T.Fp x → x ≠ Bo ∧ x ≠ bf) (hbo : bf ≠ Bo) :
  Calls Tryz.prog 54 #[.pointer (some ⟨b, 0, none⟩), .slice (some ⟨bf, 0, none⟩) f.length cf, .func (.func 55) #[] #[.pointer (some ⟨Bo, 0, none⟩)]] w fun e w' => e = .returned (.tuple #[]) ∧ ∃ o', w'.heap[Bo]? = some (.cells #[o'] 41 (0, 0)) ∧
   Own w' (Bo + 1) 2 o' (fnd T (gB [] f)).length (outC (fnd T (gB [] f))) ∧ Below Bo w w' := by
 have hlb := (Array.getElem?_eq_some_iff.1 hT.row).1
 have hlo := (Array.getElem?_eq_some_iff.1 hBo).1
 have ct := (cell_row (j := 0) hT.row).trans (show _ = some T.ref from rfl)
 have hf0 : 0 < f.length := List.length_pos_iff.2 hW.ne
 have hbf : bf < w.heap.size := World.block_lt_of_cell? _ _ (hf 0 _ (List.getElem?_eq_getElem hf0))
 have ef0 : ((f.length : Int) == 0) = false := by rw [beq_eq_false_iff_ne]; omega
 have HT := Lib.hid hT; clear hT
 have qF : ∀ w, (binOp .eql 96 (.func (.func 55) #[] #[.pointer (some ⟨Bo, 0, none⟩)]) .nilFunc).run Tryz.prog w = .ok (.bool false) w := fun w => cbSome w _
 obtain ⟨rt, rb, hrf⟩ := T.ref_form
 have qN : ∀ w, (binOp .eql 137 (.iface rt (.pointer (some ⟨rb, 0, none⟩))) .nilIface).run Tryz.prog w = .ok (.bool false) w := fun w => by have h := refNe1 T w; rw [hrf] at h; exact h
 rw [hrf] at ct
 have HRF := Lib.hid hrf; clear hrf
 go_enter Tryz.func54, Tryz.ntmps54
 go_wp2_with fail
 have hz2 : ((w.alloc (.cells #[.func (.func 55) #[] #[.pointer (some ⟨Bo, 0, none⟩)]] 96)).alloc (.cells (Array.replicate 32 (Value.slice none 0 0)) 140)).heap.size = w.heap.size + 2 := by simp
 have hr1 : ((w.alloc (.cells #[.func (.func 55) #[] #[.pointer (some ⟨Bo, 0, none⟩)]] 96)).alloc (.cells (Array.replicate 32 (Value.slice none 0 0)) 140)).heap[w.heap.size + 1]? = some (.cells (Array.replicate 32 (Value.slice none 0 0)) 140 (0, 0)) := by
  have := heap_alloc_new (w.alloc (.cells #[.func (.func 55) #[] #[.pointer (some ⟨Bo, 0, none⟩)]] 96)) (.cells (Array.replicate 32 (Value.slice none 0 0)) 140)
  rw [show (w.alloc (.cells #[.func (.func 55) #[] #[.pointer (some ⟨Bo, 0, none⟩)]] 96)).heap.size = w.heap.size + 1 by simp] at this
  exact this
 have hown32 : Own ((w.alloc (.cells #[.func (.func 55) #[] #[.pointer (some ⟨Bo, 0, none⟩)]] 96)).alloc (.cells (Array.replicate 32 (Value.slice none 0 0)) 140)) (w.heap.size + 1) 1 (.slice (some ⟨w.heap.size + 1, 0, none⟩) 0 32) 0 [] :=
  ⟨rfl, .inr ⟨w.heap.size + 1, 32, Array.replicate 32 (Value.slice none 0 0), 140, rfl, Nat.le_refl _, hr1, by omega, by decide, by simp, rfl⟩⟩
 have hbel : Below w.heap.size w ((w.alloc (.cells #[.func (.func 55) #[] #[.pointer (some ⟨Bo, 0, none⟩)]] 96)).alloc (.cells (Array.replicate 32 (Value.slice none 0 0)) 140)) := ((Below.refl _ w).alloc (Nat.le_refl _) _).alloc (by simp) _
 have hcb : ((w.alloc (.cells #[.func (.func 55) #[] #[.pointer (some ⟨Bo, 0, none⟩)]] 96)).alloc (.cells (Array.replicate 32 (Value.slice none 0 0)) 140)).heap[w.heap.size]? = some (.cells #[.func (.func 55) #[] #[.pointer (some ⟨Bo, 0, none⟩)]] 96 (0, 0)) := by
  rw [((Below.refl (w.heap.size + 1) (w.alloc (.cells #[.func (.func 55) #[] #[.pointer (some ⟨Bo, 0, none⟩)]] 96))).alloc (by simp) _).block w.heap.size (by omega)]
  exact heap_alloc_new w _
 refine (genPartsF_any bf 0 cf f _ (w.heap.size + 1) _ hW (hf.bel hbel) hcap hm hown32 (by omega) (by rw [hz2]; omega) hfl).mono ?_
 rintro e w1 ⟨u, rfl, us, hou, hpf, hb1⟩
 have HUL := Lib.hid (show us.length = (gB [] f).length from hpf.1)
 have hul0 : 0 < us.length := by have := HUL.out; omega
 have hpv : ∃ g cap, u = .slice (some ⟨g, 0, none⟩) us.length cap ∧ w.heap.size + 1 ≤ g ∧ PV w1 g 0 cap us := by
  rcases hou.2 with ⟨-, h0⟩ | ⟨g, cap, cur, ty, rfl, h1, h2, h3, h4, h5, h6⟩
  ·omega
  ·refine ⟨g, cap, rfl, h1, ⟨⟨cur, ty, h2, by omega, fun j x hx => ?_⟩, h3, h4⟩⟩
   have hx2 : (cur.toList.take (us.length * 1))[j]? = some x := by rw [h6]; exact hx
   rw [List.getElem?_take] at hx2
   split at hx2
   ·simpa using hx2
   ·cases hx2
 obtain ⟨g, cap, rfl, hg1, hpv⟩ := hpv
 have hsz1 := hb1.size
 rw [hz2] at hsz1
 have hcb1 : w1.heap[w.heap.size]? = some (.cells #[.func (.func 55) #[] #[.pointer (some ⟨Bo, 0, none⟩)]] 96 (0, 0)) := (hb1.block w.heap.size (by omega)).trans hcb
 have hb2 : Below w.heap.size w w1 := hbel.trans (hb1.mono (by omega))
 have hpf1 : PartsF w1 bf us (gB [] f) := hpf.keep (hb1.block bf (by omega))
 have hgl : us.length ≤ 200000 := by have := gB_len f.length f [] (Nat.le_refl _); have := HUL.out; omega
 have hglt := hpv.lt
 clear hown32 hcb hbel hb1 hpf hz2 hou hr1
 go_wp2
 refine wp_any (fun W => (∃ cur, W.heap[w1.heap.size]? = some (.cells cur 143 (0, 0)) ∧ cur.size = 256) ∧ Below w1.heap.size w1 W ∧ w1.heap.size + 1 ≤ W.heap.size) ⟨⟨_, heap_alloc_new _ _, rfl⟩, (Below.refl _ w1).alloc (Nat.le_refl _) _, by simp⟩ ?_
 rintro W ⟨hbuf, hbW, hzW⟩
 have hW2 := bel2 hb2 hbW
 have hTW := HT.out
 have hrowW := (hW2.block b hlb).trans hTW.row
 have hBoW := (hW2.block Bo hlo).trans hBo
 have ctW := (cell_row (j := 0) hrowW).trans (show _ = some T.ref from rfl)
 rw [HRF.out] at ctW
 have hmw : MW ⟨bf, w1.heap.size, w.heap.size, Bo⟩ (fun k => T.Fp k ∨ k = bf ∨ k = g ∨ k = w.heap.size ∨ k = w1.heap.size) g 0 us.length cap us (gB [] f) [] (.slice none 0 0) 0 [] W.drew := by
  have hFlt := fun x hx => hTW.at'.lt x hx
  refine ⟨(hpv.keep (KeepTo.of (hbW.block g hglt))).keep (KeepTo.refl _ _ _), ?_, rfl, hPB, by omega, by omega, hgp, hbuf, (fun j c hj => by simp at hj), (hbW.block w.heap.size (by omega)).trans hcb1, hBoW, Own.nil _ _ _, (fun k hk => by cases hk), ?_, ?_, ?_⟩
  ·exact hpf1.keep (hbW.block bf (by omega))
  ·rintro k (h | rfl | rfl | rfl | rfl)
   ·have := hFlt k h; show k < W.heap.size; omega
   ·show _ < W.heap.size; omega
   ·show _ < W.heap.size; omega
   ·show _ < W.heap.size; omega
   ·show _ < W.heap.size; omega
  ·refine ⟨.inr (.inr (.inl rfl)), .inr (.inl rfl), .inr (.inr (.inr (.inr rfl))), .inr (.inr (.inr (.inl rfl))), ?_⟩
   rintro (h | h | h | h | h)
   ·exact (hfp Bo h).1 rfl
   ·exact hbo h.symm
   ·have h : Bo = g := h; omega
   ·have h : Bo = w.heap.size := h; omega
   ·have h : Bo = w1.heap.size := h; omega
  ·refine ⟨?_, ?_, ?_, ?_, ?_⟩ <;> (simp only [ne_eq]; omega)
 have htw : TW ⟨bf, w1.heap.size, w.heap.size, Bo⟩ (fun k => T.Fp k ∨ k = bf ∨ k = g ∨ k = w.heap.size ∨ k = w1.heap.size) g T 0 W.drew :=
  ⟨(hTW.at'.bel hW2).bel (Below.refl _ W).drew, hTW.wf, hTW.sep, fun x hx => ⟨.inl hx, by have := hTW.at'.lt x hx; show x ≠ w1.heap.size; omega, by have := hTW.at'.lt x hx; omega⟩, fun e he => by have := hTW.fits e he; omega, hTW.fine⟩
 have hm : Calls Tryz.prog 92 #[.pointer (some ⟨b, 0, none⟩), .iface rt (.pointer (some ⟨rb, 0, none⟩)), .slice (some ⟨g, 0, none⟩) us.length cap, .slice (some ⟨w1.heap.size, 0, none⟩) 0 256, .func (.func 93) #[] #[.pointer (some ⟨w.heap.size, 0, none⟩)]] W.drew fun e w' => e = .returned (.bool true) ∧ MP ⟨bf, w1.heap.size, w.heap.size, Bo⟩ g 0 us.length 0 (.slice none 0 0) 0 [] ((fnd T (gB [] f)).map (shift [])) W.drew w' := by
  rw [← HRF.out]
  exact matchT_any T _ _ g 0 us.length cap us (gB [] f) [] (.slice none 0 0) 0 [] W.drew (.pointer (some ⟨b, 0, none⟩)) hmw htw (by have := hTW.len; omega)
 have hmf : ∀ (fn : Fn) (first cap : Array Value) (w : World), (Instr.makeFunc fn first cap).run Tryz.prog w = .ok (.func fn first cap) w := fun _ _ _ _ => rfl
 clear hrowW hBoW hcb1 qF ct ef0 hf hW hmw htw hbuf hpv hpf1 hBo hTW
 refine wp_region_L [0, 1, 2, 3, 4, 5, 6] (fun W' => W'.cell? ⟨b, 0, none⟩ = some (.iface rt (.pointer (some ⟨rb, 0, none⟩)))) (by kernel_rfl) (by kernel_rfl) ctW (fun ne => ?_)
 have S0 := fun x : SubC (fun W' => W'.cell? ⟨b, 0, none⟩ = some (.iface rt (.pointer (some ⟨rb, 0, none⟩)))) => x.ok
 repeat (refine wpCL_q rfl rfl ?_; go_big_quiet_step (fail); refine wpQuiet_nil ?_)
 refine wpCL_n rfl rfl rfl rfl ?_
 go_simp
 repeat (refine wpCL_q rfl rfl ?_; go_big_quiet_step (fail); refine wpQuiet_nil ?_)
 refine wpCL_w rfl rfl ?_
 go_wp2
 refine ⟨⟨⟨W.drew, ctW⟩, rfl⟩, ?_⟩
 refine wpCL_last ?_
 go_wp2_with fail
 refine hm.mono ?_
 rintro e w3 ⟨rfl, o', k1, k2, k3, k4, -⟩
 have K1 := Lib.hid k1
 have K2 := Lib.hid k2
 have K4 := Lib.hid k4
 clear k1 k2 k3 k4 hm
 go_wp2
 go_end0
 have e0 : (fnd T (gB [] f)).map (shift []) = fnd T (gB [] f) := by
  rw [show shift [] = id from by funext e; rfl]; exact List.map_id _
 have k2 := K2.out
 rw [e0, Nat.zero_add, List.nil_append] at k2
 refine ⟨rfl, o', K1.out, k2, ?_⟩
 have hb3 : Below Bo w W.drew := (hW2.mono (by omega)).drew
 refine hb3.trans (K4.out.below (fun k hk => ?_) (by show Bo ≤ W.heap.size; omega))
 rcases hk with h | h | h | h
 ·exact Nat.le_of_eq h.symm
 ·have h : k = w1.heap.size := h; omega
 ·omega
 ·cases h
end Go.Proofs.YtehlmjecbljafaaGreatDoor
namespace Go.Proofs.YtehlmjecbljafaaGreatDoor
open Go Go.RowKit
set_option maxRecDepth 100000 in
set_option maxHeartbeats 1600000 in
theorem match54N_any (b : Nat) (x : Value) (v : Value) (Bo : Nat) (w : World) (hrow : w.heap[b]? = some (.cells #[.nilIface, x] 139 (0, 0))) :
  Calls Tryz.prog 54 #[.pointer (some ⟨b, 0, none⟩), v, .func (.func 55) #[] #[.pointer (some ⟨Bo, 0, none⟩)]] w fun e w' => e = .returned (.tuple #[]) ∧ Below w.heap.size w w' := by
 have ct := (cell_row (j := 0) hrow).trans (show _ = some Value.nilIface from rfl)
 have hlb := (Array.getElem?_eq_some_iff.1 hrow).1
 have qN : ∀ w, (binOp .eql 137 .nilIface .nilIface).run Tryz.prog w = .ok (.bool true) w := fun w => by kernel_rfl
 go_enter Tryz.func54, Tryz.ntmps54
 go_wp2
 exact bodyPost_ret (results_none rfl _ _ _) rfl ⟨rfl, (Below.refl _ w).alloc (Nat.le_refl _) _⟩
/-- What deeds and a filter find. -/
structure FoundIn (ds : List Deed) (f : List UInt8) (l : List Ent) : Prop where
 nd : (l.map (·.1)).Nodup
 mem : ∀ e : Ent, e ∈ l ↔ treeM ds e.1 = some e.2 ∧ okM (gB [] f) e.1
theorem gB_psm : ∀ (n : Nat) (l run : List UInt8), l.length ≤ n → ∀ p ∈ gB run l, p.length ≤ run.length + l.length
 | n, [], run, _, p, hp => by
  rw [gB] at hp
  split at hp
  ·cases hp
  ·rw [List.mem_singleton] at hp; subst hp; simp
 | 0, c :: l, run, hl, p, hp => by simp at hl
 | n + 1, c :: l, run, hl, p, hp => by
  simp only [List.length_cons] at hl ⊢
  rw [gB] at hp
  split at hp
  ·rename_i h
   have h1 : 0 < l.length := by
    cases l with
    | nil => simp at h
    | cons a r => simp
   rcases List.mem_cons.1 hp with rfl | hp
   ·rw [List.length_append, List.length_singleton]; omega
   ·rcases List.mem_cons.1 hp with rfl | hp
    ·simp only [List.length_cons, List.length_nil]; omega
    ·have := gB_psm n (l.drop 2) [] (by rw [List.length_drop]; omega) p hp
     rw [List.length_drop] at this; simp only [List.length_nil] at this; omega
  ·split at hp
   ·rename_i h
    have h1 : 0 < l.length := by
     cases l with
     | nil => simp at h
     | cons a r => simp
    simp only [List.mem_cons, List.not_mem_nil, or_false] at hp
    rcases hp with rfl | rfl
    ·rw [List.length_append, List.length_singleton]; omega
    ·simp only [List.length_cons, List.length_nil]; omega
   ·split at hp
    ·rcases List.mem_cons.1 hp with rfl | hp
     ·simp only [List.length_cons, List.length_nil]; omega
     ·have := gB_psm n (l.drop 1) [] (by rw [List.length_drop]; omega) p hp
      rw [List.length_drop] at this; simp only [List.length_nil] at this; omega
    ·split at hp
     ·rw [List.mem_singleton] at hp; subst hp; simp only [List.length_cons, List.length_nil]; omega
     ·have := gB_psm n l (run ++ [c]) (by omega) p hp
      rw [List.length_append, List.length_singleton] at this; omega
set_option maxRecDepth 100000 in
set_option maxHeartbeats 3200000 in
theorem treeMatchF_any (v : Value) (ds : List Deed) (fs : ByteArray) (w : World) (hd : DeedsAt w v ds) (hds : DeedsOK ds) (hop : ∀ d ∈ ds, d.op = 0 ∨ d.op = 1) (hfine : ∀ d ∈ ds, NoEnd (bs d.subj)) (hQ : ∀ b, TreeQ ds b b (ArtT ds b))
  (hW : WildB (bs fs)) (hPB : PartsB (gB [] (bs fs))) (hgl0 : 0 < (gB [] (bs fs)).length) (hfs : fs.size ≤ 100000) :
  Calls Tryz.prog 18 #[v, .string fs] w fun e w' => ∃ u l, e = .returned u ∧ Own w' w.heap.size 2 u l.length (outC l) ∧ FoundIn ds (bs fs) l ∧ Below w.heap.size w w' := by
 obtain ⟨va, vc, rfl⟩ := Sl.form hd
 have hz : (w.alloc (.cells #[.slice none 0 0] 41)).heap.size = w.heap.size + 1 := by simp
 have hbo := heap_alloc_new w (.cells #[.slice none 0 0] 41)
 have ht := tree2_any _ ds (ArtT ds (w.alloc (.cells #[.slice none 0 0] 41)).heap.size) (w.alloc (.cells #[.slice none 0 0] 41)) (Sl.keep hd ((Below.refl _ w).alloc (Nat.le_refl _) _))
  (fun x hx => ⟨hop x hx, by have := (hds.sub x hx).2.2; unfold maxLen; omega⟩) (by have := hds.len; omega) (hQ _) (artT0 ds _)
 rw [hz] at ht
 have hcv := fun (w : World) (s : ByteArray) => conv_bytes w s
 have hmf : ∀ (fn : Fn) (first cap : Array Value) (w : World), (Instr.makeFunc fn first cap).run Tryz.prog w = .ok (.func fn first cap) w := fun _ _ _ _ => rfl
 have hz0 : w.heap.size < (w.alloc (.cells #[.slice none 0 0] 41)).heap.size := by omega
 clear hz
 go_enter Tryz.func18, Tryz.ntmps18
 go_wp2_with fail
 refine ht.mono ?_
 rintro e w1 ⟨F, rfl, hT, hb1⟩
 have hs1 := hb1.size
 have hbo1 := (hb1.block w.heap.size (by omega)).trans hbo
 have h1 : Below w.heap.size w w1 := ((Below.refl _ w).alloc (Nat.le_refl _) _).trans (hb1.mono (by omega))
 obtain ⟨r, n, hR, hF⟩ := hT
 have HR := Lib.hid hR
 have HF := Lib.hid hF; clear hF
 have HOP := Lib.hid hop; clear hop
 have HFI := Lib.hid hfine; clear hfine
 clear ht
 have hbW := bytesWorld_below w1 fs
 have hlt := (Array.getElem?_eq_some_iff.1 hR.row).1
 cases r with
 | none =>
  have hrow2 := (hbW.block _ hlt).trans hR.row
  have hm := match54N_any (w.heap.size + 1) (.int .i64 n) (.slice (some ⟨w1.heap.size, 0, none⟩) fs.size (grownCap w1 fs.size 0 5)) w.heap.size (Lib.bytesWorld w1 5 fs) hrow2
  clear hR
  go_wp2_with fail
  refine hm.mono ?_
  rintro e w2 ⟨rfl, hb2⟩
  have hb3 := bel2 hbW hb2
  have k1 := (hb3.block w.heap.size (by omega)).trans hbo1
  have c0 := (cell_row (j := 0) k1).trans (show _ = some (Value.slice none 0 0) from rfl)
  clear hm
  go_wp2
  go_ret
  refine ⟨_, [], rfl, Own.nil _ _ _, ⟨List.nodup_nil, fun e => ⟨(fun h => by cases h), fun h => ?_⟩⟩, bel2 h1 hb3⟩
  have h2 := (HR.out.mem e).2 (by rw [List.take_length]; exact h.1)
  obtain ⟨T, hT, -⟩ := h2; cases hT
 | some T =>
  obtain ⟨q1, q2, q3, q4, q5⟩ := hR.at' T rfl
  have hent : ∀ e ∈ T.ents, ∃ d ∈ ds, e.1 = bs d.subj := fun e he => ent_sub hR (Nat.le_refl _) he
  have htw : TreeW (Lib.bytesWorld w1 5 fs) T (w.heap.size + 1) n := ⟨(hbW.block _ hlt).trans hR.row, q1.bel hbW, q3, q2, by have := ents_le hR (Nat.le_refl _); have := hds.len; omega,
   fun e he => by obtain ⟨d, hd', e2⟩ := hent e he; have := (hds.sub d hd').2.2; rw [e2, bs_len]; omega, fun e he => by obtain ⟨d, hd', e2⟩ := hent e he; rw [e2]; exact HFI.out d hd'⟩
  have hm := match54F_any (w.heap.size + 1) w.heap.size T n w1.heap.size (grownCap w1 fs.size 0 5) (bs fs) (Lib.bytesWorld w1 5 fs) htw hW (bytesWorld_at w1 fs) (by rw [bs_len]; exact grownCap_ge _ _ _ _) (grownCap_le_maxLen _ _ _ _ (by unfold maxLen; omega)) (by rw [bs_len]; omega) hPB hgl0
   (fun p hp => by have := gB_psm _ (bs fs) [] (Nat.le_refl _) p hp; rw [bs_len] at this; simp only [List.length_nil] at this; omega) ((hbW.block _ (by omega)).trans hbo1) (fun x hx => ⟨by have := q5 x hx; omega, by have := q1.lt x hx; omega⟩) (by omega)
  rw [bs_len] at hm
  clear hR q1 q2 q3 q4 q5 htw hent
  go_wp2_with fail
  refine hm.mono ?_
  rintro e w2 ⟨rfl, o', k1, k2, k3⟩
  have c0 := (cell_row (j := 0) k1).trans (show _ = some o' from rfl)
  obtain ⟨oa, oc, rfl, -⟩ := k2.form
  have K2 := Lib.hid k2; clear k2
  clear hm
  go_wp2
  go_ret
  refine ⟨_, fnd T (gB [] (bs fs)), rfl, K2.out.mono (by omega), ⟨?_, fun e => ?_⟩, (h1.trans (hbW.mono (by omega))).trans k3⟩
  ·have hnd := ents_nd (HR.out.at' T rfl).2.2.1
   unfold fnd
   exact (List.filter_sublist.map _).nodup hnd
  ·unfold fnd
   rw [List.mem_filter]
   have h2 := HR.out.mem e
   rw [List.take_length] at h2
   rw [← h2]
   simp only [decide_eq_true_eq]
   exact and_congr ⟨fun h => ⟨T, rfl, h⟩, fun ⟨T', e1, h⟩ => by cases e1; exact h⟩ Iff.rfl
end Go.Proofs.YtehlmjecbljafaaGreatDoor
namespace Go.Proofs.YtehlmjecbljafaaGreatDoor
open Go Go.RowKit
theorem iterOK (Bp Bo Bm d : Nat) : IterOK Bp Bo Bm d := by
 induction d using Nat.strongRecOn with
 | _ d ih =>
  intro T F pl ov cnt xs w t hd hM hT hc
  rcases T with ⟨L, v, s⟩ | ⟨k, nb, pre, nk, key, kid⟩
  ·refine (iterLeaf_any Bp Bo Bm F L v s pl ov cnt xs w t hM hT (by simp [Art.ents] at hc; omega)).mono ?_
   rintro e w' ⟨rfl, h⟩
   exact ⟨rfl, _, by simp [Art.ents, shift], h⟩
  ·exact iterNode_any Bp Bo Bm d ih k nb pre nk key kid F pl ov cnt xs w t hd hM hT hc
/-- What is said of a tree that is walked whole. -/
structure TreeV (w : World) (T : Art) (b : Nat) (n : Int) : Prop where
 row : w.heap[b]? = some (.cells #[T.ref, .int .i64 n] 139 (0, 0))
 at' : T.At w
 wf : T.WF
 sep : T.Sep
 fits : ∀ e ∈ T.ents, e.1.length ≤ 256
 nb : ¬ T.Fp b
set_option maxRecDepth 100000 in
set_option maxHeartbeats 3200000 in
theorem order70_any (b Bo Bm : Nat) (T : Art) (n : Int) (w : World) (hT : TreeV w T b n) (hlen : T.ents.length ≤ 99)
  (hBo : w.heap[Bo]? = some (.cells #[.slice none 0 0] 41 (0, 0))) (hBm : w.heap[Bm]? = some (.cells #[.int .i64 100] 3 (0, 0))) (hfp : ∀ x, T.Fp x → x ≠ Bo ∧ x ≠ Bm) :
  Calls Tryz.prog 70 #[.pointer (some ⟨b, 0, none⟩), .func (.func 71) #[] #[.pointer (some ⟨Bo, 0, none⟩), .pointer (some ⟨Bm, 0, none⟩)]] w fun e w' => e = .returned (.tuple #[]) ∧ ∃ o' l, w'.heap[Bo]? = some (.cells #[o'] 41 (0, 0)) ∧ l.Perm T.ents ∧
   Own w' (Bo + 1) 2 o' l.length (outC l) ∧ Below Bo w w' := by
 have hlb := (Array.getElem?_eq_some_iff.1 hT.row).1
 have hlo := (Array.getElem?_eq_some_iff.1 hBo).1
 have hlm := (Array.getElem?_eq_some_iff.1 hBm).1
 have hbo : b ≠ Bo := cells_ne hT.row hBo (by decide)
 have hmo : Bm ≠ Bo := fun e => by rw [e, hBo] at hBm; cases hBm
 have ct := (cell_row (j := 0) hT.row).trans (show _ = some T.ref from rfl)
 have HT := Lib.hid hT; clear hT
 obtain ⟨rt, rb, hrf⟩ := T.ref_form
 have qN : ∀ w, (binOp .eql 137 (.iface rt (.pointer (some ⟨rb, 0, none⟩))) .nilIface).run Tryz.prog w = .ok (.bool false) w := fun w => by have h := refNe1 T w; rw [hrf] at h; exact h
 rw [hrf] at ct
 have HRF := Lib.hid hrf; clear hrf
 go_enter Tryz.func70, Tryz.ntmps70
 go_wp2
 refine wp_any (fun W => (∃ cur, W.heap[w.heap.size]? = some (.cells cur 143 (0, 0)) ∧ cur.size = 256) ∧ Below w.heap.size w W ∧ w.heap.size + 1 ≤ W.heap.size) ⟨⟨_, heap_alloc_new _ _, rfl⟩, (Below.refl _ w).alloc (Nat.le_refl _) _, by simp⟩ ?_
 rintro W ⟨hbuf, hbW, hzW⟩
 have hTW := HT.out
 have hrowW := (hbW.block b hlb).trans hTW.row
 have hBoW := (hbW.block Bo hlo).trans hBo
 have hBmW := (hbW.block Bm hlm).trans hBm
 have ctW := (cell_row (j := 0) hrowW).trans (show _ = some T.ref from rfl)
 rw [HRF.out] at ctW
 have hFlt := fun x hx => hTW.at'.lt x hx
 have hiw : IW (ixO w.heap.size Bo Bm) (fun k => T.Fp k ∨ k = b ∨ k = Bm ∨ k = w.heap.size) [] (.slice none 0 0) 0 [] W.drew := by
  refine ⟨hbuf, (fun j c hj => by simp at hj), hBoW, Own.nil _ _ _, (fun k hk => by cases hk), ?_, .inr (.inr (.inr rfl)), ?_, fun x hx => ?_, hBmW, ixO_ok _ _ _⟩
  ·rintro k (h | rfl | rfl | rfl)
   ·have := hFlt k h; show k < W.heap.size; omega
   ·show _ < W.heap.size; omega
   ·show _ < W.heap.size; omega
   ·show _ < W.heap.size; omega
  ·rintro (h | h | h | h)
   ·exact (hfp Bo h).1 rfl
   ·exact hbo h.symm
   ·exact hmo h.symm
   ·have h : Bo = w.heap.size := h; omega
  ·have hx : x = Bm := hx
   subst hx
   exact ⟨.inr (.inr (.inl rfl)), by show x ≠ w.heap.size; omega⟩
 have hit : IT (ixO w.heap.size Bo Bm) (fun k => T.Fp k ∨ k = b ∨ k = Bm ∨ k = w.heap.size) T 0 W.drew :=
  ⟨(hTW.at'.bel hbW).bel (Below.refl _ W).drew, hTW.wf, hTW.sep, fun x hx => ⟨.inl hx, by have := hFlt x hx; show x ≠ w.heap.size; omega, id⟩, fun e he => by have := hTW.fits e he; omega⟩
 obtain ⟨dd, hdd⟩ := T.deep
 have hm : Calls Tryz.prog 106 #[.pointer (some ⟨b, 0, none⟩), .iface rt (.pointer (some ⟨rb, 0, none⟩)), .slice (some ⟨w.heap.size, 0, none⟩) 0 256, .bool true, .func (.func 71) #[] #[.pointer (some ⟨Bo, 0, none⟩), .pointer (some ⟨Bm, 0, none⟩)]] W.drew fun e w' => e = .returned (.bool true) ∧ ∃ fs, fs.Perm (T.ents.map (shift [])) ∧ IP (ixO w.heap.size Bo Bm) 0 (.slice none 0 0) 0 [] fs W.drew w' := by
  rw [← HRF.out]
  exact iterOK _ _ _ dd T _ [] _ 0 [] W.drew (.pointer (some ⟨b, 0, none⟩)) hdd hiw hit (by omega)
 have HIW := Lib.hid hiw; clear hiw
 clear hit hdd hrowW hBoW hBmW ct hbuf hFlt
 have ctD : W.drew.cell? ⟨b, 0, none⟩ = some (.iface rt (.pointer (some ⟨rb, 0, none⟩))) := ctW
 go_region_held3 (fun w1 => w1.cell? ⟨b, 0, none⟩ = some (.iface rt (.pointer (some ⟨rb, 0, none⟩)))) (first | exact x1 | exact ctD) (first
  | (go_at_call 106; refine hm.mono ?_; rintro e w5 ⟨rfl, fs, hfs, hip⟩; have x1 := (show w5.cell? ⟨b, 0, none⟩ = some (.iface rt (.pointer (some ⟨rb, 0, none⟩))) from by obtain ⟨ov', h5⟩ := hip; exact cell_only ctD h5.only (HIW.out.bo (.inr (.inl rfl)) (by show b ≠ w.heap.size; omega) id))))
 clear hm
 go_wp2
 go_end0
 obtain ⟨o', h5⟩ := hip
 have e0 : T.ents.map (shift []) = T.ents := by
  rw [show shift [] = id from by funext e; rfl]; exact List.map_id _
 rw [e0] at hfs
 have k2 := h5.own
 rw [Nat.zero_add, List.nil_append] at k2
 refine ⟨rfl, o', fs, h5.out, hfs, k2, ?_⟩
 have hb3 : Below Bo w W.drew := (hbW.mono (by omega)).drew
 refine hb3.trans (h5.only.below (fun k hk => ?_) (by show Bo ≤ W.heap.size; omega))
 rcases hk with h | h | h | h
 ·exact Nat.le_of_eq h.symm
 ·have h : k = w.heap.size := h; omega
 ·exact h.elim
 ·cases h
end Go.Proofs.YtehlmjecbljafaaGreatDoor
namespace Go.Proofs.YtehlmjecbljafaaGreatDoor
open Go Go.RowKit
set_option maxRecDepth 100000 in
set_option maxHeartbeats 800000 in
theorem toString_any (a : Option Addr) (n cap : Nat) (l : List UInt8) (w : World) (hv : Sl w 1 (.slice a n cap) n (u8s l)) : Calls Tryz.prog 152 #[.slice a n cap] w fun e w' => e = .returned (.string (mk l)) ∧ w' = w := by
 have hc := conv_text hv
 clear hv
 go_enter Tryz.func152, Tryz.ntmps152
 go_wp2
 go_ret
 exact ⟨rfl, rfl⟩
theorem BsAt.take {w : World} {b : Nat} {l : List UInt8} (h : BsAt w b 0 l) (i : Nat) : BsAt w b 0 (l.take i) := fun j c hj => h j c (by
 rw [List.getElem?_take] at hj
 split at hj
 ·exact hj
 ·cases hj)
set_option maxRecDepth 100000 in
set_option maxHeartbeats 3200000 in
theorem forTokens_any (Bp b : Nat) (l : List UInt8) (since : Nat) (c : Int) (T : Trie) (F : Nat → Prop) (n : Nat) (w : World) (hb : w.heap[b]? = some (.cells (gslCells (T.aL []) c) 178 (0, 0))) (hT : TrieOK T F n w) (hF : ∀ k, F k → k < w.heap.size) (hFb : ¬ F b)
  (hl : BsAt w Bp 0 l) (hpb : Bp ≠ b) (hlen : l.length ≤ 256) (hsi : since ≤ l.length) (hlit : ∀ i, l[i]? = some 46 → ∀ t ∈ splitDot (l.take i), t ≠ [42] ∧ t ≠ [62]) :
  Calls Tryz.prog 153 #[.pointer (some ⟨b, 0, none⟩), .slice (some ⟨Bp, 0, none⟩) l.length 256, .int .i64 since] w fun e w' => ∃ bl, e = .returned (.bool bl) ∧ (bl = false → ∃ i, l[i]? = some 46 ∧ ¬ startT T [] (splitDot (l.take i))) ∧ Only (· = b) w w' ∧ w'.heap[b]? = w.heap[b]? := by
 have HL := Lib.hid hlit; clear hlit
 have HT := Lib.hid hT; clear hT
 have HF := Lib.hid hF; clear hF
 have HB := Lib.hid hb; clear hb
 have HBS := Lib.hid hl; clear hl
 go_enter Tryz.func153, Tryz.ntmps153
 go_wp2
 go_loopw [7] (fun i wr => ∃ k : Nat, k ≤ l.length ∧ i = .int .i64 k ∧ Only (· = b) w wr ∧ wr.heap[b]? = w.heap[b]?) (fun i _ => l.length - (intOf i).toNat)
 case atStart => exact ⟨since, hsi, rfl, Only.refl _ _, rfl⟩
 case round =>
  obtain ⟨k, hk, rfl, ho, hbb⟩ := hrel
  by_cases hlt : k < l.length
  ·have hx : l[k]? = some l[k] := List.getElem?_eq_getElem hlt
   have hbs : BsAt wr Bp 0 l := fun j c hj => cell_only (HBS.out j c hj) ho hpb
   have hck : wr.cell? ⟨Bp, k, none⟩ = some (.int .u8 (l[k].toNat : Int)) := by have := hbs k _ hx; rwa [Nat.zero_add] at this
   have HO := Lib.hid ho; clear ho
   have HBB := Lib.hid hbb; clear hbb
   by_cases hc : l[k] = 46
   ·have hcb : (((l[k]).toNat : Int) == 46) = true := by rw [hc]; rfl
    have hsl : Sl wr 1 (.slice (some ⟨Bp, 0, none⟩) k 256) k (u8s (l.take k)) := (hbs.take k).sl (by rw [List.length_take]; omega) (by omega) (by decide)
    have hts := toString_any _ _ _ (l.take k) wr hsl
    have hT4 := HT.out.keep (w' := wr) fun x hx => HO.out.block x (HF.out x hx) (fun e => hFb (e ▸ hx))
    have hsi := startIn_any b (mk (l.take k)) c T F n wr (HBB.out.trans HB.out) hT4 (fun x hx => Nat.lt_of_lt_of_le (HF.out x hx) HO.out.size) hFb (fun t ht => by
     unfold toks at ht
     rw [bs_mk] at ht
     obtain ⟨t', h1, rfl⟩ := List.mem_map.1 ht
     rw [bs_mk]
     exact HL.out k (hc ▸ hx) t' h1) (by rw [mk_size, List.length_take]; omega)
    rw [toks_bs, bs_mk] at hsi
    have HX := Lib.hid (show l[k]? = some 46 from hc ▸ hx)
    clear hsl hT4 hbs hx hc
    go_wp2_with fail
    refine hts.mono ?_
    rintro e w2 ⟨rfl, rfl⟩
    clear hts
    go_wp2_with fail
    refine hsi.mono ?_
    rintro e w3 ⟨bl, rfl, hbl, ho3, hb3⟩
    have HO3 := Lib.hid (HO.out.trans ho3 fun x hx => .inl hx)
    have HB3 := Lib.hid (hb3.trans HBB.out)
    have HBL := Lib.hid hbl
    clear hsi ho3 hb3 hbl hck
    cases bl with
    | true =>
     go_wp2
     go_roundw
     case rel => exact ⟨k + 1, hlt, by go_num, HO3.out, HB3.out⟩
     case measure => simp [intOf]; omega
    | false =>
     go_wp2
     go_ret
     exact ⟨false, rfl, fun _ => ⟨k, HX.out, fun h => by have := HBL.out.2 h; simp at this⟩, HO3.out, HB3.out⟩
   ·have hcb : (((l[k]).toNat : Int) == 46) = false := by
     rw [beq_eq_false_iff_ne]; intro e; exact hc (UInt8.toNat_inj.1 (show (l[k]).toNat = 46 by omega))
    clear hc hbs hx
    go_wp2
    go_roundw
    case rel => exact ⟨k + 1, hlt, by go_num, HO.out, HBB.out⟩
    case measure => simp [intOf]; omega
  ·go_wp2
   go_ret
   exact ⟨true, rfl, (fun h => by cases h), ho, hbb⟩
end Go.Proofs.YtehlmjecbljafaaGreatDoor
namespace Go.Proofs.YtehlmjecbljafaaGreatDoor
open Go Go.RowKit
/-- The blocks of the meeting. -/
def ixM (Bp Bo b : Nat) (c : Int) (Tr : Trie) (FT : Nat → Prop) (n : Nat) : IX :=
 ⟨Bp, Bo, fun x => x = b ∨ FT x, (· = b), fun w => w.heap[b]? = some (.cells (gslCells (Tr.aL []) c) 178 (0, 0)) ∧ TrieOK Tr FT n w ∧ (∀ k, FT k → k < w.heap.size) ∧ ¬ FT b⟩
theorem ixM_ok (Bp Bo b : Nat) (c : Int) (Tr : Trie) (FT : Nat → Prop) (n : Nat) : (ixM Bp Bo b c Tr FT n).OK := by
 refine ⟨fun w w' h hk => ⟨(hk b (.inl rfl)).trans h.1, h.2.1.keep fun x hx => hk x (.inr hx), fun k hF => ?_, h.2.2.2⟩, fun x hx => .inl hx⟩
 have h1 : w'.heap[k]? = w.heap[k]? := hk k (.inr hF)
 rw [Array.getElem?_eq_getElem (h.2.2.1 k hF)] at h1
 exact (Array.getElem?_eq_some_iff.1 h1).1
section
variable {C : IX} {F : Nat → Prop} {pl : List UInt8} {ov : Value} {cnt : Nat} {xs : List Value} {w w' : World} {m : Nat} {T : Art}
/-- What stands by has turned and turned back. -/
theorem IP.still (h : IW C F pl ov cnt xs w) (ho : Only C.X w w') (hK : C.K w') : IP C m ov cnt xs [] w w' := by
 have hlo := (Array.getElem?_eq_some_iff.1 h.out).1
 have hX : ∀ x, C.X x → F x ∧ x ≠ C.Bp := fun x hx => h.kf x (h.ok.sub x hx)
 exact ⟨ov, (ho.block _ hlo (fun e => h.fo (hX _ e).1)).trans h.out, by simpa [outC] using h.own.only ho (fun k hk e => h.sep k hk (hX _ e).1), fun k hk => .inl hk, ho.mono fun k hk => .inr (.inr (.inl hk)), KeepTo.of (ho.block _ (h.lt _ h.fp) (fun e => (hX _ e).2 rfl)), hK⟩
theorem IW.shorter {s : List UInt8} (h : IW C F (pl ++ s) ov cnt xs w) : IW C F pl ov cnt xs w :=
 ⟨h.buf, fun j c hj => h.pre j c (by rw [List.getElem?_append_left (List.getElem?_eq_some_iff.1 hj).1]; exact hj), h.out, h.own, h.sep, h.lt, h.fp, h.fo, h.kf, h.k, h.ok⟩
end
open Classical in
/-- Entries that meet interest. -/
noncomputable def metF (Tr : Trie) (l : List Ent) : List Ent := l.filter fun e => decide (hasT Tr [] (splitDot e.1))
section
variable {Bp Bo b : Nat} {c : Int} {Tr : Trie} {FT : Nat → Prop} {n : Nat} {F : Nat → Prop} {pl : List UInt8} {ov : Value} {cnt : Nat} {xs : List Value} {w : World}
theorem cbI (h : IW (ixM Bp Bo b c Tr FT n) F pl ov cnt xs w) {L : Nat} {v : Int} {s : List UInt8} (hl : w.heap[L]? = some (.cells #[.int .i64 v, .string (mk s)] 199 (0, 0))) (hL : F L ∧ L ≠ Bp ∧ L ≠ b) (hroom : pl.length + s.length ≤ 256) (hcnt : cnt < 549755813888)
  (h2 : BsAt w Bp 0 (pl ++ s)) :
  Calls Tryz.prog 73 #[.slice (some ⟨Bp, 0, none⟩) (pl.length + s.length) 256, .pointer (some ⟨L, 0, none⟩), .pointer (some ⟨Bo, 0, none⟩)] w fun e w' => e = .returned (.bool true) ∧ IP (ixM Bp Bo b c Tr FT n) pl.length ov cnt xs [(pl ++ s, v)] w w' := by
 obtain ⟨⟨q1, q2, q3, q4, q5, q6, q7, q8⟩, hend⟩ := leafI h hl ⟨hL.1, hL.2.1, hL.2.2⟩ hroom h.buf h2 (Only.refl _ w)
 refine (cb73_any _ (pl ++ s) L 0 v Bo ov cnt xs (fun k => k < w.heap.size ∧ ov.ownBlock ≠ some k) w q1 q2 q4 q5 q6 (fun k hk => hk.1) hcnt q8 (fun b o n c e => by cases e; exact q7)).mono ?_
 rintro e w' ⟨rfl, o', k1, k2, k3, k4⟩
 exact ⟨rfl, hend w' o' k1 k2 k3 k4⟩
end
set_option maxRecDepth 100000 in
set_option maxHeartbeats 3200000 in
theorem meetLeaf_any (Bp Bo b : Nat) (c : Int) (Tr : Trie) (FT : Nat → Prop) (n : Nat) (F : Nat → Prop) (L : Nat) (v : Int) (s : List UInt8) (pl : List UInt8) (ov : Value) (cnt : Nat) (xs : List Value) (w : World)
  (hM : IW (ixM Bp Bo b c Tr FT n) F pl ov cnt xs w) (hT : IT (ixM Bp Bo b c Tr FT n) F (.leaf L v s) pl.length w) (hg : GoodS (mk (pl ++ s))) (hcn : cnt < 100000) :
  Calls Tryz.prog 107 #[(Art.leaf L v s).ref, .slice (some ⟨Bp, 0, none⟩) pl.length 256, .pointer (some ⟨b, 0, none⟩), .func (.func 73) #[] #[.pointer (some ⟨Bo, 0, none⟩)]] w fun e w' => e = .returned (.bool true) ∧ IP (ixM Bp Bo b c Tr FT n) pl.length ov cnt xs (metF Tr [(pl ++ s, v)]) w w' := by
 have hat : w.heap[L]? = some (.cells #[.int .i64 v, .string (mk s)] 199 (0, 0)) := hT.at'
 have hroom : pl.length + s.length ≤ 256 := hT.room
 have iL : ∀ w, (method 508 197 (.pointer (some ⟨L, 0, none⟩)) "pub-tokenroad/pub/natsserver/server/stree.isLeaf").run Tryz.prog w = .ok (291, .pointer (some ⟨L, 0, none⟩)) w := fun w => isLeafM _ w
 have iA : ∀ w, (Instr.typeAssert (.iface 197 (.pointer (some ⟨L, 0, none⟩))) 137 197 false).run Tryz.prog w = .ok (.pointer (some ⟨L, 0, none⟩)) w := fun w => leafAs _ w
 have hLF : F L ∧ L ≠ Bp ∧ L ≠ b := ⟨(hT.fp L rfl).1, (hT.fp L rfl).2.1, (hT.fp L rfl).2.2⟩
 have hms : (mk s).size = s.length := mk_size s
 have cs : w.cell? ⟨L, 1, none⟩ = some (Value.string (mk s)) := (cell_row (j := 1) hat).trans (show _ = some (Value.string (mk s)) from rfl)
 obtain ⟨cur, hbuf, hcz⟩ := hM.buf
 have hpre := hM.pre
 replace hcz : cur.size = 256 := hcz
 have HM := Lib.hid hM; clear hM
 have HLF := Lib.hid hLF; clear hLF
 have HG := Lib.hid hg; clear hg
 clear hT
 show Calls Tryz.prog 107 #[.iface 197 (.pointer (some ⟨L, 0, none⟩)), .slice (some ⟨Bp, 0, none⟩) pl.length 256, .pointer (some ⟨b, 0, none⟩), .func (.func 73) #[] #[.pointer (some ⟨Bo, 0, none⟩)]] w _
 go_enter Tryz.func107, Tryz.ntmps107
 go_wp2_with fail
 refine (leafIs_any _ w).mono ?_
 rintro e w3 ⟨rfl, hw3⟩
 subst w3
 go_wp2_with (at_builtin; go_must (refine wpList_appStr rfl _ _ rfl Bp 256 pl.length cur pl (mk s) rfl rfl rfl hbuf hpre (by omega) (by omega) ?_); intro W1 cur1 hBp1 hcur1 hbs1 honly1; rw [bs_mk] at hbs1)
 obtain ⟨hM2, hmp2⟩ := HM.out.longer ⟨cur1, hBp1, hcur1.trans hcz⟩ hbs1 honly1
 have hL1 := (honly1.block L (HM.out.lt _ HLF.out.1) HLF.out.2.1).trans hat
 have HMP2 := Lib.hid hmp2
 have HM2 := Lib.hid hM2
 have HBS := Lib.hid hbs1
 have hlen : (pl ++ s).length = pl.length + s.length := List.length_append
 have hts := toString_any (some ⟨Bp, 0, none⟩) (pl.length + s.length) 256 (pl ++ s) W1 (hbs1.sl hlen (by omega) (by decide))
 obtain ⟨k1, k2, k3, k4⟩ := hM2.k
 have hint := hasInt_any b (mk (pl ++ s)) c Tr FT n W1 k1 k2 k3 k4 HG.out (by rw [mk_size, hlen]; omega)
 rw [toks_bs, bs_mk] at hint
 clear hmp2 hM2 hbs1 honly1 hcur1 hBp1 hbuf hpre hat cs hlen k1 k2 k3 k4
 refine hts.mono ?_
 rintro e w2 ⟨rfl, rfl⟩
 clear hts
 go_wp2_with fail
 refine hint.mono ?_
 rintro e w3 ⟨bl, rfl, hbl, ho3, hb3⟩
 have hK3 : (ixM Bp Bo b c Tr FT n).K w3 := by
  obtain ⟨k1, k2, k3, k4⟩ := HM2.out.k
  exact ⟨hb3.trans k1, k2.keep fun x hx => ho3.block x (k3 x hx) (fun e => k4 (e ▸ hx)), fun x hx => Nat.lt_of_lt_of_le (k3 x hx) ho3.size, k4⟩
 have hip3 : IP (ixM Bp Bo b c Tr FT n) (pl ++ s).length ov cnt xs [] w2 w3 := IP.still HM2.out ho3 hK3
 obtain ⟨ov3, hpo, hM3⟩ := HM2.out.next hip3 (Nat.le_refl _)
 have hipw : IP (ixM Bp Bo b c Tr FT n) pl.length ov cnt xs [] w w3 := HMP2.out.both HM2.out.out hip3 (by rw [List.length_append]; omega)
 have hov : ov3 = ov := by
  have h1 := hpo.out
  have h2 := (ho3.block Bo (Array.getElem?_eq_some_iff.1 HM2.out.out).1 (fun e => HM2.out.fo ((HM2.out.kf b (.inl rfl)).1 |> fun h => by have e : Bo = b := e; exact e ▸ h))).trans HM2.out.out
  have h1 : w3.heap[Bo]? = _ := h1
  rw [h2] at h1
  exact (by simpa using h1 : ov = ov3).symm
 subst hov
 simp only [List.length_nil, Nat.add_zero, outC, List.flatMap_nil, List.append_nil] at hM3
 have HW := Lib.hid hipw
 have HM3 := Lib.hid hM3
 have HBL := Lib.hid hbl
 have hL3 := (ho3.block L (by have := (Array.getElem?_eq_some_iff.1 hL1).1; omega) HLF.out.2.2).trans hL1
 have cn3 : w3.cell? ⟨L, 0, none⟩ = some (Value.int .i64 v) := (cell_row (j := 0) hL3).trans (show _ = some (Value.int .i64 v) from rfl)
 have hcb := cbI HM3.out.shorter hL3 HLF.out hroom (by omega) HM3.out.pre
 clear hint hipw hM3 hbl hip3 hpo hK3 ho3 hb3 hL1
 cases bl with
 | true =>
  go_wp2_with fail
  refine hcb.mono ?_
  rintro e w4 ⟨rfl, hip4⟩
  have H4 := Lib.hid hip4
  clear hcb hip4
  go_wp2
  go_ret
  have e1 : metF Tr [(pl ++ s, v)] = [(pl ++ s, v)] := by unfold metF; rw [List.filter_cons_of_pos (by simpa using HBL.out)]; rfl
  rw [e1]
  exact ⟨rfl, HW.out.both HM3.out.out H4.out (Nat.le_refl _)⟩
 | false =>
  clear hcb
  go_wp2
  go_ret
  have e1 : metF Tr [(pl ++ s, v)] = [] := by unfold metF; rw [List.filter_cons_of_neg (by intro h; have := HBL.out.2 (by simpa using h); simp at this)]; rfl
  rw [e1]
  exact ⟨rfl, HW.out⟩
end Go.Proofs.YtehlmjecbljafaaGreatDoor
