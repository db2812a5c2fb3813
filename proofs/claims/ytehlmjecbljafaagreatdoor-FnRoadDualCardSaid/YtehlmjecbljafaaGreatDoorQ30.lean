/- A subject tree: Match, and what is found by deeds and a filter. The tree's filters: the match of any tree, and what is found by deeds and a filter. The tree's filters: what is found by deeds and a filter. Maps told by their entries: look-up, new keys, and how a loop goes over them. -/
import Derived.Test.YtehlmjecbljafaaGreatDoorQ11
import Derived.Test.YtehlmjecbljafaaGreatDoorQ15
import Derived.Test.YtehlmjecbljafaaGreatDoorQ23
import Derived.Test.YtehlmjecbljafaaGreatDoorQ28
import Derived.Test.YtehlmjecbljafaaGreatDoorQ29
import Derived.Maps.RangeWalk
import Derived.LaidEqlPtr
namespace Go.Proofs.YtehlmjecbljafaaGreatDoor
open Go Go.RowKit
theorem gB_len : ∀ (n : Nat) (l run : List UInt8), l.length ≤ n → (gB run l).length ≤ l.length + 1
  | _, [], run, _ => by rw [gB]; split <;> simp
  | 0, c :: l, run, hl => by simp at hl
  | n + 1, c :: l, run, hl => by
    simp only [List.length_cons] at hl
    rw [gB]
    split
    · rename_i h
      have h1 : 0 < l.length := by
        cases l with
        | nil => simp at h
        | cons a r => simp
      have ih := gB_len n (l.drop 2) [] (by rw [List.length_drop]; omega)
      rw [List.length_drop] at ih
      simp only [List.length_cons]
      omega
    · split
      · simp
      · split
        · have ih := gB_len n (l.drop 1) [] (by rw [List.length_drop]; omega)
          rw [List.length_drop] at ih
          simp only [List.length_cons]
          omega
        · split
          · simp
          · have ih := gB_len n l (run ++ [c]) (by omega)
            simp only [List.length_cons]
            omega
theorem cbSome (w : World) (c : Array Value) : (binOp .eql 96 (.func (.func 55) #[] c) .nilFunc).run Tryz.prog w = .ok (.bool false) w := by kernel_rfl
end Go.Proofs.YtehlmjecbljafaaGreatDoor
namespace Go.Proofs.YtehlmjecbljafaaGreatDoor
open Go Go.RowKit
theorem matchOK (d : Nat) : MatchOK d := by
  induction d using Nat.strongRecOn with
  | _ d ih =>
    intro T C F r o n cap us ps pl ov cnt xs w t hd hM hT hc
    by_cases hF : ps.getLast? = some [62]
    · exact match_yes d ih T C F r o n cap us ps pl ov cnt xs w t hd hM hT hc hF
    · exact match_no d ih T C F r o n cap us ps pl ov cnt xs w t hd hM hT hc hF
theorem matchT_any (T : Art) (C : MCx) (F : Nat → Prop) (r o n cap : Nat) (us : List Value) (ps : List (List UInt8)) (pl : List UInt8) (ov : Value) (cnt : Nat) (xs : List Value) (w : World) (t : Value)
    (hM : MW C F r o n cap us ps pl ov cnt xs w) (hT : TW C F r T pl.length w) (hc : cnt + T.ents.length ≤ 100000) :
    Calls Tryz.prog 92 #[t, T.ref, .slice (some ⟨r, o, none⟩) n cap, .slice (some ⟨C.Bp, 0, none⟩) pl.length 256, .func (.func 93) #[] #[.pointer (some ⟨C.Bc, 0, none⟩)]] w fun e w' => e = .returned (.bool true) ∧ MP C r o n pl.length ov cnt xs ((fnd T ps).map (shift pl)) w w' := by
  obtain ⟨d, hd⟩ := T.deep
  exact matchOK d T C F r o n cap us ps pl ov cnt xs w t hd hM hT hc
/-- What is said of a tree that is matched whole. -/
structure TreeW (w : World) (T : Art) (b : Nat) (n : Int) : Prop where
  row : w.heap[b]? = some (.cells #[T.ref, .int .i64 n] 139 (0, 0))
  at' : T.At w
  wf : T.WF
  sep : T.Sep
  len : T.ents.length ≤ 100000
  fits : ∀ e ∈ T.ents, e.1.length ≤ 256
  fine : Fine T
set_option maxRecDepth 100000 in
set_option maxHeartbeats 3200000 in
theorem match54F_any (b Bo : Nat) (T : Art) (n : Int) (bf cf : Nat) (f : List UInt8) (w : World) (hT : TreeW w T b n)
    (hW : WildB f) (hf : BsAt w bf 0 f) (hcap : f.length ≤ cf) (hm : cf ≤ maxLen) (hfl : f.length ≤ 100000) (hPB : PartsB (gB [] f)) (hgl0 : 0 < (gB [] f).length) (hgp : ∀ p ∈ gB [] f, p.length ≤ 100000)
    (hBo : w.heap[Bo]? = some (.cells #[.slice none 0 0] 41 (0, 0))) (hfp : ∀ x, T.Fp x → x ≠ Bo ∧ x ≠ bf) (hbo : bf ≠ Bo) :
    Calls Tryz.prog 54 #[.pointer (some ⟨b, 0, none⟩), .slice (some ⟨bf, 0, none⟩) f.length cf, .func (.func 55) #[] #[.pointer (some ⟨Bo, 0, none⟩)]] w fun e w' => e = .returned (.tuple #[]) ∧ ∃ o', w'.heap[Bo]? = some (.cells #[o'] 41 (0, 0)) ∧
      Own w' (Bo + 1) 2 o' (fnd T (gB [] f)).length (outC (fnd T (gB [] f))) ∧ Below Bo w w' := by
  have hlb := (Array.getElem?_eq_some_iff.1 hT.row).1
  have hlo := (Array.getElem?_eq_some_iff.1 hBo).1
  have ct := (cell_row (j := 0) hT.row).trans (show _ = some T.ref from rfl)
  have hf0 : 0 < f.length := List.length_pos_iff.2 hW.ne
  have hbf : bf < w.heap.size := World.block_lt_of_cell? _ _ (hf 0 _ (List.getElem?_eq_getElem hf0))
  have ef0 : ((f.length : Int) == 0) = false := by rw [beq_eq_false_iff_ne]; omega
  have HT := Lib.hid hT; clear hT
  have qF : ∀ w, (binOp .eql 96 (.func (.func 55) #[] #[.pointer (some ⟨Bo, 0, none⟩)]) .nilFunc).run Tryz.prog w = .ok (.bool false) w := fun w => cbSome w _
  obtain ⟨rt, rb, hrf⟩ := T.ref_form
  have qN : ∀ w, (binOp .eql 137 (.iface rt (.pointer (some ⟨rb, 0, none⟩))) .nilIface).run Tryz.prog w = .ok (.bool false) w := fun w => by have h := refNe1 T w; rw [hrf] at h; exact h
  rw [hrf] at ct
  have HRF := Lib.hid hrf; clear hrf
  go_enter Tryz.func54, Tryz.ntmps54
  go_wp2_with fail
  have hz2 : ((w.alloc (.cells #[.func (.func 55) #[] #[.pointer (some ⟨Bo, 0, none⟩)]] 96)).alloc (.cells (Array.replicate 32 (Value.slice none 0 0)) 140)).heap.size = w.heap.size + 2 := by simp
  have hr1 : ((w.alloc (.cells #[.func (.func 55) #[] #[.pointer (some ⟨Bo, 0, none⟩)]] 96)).alloc (.cells (Array.replicate 32 (Value.slice none 0 0)) 140)).heap[w.heap.size + 1]? = some (.cells (Array.replicate 32 (Value.slice none 0 0)) 140 (0, 0)) := by
    have := heap_alloc_new (w.alloc (.cells #[.func (.func 55) #[] #[.pointer (some ⟨Bo, 0, none⟩)]] 96)) (.cells (Array.replicate 32 (Value.slice none 0 0)) 140)
    rw [show (w.alloc (.cells #[.func (.func 55) #[] #[.pointer (some ⟨Bo, 0, none⟩)]] 96)).heap.size = w.heap.size + 1 by simp] at this
    exact this
  have hown32 : Own ((w.alloc (.cells #[.func (.func 55) #[] #[.pointer (some ⟨Bo, 0, none⟩)]] 96)).alloc (.cells (Array.replicate 32 (Value.slice none 0 0)) 140)) (w.heap.size + 1) 1 (.slice (some ⟨w.heap.size + 1, 0, none⟩) 0 32) 0 [] :=
    ⟨rfl, .inr ⟨w.heap.size + 1, 32, Array.replicate 32 (Value.slice none 0 0), 140, rfl, Nat.le_refl _, hr1, by omega, by decide, by simp, rfl⟩⟩
  have hbel : Below w.heap.size w ((w.alloc (.cells #[.func (.func 55) #[] #[.pointer (some ⟨Bo, 0, none⟩)]] 96)).alloc (.cells (Array.replicate 32 (Value.slice none 0 0)) 140)) := ((Below.refl _ w).alloc (Nat.le_refl _) _).alloc (by simp) _
  have hcb : ((w.alloc (.cells #[.func (.func 55) #[] #[.pointer (some ⟨Bo, 0, none⟩)]] 96)).alloc (.cells (Array.replicate 32 (Value.slice none 0 0)) 140)).heap[w.heap.size]? = some (.cells #[.func (.func 55) #[] #[.pointer (some ⟨Bo, 0, none⟩)]] 96 (0, 0)) := by
    rw [((Below.refl (w.heap.size + 1) (w.alloc (.cells #[.func (.func 55) #[] #[.pointer (some ⟨Bo, 0, none⟩)]] 96))).alloc (by simp) _).block w.heap.size (by omega)]
    exact heap_alloc_new w _
  refine (genPartsF_any bf 0 cf f _ (w.heap.size + 1) _ hW (hf.bel hbel) hcap hm hown32 (by omega) (by rw [hz2]; omega) hfl).mono ?_
  rintro e w1 ⟨u, rfl, us, hou, hpf, hb1⟩
  have HUL := Lib.hid (show us.length = (gB [] f).length from hpf.1)
  have hul0 : 0 < us.length := by have := HUL.out; omega
  have hpv : ∃ g cap, u = .slice (some ⟨g, 0, none⟩) us.length cap ∧ w.heap.size + 1 ≤ g ∧ PV w1 g 0 cap us := by
    rcases hou.2 with ⟨-, h0⟩ | ⟨g, cap, cur, ty, rfl, h1, h2, h3, h4, h5, h6⟩
    · omega
    · refine ⟨g, cap, rfl, h1, ⟨⟨cur, ty, h2, by omega, fun j x hx => ?_⟩, h3, h4⟩⟩
      have hx2 : (cur.toList.take (us.length * 1))[j]? = some x := by rw [h6]; exact hx
      rw [List.getElem?_take] at hx2
      split at hx2
      · simpa using hx2
      · cases hx2
  obtain ⟨g, cap, rfl, hg1, hpv⟩ := hpv
  have hsz1 := hb1.size
  rw [hz2] at hsz1
  have hcb1 : w1.heap[w.heap.size]? = some (.cells #[.func (.func 55) #[] #[.pointer (some ⟨Bo, 0, none⟩)]] 96 (0, 0)) := (hb1.block w.heap.size (by omega)).trans hcb
  have hb2 : Below w.heap.size w w1 := hbel.trans (hb1.mono (by omega))
  have hpf1 : PartsF w1 bf us (gB [] f) := hpf.keep (hb1.block bf (by omega))
  have hgl : us.length ≤ 200000 := by have := gB_len f.length f [] (Nat.le_refl _); have := HUL.out; omega
  have hglt := hpv.lt
  clear hown32 hcb hbel hb1 hpf hz2 hou hr1
  go_wp2
  refine wp_any (fun W => (∃ cur, W.heap[w1.heap.size]? = some (.cells cur 143 (0, 0)) ∧ cur.size = 256) ∧ Below w1.heap.size w1 W ∧ w1.heap.size + 1 ≤ W.heap.size) ⟨⟨_, heap_alloc_new _ _, rfl⟩, (Below.refl _ w1).alloc (Nat.le_refl _) _, by simp⟩ ?_
  rintro W ⟨hbuf, hbW, hzW⟩
  have hW2 := bel2 hb2 hbW
  have hTW := HT.out
  have hrowW := (hW2.block b hlb).trans hTW.row
  have hBoW := (hW2.block Bo hlo).trans hBo
  have ctW := (cell_row (j := 0) hrowW).trans (show _ = some T.ref from rfl)
  rw [HRF.out] at ctW
  have hmw : MW ⟨bf, w1.heap.size, w.heap.size, Bo⟩ (fun k => T.Fp k ∨ k = bf ∨ k = g ∨ k = w.heap.size ∨ k = w1.heap.size) g 0 us.length cap us (gB [] f) [] (.slice none 0 0) 0 [] W.drew := by
    have hFlt := fun x hx => hTW.at'.lt x hx
    refine ⟨(hpv.keep (KeepTo.of (hbW.block g hglt))).keep (KeepTo.refl _ _ _), ?_, rfl, hPB, by omega, by omega, hgp, hbuf, (fun j c hj => by simp at hj), (hbW.block w.heap.size (by omega)).trans hcb1, hBoW, Own.nil _ _ _, (fun k hk => by cases hk), ?_, ?_, ?_⟩
    · exact hpf1.keep (hbW.block bf (by omega))
    · rintro k (h | rfl | rfl | rfl | rfl)
      · have := hFlt k h; show k < W.heap.size; omega
      · show _ < W.heap.size; omega
      · show _ < W.heap.size; omega
      · show _ < W.heap.size; omega
      · show _ < W.heap.size; omega
    · refine ⟨.inr (.inr (.inl rfl)), .inr (.inl rfl), .inr (.inr (.inr (.inr rfl))), .inr (.inr (.inr (.inl rfl))), ?_⟩
      rintro (h | h | h | h | h)
      · exact (hfp Bo h).1 rfl
      · exact hbo h.symm
      · have h : Bo = g := h; omega
      · have h : Bo = w.heap.size := h; omega
      · have h : Bo = w1.heap.size := h; omega
    · refine ⟨?_, ?_, ?_, ?_, ?_⟩ <;> (simp only [ne_eq]; omega)
  have htw : TW ⟨bf, w1.heap.size, w.heap.size, Bo⟩ (fun k => T.Fp k ∨ k = bf ∨ k = g ∨ k = w.heap.size ∨ k = w1.heap.size) g T 0 W.drew :=
    ⟨(hTW.at'.bel hW2).bel (Below.refl _ W).drew, hTW.wf, hTW.sep, fun x hx => ⟨.inl hx, by have := hTW.at'.lt x hx; show x ≠ w1.heap.size; omega, by have := hTW.at'.lt x hx; omega⟩, fun e he => by have := hTW.fits e he; omega, hTW.fine⟩
  have hm : Calls Tryz.prog 92 #[.pointer (some ⟨b, 0, none⟩), .iface rt (.pointer (some ⟨rb, 0, none⟩)), .slice (some ⟨g, 0, none⟩) us.length cap, .slice (some ⟨w1.heap.size, 0, none⟩) 0 256, .func (.func 93) #[] #[.pointer (some ⟨w.heap.size, 0, none⟩)]] W.drew fun e w' => e = .returned (.bool true) ∧ MP ⟨bf, w1.heap.size, w.heap.size, Bo⟩ g 0 us.length 0 (.slice none 0 0) 0 [] ((fnd T (gB [] f)).map (shift [])) W.drew w' := by
    rw [← HRF.out]
    exact matchT_any T _ _ g 0 us.length cap us (gB [] f) [] (.slice none 0 0) 0 [] W.drew (.pointer (some ⟨b, 0, none⟩)) hmw htw (by have := hTW.len; omega)
  have hmf : ∀ (fn : Fn) (first cap : Array Value) (w : World), (Instr.makeFunc fn first cap).run Tryz.prog w = .ok (.func fn first cap) w := fun _ _ _ _ => rfl
  clear hrowW hBoW hcb1 qF ct ef0 hf hW hmw htw hbuf hpv hpf1 hBo hTW
  refine wp_region_L [0, 1, 2, 3, 4, 5, 6] (fun W' => W'.cell? ⟨b, 0, none⟩ = some (.iface rt (.pointer (some ⟨rb, 0, none⟩)))) (by kernel_rfl) (by kernel_rfl) ctW (fun ne => ?_)
  have S0 := fun x : SubC (fun W' => W'.cell? ⟨b, 0, none⟩ = some (.iface rt (.pointer (some ⟨rb, 0, none⟩)))) => x.ok
  repeat (refine wpCL_q rfl rfl ?_; go_big_quiet_step (fail); refine wpQuiet_nil ?_)
  refine wpCL_n rfl rfl rfl rfl ?_
  go_simp
  repeat (refine wpCL_q rfl rfl ?_; go_big_quiet_step (fail); refine wpQuiet_nil ?_)
  refine wpCL_w rfl rfl ?_
  go_wp2
  refine ⟨⟨⟨W.drew, ctW⟩, rfl⟩, ?_⟩
  refine wpCL_last ?_
  go_wp2_with fail
  refine hm.mono ?_
  rintro e w3 ⟨rfl, o', k1, k2, k3, k4, -⟩
  have K1 := Lib.hid k1
  have K2 := Lib.hid k2
  have K4 := Lib.hid k4
  clear k1 k2 k3 k4 hm
  go_wp2
  go_end0
  have e0 : (fnd T (gB [] f)).map (shift []) = fnd T (gB [] f) := by
    rw [show shift [] = id from by funext e; rfl]; exact List.map_id _
  have k2 := K2.out
  rw [e0, Nat.zero_add, List.nil_append] at k2
  refine ⟨rfl, o', K1.out, k2, ?_⟩
  have hb3 : Below Bo w W.drew := (hW2.mono (by omega)).drew
  refine hb3.trans (K4.out.below (fun k hk => ?_) (by show Bo ≤ W.heap.size; omega))
  rcases hk with h | h | h | h
  · exact Nat.le_of_eq h.symm
  · have h : k = w1.heap.size := h; omega
  · omega
  · cases h
end Go.Proofs.YtehlmjecbljafaaGreatDoor
namespace Go.Proofs.YtehlmjecbljafaaGreatDoor
open Go Go.RowKit
set_option maxRecDepth 100000 in
set_option maxHeartbeats 1600000 in
theorem match54N_any (b : Nat) (x : Value) (v : Value) (Bo : Nat) (w : World) (hrow : w.heap[b]? = some (.cells #[.nilIface, x] 139 (0, 0))) :
    Calls Tryz.prog 54 #[.pointer (some ⟨b, 0, none⟩), v, .func (.func 55) #[] #[.pointer (some ⟨Bo, 0, none⟩)]] w fun e w' => e = .returned (.tuple #[]) ∧ Below w.heap.size w w' := by
  have ct := (cell_row (j := 0) hrow).trans (show _ = some Value.nilIface from rfl)
  have hlb := (Array.getElem?_eq_some_iff.1 hrow).1
  have qN : ∀ w, (binOp .eql 137 .nilIface .nilIface).run Tryz.prog w = .ok (.bool true) w := fun w => by kernel_rfl
  go_enter Tryz.func54, Tryz.ntmps54
  go_wp2
  exact bodyPost_ret (results_none rfl _ _ _) rfl ⟨rfl, (Below.refl _ w).alloc (Nat.le_refl _) _⟩
/-- What deeds and a filter find. -/
structure FoundIn (ds : List Deed) (f : List UInt8) (l : List Ent) : Prop where
  nd : (l.map (·.1)).Nodup
  mem : ∀ e : Ent, e ∈ l ↔ treeM ds e.1 = some e.2 ∧ okM (gB [] f) e.1
theorem gB_psm : ∀ (n : Nat) (l run : List UInt8), l.length ≤ n → ∀ p ∈ gB run l, p.length ≤ run.length + l.length
  | n, [], run, _, p, hp => by
    rw [gB] at hp
    split at hp
    · cases hp
    · rw [List.mem_singleton] at hp; subst hp; simp
  | 0, c :: l, run, hl, p, hp => by simp at hl
  | n + 1, c :: l, run, hl, p, hp => by
    simp only [List.length_cons] at hl ⊢
    rw [gB] at hp
    split at hp
    · rename_i h
      have h1 : 0 < l.length := by
        cases l with
        | nil => simp at h
        | cons a r => simp
      rcases List.mem_cons.1 hp with rfl | hp
      · rw [List.length_append, List.length_singleton]; omega
      · rcases List.mem_cons.1 hp with rfl | hp
        · simp only [List.length_cons, List.length_nil]; omega
        · have := gB_psm n (l.drop 2) [] (by rw [List.length_drop]; omega) p hp
          rw [List.length_drop] at this; simp only [List.length_nil] at this; omega
    · split at hp
      · rename_i h
        have h1 : 0 < l.length := by
          cases l with
          | nil => simp at h
          | cons a r => simp
        simp only [List.mem_cons, List.not_mem_nil, or_false] at hp
        rcases hp with rfl | rfl
        · rw [List.length_append, List.length_singleton]; omega
        · simp only [List.length_cons, List.length_nil]; omega
      · split at hp
        · rcases List.mem_cons.1 hp with rfl | hp
          · simp only [List.length_cons, List.length_nil]; omega
          · have := gB_psm n (l.drop 1) [] (by rw [List.length_drop]; omega) p hp
            rw [List.length_drop] at this; simp only [List.length_nil] at this; omega
        · split at hp
          · rw [List.mem_singleton] at hp; subst hp; simp only [List.length_cons, List.length_nil]; omega
          · have := gB_psm n l (run ++ [c]) (by omega) p hp
            rw [List.length_append, List.length_singleton] at this; omega
set_option maxRecDepth 100000 in
set_option maxHeartbeats 3200000 in
theorem treeMatchF_any (v : Value) (ds : List Deed) (fs : ByteArray) (w : World) (hd : DeedsAt w v ds) (hds : DeedsOK ds) (hop : ∀ d ∈ ds, d.op = 0 ∨ d.op = 1) (hfine : ∀ d ∈ ds, NoEnd (bs d.subj)) (hQ : ∀ b, TreeQ ds b b (ArtT ds b))
    (hW : WildB (bs fs)) (hPB : PartsB (gB [] (bs fs))) (hgl0 : 0 < (gB [] (bs fs)).length) (hfs : fs.size ≤ 100000) :
    Calls Tryz.prog 18 #[v, .string fs] w fun e w' => ∃ u l, e = .returned u ∧ Own w' w.heap.size 2 u l.length (outC l) ∧ FoundIn ds (bs fs) l ∧ Below w.heap.size w w' := by
  obtain ⟨va, vc, rfl⟩ := Sl.form hd
  have hz : (w.alloc (.cells #[.slice none 0 0] 41)).heap.size = w.heap.size + 1 := by simp
  have hbo := heap_alloc_new w (.cells #[.slice none 0 0] 41)
  have ht := tree2_any _ ds (ArtT ds (w.alloc (.cells #[.slice none 0 0] 41)).heap.size) (w.alloc (.cells #[.slice none 0 0] 41)) (Sl.keep hd ((Below.refl _ w).alloc (Nat.le_refl _) _))
    (fun x hx => ⟨hop x hx, by have := (hds.sub x hx).2.2; unfold maxLen; omega⟩) (by have := hds.len; omega) (hQ _) (artT0 ds _)
  rw [hz] at ht
  have hcv := fun (w : World) (s : ByteArray) => conv_bytes w s
  have hmf : ∀ (fn : Fn) (first cap : Array Value) (w : World), (Instr.makeFunc fn first cap).run Tryz.prog w = .ok (.func fn first cap) w := fun _ _ _ _ => rfl
  have hz0 : w.heap.size < (w.alloc (.cells #[.slice none 0 0] 41)).heap.size := by omega
  clear hz
  go_enter Tryz.func18, Tryz.ntmps18
  go_wp2_with fail
  refine ht.mono ?_
  rintro e w1 ⟨F, rfl, hT, hb1⟩
  have hs1 := hb1.size
  have hbo1 := (hb1.block w.heap.size (by omega)).trans hbo
  have h1 : Below w.heap.size w w1 := ((Below.refl _ w).alloc (Nat.le_refl _) _).trans (hb1.mono (by omega))
  obtain ⟨r, n, hR, hF⟩ := hT
  have HR := Lib.hid hR
  have HF := Lib.hid hF; clear hF
  have HOP := Lib.hid hop; clear hop
  have HFI := Lib.hid hfine; clear hfine
  clear ht
  have hbW := bytesWorld_below w1 fs
  have hlt := (Array.getElem?_eq_some_iff.1 hR.row).1
  cases r with
  | none =>
    have hrow2 := (hbW.block _ hlt).trans hR.row
    have hm := match54N_any (w.heap.size + 1) (.int .i64 n) (.slice (some ⟨w1.heap.size, 0, none⟩) fs.size (grownCap w1 fs.size 0 5)) w.heap.size (Lib.bytesWorld w1 5 fs) hrow2
    clear hR
    go_wp2_with fail
    refine hm.mono ?_
    rintro e w2 ⟨rfl, hb2⟩
    have hb3 := bel2 hbW hb2
    have k1 := (hb3.block w.heap.size (by omega)).trans hbo1
    have c0 := (cell_row (j := 0) k1).trans (show _ = some (Value.slice none 0 0) from rfl)
    clear hm
    go_wp2
    go_ret
    refine ⟨_, [], rfl, Own.nil _ _ _, ⟨List.nodup_nil, fun e => ⟨(fun h => by cases h), fun h => ?_⟩⟩, bel2 h1 hb3⟩
    have h2 := (HR.out.mem e).2 (by rw [List.take_length]; exact h.1)
    obtain ⟨T, hT, -⟩ := h2; cases hT
  | some T =>
    obtain ⟨q1, q2, q3, q4, q5⟩ := hR.at' T rfl
    have hent : ∀ e ∈ T.ents, ∃ d ∈ ds, e.1 = bs d.subj := fun e he => ent_sub hR (Nat.le_refl _) he
    have htw : TreeW (Lib.bytesWorld w1 5 fs) T (w.heap.size + 1) n := ⟨(hbW.block _ hlt).trans hR.row, q1.bel hbW, q3, q2, by have := ents_le hR (Nat.le_refl _); have := hds.len; omega,
      fun e he => by obtain ⟨d, hd', e2⟩ := hent e he; have := (hds.sub d hd').2.2; rw [e2, bs_len]; omega, fun e he => by obtain ⟨d, hd', e2⟩ := hent e he; rw [e2]; exact HFI.out d hd'⟩
    have hm := match54F_any (w.heap.size + 1) w.heap.size T n w1.heap.size (grownCap w1 fs.size 0 5) (bs fs) (Lib.bytesWorld w1 5 fs) htw hW (bytesWorld_at w1 fs) (by rw [bs_len]; exact grownCap_ge _ _ _ _) (grownCap_le_maxLen _ _ _ _ (by unfold maxLen; omega)) (by rw [bs_len]; omega) hPB hgl0
      (fun p hp => by have := gB_psm _ (bs fs) [] (Nat.le_refl _) p hp; rw [bs_len] at this; simp only [List.length_nil] at this; omega) ((hbW.block _ (by omega)).trans hbo1) (fun x hx => ⟨by have := q5 x hx; omega, by have := q1.lt x hx; omega⟩) (by omega)
    rw [bs_len] at hm
    clear hR q1 q2 q3 q4 q5 htw hent
    go_wp2_with fail
    refine hm.mono ?_
    rintro e w2 ⟨rfl, o', k1, k2, k3⟩
    have c0 := (cell_row (j := 0) k1).trans (show _ = some o' from rfl)
    obtain ⟨oa, oc, rfl, -⟩ := k2.form
    have K2 := Lib.hid k2; clear k2
    clear hm
    go_wp2
    go_ret
    refine ⟨_, fnd T (gB [] (bs fs)), rfl, K2.out.mono (by omega), ⟨?_, fun e => ?_⟩, (h1.trans (hbW.mono (by omega))).trans k3⟩
    · have hnd := ents_nd (HR.out.at' T rfl).2.2.1
      unfold fnd
      exact (List.filter_sublist.map _).nodup hnd
    · unfold fnd
      rw [List.mem_filter]
      have h2 := HR.out.mem e
      rw [List.take_length] at h2
      rw [← h2]
      simp only [decide_eq_true_eq]
      exact and_congr ⟨fun h => ⟨T, rfl, h⟩, fun ⟨T', e1, h⟩ => by cases e1; exact h⟩ Iff.rfl
end Go.Proofs.YtehlmjecbljafaaGreatDoor
namespace Go.Proofs.YtehlmjecbljafaaGreatDoor
open Go Go.RowKit Go.MapKept
open Go.ChangeMaps (setBlock heap_setBlock_same heap_setBlock_other)
def entKV (e : MapEntry) : Value × Value := (e.key, e.val)
/-- Block b is a map of these entries. -/
def MapE (w : World) (b : Nat) (kv : List (Value × Value)) : Prop := ∃ es clock, w.heap[b]? = some (.map es clock) ∧ es.toList.map entKV = kv ∧ Stamped es clock
theorem MapE.made (w : World) : MapE (w.alloc (.map #[] 0)) w.heap.size [] := ⟨#[], 0, heap_alloc_new w _, rfl, stamped_empty 0⟩
theorem MapE.lt {w : World} {b : Nat} {kv : List (Value × Value)} (h : MapE w b kv) : b < w.heap.size := by obtain ⟨es, c, h, -⟩ := h; exact (Array.getElem?_eq_some_iff.1 h).1
theorem MapE.keep {w w' : World} {b : Nat} {kv : List (Value × Value)} (h : MapE w b kv) (e : w'.heap[b]? = w.heap[b]?) : MapE w' b kv := by
  obtain ⟨es, c, h1, h2, h3⟩ := h; exact ⟨es, c, e.trans h1, h2, h3⟩
theorem MapE.ne {w : World} {a b : Nat} {kv : List (Value × Value)} {cs : Array Value} {t : TypeId} (ha : MapE w a kv) (hb : w.heap[b]? = some (.cells cs t (0, 0))) : a ≠ b := by
  rintro rfl; obtain ⟨es, c, h, -⟩ := ha; rw [hb] at h; cases h
theorem MapE.nd {w : World} {b : Nat} {kv : List (Value × Value)} (h : MapE w b kv) : (kv.map (·.1)).Nodup := by
  obtain ⟨es, c, h1, rfl, h3⟩ := h
  rw [List.map_map]; exact h3.2.2
/-- A key that can be asked for. -/
def KeyAt (P : Program) (k : TypeId) (w : World) (x : Value) (kv : List (Value × Value)) : Prop :=
  (∀ em, (Instr.checkKey em 10000 k x).run P w = .ok () w) ∧ ∀ es : List MapEntry, es.map entKV = kv → ((Instr.findKey k x es).run P w = .ok none w ∧ ∀ e ∈ es, e.key ≠ x) ∨ ∃ j e, (Instr.findKey k x es).run P w = .ok (some (j, e.val)) w ∧ es[j]? = some e ∧ e.key = x
theorem keyAt_string {P : Program} {k : TypeId} (hk : P.underlying k = some .string) (w : World) (s : ByteArray) {kv : List (Value × Value)} (h : ∀ p ∈ kv, ∃ t, p.1 = .string t) : KeyAt P k w (.string s) kv := by
  refine ⟨fun em => run_checkKey hk (show IsKey .string (.string s) from trivial) em 9999, ?_⟩
  rintro es rfl
  have hks : ∀ y ∈ es, IsKey .string y.key := fun y hy => by
    obtain ⟨t, ht⟩ := h (entKV y) (List.mem_map_of_mem hy)
    have : y.key = .string t := ht
    rw [this]; trivial
  rcases findNow_spec (k := .string s) (d := .string) trivial es 0 hks with ⟨h1, h2⟩ | ⟨j, e0, h1, h2, h3⟩
  · exact .inl ⟨run_findKey hk h1, h2⟩
  · exact .inr ⟨j, e0, by simpa using run_findKey hk h1, h2, h3⟩
/-- A pointer to the head of a block of cells. -/
abbrev atBlk (b : Nat) : Value := .pointer (some ⟨b, 0, none⟩)
theorem equal_ptr {P : Program} {w : World} {tp te : TypeId} {j : TypeInfo} (hp : P.underlying tp = some (.pointer te)) (hte : P.info? te = some j) (hsz : j.size ≠ 0) {a b : Nat} {ca cb : Array Value} {ta tb : TypeId}
    (ha : w.heap[a]? = some (.cells ca ta (0, 0))) (hb : w.heap[b]? = some (.cells cb tb (0, 0))) : (Op.equal tp (atBlk a) (atBlk b)).run P w = .ok (decide (a = b)) w := by
  have key : ∀ d : Nat, (Op.equalIn (d + 1) tp (atBlk a) (atBlk b)).run P w = .ok (decide (a = b)) w := fun d => by
    unfold atBlk
    by_cases e : a = b
    · subst e
      simp [Op.equalIn, run_underlying hp, sizeOf, typeInfo, hte, run_sameAddr_same]
    · have := run_sameAddr_other (P := P) w (a := ⟨a, 0, none⟩) (b := ⟨b, 0, none⟩) (fun h => e (by cases h; rfl)) ha hb
      simp [Op.equalIn, run_underlying hp, sizeOf, typeInfo, hte, hsz, this, e]
  exact key 9999
theorem findAsking_ptr {P : Program} {w : World} {tp te : TypeId} {j : TypeInfo} (hp : P.underlying tp = some (.pointer te)) (hte : P.info? te = some j) (hsz : j.size ≠ 0) {a : Nat} {ca : Array Value} {ta : TypeId} (ha : w.heap[a]? = some (.cells ca ta (0, 0))) :
    ∀ (es : List MapEntry) (i : Nat), (∀ e ∈ es, ∃ b cb tb, e.key = atBlk b ∧ w.heap[b]? = some (.cells cb tb (0, 0))) →
      ((Instr.findAsking tp (atBlk a) es i).run P w = .ok none w ∧ ∀ e ∈ es, e.key ≠ atBlk a) ∨ ∃ j e, (Instr.findAsking tp (atBlk a) es i).run P w = .ok (some (i + j, e.val)) w ∧ es[j]? = some e ∧ e.key = atBlk a
  | [], i, _ => .inl ⟨rfl, fun e he => by cases he⟩
  | e :: es, i, h => by
    obtain ⟨b, cb, tb, hk, hb⟩ := h e (List.mem_cons_self ..)
    have heq := equal_ptr hp hte hsz ha hb
    by_cases hab : a = b
    · refine .inr ⟨0, e, ?_, rfl, by rw [hk, hab]⟩
      rw [decide_eq_true hab] at heq
      unfold Instr.findAsking
      simp [hk, heq, Result.andThen]
    · rw [decide_eq_false hab] at heq
      have hrec : (Instr.findAsking tp (atBlk a) (e :: es) i).run P w = (Instr.findAsking tp (atBlk a) es (i + 1)).run P w := by
        rw [Instr.findAsking]
        simp [hk, heq, Result.andThen]
      rcases findAsking_ptr hp hte hsz ha es (i + 1) fun e he => h e (List.mem_cons_of_mem _ he) with ⟨h1, h2⟩ | ⟨j, e0, h1, h2, h3⟩
      · refine .inl ⟨hrec.trans h1, fun x hx => ?_⟩
        rcases List.mem_cons.1 hx with rfl | hx
        · rw [hk]; intro e2; unfold atBlk at e2; cases e2; exact hab rfl
        · exact h2 x hx
      · exact .inr ⟨j + 1, e0, by rw [hrec, h1, show i + 1 + j = i + (j + 1) by omega], by simpa using h2, h3⟩
theorem keyAt_ptr {P : Program} {w : World} {tp te : TypeId} {j : TypeInfo} (hp : P.underlying tp = some (.pointer te)) (hte : P.info? te = some j) (hsz : j.size ≠ 0) {a : Nat} {ca : Array Value} {ta : TypeId} (ha : w.heap[a]? = some (.cells ca ta (0, 0))) {kv : List (Value × Value)}
    (h : ∀ p ∈ kv, ∃ b cb tb, p.1 = atBlk b ∧ w.heap[b]? = some (.cells cb tb (0, 0))) : KeyAt P tp w (atBlk a) kv := by
  refine ⟨fun em => ?_, ?_⟩
  · unfold Instr.checkKey
    simp only [Sem.run_bind, run_underlying hp, Result.andThen, atBlk]
    rfl
  · rintro es rfl
    have hes : ∀ e ∈ es, ∃ b cb tb, e.key = atBlk b ∧ w.heap[b]? = some (.cells cb tb (0, 0)) := fun e he => h (entKV e) (List.mem_map_of_mem he)
    cases es with
    | nil =>
      refine .inl ⟨?_, fun e he => by cases he⟩
      simp [Instr.findKey, run_underlying hp, Result.andThen, Instr.findNow]
    | cons e0 r =>
      obtain ⟨b, cb, tb, hk, -⟩ := hes e0 (List.mem_cons_self ..)
      have hn : Instr.findNow (.pointer te) (atBlk a) (e0 :: r) 0 = none := by
        rw [Instr.findNow, hk]; rfl
      have hf : (Instr.findKey tp (atBlk a) (e0 :: r)).run P w = (Instr.findAsking tp (atBlk a) (e0 :: r) 0).run P w := by
        simp [Instr.findKey, run_underlying hp, Result.andThen, hn]
      rw [hf]
      rcases findAsking_ptr hp hte hsz ha (e0 :: r) 0 hes with h1 | ⟨j, e1, h1, h2, h3⟩
      · exact .inl h1
      · exact .inr ⟨j, e1, by simpa using h1, h2, h3⟩
section
variable {P : Program} {w : World} {b : Nat} {kv : List (Value × Value)} {t k e : TypeId} {x z : Value}
theorem MapE.look_yes (h : MapE w b kv) (ht : P.underlying t = some (.map k e)) (hK : KeyAt P k w x kv) {v : Value} (hv : (x, v) ∈ kv) (c : Bool) :
    (Instr.lookup t (.map (some b)) x c).run P w = .ok (if c then .tuple #[v, .bool true] else v) w := by
  have hnd := h.nd
  obtain ⟨es, cl, hb, rfl, hs⟩ := h
  rcases hK.2 es.toList rfl with ⟨h1, h2⟩ | ⟨j, e0, h1, h2, h3⟩
  · obtain ⟨e1, he1, he2⟩ := List.mem_map.1 hv
    exact absurd (congrArg Prod.fst he2) (h2 e1 he1)
  · have : e0.val = v := by
      obtain ⟨e1, he1, he2⟩ := List.mem_map.1 hv
      have hk : e1.key = e0.key := (congrArg Prod.fst he2).trans h3.symm
      have := entry_eq_of_key (((stamped_iff es cl).1 hs).2.2) he1 (List.mem_of_getElem? h2) hk
      rw [← this]; exact congrArg Prod.snd he2
    subst this
    simp [Instr.lookup, run_underlying ht, Go.MapKept.run_getObj_map hb, hK.1, h1, Result.andThen]
theorem MapE.look_no (h : MapE w b kv) (ht : P.underlying t = some (.map k e)) (hz : (zeroValue e).run P w = .ok z w) (hK : KeyAt P k w x kv) (hv : ∀ v, (x, v) ∉ kv) (c : Bool) :
    (Instr.lookup t (.map (some b)) x c).run P w = .ok (if c then .tuple #[z, .bool false] else z) w := by
  obtain ⟨es, cl, hb, rfl, hs⟩ := h
  rcases hK.2 es.toList rfl with ⟨h1, h2⟩ | ⟨j, e0, h1, h2, h3⟩
  · simp [Instr.lookup, run_underlying ht, Go.MapKept.run_getObj_map hb, hK.1, h1, hz, Result.andThen]
  · exact absurd (List.mem_map.2 ⟨e0, List.mem_of_getElem? h2, by unfold entKV; rw [h3]⟩) (hv e0.val)
theorem MapE.store (h : MapE w b kv) (ht : P.underlying t = some (.map k e)) (hK : KeyAt P k w x kv) (hv : ∀ v, (x, v) ∉ kv) (v : Value) :
    ∃ w', (Instr.mapUpdate t (.map (some b)) x v).run P w = .ok () w' ∧ MapE w' b (kv ++ [(x, v)]) ∧ Only (· = b) w w' ∧ w'.heap.size = w.heap.size := by
  obtain ⟨es, cl, hb, rfl, hs⟩ := h
  rcases hK.2 es.toList rfl with ⟨h1, h2⟩ | ⟨j, e0, h1, h2, h3⟩
  · refine ⟨setBlock w b (.map (es.push { key := x, val := v, born := cl }) (cl + 1)), ?_, ⟨_, _, heap_setBlock_same hb _, by simp [entKV], stamped_push hs h2⟩, ⟨rfl, rfl, rfl, by simp [setBlock], fun i _ hi => heap_setBlock_other hb _ hi⟩, by simp [setBlock]⟩
    simp [Instr.mapUpdate, run_underlying ht, Go.MapKept.run_getObj_map hb, hK.1, h1, run_setObj_map _ hb, Result.andThen, setBlock]
  · exact absurd (List.mem_map.2 ⟨e0, List.mem_of_getElem? h2, by unfold entKV; rw [h3]⟩) (hv e0.val)
theorem MapE.len (h : MapE w b kv) (ht : P.underlying t = some (.map k e)) (ty : TypeId) : (Builtin.len_ #[t] ty #[.map (some b)]).run P w = .ok (.int .i64 kv.length) w := by
  obtain ⟨es, cl, hb, rfl, hs⟩ := h
  simp [Builtin.len_, run_underlying ht, Go.MapKept.run_getObj_map hb, goInt, Result.andThen]
end
/-- A loop over the map of block b; its iterator is block r; what is still to come is left. -/
def IterE (w : World) (b r : Nat) (kv left : List (Value × Value)) : Prop :=
  ∃ es clock since seen c0, w.heap[b]? = some (.map es clock) ∧ es.toList.map entKV = kv ∧ Stamped es clock ∧ w.heap[r]? = some (.mapIter (some b) since seen c0) ∧ (∀ x ∈ es.toList, x.born < since) ∧ since ≤ c0 ∧ since ≤ clock ∧ left = (leftOf es seen).toList.map entKV
theorem IterE.keep {w w' : World} {b r : Nat} {kv left : List (Value × Value)} (h : IterE w b r kv left) (e1 : w'.heap[b]? = w.heap[b]?) (e2 : w'.heap[r]? = w.heap[r]?) : IterE w' b r kv left := by
  obtain ⟨es, cl, s, sn, c0, h1, h2, h3, h4, h5⟩ := h
  exact ⟨es, cl, s, sn, c0, e1.trans h1, h2, h3, e2.trans h4, h5⟩
theorem IterE.map {w : World} {b r : Nat} {kv left : List (Value × Value)} (h : IterE w b r kv left) : MapE w b kv := by
  obtain ⟨es, cl, s, sn, c0, h1, h2, h3, -⟩ := h; exact ⟨es, cl, h1, h2, h3⟩
theorem IterE.lt {w : World} {b r : Nat} {kv left : List (Value × Value)} (h : IterE w b r kv left) : r < w.heap.size := by
  obtain ⟨es, cl, s, sn, c0, h1, h2, h3, h4, -⟩ := h; exact (Array.getElem?_eq_some_iff.1 h4).1
theorem IterE.left_eq {w : World} {b r : Nat} {kv left : List (Value × Value)} (h : IterE w b r kv left) : w.rangeLeft b r = left.length := by
  obtain ⟨es, cl, s, sn, c0, h1, h2, h3, h4, h5, h6, h7, rfl⟩ := h
  simp [World.rangeLeft, h1, h4]
theorem IterE.sub {w : World} {b r : Nat} {kv left : List (Value × Value)} (h : IterE w b r kv left) : ∀ p ∈ left, p ∈ kv := by
  obtain ⟨es, cl, s, sn, c0, h1, rfl, h3, h4, h5, h6, h7, rfl⟩ := h
  intro p hp
  obtain ⟨x, hx, rfl⟩ := List.mem_map.1 hp
  unfold leftOf at hx
  rw [Array.toList_filter] at hx
  exact List.mem_map_of_mem (List.mem_filter.1 hx).1
theorem IterE.ne {w : World} {b r : Nat} {kv left : List (Value × Value)} (h : IterE w b r kv left) : b ≠ r := by
  obtain ⟨es, cl, s, sn, c0, h1, -, -, h4, -⟩ := h
  rintro rfl; rw [h1] at h4; cases h4
theorem pick_perm {α β : Type} [DecidableEq β] (f : α → β) : ∀ (l : List α) (x : α), x ∈ l → (l.map f).Nodup → l.Perm (x :: l.filter fun y => !(f y == f x))
  | [], x, h, _ => by cases h
  | a :: r, x, h, hn => by
    rw [List.map_cons, List.nodup_cons] at hn
    by_cases e : f a = f x
    · have hx : a = x := by
        rcases List.mem_cons.1 h with h | h
        · exact h.symm
        · exact absurd (List.mem_map.2 ⟨x, h, e.symm⟩) hn.1
      subst hx
      rw [List.filter_cons_of_neg (by simp)]
      have : r.filter (fun y => !(f y == f a)) = r := List.filter_eq_self.2 fun y hy => by
        have : f y ≠ f a := fun e2 => hn.1 (List.mem_map.2 ⟨y, hy, e2⟩)
        simp [this]
      rw [this]
    · rw [List.filter_cons_of_pos (by simp [e])]
      have hx : x ∈ r := by
        rcases List.mem_cons.1 h with h | h
        · exact absurd (by rw [h]) e
        · exact h
      exact ((pick_perm f r x hx hn.2).cons a).trans (List.Perm.swap x a _)
theorem IterE.next {P : Program} {w : World} {b r : Nat} {kv left : List (Value × Value)} (h : IterE w b r kv left) (ty : TypeId) :
    (left = [] ∧ (Instr.next (.pointer (some ⟨r, 0, none⟩)) false ty).run P w = .ok (.tuple #[.bool false]) w) ∨
    ∃ key v left' w', left.Perm ((key, v) :: left') ∧ (Instr.next (.pointer (some ⟨r, 0, none⟩)) false ty).run P w = .ok (.tuple #[.bool true, key, v]) w' ∧ IterE w' b r kv left' ∧ Only (· = r) w w' ∧ w'.heap.size = w.heap.size ∧ (Instr.entry (.pointer (some ⟨r, 0, none⟩))).run P w' = .ok (.tuple #[key, v]) w' := by
  obtain ⟨es, clock, since, seen, c0, hb, rfl, hs, hr, hold, hsc, hsk, rfl⟩ := h
  have hne : b ≠ r := fun e => by rw [e, hr] at hb; cases hb
  rcases run_next_at (P := P) w ty r b since c0 seen es clock hr hb hold hsc with ⟨h0, hrun⟩ | ⟨e, he, w1, hal, hrun⟩
  · refine .inl ⟨?_, hrun⟩
    rw [Array.eq_empty_of_size_eq_zero h0]; rfl
  · have hr1 : w1.heap[r]? = some (.mapIter (some b) since seen c0) := by rcases hal with rfl | rfl <;> exact hr
    have hb1 : w1.heap[b]? = some (.map es clock) := by rcases hal with rfl | rfl <;> exact hb
    have hset := heap_set (o' := .mapIter (some b) since (seen.push e.born) clock) hr1
    have hb' : (setBlock w1 r (.mapIter (some b) since (seen.push e.born) clock)).heap[b]? = some (.map es clock) := (hset.2 b hne).trans hb1
    have hem : e ∈ es.toList := by
      unfold leftOf at he; simp at he; simpa using he.1
    have hL : (leftOf es (seen.push e.born)).toList = (leftOf es seen).toList.filter fun y => !(y.born == e.born) := by
      unfold leftOf
      rw [Array.toList_filter, Array.toList_filter, List.filter_filter]
      congr 1
      funext y
      simp only [Array.contains_push, Bool.not_or]
      rw [Bool.and_comm]
    have hnd : ((leftOf es seen).toList.map (·.born)).Nodup := by
      unfold leftOf
      rw [Array.toList_filter]
      exact (List.filter_sublist.map _).nodup hs.2.1
    refine .inr ⟨e.key, e.val, (leftOf es (seen.push e.born)).toList.map entKV, _, ?_, hrun, ⟨es, clock, since, seen.push e.born, clock, hb', rfl, hs, hset.1, hold, hsk, hsk, rfl⟩, ?_, ?_, run_entry_at _ r b since seen es clock e hset.1 hb' hem hs.2.1⟩
    · rw [hL]
      have := (pick_perm (·.born) _ e he hnd).map entKV
      simpa [entKV] using this
    · rcases hal with rfl | rfl <;> exact ⟨rfl, rfl, rfl, by simp [setBlock], fun i _ hi => hset.2 i hi⟩
    · rcases hal with rfl | rfl <;> simp [setBlock]
theorem MapE.range {P : Program} {w : World} {b : Nat} {kv : List (Value × Value)} (h : MapE w b kv) {t k e : TypeId} (ht : P.underlying t = some (.map k e)) :
    ∃ w', (Instr.range t (.map (some b))).run P w = .ok (.pointer (some ⟨w.heap.size, 0, none⟩)) w' ∧ IterE w' b w.heap.size kv kv ∧ Below w.heap.size w w' ∧ w'.heap.size = w.heap.size + 1 := by
  have hlt := h.lt
  obtain ⟨es, clock, hb, rfl, hs⟩ := h
  refine ⟨_, run_range_map w t k e b es clock ht hb, ⟨es, clock, clock, #[], clock, ((Below.refl _ w).alloc (Nat.le_refl _) _).block b hlt |>.trans hb, rfl, hs, heap_alloc_new w _, hs.1, Nat.le_refl _, Nat.le_refl _, ?_⟩, (Below.refl _ w).alloc (Nat.le_refl _) _, by simp⟩
  congr 1
  unfold leftOf
  rw [Array.toList_filter]
  exact (List.filter_eq_self.2 fun x _ => by simp).symm
section
variable {P : Program} (w : World) {ops : Array Oper} {rest : List Oper} {o : Oper} {a : Act} {Q : Exit → Act → World → Prop}
theorem wpList_rangeE (hg : o.guard = none) (m : Operand) (t : TypeId) (hop : o.op = Op.range t m) (k e : TypeId) (ht : P.underlying t = some (.map k e)) (b : Nat) (kv : List (Value × Value))
    (hm : a.eval m = .map (some b)) (hown : MapE w b kv)
    (hK : ∀ w', IterE w' b w.heap.size kv kv → Below w.heap.size w w' → w'.heap.size = w.heap.size + 1 → wpList P ops Q rest (a.put o.dst (.pointer (some ⟨w.heap.size, 0, none⟩))) w') :
    wpList P ops Q (o :: rest) a w := by
  refine wpList_plain hg fun K' hK' => ?_
  obtain ⟨w', hrun, r1, r2, r3⟩ := hown.range ht
  unfold Oper.wp
  simp [execOp, hop, hm, hrun, Result.andThen]
  exact hK' _ _ (hK w' r1 r2 r3)
theorem wpList_nextE (hg : o.guard = none) (it : Operand) (hop : o.op = Op.next it false) (b r : Nat) (kv left : List (Value × Value)) (hit : a.eval it = .pointer (some ⟨r, 0, none⟩)) (h : IterE w b r kv left)
    (hDone : left = [] → wpList P ops Q rest (a.put o.dst (.tuple #[.bool false])) w)
    (hMore : ∀ (key v : Value) (left' : List (Value × Value)) (w' : World), left.Perm ((key, v) :: left') → IterE w' b r kv left' → Only (· = r) w w' → w'.heap.size = w.heap.size →
      (Instr.entry (.pointer (some ⟨r, 0, none⟩))).run P w' = .ok (.tuple #[key, v]) w' → wpList P ops Q rest (a.put o.dst (.tuple #[.bool true, key, v])) w') :
    wpList P ops Q (o :: rest) a w := by
  refine wpList_plain hg fun K' hK' => ?_
  unfold Oper.wp
  rcases h.next (P := P) o.type with ⟨h0, hrun⟩ | ⟨key, v, left', w', hp, hrun, hit', hon, hz, hen⟩
  · simp [execOp, hop, hit, hrun, Result.andThen]
    exact hK' _ _ (hDone h0)
  · simp [execOp, hop, hit, hrun, Result.andThen]
    exact hK' _ _ (hMore key v left' w' hp hit' hon hz hen)
theorem wpList_nextKV {α β : Type} (mkK : α → Value) (mkV : β → Value) (hg : o.guard = none) (it : Operand) (hop : o.op = Op.next it false) (b r : Nat) (kv left : List (Value × Value)) (inv : ∀ p ∈ kv, ∃ x y, p = (mkK x, mkV y)) (hit : a.eval it = .pointer (some ⟨r, 0, none⟩)) (h : IterE w b r kv left)
    (hDone : left = [] → wpList P ops Q rest (a.put o.dst (.tuple #[.bool false])) w)
    (hMore : ∀ (x : α) (y : β) (left' : List (Value × Value)) (w' : World), left.Perm ((mkK x, mkV y) :: left') → IterE w' b r kv left' → Only (· = r) w w' → w'.heap.size = w.heap.size →
      (Instr.entry (.pointer (some ⟨r, 0, none⟩))).run P w' = .ok (.tuple #[mkK x, mkV y]) w' → wpList P ops Q rest (a.put o.dst (.tuple #[.bool true, mkK x, mkV y])) w') :
    wpList P ops Q (o :: rest) a w :=
  wpList_nextE w hg it hop b r kv left hit h hDone fun key v left' w' hp hi hon hz hen => by
    obtain ⟨x, y, e⟩ := inv _ (h.sub (key, v) (hp.mem_iff.2 (List.mem_cons_self ..)))
    obtain ⟨rfl, rfl⟩ := Prod.mk.inj e
    exact hMore x y left' w' hp hi hon hz hen
end
end Go.Proofs.YtehlmjecbljafaaGreatDoor
