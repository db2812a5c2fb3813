/- A subject tree: Match, and what is found by deeds and a filter. What a tree of one deed and a filter that matches it give. The tree and the list are awake. Plain words: what becomes of a subject is a good subject, and the pattern that is made back matches it. Plain words: a pattern among the deeds that matches gives interest. -/
import Derived.Test.YtehlmjecbljafaaGreatDoorM15
import Derived.Test.YtehlmjecbljafaaGreatDoorM19
import Derived.Test.YtehlmjecbljafaaGreatDoorM23
namespace Go.Proofs.YtehlmjecbljafaaGreatDoor
open Go Go.RowKit
theorem parts_move {W0 W1 : World} {us : List Value} {ps : List (List UInt8)} {r t n : Nat} (h : PartsV W0 us ps) (hr : W0.heap[r]? = some (.cells (Array.replicate n (Value.slice none 0 0)) t (0, 0))) (hb : ∀ k, k < W0.heap.size → k ≠ r → W1.heap[k]? = W0.heap[k]?) : PartsV W1 us ps := by
  refine ⟨h.1, fun j u p hu hp => ?_⟩
  obtain ⟨h1, a, cap, rfl, h2, h3, h4⟩ := h.2 j u p hu hp
  refine ⟨h1, a, cap, rfl, h2, h3, fun h0 => ?_⟩
  obtain ⟨b, o, rfl, hc⟩ := h4 h0
  refine ⟨b, o, rfl, fun j x hj => ?_⟩
  have hcj := hc j x hj
  have hbr : b ≠ r := by
    rintro rfl
    rw [cell_row hr] at hcj
    have hm := List.mem_of_getElem? hj
    unfold u8s at hm
    obtain ⟨c, -, rfl⟩ := List.mem_map.1 hm
    rw [Array.getElem?_replicate] at hcj
    split at hcj <;> cases hcj
  exact (World.cell?_of_block (hb b (World.block_lt_of_cell? _ _ hcj) hbr)).trans hcj
theorem gB_ne : ∀ (n : Nat) (l run : List UInt8), l.length ≤ n → ∀ p ∈ gB run l, p ≠ []
  | _, [], run, _, p, hp => by
    rw [gB] at hp
    split at hp
    · cases hp
    · rename_i h; rw [List.mem_singleton] at hp; subst hp; exact h
  | 0, c :: l, run, hl, p, hp => by simp at hl
  | n + 1, c :: l, run, hl, p, hp => by
    simp only [List.length_cons] at hl
    rw [gB] at hp
    split at hp
    · rcases List.mem_cons.1 hp with rfl | hp
      · simp
      · rcases List.mem_cons.1 hp with rfl | hp
        · simp
        · exact gB_ne n _ _ (by rw [List.length_drop]; omega) p hp
    · split at hp
      · simp only [List.mem_cons, List.not_mem_nil, or_false] at hp
        rcases hp with rfl | rfl <;> simp
      · split at hp
        · rcases List.mem_cons.1 hp with rfl | hp
          · simp
          · exact gB_ne n _ _ (by rw [List.length_drop]; omega) p hp
        · split at hp
          · rw [List.mem_singleton] at hp; subst hp; simp
          · exact gB_ne n _ _ (by omega) p hp
theorem gB_len : ∀ (n : Nat) (l run : List UInt8), l.length ≤ n → (gB run l).length ≤ l.length + 1
  | _, [], run, _ => by rw [gB]; split <;> simp
  | 0, c :: l, run, hl => by simp at hl
  | n + 1, c :: l, run, hl => by
    simp only [List.length_cons] at hl
    rw [gB]
    split
    · rename_i h
      have h1 : 0 < l.length := by
        cases l with
        | nil => simp at h
        | cons a r => simp
      have ih := gB_len n (l.drop 2) [] (by rw [List.length_drop]; omega)
      rw [List.length_drop] at ih
      simp only [List.length_cons]
      omega
    · split
      · simp
      · split
        · have ih := gB_len n (l.drop 1) [] (by rw [List.length_drop]; omega)
          rw [List.length_drop] at ih
          simp only [List.length_cons]
          omega
        · split
          · simp
          · have ih := gB_len n l (run ++ [c]) (by omega)
            simp only [List.length_cons]
            omega
theorem cbSome (w : World) (c : Array Value) : (binOp .eql 96 (.func (.func 55) #[] c) .nilFunc).run Tryz.prog w = .ok (.bool false) w := by kernel_rfl
set_option maxRecDepth 100000 in
set_option maxHeartbeats 3200000 in
theorem match54_any (b L Bo : Nat) (n : Int) (s : ByteArray) (bf cf : Nat) (f : List UInt8) (o : Value) (cnt : Nat) (xs : List Value) (w : World) (hT : OneLeaf w b L n (bs s))
    (hW : WildB f) (hf : BsAt w bf 0 f) (hcap : f.length ≤ cf) (hm : cf ≤ maxLen) (hfl : f.length ≤ 100000) (hok : okP (gB [] f) (bs s)) (hs0 : 0 < s.size) (hs : s.size ≤ 256)
    (hBo : w.heap[Bo]? = some (.cells #[o] 41 (0, 0))) (hown : Own w (Bo + 1) 2 o cnt xs) (hF : ∀ k, o.ownBlock = some k → k ≠ L) (hLo : L ≠ Bo) (hn : cnt < 549755813888) :
    Calls Tryz.prog 54 #[.pointer (some ⟨b, 0, none⟩), .slice (some ⟨bf, 0, none⟩) f.length cf, .func (.func 55) #[] #[.pointer (some ⟨Bo, 0, none⟩)]] w fun e w' => e = .returned (.tuple #[]) ∧ ∃ o', w'.heap[Bo]? = some (.cells #[o'] 41 (0, 0)) ∧
      Own w' (Bo + 1) 2 o' (cnt + 1) (xs ++ [.string s, .int .i64 n]) ∧ Below Bo w w' := by
  have hlL := (Array.getElem?_eq_some_iff.1 hT.leaf).1
  have hlb := (Array.getElem?_eq_some_iff.1 hT.tree).1
  have hlo := (Array.getElem?_eq_some_iff.1 hBo).1
  have ct := (cell_row (j := 0) hT.tree).trans (show _ = some (Value.iface 197 (.pointer (some ⟨L, 0, none⟩))) from rfl)
  have hf0 : 0 < f.length := List.length_pos_iff.2 hW.ne
  have hbf : bf < w.heap.size := by
    have := World.block_lt_of_cell? _ _ (hf 0 _ (List.getElem?_eq_getElem hf0))
    exact this
  have ef0 : ((f.length : Int) == 0) = false := by rw [beq_eq_false_iff_ne]; omega
  have HT := Lib.hid hT; clear hT
  have HO := Lib.hid hown; clear hown
  have qF : ∀ w, (binOp .eql 96 (.func (.func 55) #[] #[.pointer (some ⟨Bo, 0, none⟩)]) .nilFunc).run Tryz.prog w = .ok (.bool false) w := fun w => cbSome w _
  go_enter Tryz.func54, Tryz.ntmps54
  go_wp2_with fail
  have hz2 : ((w.alloc (.cells #[.func (.func 55) #[] #[.pointer (some ⟨Bo, 0, none⟩)]] 96)).alloc (.cells (Array.replicate 32 (Value.slice none 0 0)) 140)).heap.size = w.heap.size + 2 := by simp
  have hown32 : Own ((w.alloc (.cells #[.func (.func 55) #[] #[.pointer (some ⟨Bo, 0, none⟩)]] 96)).alloc (.cells (Array.replicate 32 (Value.slice none 0 0)) 140)) (w.heap.size + 1) 1 (.slice (some ⟨w.heap.size + 1, 0, none⟩) 0 32) 0 [] := by
    refine ⟨rfl, .inr ⟨w.heap.size + 1, 32, Array.replicate 32 (Value.slice none 0 0), 140, rfl, Nat.le_refl _, ?_, by omega, by decide, by simp, rfl⟩⟩
    have := heap_alloc_new (w.alloc (.cells #[.func (.func 55) #[] #[.pointer (some ⟨Bo, 0, none⟩)]] 96)) (.cells (Array.replicate 32 (Value.slice none 0 0)) 140)
    rw [show (w.alloc (.cells #[.func (.func 55) #[] #[.pointer (some ⟨Bo, 0, none⟩)]] 96)).heap.size = w.heap.size + 1 by simp] at this
    exact this
  have hbel : Below w.heap.size w ((w.alloc (.cells #[.func (.func 55) #[] #[.pointer (some ⟨Bo, 0, none⟩)]] 96)).alloc (.cells (Array.replicate 32 (Value.slice none 0 0)) 140)) := ((Below.refl _ w).alloc (Nat.le_refl _) _).alloc (by simp) _
  have hcb : ((w.alloc (.cells #[.func (.func 55) #[] #[.pointer (some ⟨Bo, 0, none⟩)]] 96)).alloc (.cells (Array.replicate 32 (Value.slice none 0 0)) 140)).heap[w.heap.size]? = some (.cells #[.func (.func 55) #[] #[.pointer (some ⟨Bo, 0, none⟩)]] 96 (0, 0)) := by
    rw [((Below.refl (w.heap.size + 1) (w.alloc (.cells #[.func (.func 55) #[] #[.pointer (some ⟨Bo, 0, none⟩)]] 96))).alloc (by simp) _).block w.heap.size (by omega)]
    exact heap_alloc_new w _
  refine (genParts_any bf 0 cf f _ (w.heap.size + 1) _ hW (hf.bel hbel) hcap hm hown32 (by omega) (by rw [hz2]; omega) hfl).mono ?_
  rintro e w1 ⟨u, rfl, us, hou, hpv, hb1⟩
  rw [show w.heap.size + 1 = w.heap.size + 1 from rfl] at hou
  obtain ⟨ua, uc, rfl, -⟩ := hou.form
  have hsz1 := hb1.size
  rw [hz2] at hsz1
  have hcb1 := (hb1.block w.heap.size (by omega)).trans hcb
  have hb2 : Below w.heap.size w w1 := hbel.trans (hb1.mono (by omega))
  have hpv1 : PartsV w1 us (gB [] f) := parts_move hpv (r := w.heap.size + 1) (by
    have := heap_alloc_new (w.alloc (.cells #[.func (.func 55) #[] #[.pointer (some ⟨Bo, 0, none⟩)]] 96)) (.cells (Array.replicate 32 (Value.slice none 0 0)) 140)
    rw [show (w.alloc (.cells #[.func (.func 55) #[] #[.pointer (some ⟨Bo, 0, none⟩)]] 96)).heap.size = w.heap.size + 1 by simp] at this
    exact this) fun k hk hr => hb1.block k (by rw [hz2] at hk; omega)
  have hgl : (gB [] f).length ≤ 200000 := by have := gB_len f.length f [] (Nat.le_refl _); omega
  have hsv := hou.sl
  clear hown32 hcb hbel hb1 hpv hz2 hou
  go_wp2
  refine wp_any (fun W => ∃ cur, W.heap[w1.heap.size]? = some (.cells cur 143 (0, 0)) ∧ cur.size = 256 ∧ Below w1.heap.size w1 W) ⟨_, heap_alloc_new _ _, rfl, (Below.refl _ w1).alloc (Nat.le_refl _) _⟩ ?_
  rintro W ⟨cur, hBp, hcur, hbW⟩
  have hW2 := bel2 hb2 hbW
  have hTl := (hW2.block L hlL).trans HT.out.leaf
  have hTt := (hW2.block b hlb).trans HT.out.tree
  have hBoW := (hW2.block Bo hlo).trans hBo
  have hBcW := (hbW.block w.heap.size (by omega)).trans hcb1
  have ctW := (cell_row (j := 0) hTt).trans (show _ = some (Value.iface 197 (.pointer (some ⟨L, 0, none⟩))) from rfl)
  have hm := matchLeaf_any (.pointer (some ⟨b, 0, none⟩)) L w1.heap.size w.heap.size Bo n s (.slice ua us.length uc) us (gB [] f) cur o cnt xs (fun k => k = L ∨ k = w1.heap.size ∨ k = w.heap.size) W.drew
    (by rw [mk_bs] at hTl; exact hTl) ((hsv.keep hbW).keep (Below.refl _ W).drew) ((hpv1.keep hbW).keep (Below.refl _ W).drew) hok (fun p hp => gB_ne f.length f [] (Nat.le_refl _) p (List.mem_of_getElem? hp)) hs0 hs hgl hBp hcur hBcW hBoW
    ((HO.out.keep hW2).keep (Below.refl _ W).drew) (fun k hk h => by
      have h1 := (HO.out.lt k hk).2
      rcases h with h | h | h
      · exact hF k hk h
      · omega
      · omega) (fun k h => by
      have hz := hbW.size
      have hz3 : W.drew.heap.size = W.heap.size := rfl
      have hz4 := (Array.getElem?_eq_some_iff.1 hBp).1
      rcases h with h | h | h <;> omega) hn (.inl rfl) (.inr (.inl rfl)) (fun h => by
      rcases h with h | h | h
      · exact hLo h.symm
      · omega
      · omega) (.inr (.inr rfl)) (by omega) (by omega)
  have hmf : ∀ (fn : Fn) (first cap : Array Value) (w : World), (Instr.makeFunc fn first cap).run Tryz.prog w = .ok (.func fn first cap) w := fun _ _ _ _ => rfl
  have hzW := hbW.size
  clear hTl hTt hBoW hBcW hpv1 hsv hgl hBp hcb1 qF ct ef0 hok hf hW
  refine wp_region_L [0, 1, 2, 3, 4, 5, 6] (fun W' => W'.cell? ⟨b, 0, none⟩ = some (.iface 197 (.pointer (some ⟨L, 0, none⟩)))) (by kernel_rfl) (by kernel_rfl) ctW (fun ne => ?_)
  have S0 := fun x : SubC (fun W' => W'.cell? ⟨b, 0, none⟩ = some (.iface 197 (.pointer (some ⟨L, 0, none⟩)))) => x.ok
  repeat (refine wpCL_q rfl rfl ?_; go_big_quiet_step (fail); refine wpQuiet_nil ?_)
  refine wpCL_n rfl rfl rfl rfl ?_
  go_simp
  repeat (refine wpCL_q rfl rfl ?_; go_big_quiet_step (fail); refine wpQuiet_nil ?_)
  refine wpCL_w rfl rfl ?_
  go_wp2
  refine ⟨⟨⟨W.drew, ctW⟩, rfl⟩, ?_⟩
  refine wpCL_last ?_
  go_wp2_with fail
  refine hm.mono ?_
  rintro e w3 ⟨rfl, o', k1, k2, k3, k4⟩
  go_wp2
  go_end0
  refine ⟨rfl, o', k1, k2, ?_⟩
  have hsz2 := hb2.size
  have hb3 : Below Bo w W.drew := (hW2.mono (by omega)).drew
  refine hb3.trans (k4.below (fun k hk => ?_) (by have : W.drew.heap.size = W.heap.size := rfl; omega))
  rcases hk with h | h | h
  · omega
  · omega
  · have := (HO.out.lt k h).1; omega
end Go.Proofs.YtehlmjecbljafaaGreatDoor
namespace Go.Proofs.YtehlmjecbljafaaGreatDoor
open Go Go.RowKit
set_option maxRecDepth 100000 in
set_option maxHeartbeats 1600000 in
theorem treeMatch_any (v : Value) (d : Deed) (fs : ByteArray) (w : World) (hd : DeedsAt w v [d]) (hop : d.op = 0) (h127 : 127 ∉ bs d.subj) (hs0 : 0 < d.subj.size) (hs : d.subj.size ≤ 256) (hW : WildB (bs fs)) (hok : okP (gB [] (bs fs)) (bs d.subj)) (hfs : fs.size ≤ 100000) :
    Calls Tryz.prog 18 #[v, .string fs] w fun e w' => ∃ u, e = .returned u ∧ Own w' w.heap.size 2 u 1 [.string d.subj, .int .i64 d.val] ∧ Below w.heap.size w w' := by
  obtain ⟨va, vc, rfl⟩ := Sl.form hd
  have hne : bs d.subj ≠ [] := by intro e; have := bs_len d.subj; rw [e] at this; simp at this; omega
  have hz : (w.alloc (.cells #[.slice none 0 0] 41)).heap.size = w.heap.size + 1 := by simp
  have hbo := heap_alloc_new w (.cells #[.slice none 0 0] 41)
  have ht := tree_any _ [d] (LeafT (w.alloc (.cells #[.slice none 0 0] 41)).heap.size d) (w.alloc (.cells #[.slice none 0 0] 41)) (Sl.keep hd ((Below.refl _ w).alloc (Nat.le_refl _) _))
    (by intro x hx; rw [List.mem_singleton] at hx; subst hx; exact ⟨hop, by unfold maxLen; omega⟩) (by simp) (leaf_tree _ d h127 hne) ⟨fun x => Iff.rfl, heap_alloc_new _ _⟩
  rw [hz] at ht
  have hcv := fun (w : World) (s : ByteArray) => conv_bytes w s
  have hmf : ∀ (fn : Fn) (first cap : Array Value) (w : World), (Instr.makeFunc fn first cap).run Tryz.prog w = .ok (.func fn first cap) w := fun _ _ _ _ => rfl
  go_enter Tryz.func18, Tryz.ntmps18
  go_wp2_with fail
  refine ht.mono ?_
  rintro e w1 ⟨F, rfl, hT, hb1⟩
  obtain ⟨L, hL, -, hone⟩ := hT
  have hs1 := hb1.size
  rw [hz] at hs1
  have hbo1 := (hb1.block w.heap.size (by omega)).trans hbo
  go_wp2_with fail
  have hbW := bytesWorld_below w1 fs
  have hlt := (Array.getElem?_eq_some_iff.1 hone.tree).1
  have hlL := (Array.getElem?_eq_some_iff.1 hone.leaf).1
  have hm := match54_any (w.heap.size + 1) L w.heap.size d.val d.subj w1.heap.size (grownCap w1 fs.size 0 5) (bs fs) (.slice none 0 0) 0 [] (Lib.bytesWorld w1 5 fs) ⟨(hbW.block _ hlt).trans hone.tree, (hbW.block _ hlL).trans hone.leaf⟩ hW (bytesWorld_at w1 fs)
    (by rw [bs_len]; exact grownCap_ge _ _ _ _) (grownCap_le_maxLen _ _ _ _ (by unfold maxLen; omega)) (by rw [bs_len]; omega) hok hs0 hs ((hbW.block _ (by omega)).trans hbo1) (Own.nil _ _ _) (fun k h => by cases h) (by omega) (by decide)
  rw [bs_len] at hm
  refine hm.mono ?_
  rintro e w2 ⟨rfl, o', k1, k2, k3⟩
  have c0 := (cell_row (j := 0) k1).trans (show _ = some o' from rfl)
  obtain ⟨oa, oc, rfl, -⟩ := k2.form
  go_wp2
  go_ret
  refine ⟨_, rfl, k2.mono (by omega), ?_⟩
  have h1 : Below w.heap.size w w1 := ((Below.refl _ w).alloc (Nat.le_refl _) _).trans (hb1.mono (by omega))
  exact (h1.trans (hbW.mono (by omega))).trans k3
end Go.Proofs.YtehlmjecbljafaaGreatDoor
namespace Go.Proofs.YtehlmjecbljafaaGreatDoor
open Go Go.RowKit
set_option maxRecDepth 100000 in
set_option maxHeartbeats 1600000 in
theorem count_any (b root : Nat) (c : Int) (w : World) (hbk : w.heap[b]? = some (.cells (gslCells root c) 178 (0, 0))) :
    Calls Tryz.prog 80 #[.pointer (some ⟨b, 0, none⟩)] w fun e w' => e = .returned (.int .u32 c) ∧ Only (· = b) w w' := by
  have hrl := RwLone.rlock_open rwRLib b 0 0 _ _ w ((cell_row (j := 0) hbk).trans (show _ = some (Value.int .i32 0) from rfl)) ((cell_row (j := 3) hbk).trans (show _ = some (Value.int .u32 0) from rfl)) ((cell_row (j := 4) hbk).trans (show _ = some (Value.int .i32 0) from rfl)) (frozen_row (j := 4) hbk) (by rw [wrap_up]; decide)
  have h4 : (w.setCell ⟨b, 4, none⟩ (.int .i32 1)).heap[b]? = some (.cells #[.int .i32 0, .int .u32 0, .int .u32 0, .int .u32 0, .int .i32 1, .int .i32 0, .pointer (some ⟨root, 0, none⟩), .int .u32 c] 178 (0, 0)) := heap_setCell_same w b 4 _ 178 (.int .i32 1) hbk
  have ho4 : Only (· = b) w (w.setCell ⟨b, 4, none⟩ (.int .i32 1)) := (Only.refl (· = b) w).set (.inl rfl) _
  go_enter_defers Tryz.func80, Tryz.ntmps80
  go_wp2_with fail
  refine hrl.mono ?_
  rintro e w3 ⟨rfl, hw3⟩
  rw [wrap_up] at hw3
  simp only [Nat.zero_add] at hw3
  rw [← hw3] at h4 ho4
  clear hw3 hrl
  have r7 := (cell_row (j := 7) h4).trans (show _ = some (Value.int .u32 c) from rfl)
  go_wp2
  refine leaves_cons (f := 113) (args := #[.pointer (some ⟨b, 0, none⟩)]) (by simp) (by simp [go_sem]) ?_
  refine (RwLone.runlock_deferred rwRLib b 0 1 _ _ .returning w3 ((cell_row (j := 0) h4).trans (show _ = some (Value.int .i32 0) from rfl)) ((cell_row (j := 2) h4).trans (show _ = some (Value.int .u32 0) from rfl)) ((cell_row (j := 4) h4).trans (show _ = some (Value.int .i32 1) from rfl)) (frozen_row (j := 4) h4) (by rw [wrap_down]; decide)).mono ?_
  rintro e u' w9 ⟨rfl, rfl, rfl⟩
  exact ⟨_, results_tmp rfl _ _ _, rfl, ho4.set (.inl rfl) _⟩
set_option maxRecDepth 100000 in
set_option maxHeartbeats 1600000 in
theorem listKinds_any (v : Value) (ds : List Deed) (w : World) (hd : DeedsAt w v ds) (hop : ∀ d ∈ ds, d.op = 0 ∧ d.subj.size ≤ 100000 ∧ PatP (pathOf d) ∧ (Lit.int .i64 d.val).wf = true) (hn : ds.length ≤ 1000) :
    Calls Tryz.prog 44 #[v] w fun e w' => ∃ u xs, e = .returned (.tuple #[u, .int .i64 ds.length]) ∧ Own w' w.heap.size 1 u ds.length xs ∧ (∀ x ∈ xs, x = .int .i64 0) ∧ Below w.heap.size w w' := by
  have hl := list_any v ds w hd hop hn
  clear hop hd
  go_enter Tryz.func44, Tryz.ntmps44
  go_wp2_with fail
  refine hl.mono ?_
  rintro e w1 ⟨b, u, xs, T, F, n, rfl, hb, hL, ho, hx, hob⟩
  have HL := Lib.hid hL; clear hL hl
  go_wp2_with fail
  refine (count_any b _ _ w1 HL.out.head).mono ?_
  rintro e w2 ⟨rfl, h2⟩
  go_wp2
  go_ret2
  refine ⟨u, xs, rfl, ho.only h2 (fun k hk e => hob k hk e), hx, HL.out.bel.trans (h2.below (fun x hx => by omega) HL.out.bel.size)⟩
theorem deeds_one (w : World) (s : ByteArray) (x : Int) : DeedsAt (w.alloc (.cells #[.int .i64 0, .string s, .int .i64 x] 39)) (.slice (some ⟨w.heap.size, 0, none⟩) 1 1) [⟨0, s, x⟩] := by
  refine ⟨rfl, _, _, rfl, Nat.le_refl _, by decide, fun _ => ⟨_, _, rfl, fun j v hj => ?_⟩⟩
  rw [Nat.zero_add, cell_row (heap_alloc_new w _)]
  simpa [Deed.cells] using hj
def sAB : ByteArray := ⟨#[97, 46, 98]⟩
def sAS : ByteArray := ⟨#[97, 46, 42]⟩
theorem path_AS : (toks sAS).map bs = [[97], [42]] := by
  unfold toks
  rw [map_mk_bs]
  decide
theorem pat_AS : PatP [[97], [42]] := by
  refine ⟨by simp, by simp, fun k hk => ?_, fun t ht => .inl ?_, by simp⟩
  · match k with
    | 0 => simp at hk
    | 1 => simp at hk
    | k + 2 => simp at hk
  · simp only [List.mem_cons, List.not_mem_nil, or_false] at ht
    rcases ht with rfl | rfl <;> simp
set_option maxRecDepth 100000 in
set_option maxHeartbeats 1600000 in
theorem awakeList_any (w : World) : Calls Tryz.prog 13 #[] w fun e w' => e = .returned (.bool true) ∧ Below w.heap.size w w' := by
  have hk := listKinds_any _ [⟨0, sAS, 3⟩] _ (deeds_one w sAS 3) (fun d hd => by
    rw [List.mem_singleton] at hd
    subst hd
    refine ⟨rfl, by decide, ?_, by decide⟩
    show PatP ((toks sAS).map bs)
    rw [path_AS]; exact pat_AS) (by simp)
  go_enter Tryz.func13, Tryz.ntmps13
  go_wp2_with fail
  refine hk.mono ?_
  rintro e w2 ⟨u, xs, rfl, ho, hx, hb⟩
  obtain ⟨a, c, rfl, -⟩ := ho.form
  have hsl := ho.sl
  have hxl := ho.1
  have hz : (w.alloc (.cells #[.int .i64 0, .string sAS, .int .i64 3] 39)).heap.size = w.heap.size + 1 := by simp
  obtain ⟨bb, o, rfl, hc⟩ := hsl.cell (Below.refl _ w2) (by rw [hxl]; decide)
  have hc0 : w2.cell? ⟨bb, o, none⟩ = some (.int .i64 0) := by
    have hp : 0 < xs.length := by rw [hxl]; decide
    have h1 : xs[0]? = some xs[0] := List.getElem?_eq_getElem hp
    have := hc 0 _ h1
    rw [hx _ (List.mem_of_getElem? h1)] at this
    exact this
  clear hc hx hsl
  go_wp2
  go_ret
  exact ⟨rfl, ((Below.refl _ w).alloc (Nat.le_refl _) _).trans (hb.mono (by omega))⟩
set_option maxRecDepth 100000 in
set_option maxHeartbeats 1600000 in
theorem awakeTree_any (w : World) : Calls Tryz.prog 12 #[] w fun e w' => e = .returned (.bool true) ∧ Below w.heap.size w w' := by
  have hz : (w.alloc (.cells #[.int .i64 0, .string sAB, .int .i64 3] 39)).heap.size = w.heap.size + 1 := by simp
  have hk := treeRun_any _ [⟨0, sAB, 3⟩] (LeafT (w.alloc (.cells #[.int .i64 0, .string sAB, .int .i64 3] 39)).heap.size ⟨0, sAB, 3⟩) _ 1 (deeds_one w sAB 3) (fun d hd => by
    rw [List.mem_singleton] at hd
    subst hd
    exact ⟨rfl, by decide⟩) (by simp) (leaf_tree _ _ (by decide) (by decide)) ⟨fun x => Iff.rfl, heap_alloc_new _ _⟩ (fun F W hT => by
      obtain ⟨L, -, -, h⟩ := hT
      exact ⟨_, h.tree⟩)
  go_enter Tryz.func12, Tryz.ntmps12
  go_wp2_with fail
  refine hk.mono ?_
  rintro e w2 ⟨a, c, rfl, hb⟩
  go_wp2
  go_ret
  exact ⟨rfl, ((Below.refl _ w).alloc (Nat.le_refl _) _).trans (hb.mono (by omega))⟩
end Go.Proofs.YtehlmjecbljafaaGreatDoor
namespace Go.Proofs.YtehlmjecbljafaaGreatDoor
open Go Go.RowKit
/-- What the conditions tell. -/
structure Cond (A src : ByteArray) (ps : List Part) : Prop where
  plain : PlainS A
  map : MapP src ps
  rev : RevP ps (wildsN ((toks src).map bs)) ps.length
  fits : ∀ p ∈ ps, p.word.size ≤ 2147483647
  hit : matchT ((toks A).map bs) ((toks src).map bs) = true
theorem matchT_len : ∀ {p l : List (List UInt8)}, matchT l p = true → (∀ k : Nat, p[k]? = some [62] → k + 1 = p.length) → p.length ≤ l.length
  | [], l, _, _ => Nat.zero_le _
  | q :: p, [], h, _ => by simp [matchT] at h
  | q :: p, t :: l, h, hl => by
    unfold matchT at h
    by_cases h1 : q = [62]
    · have := hl 0 (by rw [h1]; rfl)
      simp only [List.length_cons] at this ⊢
      omega
    · rw [if_neg h1] at h
      by_cases h2 : q ≠ [42] ∧ q ≠ t
      · rw [if_pos h2] at h; cases h
      · rw [if_neg h2] at h
        have := matchT_len h fun k hk => by
          have := hl (k + 1) (by simpa using hk)
          simpa using this
        simpa using this
theorem placesN_lt {l : List (List UInt8)} {x : Nat} (h : x ∈ placesN l) : x < l.length := by
  unfold placesN at h
  exact List.mem_range.1 (List.mem_filter.1 h).1
theorem formed_last {s : ByteArray} (h : FormedP (toks s) (toks s).length) (k : Nat) (hk : ((toks s).map bs)[k]? = some [62]) : k + 1 = ((toks s).map bs).length := by
  rw [List.getElem?_map] at hk
  cases ht : (toks s)[k]? with
  | none => rw [ht] at hk; cases hk
  | some t =>
    rw [ht] at hk
    have hk' : k < (toks s).length := (List.getElem?_eq_some_iff.1 ht).1
    have := (h k t hk' ht).2 (Option.some.inj hk)
    rw [List.length_map]; exact this
theorem cond_len {A src : ByteArray} {ps : List Part} (h : Cond A src ps) : (toks src).length ≤ (toks A).length := by
  have := matchT_len h.hit (formed_last h.map.sound.1)
  simpa using this
theorem cond_parts {A src : ByteArray} {ps : List Part} (h : Cond A src ps) : PartsOK (wildsN ((toks src).map bs)) ps := by
  refine ⟨fun p hp => ?_, h.map.known, h.map.some', h.map.few⟩
  obtain ⟨j, hj, e⟩ := List.mem_iff_getElem.1 hp
  have hj' : ps[j]? = some p := by rw [List.getElem?_eq_getElem hj, e]
  have hk := h.map.known j p hj hj'
  have hr := h.rev j p hj hj'
  refine ⟨?_, hk.2.2.1, hk.2.2.2.1, ?_, h.fits p hp⟩
  · rcases hr with hr | hr
    · exact .inl hr
    · exact .inr hr.1
  · intro h12
    rcases hr with hr | hr
    · omega
    · exact ⟨hr.2.1, by have := hr.2.2; omega⟩
theorem cond_head {A src : ByteArray} {ps : List Part} (h : Cond A src ps) : ∀ (k : Nat) (t : ByteArray), (toks A)[k]? = some t → HeadOK t := fun k t ht =>
  headOK h.plain.formed h.plain.lit h.plain.tame ht
theorem cond_pl {A src : ByteArray} {ps : List Part} (h : Cond A src ps) : ∀ x ∈ placesN ((toks src).map bs), x < (toks A).length := by
  intro x hx
  have h1 := placesN_lt hx
  have h2 := (cond_len h)
  rw [List.length_map] at h1
  omega
/-- What one part yields. -/
theorem cond_out {A src : ByteArray} {ps : List Part} (h : Cond A src ps) {p : Part} (hp : p ∈ ps) (h11 : p.kind ≠ 11) :
    (p.kind = 0 ∧ LettersP p.word ∧ outP (toks A) (placesN ((toks src).map bs)) p = bs p.word) ∨ (p.kind ≠ 0 ∧ ∃ t ∈ toks A, outP (toks A) (placesN ((toks src).map bs)) p = bs t) := by
  have hok := (cond_parts h).1 p hp
  by_cases h0 : p.kind = 0
  · exact .inl ⟨h0, (cond_parts h).letters hp h0, by unfold outP; rw [if_pos h0]⟩
  · refine .inr ⟨h0, ?_⟩
    have h12 : p.kind = 1 ∨ p.kind = 2 := by rcases hok.kind with h | h; omega; exact h
    obtain ⟨n1, n2⟩ := hok.wild h12
    have hl := placesN_wilds (toks src)
    have hx : (p.n - 1).toNat < (placesN ((toks src).map bs)).length := by rw [hl]; omega
    have hlt := (cond_pl h) _ (List.getElem_mem hx)
    refine ⟨_, List.getElem_mem hlt, ?_⟩
    unfold outP
    rw [if_neg h0, List.getElem?_eq_getElem hx, Option.getD_some, List.getElem?_eq_getElem hlt, Option.getD_some]
theorem outT_cons (T : List ByteArray) (pl : List Nat) (m : Nat) (p : Part) (r : List Part) : outT T pl m (p :: r) = (if p.kind = 11 then (T.drop (m - 1)).map bs else [outP T pl p]) ++ outT T pl m r := by
  unfold outT; rw [List.flatMap_cons]
theorem cond_mem {A src : ByteArray} {ps : List Part} (h : Cond A src ps) {u : List UInt8} (hu : u ∈ outT (toks A) (placesN ((toks src).map bs)) (toks src).length ps) :
    (∃ p ∈ ps, LettersP p.word ∧ u = bs p.word) ∨ ∃ t ∈ toks A, u = bs t := by
  unfold outT at hu
  obtain ⟨p, hp, hu⟩ := List.mem_flatMap.1 hu
  split at hu
  · obtain ⟨t, ht, rfl⟩ := List.mem_map.1 hu
    exact .inr ⟨t, List.mem_of_mem_drop ht, rfl⟩
  · rename_i h11
    rw [List.mem_singleton] at hu
    subst hu
    rcases (cond_out h) hp h11 with ⟨-, h1, h2⟩ | ⟨-, t, ht, h2⟩
    · exact .inl ⟨p, hp, h1, h2⟩
    · exact .inr ⟨t, ht, h2⟩
theorem toks_nodot {s t : ByteArray} (h : t ∈ toks s) : 46 ∉ bs t := by
  obtain ⟨u, hu, rfl⟩ := List.mem_map.1 h
  rw [bs_mk]; exact splitDot_nodot hu
theorem cond_nodot {A src : ByteArray} {ps : List Part} (h : Cond A src ps) {u : List UInt8} (hu : u ∈ outT (toks A) (placesN ((toks src).map bs)) (toks src).length ps) : 46 ∉ u := by
  rcases (cond_mem h) hu with ⟨p, -, hl, rfl⟩ | ⟨t, ht, rfl⟩
  · intro hm; exact (letter_ok (hl.2 _ hm)).1 rfl
  · exact toks_nodot ht
theorem cond_rest {A src : ByteArray} {ps : List Part} (h : Cond A src ps) : 0 < ((toks A).drop ((toks src).length - 1)).length := by
  have h1 := (cond_len h)
  have h2 := toks_pos src
  rw [List.length_drop]; omega
theorem cond_ne {A src : ByteArray} {ps : List Part} (h : Cond A src ps) : outT (toks A) (placesN ((toks src).map bs)) (toks src).length ps ≠ [] := by
  have h0 := h.map.some'
  cases ps with
  | nil => cases h0
  | cons p r =>
    rw [outT_cons]
    intro e
    have e1 := (List.append_eq_nil_iff.1 e).1
    split at e1
    · have := (cond_rest h)
      rw [← List.length_map (f := bs), e1] at this
      cases this
    · cases e1
theorem cond_toks {A src : ByteArray} {ps : List Part} (h : Cond A src ps) : toks (mk (joinD (outT (toks A) (placesN ((toks src).map bs)) (toks src).length ps))) = (outT (toks A) (placesN ((toks src).map bs)) (toks src).length ps).map mk :=
  toks_join (cond_ne h) fun _ hu => (cond_nodot h) hu
theorem joinD_mem : ∀ {l : List (List UInt8)} {c : UInt8}, c ∈ joinD l → c = 46 ∨ ∃ u ∈ l, c ∈ u
  | [], c, h => by cases h
  | [t], c, h => .inr ⟨t, by simp, h⟩
  | t :: u :: r, c, h => by
    simp only [joinD, List.mem_append, List.mem_cons] at h
    rcases h with h | rfl | h
    · exact .inr ⟨t, by simp, h⟩
    · exact .inl rfl
    · rcases joinD_mem (l := u :: r) h with rfl | ⟨x, hx, hc⟩
      · exact .inl rfl
      · exact .inr ⟨x, by simp only [List.mem_cons] at hx ⊢; exact .inr hx, hc⟩
theorem cond_bytes {A src : ByteArray} {ps : List Part} (h : Cond A src ps) : ∀ c ∈ joinD (outT (toks A) (placesN ((toks src).map bs)) (toks src).length ps), 32 < c.toNat ∧ c.toNat ≠ 127 := by
  intro c hc
  rcases joinD_mem hc with rfl | ⟨u, hu, hc⟩
  · decide
  · rcases (cond_mem h) hu with ⟨p, -, hl, rfl⟩ | ⟨t, ht, rfl⟩
    · have := hl.2 c hc
      unfold letterB at this
      omega
    · exact h.plain.clean.2 c (toks_byte ht hc)
theorem letters_head {t : ByteArray} (h : LettersP t) : HeadOK t := by
  have h0 := bs_pos h.1
  have := letter_ok (h.2 _ (bs_head h0))
  refine ⟨h0, fun e => this.2.1 (UInt8.toNat_inj.1 e), fun e => this.2.2 (UInt8.toNat_inj.1 e)⟩
theorem cond_good {A src : ByteArray} {ps : List Part} (h : Cond A src ps) : GoodS (mk (joinD (outT (toks A) (placesN ((toks src).map bs)) (toks src).length ps))) := by
  refine ⟨fun k t ht => ?_, fun c hc => ((cond_bytes h) c (by rwa [bs_mk] at hc)).1⟩
  rw [(cond_toks h)] at ht
  obtain ⟨u, hu, rfl⟩ := List.mem_map.1 (List.mem_of_getElem? ht)
  rcases (cond_mem h) hu with ⟨p, -, hl, rfl⟩ | ⟨x, hx, rfl⟩
  · rw [mk_bs]; exact letters_head hl
  · rw [mk_bs]
    obtain ⟨j, hj, e⟩ := List.mem_iff_getElem.1 hx
    exact (cond_head h) j x (by rw [List.getElem?_eq_getElem hj, e])
theorem valid_pat {s : ByteArray} (h : ValidS s) : PatP ((toks s).map bs) := by
  refine ⟨fun t ht => ?_, fun t ht => ?_, formed_last h.formed, fun t ht => ?_, ?_⟩
  · obtain ⟨u, hu, rfl⟩ := List.mem_map.1 ht
    obtain ⟨j, hj, e⟩ := List.mem_iff_getElem.1 hu
    exact (h.formed j u hj (by rw [List.getElem?_eq_getElem hj, e])).1
  · obtain ⟨u, hu, rfl⟩ := List.mem_map.1 ht
    exact toks_nodot hu
  · obtain ⟨u, hu, rfl⟩ := List.mem_map.1 ht
    obtain ⟨j, hj, e⟩ := List.mem_iff_getElem.1 hu
    exact h.tame j u hj (by rw [List.getElem?_eq_getElem hj, e])
  · intro e
    have h1 := congrArg List.length e
    have h2 := toks_pos s
    rw [List.length_map, List.length_nil] at h1
    omega
theorem backP_cases {wn : Nat} {ps : List Part} (h : PartsOK wn ps) {p : Part} (hp : p ∈ ps) : (p.kind = 0 ∧ LettersP p.word ∧ backP p = bs p.word) ∨ (p.kind = 11 ∧ backP p = [62]) ∨ (p.kind ≠ 0 ∧ p.kind ≠ 11 ∧ backP p = [42]) := by
  unfold backP
  by_cases h0 : p.kind = 0
  · exact .inl ⟨h0, h.letters hp h0, by rw [if_pos h0]⟩
  · by_cases h1 : p.kind = 11
    · exact .inr (.inl ⟨h1, by rw [if_neg h0, if_pos h1]⟩)
    · exact .inr (.inr ⟨h0, h1, by rw [if_neg h0, if_neg h1]⟩)
theorem backs_pat {wn : Nat} {ps : List Part} (h : PartsOK wn ps) : PatP (backs ps) := by
  refine ⟨fun t ht => ?_, fun t ht => ?_, fun k hk => ?_, fun t ht => ?_, ?_⟩
  · obtain ⟨p, hp, rfl⟩ := List.mem_map.1 ht
    rcases backP_cases h hp with ⟨-, hl, e⟩ | ⟨-, e⟩ | ⟨-, -, e⟩ <;> rw [e]
    · exact hl.1
    · simp
    · simp
  · obtain ⟨p, hp, rfl⟩ := List.mem_map.1 ht
    rcases backP_cases h hp with ⟨-, hl, e⟩ | ⟨-, e⟩ | ⟨-, -, e⟩ <;> rw [e]
    · intro hm; exact (letter_ok (hl.2 _ hm)).1 rfl
    · decide
    · decide
  · unfold backs at hk ⊢
    rw [List.getElem?_map] at hk
    cases hp : ps[k]? with
    | none => rw [hp] at hk; cases hk
    | some p =>
      rw [hp] at hk
      have hk : backP p = [62] := Option.some.inj hk
      rcases backP_cases h (List.mem_of_getElem? hp) with ⟨-, hl, e⟩ | ⟨h11, e⟩ | ⟨-, -, e⟩
      · rw [e] at hk
        exact absurd rfl (letter_ok (hl.2 62 (by rw [hk]; simp))).2.2
      · rw [List.length_map]; exact h.last hp h11
      · rw [e] at hk; cases hk
  · obtain ⟨p, hp, rfl⟩ := List.mem_map.1 ht
    rcases backP_cases h hp with ⟨-, hl, e⟩ | ⟨-, e⟩ | ⟨-, -, e⟩ <;> rw [e]
    · exact .inr fun c hc => (letter_ok (hl.2 c hc)).2
    · exact .inl (by simp)
    · exact .inl (by simp)
  · intro e
    have h1 := congrArg List.length e
    have h2 := h.2.2.1
    unfold backs at h1
    rw [List.length_map, List.length_nil] at h1
    omega
theorem out_match (T : List ByteArray) (pl : List Nat) (m : Nat) (hT : 0 < (T.drop (m - 1)).length) : ∀ r : List Part, (∀ p ∈ r, p.kind = 0 → LettersP p.word) → (∀ (k : Nat) (p : Part), r[k]? = some p → p.kind = 11 → k + 1 = r.length) →
    matchT (outT T pl m r) (backs r) = true
  | [], _, _ => rfl
  | p :: r, h0, h1 => by
    have ih := out_match T pl m hT r (fun q hq => h0 q (by simp [hq])) fun k q hq h11 => by
      have := h1 (k + 1) q (by simpa using hq) h11
      simpa using this
    rw [outT_cons]
    unfold backs at ih ⊢
    rw [List.map_cons]
    by_cases h11 : p.kind = 11
    · rw [if_pos h11]
      cases hd : T.drop (m - 1) with
      | nil => rw [hd] at hT; cases hT
      | cons t ts =>
        have hb : backP p = [62] := by unfold backP; rw [if_neg (by omega), if_pos h11]
        rw [hb, List.map_cons, List.cons_append, matchT, if_pos rfl]
    · rw [if_neg h11, List.singleton_append, matchT]
      by_cases hk : p.kind = 0
      · have hb : backP p = bs p.word := by unfold backP; rw [if_pos hk]
        have ho : outP T pl p = bs p.word := by unfold outP; rw [if_pos hk]
        have hl := h0 p (by simp) hk
        rw [hb, ho, if_neg (fun e => (letter_ok (hl.2 62 (by rw [e]; simp))).2.2 rfl), if_neg (by rintro ⟨-, h⟩; exact h rfl)]
        exact ih
      · have hb : backP p = [42] := by unfold backP; rw [if_neg hk, if_neg h11]
        rw [hb, if_neg (by decide), if_neg (by rintro ⟨h, -⟩; exact h rfl)]
        exact ih
theorem cond_met {A src : ByteArray} {ps : List Part} (h : Cond A src ps) : matchT (outT (toks A) (placesN ((toks src).map bs)) (toks src).length ps) (backs ps) = true :=
  out_match _ _ _ (cond_rest h) ps (fun _ hp hk => (cond_parts h).letters hp hk) fun _ _ hp hk => (cond_parts h).last hp hk
theorem cond_src0 {A src : ByteArray} {ps : List Part} (h : Cond A src ps) : bs src ≠ [] := by
  intro e
  have ht : toks src = [⟨#[]⟩] := by unfold toks; rw [e]; rfl
  have := h.map.sound.1 0 ⟨#[]⟩ (by rw [ht]; decide) (by rw [ht]; rfl)
  exact this.1 rfl
theorem textP_ne {wn : Nat} {ps : List Part} (h : PartsOK wn ps) {p : Part} (hp : p ∈ ps) : textP p ≠ [] ∧ (textP p = [62] → p.kind = 11) := by
  unfold textP textL
  split
  · rename_i hk
    have hl := h.letters hp hk
    exact ⟨hl.1, fun e => absurd rfl (letter_ok (hl.2 62 (by rw [e]; simp))).2.2⟩
  · split
    · rename_i hk
      exact ⟨by simp, fun _ => hk⟩
    · split
      · exact ⟨by simp, fun e => by simp at e⟩
      · exact ⟨by simp, fun e => by
          have := congrArg List.length e
          simp at this⟩
theorem cond_dest0 {A src : ByteArray} {ps : List Part} (h : Cond A src ps) : bs (mk (joinD (texts ps))) ≠ [] := by
  rw [bs_mk]
  have h0 := h.map.some'
  have hp := (cond_parts h)
  cases ps with
  | nil => cases h0
  | cons p r => exact joinD_ne0 (textP_ne hp (by simp)).1
theorem cond_all {A src : ByteArray} {ps : List Part} (h : Cond A src ps) (hs : bs src = [62]) (hd : bs (mk (joinD (texts ps))) = [62]) :
    outT (toks A) (placesN ((toks src).map bs)) (toks src).length ps = (toks A).map bs := by
  have hsl : (toks src).length = 1 := by unfold toks; rw [hs]; rfl
  rw [bs_mk] at hd
  have h0 := h.map.some'
  have hp := (cond_parts h)
  cases ps with
  | nil => cases h0
  | cons p r =>
    have hne := (textP_ne hp (p := p) (by simp)).1
    cases r with
    | nil =>
      have hk := (textP_ne hp (p := p) (by simp)).2 hd
      rw [outT_cons, if_pos hk, hsl]
      simp [outT]
    | cons q r =>
      exfalso
      simp only [texts, List.map_cons, joinD] at hd
      have hl := congrArg List.length hd
      have : 0 < (textP p).length := List.length_pos_iff.2 hne
      simp only [List.length_append, List.length_cons, List.length_nil] at hl
      omega
theorem cond_sum {A src : ByteArray} {ps : List Part} (h : Cond A src ps) : sumL (outT (toks A) (placesN ((toks src).map bs)) (toks src).length ps) ≤ 21474836480 := by
  have hA : sumL ((toks A).map bs) ≤ 401 := by
    rw [toks, map_mk_bs, sum_splitDot, bs_len]
    have := h.plain.clean.1
    omega
  have key : ∀ r : List Part, (∀ p ∈ r, p ∈ ps) → sumL (outT (toks A) (placesN ((toks src).map bs)) (toks src).length r) ≤ r.length * 2147483648 := by
    intro r
    induction r with
    | nil => intro _; simp [outT, sumL]
    | cons p r ih =>
      intro hr
      have ih := ih fun q hq => hr q (by simp [hq])
      rw [outT_cons, sumL_append, List.length_cons, Nat.succ_mul]
      have : sumL (if p.kind = 11 then ((toks A).drop ((toks src).length - 1)).map bs else [outP (toks A) (placesN ((toks src).map bs)) p]) ≤ 2147483648 := by
        split
        · rw [List.map_drop]
          have := sumL_drop ((toks A).map bs) ((toks src).length - 1)
          omega
        · rename_i h11
          rcases (cond_out h) (hr p (by simp)) h11 with ⟨-, -, e⟩ | ⟨-, t, ht, e⟩ <;> rw [e]
          · have := h.fits p (hr p (by simp))
            simp only [sumL, List.foldr_cons, List.foldr_nil, bs_len]
            omega
          · have := sumL_mem (List.mem_map_of_mem (f := bs) ht)
            simp only [sumL, List.foldr_cons, List.foldr_nil] at *
            omega
      omega
  have := key ps fun _ h => h
  have h10 := h.map.few
  have := Nat.mul_le_mul_right 2147483648 h10
  omega
end Go.Proofs.YtehlmjecbljafaaGreatDoor
namespace Go.Proofs.YtehlmjecbljafaaGreatDoor
open Go Go.RowKit
theorem has_of_match (T : Trie) : ∀ (P l p : Path), P ≠ [] → (∀ q, q <+: P → q ≠ [] → T.N (p ++ q)) → 0 < T.V (p ++ P) → matchT l P = true → hasT T p l
  | [], _, _, h, _, _, _ => absurd rfl h
  | q :: P, [], p, _, _, _, hm => by simp [matchT] at hm
  | q :: P, t :: l, p, _, hN, hV, hm => by
    have h1 : T.N (p ++ [q]) := hN [q] (by simp) (by simp)
    rw [hasT]
    by_cases h62 : q = [62]
    · exact .inl (h62 ▸ h1)
    · rw [matchT, if_neg h62] at hm
      by_cases hc : q ≠ [42] ∧ q ≠ t
      · rw [if_pos hc] at hm; cases hm
      · rw [if_neg hc] at hm
        have key : if l = [] then 0 < T.V (p ++ [q]) else hasT T (p ++ [q]) l := by
          by_cases hl : l = []
          · subst hl
            rw [if_pos rfl]
            cases P with
            | nil => exact hV
            | cons a b => simp [matchT] at hm
          · rw [if_neg hl]
            have hP : P ≠ [] := by
              rintro rfl
              cases l with
              | nil => exact hl rfl
              | cons a b => simp [matchT] at hm
            refine has_of_match T P l (p ++ [q]) hP (fun x hx _ => ?_) (by rw [List.append_assoc]; exact hV) hm
            rw [List.append_assoc]
            exact hN ([q] ++ x) (by obtain ⟨y, hy⟩ := hx; exact ⟨y, by rw [← hy]; simp⟩) (by simp)
        by_cases h42 : q = [42]
        · subst h42; exact .inr (.inl ⟨h1, key⟩)
        · have : q = t := by by_cases e : q = t; exact e; exact absurd ⟨h42, e⟩ hc
          subst this
          exact .inr (.inr ⟨h1, key⟩)
end Go.Proofs.YtehlmjecbljafaaGreatDoor
