/- The list of interest: the walk of an insertion. -/
import Derived.Test.YtehlmjecbljafaaGreatDoorR8
namespace Go.Proofs.YtehlmjecbljafaaGreatDoor
open Go Go.RowKit
theorem z213 (w : World) : (zeroValue 212).run Tryz.prog w = .ok (.pointer none) w := by kernel_rfl
/-- The cells of a list of interest whose lock is held. -/
def gslHeld (root : Nat) (n : Int) : Array Value := #[.int .i32 1, .int .u32 0, .int .u32 0, .int .u32 0, .int .i32 (-1073741824), .int .i32 0, .pointer (some ⟨root, 0, none⟩), .int .u32 n]
/-- What an insertion has done behind k tokens. -/
structure InsSt (T : Trie) (F : Nat → Prop) (n : Nat) (P : Path) (w2 : World) (k : Nat) (Tk : Trie) (Fk : Nat → Prop) (nk : Nat) (wr : World) : Prop where
 ok : TrieOK Tk Fk nk wr
 le : nk ≤ n + k
 N : ∀ q, Tk.N q ↔ T.N q ∨ q <+: P.take k
 V : ∀ q, 0 < Tk.V q ↔ 0 < T.V q
 V1 : ∀ q, Tk.V q ≤ T.V q
 root : Tk.aL [] = T.aL []
 old : ∀ x, Fk x → F x ∨ w2.heap.size ≤ x
 lt : ∀ x, Fk x → x < wr.heap.size
 only : Only F w2 wr
theorem prefix_snoc {q : Path} {P : Path} {k : Nat} {t : List UInt8} (h : P[k]? = some t) : q <+: P.take (k + 1) ↔ q <+: P.take k ∨ q = P.take k ++ [t] := by
 rw [List.take_add_one, h, Option.toList_some]
 exact List.prefix_concat_iff.trans or_comm
theorem InsSt.here {T : Trie} {F : Nat → Prop} {n : Nat} {P : Path} {w2 : World} {k : Nat} {Tk : Trie} {Fk : Nat → Prop} {nk : Nat} {wr : World} (h : InsSt T F n P w2 k Tk Fk nk wr) : Tk.N (P.take k) := (h.N _).2 (.inr (List.prefix_refl _))
/-- A path that is there already. -/
theorem InsSt.skip {T : Trie} {F : Nat → Prop} {n : Nat} {P : Path} {w2 : World} {k : Nat} {Tk : Trie} {Fk : Nat → Prop} {nk : Nat} {wr : World} {t : List UInt8} (h : InsSt T F n P w2 k Tk Fk nk wr) (ht : P[k]? = some t) (hN : Tk.N (P.take k ++ [t])) :
  InsSt T F n P w2 (k + 1) Tk Fk nk wr :=
 { h with
  le := by have := h.le; omega
  N := fun q => by
   rw [prefix_snoc ht, ← or_assoc, ← h.N]
   refine ⟨.inl, ?_⟩
   rintro (hq | rfl)
   ·exact hq
   ·exact hN }
/-- A new path. -/
theorem InsSt.new {T : Trie} {F : Nat → Prop} {n : Nat} {P : Path} {w2 : World} {k : Nat} {Tk : Trie} {Fk : Nat → Prop} {nk : Nat} {wr w' : World} {t : List UInt8} {l m a s : Nat} (h : InsSt T F n P w2 k Tk Fk nk wr) (ht : P[k]? = some t) (hV : ∀ q, 0 < T.V q → T.N q) (hnew : ¬ Tk.N (P.take k ++ [t]))
  (hok : TrieOK (Tk.add (P.take k ++ [t]) l m a s) (fun x => Fk x ∨ x = l ∨ x = m ∨ x = a ∨ x = s) (nk + 1) w') (ho : Only Fk wr w') (hlt : l < w'.heap.size ∧ m < w'.heap.size ∧ a < w'.heap.size ∧ s < w'.heap.size) (hge : wr.heap.size ≤ l ∧ wr.heap.size ≤ m ∧ wr.heap.size ≤ a ∧ wr.heap.size ≤ s) :
  InsSt T F n P w2 (k + 1) (Tk.add (P.take k ++ [t]) l m a s) (fun x => Fk x ∨ x = l ∨ x = m ∨ x = a ∨ x = s) (nk + 1) w' where
 ok := hok
 le := by have := h.le; omega
 N := fun q => by
  rw [prefix_snoc ht, ← or_assoc, ← h.N]
  exact Iff.rfl
 V := fun q => by
  simp only [Trie.add]
  split
  ·rename_i e
   refine ⟨fun h => absurd h (Nat.lt_irrefl _), fun hq => ?_⟩
   exact absurd ((h.N _).2 (.inl (hV q hq))) (e ▸ hnew)
  ·exact h.V q
 V1 := fun q => by
  simp only [Trie.add]
  split
  ·exact Nat.zero_le _
  ·exact h.V1 q
 root := by
  simp only [Trie.add]
  rw [if_neg (fun e => snoc_ne _ _ e.symm)]
  exact h.root
 old := fun x hx => by
  have := h.only.size
  rcases hx with hx | rfl | rfl | rfl | rfl
  ·exact h.old x hx
  all_goals exact .inr (by omega)
 lt := fun x hx => by
  have := ho.size
  rcases hx with hx | rfl | rfl | rfl | rfl
  ·have := h.lt x hx; omega
  all_goals omega
 only := h.only.trans ho h.old
set_option maxRecDepth 100000 in
set_option maxHeartbeats 6400000 in
theorem insert_any (b : Nat) (s : ByteArray) (x : Int) (c : Int) (T : Trie) (F : Nat → Prop) (n : Nat) (w : World) (hb : w.heap[b]? = some (.cells (gslCells (T.aL []) c) 178 (0, 0))) (hT : TrieOK T F n w) (hV : ∀ q, 0 < T.V q → T.N q) (hF : ∀ k, F k → k < w.heap.size) (hFb : ¬ F b)
  (hP : PatP ((toks s).map bs)) (hs : s.size ≤ 100000) (hn : n ≤ 1000000000) (hx : (Lit.int .i64 x).wf = true) (hc : 0 ≤ c ∧ c ≤ 1000000) :
  Calls Tryz.prog 95 #[.pointer (some ⟨b, 0, none⟩), .string s, .int .i64 x] w fun e w' => e = .returned .nilIface ∧ ∃ T' F' n', TrieOK T' F' n' w' ∧ n' ≤ n + s.size + 2 ∧ (∀ q, T'.N q ↔ T.N q ∨ q <+: (toks s).map bs) ∧ (∀ q, 0 < T'.V q ↔ 0 < T.V q ∨ q = (toks s).map bs) ∧
   T'.aL [] = T.aL [] ∧ w'.heap[b]? = some (.cells (gslCells (T.aL []) (c + 1)) 178 (0, 0)) ∧ Only (fun k => F k ∨ k = b) w w' ∧ (∀ k, F' k → F k ∨ w.heap.size ≤ k) ∧ (∀ k, F' k → k < w'.heap.size) ∧ ∀ q, T'.V q ≤ T.V q + 1 := by
 have hlb := (Array.getElem?_eq_some_iff.1 hb).1
 have hcb := fun (j : Nat) (v : Value) (h : (gslCells (T.aL []) c)[j]? = some v) => (cell_row (j := j) hb).trans h
 have c0 := hcb 0 _ rfl
 have c2 := hcb 2 _ rfl
 have c3 := hcb 3 _ rfl
 have c4 := hcb 4 _ rfl
 have z0 := frozen_row (j := 0) hb
 have z4 := frozen_row (j := 4) hb
 have hlock := RwLone.wlock_free rwWLib b 0 _ _ w c0 c2 c3 c4 z0 z4
 have h1 := heap_setCell_same w b 0 _ 178 (.int .i32 1) hb
 have h2 := heap_setCell_same (w.setCell ⟨b, 0, none⟩ (.int .i32 1)) b 4 _ 178 (.int .i32 (-1073741824)) h1
 clear hcb c0 c2 c3 c4 z0 z4
 go_enter Tryz.func95, Tryz.ntmps95
 go_wp2_with fail
 refine hlock.mono ?_
 rintro e w1 ⟨rfl, hw1⟩
 simp only [Nat.zero_add] at hw1
 have hb1 : w1.heap[b]? = some (.cells (gslHeld (T.aL []) c) 178 (0, 0)) := by rw [hw1]; exact h2
 have ho1 : Only (· = b) w w1 := by rw [hw1]; exact ((Only.refl (· = b) w).set (.inl rfl) _).set (.inl rfl) _
 have hT1 : TrieOK T F n w1 := hT.keep fun k hk => ho1.block k (hF k hk) (fun e => hFb (e ▸ hk))
 have hF1 : ∀ k, F k → k < w1.heap.size := fun k hk => Nat.lt_of_lt_of_le (hF k hk) ho1.size
 clear h1 h2 hlock hw1 hT
 have r6 := (cell_row (j := 6) hb1).trans (show _ = some (Value.pointer (some ⟨T.aL [], 0, none⟩)) from rfl)
 go_wp2_with fail
 refine (gslSplit_any s w1 (by omega)).mono ?_
 rintro e w2 ⟨v, rfl, hown, hb2⟩
 have hl := toks_len s
 have hT2 : TrieOK T F n w2 := hT1.keep fun k hk => hb2.block k (hF1 k hk)
 have hF2 : ∀ k, F k → k < w2.heap.size := fun k hk => Nat.lt_of_lt_of_le (hF1 k hk) hb2.size
 have hbk2 := (hb2.block b (Array.getElem?_eq_some_iff.1 hb1).1).trans hb1
 have hob := hown.lt
 obtain ⟨va, vc, rfl, -⟩ := hown.form
 have HOW := Lib.hid hown; clear hown
 have HPP := Lib.hid hP; clear hP
 have HV := Lib.hid hV; clear hV
 clear r6 hT1
 go_wp2
 go_loopw [7, 8, 9, 24] (fun sf nd lv i wr => ∃ (k : Nat) (bb : Bool) (Tk : Trie) (Fk : Nat → Prop) (nk : Nat), k ≤ (toks s).length ∧ i = .int .i64 k ∧ sf = .bool bb ∧ (bb = true → k = (toks s).length) ∧
   lv = .pointer (some ⟨Tk.aL (((toks s).map bs).take k), 0, none⟩) ∧ (0 < k → nd = .pointer (some ⟨Tk.aN (((toks s).map bs).take k), 0, none⟩)) ∧ InsSt T F n ((toks s).map bs) w2 k Tk Fk nk wr) (fun _ _ _ i _ => (toks s).length - (intOf i).toNat)
 case atStart =>
  exact ⟨0, false, T, F, n, Nat.zero_le _, rfl, rfl, (fun h => by cases h), rfl, (fun h => absurd h (Nat.lt_irrefl _)), ⟨hT2, Nat.le_refl _, fun q => by
   rw [List.take_zero, List.prefix_nil]
   exact ⟨.inl, fun h => by rcases h with h | rfl; exact h; exact hT2.root⟩, fun q => Iff.rfl, fun q => Nat.le_refl _, rfl, fun x hx => .inl hx, hF2, Only.refl _ _⟩⟩
 case round =>
  obtain ⟨k, bb, Tk, Fk, nk, hk, rfl, rfl, hbb, rfl, hnd, hI⟩ := hrel
  by_cases hlt : k < (toks s).length
  ·obtain rfl : bb = false := by cases bb with | false => rfl | true => exact absurd (hbb rfl) (by omega)
   have hvk : Sl wr 1 (.slice va (toks s).length vc) (toks s).length ((toks s).map Value.string) := (HOW.out.only hI.only (fun k hk hf => by have := (hob k hk).1; have := hF1 k hf; omega)).sl
   obtain ⟨kb, ko, t, rfl, Ht, hct⟩ := hvk.str (Below.refl _ _) hlt
   have htP : ((toks s).map bs)[k]? = some (bs t) := by rw [List.getElem?_map, Ht.out]; rfl
   have hne := HPP.out.ne (bs t) (List.mem_of_getElem? htP)
   have hlast := HPP.out.last k
   have h0 := bs_pos hne
   have htame := HPP.out.tame (bs t) (List.mem_of_getElem? htP)
   have htz : t.size ≤ s.size := toks_mem (List.mem_of_getElem? Ht.out)
   have htM : t.size ≤ maxLen := by unfold maxLen; omega
   have hp := hI.here
   have hlevc := hI.ok.lev _ hp
   have hc0 := (cell_row (j := 0) hlevc).trans (show _ = some (Value.map (some (Tk.aM (((toks s).map bs).take k)))) from rfl)
   have hc1 := (cell_row (j := 1) hlevc).trans (show _ = some (Tk.ptr (((toks s).map bs).take k ++ [[42]])) from rfl)
   have hc2 := (cell_row (j := 2) hlevc).trans (show _ = some (Tk.ptr (((toks s).map bs).take k ++ [[62]])) from rfl)
   obtain ⟨f, hmf, hff⟩ := hI.ok.map _ hp
   have hlk := hmf.look Tryz.underlying213 (z213 wr) t htM
   have es0 : ((t.size : Int) == 0) = false := by rw [beq_eq_false_iff_ne]; omega
   have hlo := (Array.getElem?_eq_some_iff.1 hlevc).1
   have etk : ((toks s).map bs).take (k + 1) = ((toks s).map bs).take k ++ [bs t] := by rw [List.take_add_one, htP]; rfl
   have HE := Lib.hid etk; clear etk
   have HI := Lib.hid hI; clear hI
   have HM := Lib.hid (And.intro hmf hff)
   generalize hpp : ((toks s).map bs).take k = p at *
   by_cases h42 : bs t = [42]
   ·have ebt := h42
    obtain ⟨e1, e2⟩ := bs_one h42
    have hc42 : (((t[0]).toNat : Int) == 42) = true := by rw [e2 h0]; rfl
    have hs1 : ¬ ((t.size : Int) > 1) := by omega
    have E1 := Lib.hid e1; clear e1 e2
    by_cases hN : Tk.N (p ++ [[42]])
    ·have hN' : Tk.N (p ++ [[42]]) := hN
     have hn0 := HI.out.ok.nod p ([42]) hN'
     have hn1 := (cell_row (j := 0) hn0).trans (show _ = some (Value.pointer (some ⟨Tk.aL (p ++ [[42]]), 0, none⟩)) from rfl)
     rw [Trie.ptr_yes hN'] at hc1
     clear hmf hff hn0 hlevc
     go_wp2
     go_roundw
     case rel => exact ⟨k + 1, false, Tk, Fk, nk, hlt, by go_num, rfl, (fun h => by cases h), by rw [HE.out, ebt], (fun _ => by rw [HE.out, ebt]), HI.out.skip (by rw [htP, ebt]) (by rw [hpp]; exact hN')⟩
     case measure => simp [intOf]; omega
    ·have hN' : ¬ Tk.N (p ++ [[42]]) := hN
     have hc1' := hc1
     rw [Trie.ptr_no hN'] at hc1
     clear hmf hff
     go_wp2_with fail
     refine (newNode_abs wr).mono ?_
     rintro e u1 ⟨a, sb, rfl, a1, s1, ha, hsb, hu1⟩
     have hlev1 := (hu1.block _ hlo).trans hlevc
     have hd0 := (cell_row (j := 0) hlev1).trans (show _ = some (Value.map (some (Tk.aM p))) from rfl)
     have ha0 := (cell_row (j := 0) ha).trans (show _ = some (Value.pointer none) from rfl)
     have hz1 := hu1.size
     have hla := (Array.getElem?_eq_some_iff.1 ha).1
     have hmlt := HM.out.1.lt
     have hfz := frozen_row (j := 1) hlev1
     have hdj := (cell_row (j := 1) hlev1).trans (show _ = some (Tk.ptr (p ++ [[42]])) from rfl)
     rw [Trie.ptr_no hN'] at hdj
     have haw : (u1.setCell ⟨Tk.aL p, 1, none⟩ (.pointer (some ⟨a, 0, none⟩))).cell? ⟨a, 0, none⟩ = some (.pointer none) := (World.cell?_of_block (heap_setCell_other _ _ _ _ (by show a ≠ Tk.aL p; omega))).trans ha0
     clear hc0 hc1 hc2 hlk
     go_wp2_with fail
     have hls := heap_setCell_same u1 (Tk.aL p) 1 _ 215 (.pointer (some ⟨a, 0, none⟩)) hlev1
     have ho2 := (Only.refl (· = Tk.aL p) u1).set (b := Tk.aL p) (i := 1) (.inl rfl) (.pointer (some ⟨a, 0, none⟩))
     generalize u1.setCell ⟨Tk.aL p, 1, none⟩ (.pointer (some ⟨a, 0, none⟩)) = u2 at *
     have ha2 := (ho2.block a hla (by omega)).trans ha
     have hz2 := ho2.size
     refine (newLevel_abs u2).mono ?_
     rintro e u3 ⟨l, m, rfl, l1, m1, hL, hM, hu3⟩
     have hz3 := hu3.size
     have ha3 := (hu3.block a (by omega)).trans ha2
     have ha30 := (cell_row (j := 0) ha3).trans (show _ = some (Value.pointer none) from rfl)
     have hfz3 := frozen_row (j := 0) ha3
     have ha40 : (u3.setCell ⟨a, 0, none⟩ (.pointer (some ⟨l, 0, none⟩))).cell? ⟨a, 0, none⟩ = some (.pointer (some ⟨l, 0, none⟩)) := World.cell?_setCell_same _ _ _ ha30
     obtain ⟨g1, g2⟩ := grow_done (t := [42]) HI.out.ok hp hN' HI.out.lt hu1 a1 s1 ha hsb (ho2.mono fun k hk => .inl hk) (by simpa using hls) ⟨f, ((HM.out.1.keep (hu1.block _ hmlt)).keep (ho2.block _ (by omega) (HM.out.1.ne hlevc))).more (by omega), fun u hu1 hu2 => by rw [HM.out.2 u hu1 hu2, if_neg hu1]⟩ hu3 l1 m1 hL hM
     have hlt4 := And.intro (Array.getElem?_eq_some_iff.1 hL).1 (And.intro hM.lt hsb.lt)
     have HG := Lib.hid (And.intro g1 g2); clear g1 g2
     clear hlevc hlev1 hd0 ha ha0 ha2 ha3 hL hM hu3 hu1 hsb ho2
     go_wp2
     go_roundw
     case rel => exact ⟨k + 1, false, Tk.add (p ++ [[42]]) l m a sb, _, nk + 1, hlt, by go_num, rfl, (fun h => by cases h), (by rw [HE.out, ebt]; simp [Trie.add]), (fun _ => by rw [HE.out, ebt]; simp [Trie.add]), (by have hfin := HI.out.new (t := [42]) (l := l) (m := m) (a := a) (s := sb) (by rw [htP, ebt]) HV.out (by rw [hpp]; exact hN') (by rw [hpp]; exact HG.out.1) HG.out.2 ⟨by rw [size_setCell]; omega, by rw [size_setCell]; omega, by rw [size_setCell]; omega, by rw [size_setCell]; omega⟩ ⟨by omega, by omega, by omega, by omega⟩; rw [hpp] at hfin; exact hfin)⟩
     case measure => simp [intOf]; omega
   ·by_cases h62 : bs t = [62]
    ·have ebt := h62
     obtain ⟨e1, e2⟩ := bs_one h62
     have hc62 : (((t[0]).toNat : Int) == 62) = true := by rw [e2 h0]; rfl
     have hc42 : (((t[0]).toNat : Int) == 42) = false := by rw [e2 h0]; rfl
     have hs1 : ¬ ((t.size : Int) > 1) := by omega
     have E1 := Lib.hid e1; clear e1 e2
     by_cases hN : Tk.N (p ++ [[62]])
     ·have hN' : Tk.N (p ++ [[62]]) := hN
      have hn0 := HI.out.ok.nod p ([62]) hN'
      have hn1 := (cell_row (j := 0) hn0).trans (show _ = some (Value.pointer (some ⟨Tk.aL (p ++ [[62]]), 0, none⟩)) from rfl)
      rw [Trie.ptr_yes hN'] at hc2
      clear hmf hff hn0 hlevc
      go_wp2
      go_roundw
      case rel => exact ⟨k + 1, true, Tk, Fk, nk, hlt, by go_num, rfl, (fun _ => by have := hlast (by rw [htP, ebt]); rw [List.length_map] at this; omega), by rw [HE.out, ebt], (fun _ => by rw [HE.out, ebt]), HI.out.skip (by rw [htP, ebt]) (by rw [hpp]; exact hN')⟩
      case measure => simp [intOf]; omega
     ·have hN' : ¬ Tk.N (p ++ [[62]]) := hN
      have hc2' := hc2
      rw [Trie.ptr_no hN'] at hc2
      clear hmf hff
      go_wp2_with fail
      refine (newNode_abs wr).mono ?_
      rintro e u1 ⟨a, sb, rfl, a1, s1, ha, hsb, hu1⟩
      have hlev1 := (hu1.block _ hlo).trans hlevc
      have hd0 := (cell_row (j := 0) hlev1).trans (show _ = some (Value.map (some (Tk.aM p))) from rfl)
      have ha0 := (cell_row (j := 0) ha).trans (show _ = some (Value.pointer none) from rfl)
      have hz1 := hu1.size
      have hla := (Array.getElem?_eq_some_iff.1 ha).1
      have hmlt := HM.out.1.lt
      have hfz := frozen_row (j := 2) hlev1
      have hdj := (cell_row (j := 2) hlev1).trans (show _ = some (Tk.ptr (p ++ [[62]])) from rfl)
      rw [Trie.ptr_no hN'] at hdj
      have haw : (u1.setCell ⟨Tk.aL p, 2, none⟩ (.pointer (some ⟨a, 0, none⟩))).cell? ⟨a, 0, none⟩ = some (.pointer none) := (World.cell?_of_block (heap_setCell_other _ _ _ _ (by show a ≠ Tk.aL p; omega))).trans ha0
      clear hc0 hc1 hc2 hlk
      go_wp2_with fail
      have hls := heap_setCell_same u1 (Tk.aL p) 2 _ 215 (.pointer (some ⟨a, 0, none⟩)) hlev1
      have ho2 := (Only.refl (· = Tk.aL p) u1).set (b := Tk.aL p) (i := 2) (.inl rfl) (.pointer (some ⟨a, 0, none⟩))
      generalize u1.setCell ⟨Tk.aL p, 2, none⟩ (.pointer (some ⟨a, 0, none⟩)) = u2 at *
      have ha2 := (ho2.block a hla (by omega)).trans ha
      have hz2 := ho2.size
      refine (newLevel_abs u2).mono ?_
      rintro e u3 ⟨l, m, rfl, l1, m1, hL, hM, hu3⟩
      have hz3 := hu3.size
      have ha3 := (hu3.block a (by omega)).trans ha2
      have ha30 := (cell_row (j := 0) ha3).trans (show _ = some (Value.pointer none) from rfl)
      have hfz3 := frozen_row (j := 0) ha3
      have ha40 : (u3.setCell ⟨a, 0, none⟩ (.pointer (some ⟨l, 0, none⟩))).cell? ⟨a, 0, none⟩ = some (.pointer (some ⟨l, 0, none⟩)) := World.cell?_setCell_same _ _ _ ha30
      obtain ⟨g1, g2⟩ := grow_done (t := [62]) HI.out.ok hp hN' HI.out.lt hu1 a1 s1 ha hsb (ho2.mono fun k hk => .inl hk) (by simpa using hls) ⟨f, ((HM.out.1.keep (hu1.block _ hmlt)).keep (ho2.block _ (by omega) (HM.out.1.ne hlevc))).more (by omega), fun u hu1 hu2 => by rw [HM.out.2 u hu1 hu2, if_neg hu2]⟩ hu3 l1 m1 hL hM
      have hlt4 := And.intro (Array.getElem?_eq_some_iff.1 hL).1 (And.intro hM.lt hsb.lt)
      have HG := Lib.hid (And.intro g1 g2); clear g1 g2
      clear hlevc hlev1 hd0 ha ha0 ha2 ha3 hL hM hu3 hu1 hsb ho2
      go_wp2
      go_roundw
      case rel => exact ⟨k + 1, true, Tk.add (p ++ [[62]]) l m a sb, _, nk + 1, hlt, by go_num, rfl, (fun _ => by have := hlast (by rw [htP, ebt]); rw [List.length_map] at this; omega), (by rw [HE.out, ebt]; simp [Trie.add]), (fun _ => by rw [HE.out, ebt]; simp [Trie.add]), (by have hfin := HI.out.new (t := [62]) (l := l) (m := m) (a := a) (s := sb) (by rw [htP, ebt]) HV.out (by rw [hpp]; exact hN') (by rw [hpp]; exact HG.out.1) HG.out.2 ⟨by rw [size_setCell]; omega, by rw [size_setCell]; omega, by rw [size_setCell]; omega, by rw [size_setCell]; omega⟩ ⟨by omega, by omega, by omega, by omega⟩; rw [hpp] at hfin; exact hfin)⟩
      case measure => simp [intOf]; omega
    ·by_cases h1 : 1 < t.size
     ·have n42 : bs t ≠ [42] := h42
      have n62 : bs t ≠ [62] := h62
      rw [hff (bs t) n42 n62] at hlk
      by_cases hN : Tk.N (p ++ [bs t])
      ·have hN' : Tk.N (p ++ [bs t]) := hN
       have hn0 := HI.out.ok.nod p (bs t) hN'
       have hn1 := (cell_row (j := 0) hn0).trans (show _ = some (Value.pointer (some ⟨Tk.aL (p ++ [bs t]), 0, none⟩)) from rfl)
       rw [Trie.ptr_yes hN'] at hlk
       clear hmf hff hn0 hlevc
       go_wp2
       go_roundw
       case rel => exact ⟨k + 1, false, Tk, Fk, nk, hlt, by go_num, rfl, (fun h => by cases h), by rw [HE.out], (fun _ => by rw [HE.out]), HI.out.skip (by rw [htP]) (by rw [hpp]; exact hN')⟩
       case measure => simp [intOf]; omega
      ·have hN' : ¬ Tk.N (p ++ [bs t]) := hN
       rw [Trie.ptr_no hN'] at hlk
       clear hmf hff
       go_wp2_with fail
       refine (newNode_abs wr).mono ?_
       rintro e u1 ⟨a, sb, rfl, a1, s1, ha, hsb, hu1⟩
       have hlev1 := (hu1.block _ hlo).trans hlevc
       have hd0 := (cell_row (j := 0) hlev1).trans (show _ = some (Value.map (some (Tk.aM p))) from rfl)
       have ha0 := (cell_row (j := 0) ha).trans (show _ = some (Value.pointer none) from rfl)
       have hz1 := hu1.size
       have hla := (Array.getElem?_eq_some_iff.1 ha).1
       have hmlt := HM.out.1.lt
       have hm1 := HM.out.1.keep (hu1.block _ hmlt)
       clear hc0 hc1 hc2 hlk
       go_wp2_with (at_mapUpdate; refine wpList_upd _ rfl _ _ _ _ rfl (Tk.aM p) _ _ rfl rfl rfl (fun w' => MapS w' (Tk.aM p) (nk + 1) (.pointer none) (fun u => if u = bs t then .pointer (some ⟨a, 0, none⟩) else f u) ∧ Only (· = Tk.aM p) u1 w') (hm1.store Tryz.underlying213 (by have := HI.out.le; unfold maxLen; omega) t htM _) ?_; rintro u2 ⟨hm2, ho2⟩; have ha2 := (ho2.block a hla (by omega)).trans ha; have ha20 := (cell_row (j := 0) ha2).trans (show _ = some (Value.pointer none) from rfl))
       have hz2 := ho2.size
       refine (newLevel_abs u2).mono ?_
       rintro e u3 ⟨l, m, rfl, l1, m1, hL, hM, hu3⟩
       have hz3 := hu3.size
       have ha3 := (hu3.block a (by omega)).trans ha2
       have ha30 := (cell_row (j := 0) ha3).trans (show _ = some (Value.pointer none) from rfl)
       have hfz3 := frozen_row (j := 0) ha3
       have ha40 : (u3.setCell ⟨a, 0, none⟩ (.pointer (some ⟨l, 0, none⟩))).cell? ⟨a, 0, none⟩ = some (.pointer (some ⟨l, 0, none⟩)) := World.cell?_setCell_same _ _ _ ha30
       obtain ⟨g1, g2⟩ := grow_done (t := bs t) HI.out.ok hp hN' HI.out.lt hu1 a1 s1 ha hsb (ho2.mono fun k hk => .inr hk) (by rw [if_neg n42, if_neg n62]; exact (ho2.block _ (by omega) (HM.out.1.ne hlevc).symm).trans hlev1) ⟨_, hm2, fun u hu1 hu2 => by rw [HM.out.2 u hu1 hu2]⟩ hu3 l1 m1 hL hM
       have hlt4 := And.intro (Array.getElem?_eq_some_iff.1 hL).1 (And.intro hM.lt hsb.lt)
       have HG := Lib.hid (And.intro g1 g2); clear g1 g2
       clear hlevc hlev1 hd0 ha ha0 ha2 ha3 hL hM hu3 hu1 hsb ho2
       go_wp2
       go_roundw
       case rel => exact ⟨k + 1, false, Tk.add (p ++ [bs t]) l m a sb, _, nk + 1, hlt, by go_num, rfl, (fun h => by cases h), (by rw [HE.out]; simp [Trie.add]), (fun _ => by rw [HE.out]; simp [Trie.add]), (by have hfin := HI.out.new (t := bs t) (l := l) (m := m) (a := a) (s := sb) (by rw [htP]) HV.out (by rw [hpp]; exact hN') (by rw [hpp]; exact HG.out.1) HG.out.2 ⟨by rw [size_setCell]; omega, by rw [size_setCell]; omega, by rw [size_setCell]; omega, by rw [size_setCell]; omega⟩ ⟨by omega, by omega, by omega, by omega⟩; rw [hpp] at hfin; exact hfin)⟩
       case measure => simp [intOf]; omega
     ·have n42 : bs t ≠ [42] := h42
      have n62 : bs t ≠ [62] := h62
      rw [hff (bs t) n42 n62] at hlk
      have hob1 : bs t = [t[0]] := by
       obtain ⟨y, hy⟩ := List.length_eq_one_iff.1 (show (bs t).length = 1 by rw [bs_len]; omega)
       have := bs_at? t 0 h0
       rw [hy] at this ⊢
       simpa using this
      have hc42 : (((t[0]).toNat : Int) == 42) = false := by
       rw [beq_eq_false_iff_ne]; intro e; have h3 : t[0] = 42 := UInt8.toNat_inj.1 (show (t[0]).toNat = 42 by omega); exact n42 (by rw [hob1, h3])
      have hc62 : (((t[0]).toNat : Int) == 62) = false := by
       rw [beq_eq_false_iff_ne]; intro e; have h3 : t[0] = 62 := UInt8.toNat_inj.1 (show (t[0]).toNat = 62 by omega); exact n62 (by rw [hob1, h3])
      clear hob1
      by_cases hN : Tk.N (p ++ [bs t])
      ·have hN' : Tk.N (p ++ [bs t]) := hN
       have hn0 := HI.out.ok.nod p (bs t) hN'
       have hn1 := (cell_row (j := 0) hn0).trans (show _ = some (Value.pointer (some ⟨Tk.aL (p ++ [bs t]), 0, none⟩)) from rfl)
       rw [Trie.ptr_yes hN'] at hlk
       clear hmf hff hn0 hlevc
       go_wp2
       go_roundw
       case rel => exact ⟨k + 1, false, Tk, Fk, nk, hlt, by go_num, rfl, (fun h => by cases h), by rw [HE.out], (fun _ => by rw [HE.out]), HI.out.skip (by rw [htP]) (by rw [hpp]; exact hN')⟩
       case measure => simp [intOf]; omega
      ·have hN' : ¬ Tk.N (p ++ [bs t]) := hN
       rw [Trie.ptr_no hN'] at hlk
       clear hmf hff
       go_wp2_with fail
       refine (newNode_abs wr).mono ?_
       rintro e u1 ⟨a, sb, rfl, a1, s1, ha, hsb, hu1⟩
       have hlev1 := (hu1.block _ hlo).trans hlevc
       have hd0 := (cell_row (j := 0) hlev1).trans (show _ = some (Value.map (some (Tk.aM p))) from rfl)
       have ha0 := (cell_row (j := 0) ha).trans (show _ = some (Value.pointer none) from rfl)
       have hz1 := hu1.size
       have hla := (Array.getElem?_eq_some_iff.1 ha).1
       have hmlt := HM.out.1.lt
       have hm1 := HM.out.1.keep (hu1.block _ hmlt)
       clear hc0 hc1 hc2 hlk
       go_wp2_with (at_mapUpdate; refine wpList_upd _ rfl _ _ _ _ rfl (Tk.aM p) _ _ rfl rfl rfl (fun w' => MapS w' (Tk.aM p) (nk + 1) (.pointer none) (fun u => if u = bs t then .pointer (some ⟨a, 0, none⟩) else f u) ∧ Only (· = Tk.aM p) u1 w') (hm1.store Tryz.underlying213 (by have := HI.out.le; unfold maxLen; omega) t htM _) ?_; rintro u2 ⟨hm2, ho2⟩; have ha2 := (ho2.block a hla (by omega)).trans ha; have ha20 := (cell_row (j := 0) ha2).trans (show _ = some (Value.pointer none) from rfl))
       have hz2 := ho2.size
       refine (newLevel_abs u2).mono ?_
       rintro e u3 ⟨l, m, rfl, l1, m1, hL, hM, hu3⟩
       have hz3 := hu3.size
       have ha3 := (hu3.block a (by omega)).trans ha2
       have ha30 := (cell_row (j := 0) ha3).trans (show _ = some (Value.pointer none) from rfl)
       have hfz3 := frozen_row (j := 0) ha3
       have ha40 : (u3.setCell ⟨a, 0, none⟩ (.pointer (some ⟨l, 0, none⟩))).cell? ⟨a, 0, none⟩ = some (.pointer (some ⟨l, 0, none⟩)) := World.cell?_setCell_same _ _ _ ha30
       obtain ⟨g1, g2⟩ := grow_done (t := bs t) HI.out.ok hp hN' HI.out.lt hu1 a1 s1 ha hsb (ho2.mono fun k hk => .inr hk) (by rw [if_neg n42, if_neg n62]; exact (ho2.block _ (by omega) (HM.out.1.ne hlevc).symm).trans hlev1) ⟨_, hm2, fun u hu1 hu2 => by rw [HM.out.2 u hu1 hu2]⟩ hu3 l1 m1 hL hM
       have hlt4 := And.intro (Array.getElem?_eq_some_iff.1 hL).1 (And.intro hM.lt hsb.lt)
       have HG := Lib.hid (And.intro g1 g2); clear g1 g2
       clear hlevc hlev1 hd0 ha ha0 ha2 ha3 hL hM hu3 hu1 hsb ho2
       go_wp2
       go_roundw
       case rel => exact ⟨k + 1, false, Tk.add (p ++ [bs t]) l m a sb, _, nk + 1, hlt, by go_num, rfl, (fun h => by cases h), (by rw [HE.out]; simp [Trie.add]), (fun _ => by rw [HE.out]; simp [Trie.add]), (by have hfin := HI.out.new (t := bs t) (l := l) (m := m) (a := a) (s := sb) (by rw [htP]) HV.out (by rw [hpp]; exact hN') (by rw [hpp]; exact HG.out.1) HG.out.2 ⟨by rw [size_setCell]; omega, by rw [size_setCell]; omega, by rw [size_setCell]; omega, by rw [size_setCell]; omega⟩ ⟨by omega, by omega, by omega, by omega⟩; rw [hpp] at hfin; exact hfin)⟩
       case measure => simp [intOf]; omega
  ·obtain rfl : k = (toks s).length := by omega
   have hlen := toks_pos s
   have eP : ((toks s).map bs).take (toks s).length = (toks s).map bs := List.take_of_length_le (by rw [List.length_map]; omega)
   obtain ⟨P', t', eS⟩ := snoc_of HPP.out.some'
   rw [eP] at hnd
   rw [hnd hlen]
   have hp := hI.here
   rw [eP] at hp
   have hn0 := hI.ok.nod P' t' (eS ▸ hp)
   have hsb := hI.ok.sub P' t' (eS ▸ hp)
   rw [← eS] at hn0 hsb
   clear eS P' t'
   have EP := Lib.hid eP; clear eP
   have hd1 := (cell_row (j := 1) hn0).trans (show _ = some (Value.map (some (Tk.aS ((toks s).map bs)))) from rfl)
   have hbr := (hI.only.block b (Array.getElem?_eq_some_iff.1 hbk2).1 hFb).trans hbk2
   have hsb2 : Tk.aS ((toks s).map bs) ≠ b := hsb.ne hbr
   have r7 := (cell_row (j := 7) hbr).trans (show _ = some (Value.int .u32 c) from rfl)
   have hlbr := (Array.getElem?_eq_some_iff.1 hbr).1
   have hle := hI.le
   go_wp2_with (at_mapUpdate; refine wpList_upd _ rfl _ _ _ _ rfl (Tk.aS ((toks s).map bs)) _ _ rfl rfl rfl (fun w' => ∃ m', MapN w' (Tk.aS ((toks s).map bs)) (nk + 1) m' ∧ 0 < m' ∧ m' ≤ Tk.V ((toks s).map bs) + 1 ∧ Only (· = Tk.aS ((toks s).map bs)) wr w') (by obtain ⟨w', m', e1, e2, e3, e4, e5⟩ := hsb.store Tryz.underlying217 (by unfold maxLen; omega) x hx (.string s); exact ⟨w', e1, m', e2, e3, e4, e5⟩) ?_; rintro u2 ⟨m', hm2, hm0, hm1', ho2⟩; have hb2' := (ho2.block b hlbr hsb2.symm).trans hbr; have r72 := (cell_row (j := 7) hb2').trans (show _ = some (Value.int .u32 c) from rfl); have hz7 := frozen_row (j := 7) hb2')
   have h7 : (u2.setCell ⟨b, 7, none⟩ (.int .u32 (c + 1))).heap[b]? = some (.cells #[.int .i32 1, .int .u32 0, .int .u32 0, .int .u32 0, .int .i32 (-1073741824), .int .i32 0, .pointer (some ⟨T.aL [], 0, none⟩), .int .u32 (c + 1)] 178 (0, 0)) := heap_setCell_same u2 b 7 _ 178 (.int .u32 (c + 1)) hb2'
   have hoU : Only (· = b) u2 (u2.setCell ⟨b, 7, none⟩ (.int .u32 (c + 1))) := (Only.refl (· = b) u2).set (.inl rfl) _
   generalize u2.setCell ⟨b, 7, none⟩ (.int .u32 (c + 1)) = U at *
   have hun := RwLone.wunlock_held rwWLib b 0 _ _ U ((cell_row (j := 0) h7).trans (show _ = some (Value.int .i32 1) from rfl)) ((cell_row (j := 2) h7).trans (show _ = some (Value.int .u32 0) from rfl)) ((cell_row (j := 3) h7).trans (show _ = some (Value.int .u32 0) from rfl))
    ((cell_row (j := 4) h7).trans (show _ = some (Value.int .i32 (-1073741824)) from rfl)) (frozen_row (j := 0) h7) (frozen_row (j := 4) h7)
   have h8 : (U.setCell ⟨b, 4, none⟩ (.int .i32 0)).heap[b]? = some (.cells #[.int .i32 1, .int .u32 0, .int .u32 0, .int .u32 0, .int .i32 0, .int .i32 0, .pointer (some ⟨T.aL [], 0, none⟩), .int .u32 (c + 1)] 178 (0, 0)) := heap_setCell_same U b 4 _ 178 (.int .i32 0) h7
   have h9 : ((U.setCell ⟨b, 4, none⟩ (.int .i32 0)).setCell ⟨b, 0, none⟩ (.int .i32 0)).heap[b]? = some (.cells (gslCells (T.aL []) (c + 1)) 178 (0, 0)) := heap_setCell_same _ b 0 _ 178 (.int .i32 0) h8
   have hoV : Only (· = b) u2 ((U.setCell ⟨b, 4, none⟩ (.int .i32 0)).setCell ⟨b, 0, none⟩ (.int .i32 0)) := (hoU.set (.inl rfl) _).set (.inl rfl) _
   refine hun.mono ?_
   rintro e w9 ⟨rfl, hw9⟩
   simp only [Nat.zero_add] at hw9
   rw [← hw9] at h9 hoV
   clear hun h7 h8 hoU hw9 U
   go_wp2
   go_ret
   have hFkb : ∀ k, Fk k → k ≠ b := fun k hk e => by
    rcases hI.old k hk with h | h
    ·exact hFb (e ▸ h)
    ·have := (Array.getElem?_eq_some_iff.1 hbk2).1; omega
   have hSk : Fk (Tk.aS ((toks s).map bs)) := by
    obtain ⟨P', t', eS⟩ := snoc_of HPP.out.some'
    have := hI.ok.fS P' t' (eS ▸ hp)
    rwa [← eS] at this
   refine ⟨rfl, Tk.fill ((toks s).map bs) m', Fk, nk + 1, ?_, by omega, fun q => ?_, fun q => ?_, hI.root, h9, ?_, fun k hk => ?_, fun k hk => ?_, fun q => ?_⟩
   ·exact hI.ok.fill hp HPP.out.some' (hm2.keep (hoV.block _ hm2.lt (hFkb _ hSk))) fun k hk hne => by
     rw [hoV.block k (by have := hI.lt k hk; have := ho2.size; omega) (hFkb k hk), ho2.block k (hI.lt k hk) hne]
   ·show Tk.N q ↔ _
    have := hI.N q
    rwa [EP.out] at this
   ·simp only [Trie.fill]
    split
    ·rename_i e
     exact ⟨fun _ => .inr e, fun _ => hm0⟩
    ·rename_i e
     rw [hI.V q]
     exact ⟨.inl, fun h => by rcases h with h | h; exact h; exact absurd h e⟩
   ·have o1 : Only (fun k => F k ∨ k = b) w w2 := (ho1.mono fun k hk => .inr hk).trans (Only.of (F := fun k => F k ∨ k = b) hb2) fun k hk => .inl hk
    have o2 := o1.trans (hI.only.mono (F' := fun k => F k ∨ k = b) fun k hk => .inl hk) fun k hk => .inl hk
    have o3 := o2.trans ho2 (fun k hk => by
     rw [hk]
     rcases hI.old _ hSk with h | h
     ·exact .inl (.inl h)
     ·have := o1.size; exact .inr (by omega))
    exact o3.trans hoV fun k hk => .inl (.inr hk)
   ·have := hb2.size
    have := ho1.size
    rcases hI.old k hk with h | h
    ·exact .inl h
    ·exact .inr (by omega)
   ·have := hI.lt k hk
    have := ho2.size
    have := hoV.size
    omega
   ·simp only [Trie.fill]
    split
    ·rename_i e
     have := hI.V1 ((toks s).map bs)
     rw [e]; omega
    ·have := hI.V1 q; omega
end Go.Proofs.YtehlmjecbljafaaGreatDoor
