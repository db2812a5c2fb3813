/- The server's list of subscriptions: the walk of an insertion. -/
import Derived.Test.YtehlmjecbljafaaGreatDoorR30
namespace Go.Proofs.YtehlmjecbljafaaGreatDoor
open Go Go.RowKit
/-- The cells of a server's list whose lock is held. -/
def slHeld (root : Nat) (cache : Value) (g m h i r sw c : Int) : Array Value :=
 #[.int .i32 1, .int .u32 0, .int .u32 0, .int .u32 0, .int .i32 (-1073741824), .int .i32 0, .int .u64 g, .int .u64 m, .int .u64 h, .int .u64 i, .int .u64 r, .pointer (some ⟨root, 0, none⟩), cache, .int .i32 sw, .int .u32 c]
theorem nil94 (w : World) : (binOp .eql 94 (.slice none 0 0) (.slice none 0 0)).run Tryz.prog w = .ok (.bool true) w := by kernel_rfl
theorem nil116 (w : World) : (binOp .neq 116 (.slice none 0 0) (.slice none 0 0)).run Tryz.prog w = .ok (.bool false) w := by kernel_rfl
theorem nil226 (w : World) : (binOp .eql 226 (.map none) (.map none)).run Tryz.prog w = .ok (.bool true) w := by kernel_rfl
theorem nil226' (c : Nat) (w : World) : (binOp .eql 226 (.map (some c)) (.map none)).run Tryz.prog w = .ok (.bool false) w := run_eql_map_nil w 226 9 234 (some c) Tryz.underlying226
set_option maxRecDepth 100000 in
set_option maxHeartbeats 800000 in
theorem cache0_any (b root a : Nat) (s : ByteArray) (g m h i r sw c : Int) (w : World) (hb : w.heap[b]? = some (.cells (slHeld root (.map none) g m h i r sw c) 229 (0, 0))) :
  Calls Tryz.prog 186 #[.pointer (some ⟨b, 0, none⟩), .string s, .pointer (some ⟨a, 0, none⟩)] w fun e w' => e = .returned (.tuple #[]) ∧ Below w.heap.size w w' := by
 have c12 := (cell_row (j := 12) hb).trans (show _ = some (Value.map none) from rfl)
 have q1 := fun w => nil226 w
 go_enter Tryz.func186, Tryz.ntmps186
 go_wp2
 exact bodyPost_ret (results_none rfl _ _ _) rfl ⟨rfl, Below.refl _ _⟩
/-- What an insertion comes to. -/
def SInsC (b a : Nat) (s : ByteArray) (T : STrie) (F : Nat → Prop) (cm : Option Nat) (g m h i r sw c : Int) (w : World) (e : Ending) (w' : World) : Prop :=
 e = .returned .nilIface ∧ ∃ T' F', STrieOK T' F' w' ∧ (∀ q, T'.N q ↔ T.N q ∨ q <+: (toks s).map bs) ∧ (∀ q, T'.S q = if q = (toks s).map bs then T.S q ++ [a] else T.S q) ∧ T'.aL [] = T.aL [] ∧
  w'.heap[b]? = some (.cells (slCells (T.aL []) (.map cm) (g + 1) m h (i + 1) r sw (c + 1)) 229 (0, 0)) ∧ Only (fun k => F k ∨ k = b) w w' ∧ (∀ k, F' k → F k ∨ w.heap.size ≤ k) ∧ ∀ k, F' k → k < w'.heap.size
set_option maxRecDepth 100000 in
set_option maxHeartbeats 6400000 in
theorem sInsert_any (b a B : Nat) (s : ByteArray) (cm : Option Nat) (g m h i r sw c : Int) (T : STrie) (F : Nat → Prop) (w : World) (hb : w.heap[b]? = some (.cells (slCells (T.aL []) (.map cm) g m h i r sw c) 229 (0, 0))) (hT : STrieOK T F w) (hV : ∀ q, T.S q ≠ [] → T.N q) (hF : ∀ k, F k → k < w.heap.size) (hFb : ¬ F b)
  (hP : PatP ((toks s).map bs)) (hs : s.size ≤ 100000) (hsub : SubAt w B a s) (hB : ∀ k, F k ∨ k = b → k < B) (hnew : a ∉ T.S ((toks s).map bs)) (hS : ∀ x ∈ T.S ((toks s).map bs), ¬ F x ∧ ∃ cs t, w.heap[x]? = some (.cells cs t (0, 0))) (hSl : (T.S ((toks s).map bs)).length < 256)
  (hcm : ∀ k, cm = some k → ¬ F k ∧ k ≠ b ∧ k < w.heap.size) (hca : ∀ W, W.heap[b]? = some (.cells (slHeld (T.aL []) (.map cm) g m h (i + 1) r sw (c + 1)) 229 (0, 0)) → (∀ k, cm = some k → W.heap[k]? = w.heap[k]?) → Calls Tryz.prog 186 #[.pointer (some ⟨b, 0, none⟩), .string s, .pointer (some ⟨a, 0, none⟩)] W fun e w' => e = .returned (.tuple #[]) ∧ Below W.heap.size W w')
  (hc : 0 ≤ c ∧ c ≤ 1000000) (hi : 0 ≤ i ∧ i ≤ 1000000) (hg : 0 ≤ g ∧ g ≤ 1000000) :
  Calls Tryz.prog 139 #[.pointer (some ⟨b, 0, none⟩), .pointer (some ⟨a, 0, none⟩)] w (SInsC b a s T F cm g m h i r sw c w) := by
 have hlb := (Array.getElem?_eq_some_iff.1 hb).1
 have hcb := fun (j : Nat) (v : Value) (h : (slCells (T.aL []) (.map cm) _ _ _ _ _ _ _)[j]? = some v) => (cell_row (j := j) hb).trans h
 have c0 := hcb 0 _ rfl
 have c2 := hcb 2 _ rfl
 have c3 := hcb 3 _ rfl
 have c4 := hcb 4 _ rfl
 have z0 := frozen_row (j := 0) hb
 have z4 := frozen_row (j := 4) hb
 have hlock := RwLone.wlock_free rwWLib b 0 _ _ w c0 c2 c3 c4 z0 z4
 have h1 := heap_setCell_same w b 0 _ 229 (.int .i32 1) hb
 have h2 := heap_setCell_same (w.setCell ⟨b, 0, none⟩ (.int .i32 1)) b 4 _ 229 (.int .i32 (-1073741824)) h1
 clear hcb c0 c2 c3 c4 z0 z4
 have HSUB := Lib.hid hsub
 obtain ⟨hBa, gt, capt, hgt, hrow, hbs, hct, hcm2⟩ := hsub
 have hsa1 := (cell_row (j := 1) hrow).trans (show _ = some (Value.slice (some ⟨gt, 0, none⟩) s.size capt) from rfl)
 have hcv := conv_text (hbs.sl (bs_len s) hct hcm2)
 rw [mk_bs] at hcv
 have hab : a ≠ b := fun e => by have := hB b (.inr rfl); omega
 have HCA := Lib.hid hca; clear hca
 have HNEW := Lib.hid hnew; clear hnew
 have HS := Lib.hid hS; clear hS
 have HB := Lib.hid hB; clear hB
 have HCM := Lib.hid hcm; clear hcm
 clear hrow hbs
 have q1 := fun w => nil94 w
 have q2 := fun w => nil116 w
 go_enter Tryz.func139, Tryz.ntmps139
 go_wp2_with fail
 clear hcv hsa1
 refine hlock.mono ?_
 rintro e w1 ⟨rfl, hw1⟩
 simp only [Nat.zero_add] at hw1
 have hb1 : w1.heap[b]? = some (.cells (slHeld (T.aL []) (.map cm) g m h i r sw c) 229 (0, 0)) := by rw [hw1]; exact h2
 have ho1 : Only (· = b) w w1 := by rw [hw1]; exact ((Only.refl (· = b) w).set (.inl rfl) _).set (.inl rfl) _
 have hT1 : STrieOK T F w1 := hT.keep fun k hk => ho1.block k (hF k hk) (fun e => hFb (e ▸ hk))
 have hF1 : ∀ k, F k → k < w1.heap.size := fun k hk => Nat.lt_of_lt_of_le (hF k hk) ho1.size
 clear h1 h2 hlock hw1 hT
 have r6 := (cell_row (j := 11) hb1).trans (show _ = some (Value.pointer (some ⟨T.aL [], 0, none⟩)) from rfl)
 go_wp2_with fail
 refine (zzSplit_any s w1 (by omega)).mono ?_
 rintro e w2 ⟨v, rfl, hown, hb2⟩
 have hl := toks_len s
 have hT2 : STrieOK T F w2 := hT1.keep fun k hk => hb2.block k (hF1 k hk)
 have hF2 : ∀ k, F k → k < w2.heap.size := fun k hk => Nat.lt_of_lt_of_le (hF1 k hk) hb2.size
 have hbk2 := (hb2.block b (Array.getElem?_eq_some_iff.1 hb1).1).trans hb1
 have hob := hown.lt
 obtain ⟨va, vc, rfl, -⟩ := hown.form
 have HOW := Lib.hid hown; clear hown
 have HPP := Lib.hid hP; clear hP
 have HV := Lib.hid hV; clear hV
 clear r6 hT1
 go_wp2
 go_loopw [6, 7, 8, 32] (fun sf nd lv i wr => ∃ (k : Nat) (bb : Bool) (Tk : STrie) (Fk : Nat → Prop), k ≤ (toks s).length ∧ i = .int .i64 k ∧ sf = .bool bb ∧ (bb = true → k = (toks s).length) ∧
   lv = .pointer (some ⟨Tk.aL (((toks s).map bs).take k), 0, none⟩) ∧ (0 < k → nd = .pointer (some ⟨Tk.aN (((toks s).map bs).take k), 0, none⟩)) ∧ SInsSt T F ((toks s).map bs) w2 k Tk Fk wr) (fun _ _ _ i _ => (toks s).length - (intOf i).toNat)
 case atStart =>
  exact ⟨0, false, T, F, Nat.zero_le _, rfl, rfl, (fun h => by cases h), rfl, (fun h => absurd h (Nat.lt_irrefl _)), ⟨hT2, fun q => by
   rw [List.take_zero, List.prefix_nil]
   exact ⟨.inl, fun h => by rcases h with h | rfl; exact h; exact hT2.root⟩, fun q => rfl, rfl, fun x hx => .inl hx, hF2, Only.refl _ _⟩⟩
 case round =>
  obtain ⟨k, bb, Tk, Fk, hk, rfl, rfl, hbb, rfl, hnd, hI⟩ := hrel
  by_cases hlt : k < (toks s).length
  ·obtain rfl : bb = false := by cases bb with | false => rfl | true => exact absurd (hbb rfl) (by omega)
   have hvk : Sl wr 1 (.slice va (toks s).length vc) (toks s).length ((toks s).map Value.string) := (HOW.out.only hI.only (fun k hk hf => by have := (hob k hk).1; have := hF1 k hf; omega)).sl
   obtain ⟨kb, ko, t, rfl, Ht, hct⟩ := hvk.str (Below.refl _ _) hlt
   have htP : ((toks s).map bs)[k]? = some (bs t) := by rw [List.getElem?_map, Ht.out]; rfl
   have hne := HPP.out.ne (bs t) (List.mem_of_getElem? htP)
   have hlast := HPP.out.last k
   have h0 := bs_pos hne
   have htame := HPP.out.tame (bs t) (List.mem_of_getElem? htP)
   have htz : t.size ≤ s.size := toks_mem (List.mem_of_getElem? Ht.out)
   have htM : t.size ≤ maxLen := by unfold maxLen; omega
   have hp := hI.here
   have hlevc := hI.ok.lev _ hp
   have hc0 := (cell_row (j := 0) hlevc).trans (show _ = some (Value.map (some (Tk.aM (((toks s).map bs).take k)))) from rfl)
   have hc1 := (cell_row (j := 1) hlevc).trans (show _ = some (Tk.ptr (((toks s).map bs).take k ++ [[42]])) from rfl)
   have hc2 := (cell_row (j := 2) hlevc).trans (show _ = some (Tk.ptr (((toks s).map bs).take k ++ [[62]])) from rfl)
   have hlk := fun h1 h2 => hI.ok.look hp t h1 h2
   obtain ⟨kv0, hmf, hff⟩ := hI.ok.map _ hp
   have es0 : ((t.size : Int) == 0) = false := by rw [beq_eq_false_iff_ne]; omega
   have hlo := (Array.getElem?_eq_some_iff.1 hlevc).1
   have etk : ((toks s).map bs).take (k + 1) = ((toks s).map bs).take k ++ [bs t] := by rw [List.take_add_one, htP]; rfl
   have HE := Lib.hid etk; clear etk
   have HI := Lib.hid hI; clear hI
   have HM := Lib.hid (And.intro hmf hff)
   generalize hpp : ((toks s).map bs).take k = p at *
   by_cases h42 : bs t = [42]
   ·have ebt := h42
    obtain ⟨e1, e2⟩ := bs_one h42
    have hc42 : (((t[0]).toNat : Int) == 42) = true := by rw [e2 h0]; rfl
    have hs1 : ¬ ((t.size : Int) > 1) := by omega
    have E1 := Lib.hid e1; clear e1 e2
    by_cases hN : Tk.N (p ++ [[42]])
    ·have hN' : Tk.N (p ++ [[42]]) := hN
     have hn0 := HI.out.ok.nod p ([42]) hN'
     have hn1 := (cell_row (j := 0) hn0).trans (show _ = some (Value.pointer (some ⟨Tk.aL (p ++ [[42]]), 0, none⟩)) from rfl)
     rw [STrie.ptr_yes hN'] at hc1
     clear hmf hff hn0 hlevc
     go_wp2
     go_roundw
     case rel => exact ⟨k + 1, false, Tk, Fk, hlt, by go_num, rfl, (fun h => by cases h), by rw [HE.out, ebt], (fun _ => by rw [HE.out, ebt]), HI.out.skip (by rw [htP, ebt]) (by rw [hpp]; exact hN')⟩
     case measure => simp [intOf]; omega
    ·have hN' : ¬ Tk.N (p ++ [[42]]) := hN
     have hc1' := hc1
     rw [STrie.ptr_no hN'] at hc1
     clear hmf hff
     go_wp2_with fail
     refine (sNode_abs wr).mono ?_
     rintro e u1 ⟨a, sb, rfl, a1, s1, ha, hsb, hu1⟩
     have hlev1 := (hu1.block _ hlo).trans hlevc
     have hd0 := (cell_row (j := 0) hlev1).trans (show _ = some (Value.map (some (Tk.aM p))) from rfl)
     have ha0 := (cell_row (j := 0) ha).trans (show _ = some (Value.pointer none) from rfl)
     have hz1 := hu1.size
     have hla := (Array.getElem?_eq_some_iff.1 ha).1
     have hmlt := HM.out.1.lt
     have hfz := frozen_row (j := 1) hlev1
     have hdj := (cell_row (j := 1) hlev1).trans (show _ = some (Tk.ptr (p ++ [[42]])) from rfl)
     rw [STrie.ptr_no hN'] at hdj
     have haw : (u1.setCell ⟨Tk.aL p, 1, none⟩ (.pointer (some ⟨a, 0, none⟩))).cell? ⟨a, 0, none⟩ = some (.pointer none) := (World.cell?_of_block (heap_setCell_other _ _ _ _ (by show a ≠ Tk.aL p; omega))).trans ha0
     clear hc0 hc1 hc2 hlk
     go_wp2_with fail
     have hls := heap_setCell_same u1 (Tk.aL p) 1 _ 279 (.pointer (some ⟨a, 0, none⟩)) hlev1
     have ho2 := (Only.refl (· = Tk.aL p) u1).set (b := Tk.aL p) (i := 1) (.inl rfl) (.pointer (some ⟨a, 0, none⟩))
     generalize u1.setCell ⟨Tk.aL p, 1, none⟩ (.pointer (some ⟨a, 0, none⟩)) = u2 at *
     have ha2 := (ho2.block a hla (by omega)).trans ha
     have hz2 := ho2.size
     refine (sLevel_abs u2).mono ?_
     rintro e u3 ⟨l, m, rfl, l1, m1, hL, hM, hu3⟩
     have hz3 := hu3.size
     have ha3 := (hu3.block a (by omega)).trans ha2
     have ha30 := (cell_row (j := 0) ha3).trans (show _ = some (Value.pointer none) from rfl)
     have hfz3 := frozen_row (j := 0) ha3
     have ha40 : (u3.setCell ⟨a, 0, none⟩ (.pointer (some ⟨l, 0, none⟩))).cell? ⟨a, 0, none⟩ = some (.pointer (some ⟨l, 0, none⟩)) := World.cell?_setCell_same _ _ _ ha30
     obtain ⟨g1, g2⟩ := sgrow_done (t := [42]) HI.out.ok hp hN' HI.out.lt hu1 a1 s1 ha hsb (ho2.mono fun k hk => .inl hk) (by simpa using hls) ⟨kv0, (HM.out.1.keep (hu1.block _ hmlt)).keep (ho2.block _ (by omega) (HM.out.1.ne hlevc)), fun x v => by rw [HM.out.2]; exact ⟨.inl, fun h => h.elim id fun h => absurd rfl h.1⟩⟩ hu3 l1 m1 hL hM
     have hlt4 := And.intro (Array.getElem?_eq_some_iff.1 hL).1 (And.intro hM.lt hsb.lt)
     have HG := Lib.hid (And.intro g1 g2); clear g1 g2
     clear hlevc hlev1 hd0 ha ha0 ha2 ha3 hL hM hu3 hu1 hsb ho2
     go_wp2
     go_roundw
     case rel => exact ⟨k + 1, false, Tk.add (p ++ [[42]]) l m a sb, _, hlt, by go_num, rfl, (fun h => by cases h), (by rw [HE.out, ebt]; simp [STrie.add]), (fun _ => by rw [HE.out, ebt]; simp [STrie.add]), (by have hfin := HI.out.new (t := [42]) (l := l) (m := m) (a := a) (s := sb) (by rw [htP, ebt]) HV.out (by rw [hpp]; exact hN') (by rw [hpp]; exact HG.out.1) HG.out.2 ⟨by rw [size_setCell]; omega, by rw [size_setCell]; omega, by rw [size_setCell]; omega, by rw [size_setCell]; omega⟩ ⟨by omega, by omega, by omega, by omega⟩; rw [hpp] at hfin; exact hfin)⟩
     case measure => simp [intOf]; omega
   ·by_cases h62 : bs t = [62]
    ·have ebt := h62
     obtain ⟨e1, e2⟩ := bs_one h62
     have hc62 : (((t[0]).toNat : Int) == 62) = true := by rw [e2 h0]; rfl
     have hc42 : (((t[0]).toNat : Int) == 42) = false := by rw [e2 h0]; rfl
     have hs1 : ¬ ((t.size : Int) > 1) := by omega
     have E1 := Lib.hid e1; clear e1 e2
     by_cases hN : Tk.N (p ++ [[62]])
     ·have hN' : Tk.N (p ++ [[62]]) := hN
      have hn0 := HI.out.ok.nod p ([62]) hN'
      have hn1 := (cell_row (j := 0) hn0).trans (show _ = some (Value.pointer (some ⟨Tk.aL (p ++ [[62]]), 0, none⟩)) from rfl)
      rw [STrie.ptr_yes hN'] at hc2
      clear hmf hff hn0 hlevc
      go_wp2
      go_roundw
      case rel => exact ⟨k + 1, true, Tk, Fk, hlt, by go_num, rfl, (fun _ => by have := hlast (by rw [htP, ebt]); rw [List.length_map] at this; omega), by rw [HE.out, ebt], (fun _ => by rw [HE.out, ebt]), HI.out.skip (by rw [htP, ebt]) (by rw [hpp]; exact hN')⟩
      case measure => simp [intOf]; omega
     ·have hN' : ¬ Tk.N (p ++ [[62]]) := hN
      have hc2' := hc2
      rw [STrie.ptr_no hN'] at hc2
      clear hmf hff
      go_wp2_with fail
      refine (sNode_abs wr).mono ?_
      rintro e u1 ⟨a, sb, rfl, a1, s1, ha, hsb, hu1⟩
      have hlev1 := (hu1.block _ hlo).trans hlevc
      have hd0 := (cell_row (j := 0) hlev1).trans (show _ = some (Value.map (some (Tk.aM p))) from rfl)
      have ha0 := (cell_row (j := 0) ha).trans (show _ = some (Value.pointer none) from rfl)
      have hz1 := hu1.size
      have hla := (Array.getElem?_eq_some_iff.1 ha).1
      have hmlt := HM.out.1.lt
      have hfz := frozen_row (j := 2) hlev1
      have hdj := (cell_row (j := 2) hlev1).trans (show _ = some (Tk.ptr (p ++ [[62]])) from rfl)
      rw [STrie.ptr_no hN'] at hdj
      have haw : (u1.setCell ⟨Tk.aL p, 2, none⟩ (.pointer (some ⟨a, 0, none⟩))).cell? ⟨a, 0, none⟩ = some (.pointer none) := (World.cell?_of_block (heap_setCell_other _ _ _ _ (by show a ≠ Tk.aL p; omega))).trans ha0
      clear hc0 hc1 hc2 hlk
      go_wp2_with fail
      have hls := heap_setCell_same u1 (Tk.aL p) 2 _ 279 (.pointer (some ⟨a, 0, none⟩)) hlev1
      have ho2 := (Only.refl (· = Tk.aL p) u1).set (b := Tk.aL p) (i := 2) (.inl rfl) (.pointer (some ⟨a, 0, none⟩))
      generalize u1.setCell ⟨Tk.aL p, 2, none⟩ (.pointer (some ⟨a, 0, none⟩)) = u2 at *
      have ha2 := (ho2.block a hla (by omega)).trans ha
      have hz2 := ho2.size
      refine (sLevel_abs u2).mono ?_
      rintro e u3 ⟨l, m, rfl, l1, m1, hL, hM, hu3⟩
      have hz3 := hu3.size
      have ha3 := (hu3.block a (by omega)).trans ha2
      have ha30 := (cell_row (j := 0) ha3).trans (show _ = some (Value.pointer none) from rfl)
      have hfz3 := frozen_row (j := 0) ha3
      have ha40 : (u3.setCell ⟨a, 0, none⟩ (.pointer (some ⟨l, 0, none⟩))).cell? ⟨a, 0, none⟩ = some (.pointer (some ⟨l, 0, none⟩)) := World.cell?_setCell_same _ _ _ ha30
      obtain ⟨g1, g2⟩ := sgrow_done (t := [62]) HI.out.ok hp hN' HI.out.lt hu1 a1 s1 ha hsb (ho2.mono fun k hk => .inl hk) (by simpa using hls) ⟨kv0, (HM.out.1.keep (hu1.block _ hmlt)).keep (ho2.block _ (by omega) (HM.out.1.ne hlevc)), fun x v => by rw [HM.out.2]; exact ⟨.inl, fun h => h.elim id fun h => absurd rfl h.2.1⟩⟩ hu3 l1 m1 hL hM
      have hlt4 := And.intro (Array.getElem?_eq_some_iff.1 hL).1 (And.intro hM.lt hsb.lt)
      have HG := Lib.hid (And.intro g1 g2); clear g1 g2
      clear hlevc hlev1 hd0 ha ha0 ha2 ha3 hL hM hu3 hu1 hsb ho2
      go_wp2
      go_roundw
      case rel => exact ⟨k + 1, true, Tk.add (p ++ [[62]]) l m a sb, _, hlt, by go_num, rfl, (fun _ => by have := hlast (by rw [htP, ebt]); rw [List.length_map] at this; omega), (by rw [HE.out, ebt]; simp [STrie.add]), (fun _ => by rw [HE.out, ebt]; simp [STrie.add]), (by have hfin := HI.out.new (t := [62]) (l := l) (m := m) (a := a) (s := sb) (by rw [htP, ebt]) HV.out (by rw [hpp]; exact hN') (by rw [hpp]; exact HG.out.1) HG.out.2 ⟨by rw [size_setCell]; omega, by rw [size_setCell]; omega, by rw [size_setCell]; omega, by rw [size_setCell]; omega⟩ ⟨by omega, by omega, by omega, by omega⟩; rw [hpp] at hfin; exact hfin)⟩
      case measure => simp [intOf]; omega
    ·by_cases h1 : 1 < t.size
     ·have n42 : bs t ≠ [42] := h42
      have n62 : bs t ≠ [62] := h62
      replace hlk := hlk n42 n62
      by_cases hN : Tk.N (p ++ [bs t])
      ·have hN' : Tk.N (p ++ [bs t]) := hN
       have hn0 := HI.out.ok.nod p (bs t) hN'
       have hn1 := (cell_row (j := 0) hn0).trans (show _ = some (Value.pointer (some ⟨Tk.aL (p ++ [bs t]), 0, none⟩)) from rfl)
       rw [STrie.ptr_yes hN'] at hlk
       clear hmf hff hn0 hlevc
       go_wp2
       go_roundw
       case rel => exact ⟨k + 1, false, Tk, Fk, hlt, by go_num, rfl, (fun h => by cases h), by rw [HE.out], (fun _ => by rw [HE.out]), HI.out.skip (by rw [htP]) (by rw [hpp]; exact hN')⟩
       case measure => simp [intOf]; omega
      ·have hN' : ¬ Tk.N (p ++ [bs t]) := hN
       rw [STrie.ptr_no hN'] at hlk
       clear hmf hff
       go_wp2_with fail
       refine (sNode_abs wr).mono ?_
       rintro e u1 ⟨a, sb, rfl, a1, s1, ha, hsb, hu1⟩
       have hlev1 := (hu1.block _ hlo).trans hlevc
       have hd0 := (cell_row (j := 0) hlev1).trans (show _ = some (Value.map (some (Tk.aM p))) from rfl)
       have ha0 := (cell_row (j := 0) ha).trans (show _ = some (Value.pointer none) from rfl)
       have hz1 := hu1.size
       have hla := (Array.getElem?_eq_some_iff.1 ha).1
       have hmlt := HM.out.1.lt
       clear hc0 hc1 hc2 hlk
       go_wp2_with (at_mapUpdate; refine wpList_upd _ rfl _ _ _ _ rfl (Tk.aM p) _ _ rfl rfl rfl (fun w' => (∃ kv, MapE w' (Tk.aM p) kv ∧ ∀ x v, (x, v) ∈ kv ↔ (∃ u, x = strV u ∧ u ≠ [42] ∧ u ≠ [62] ∧ Tk.N (p ++ [u]) ∧ v = .pointer (some ⟨Tk.aN (p ++ [u]), 0, none⟩)) ∨ (bs t ≠ [42] ∧ bs t ≠ [62] ∧ x = strV (bs t) ∧ v = .pointer (some ⟨a, 0, none⟩))) ∧ Only (· = Tk.aM p) u1 w') (HI.out.ok.put hp t n42 n62 hN' (hu1.block _ hmlt) a) ?_; rintro u2 ⟨hm2, ho2⟩; have ha2 := (ho2.block a hla (by omega)).trans ha; have ha20 := (cell_row (j := 0) ha2).trans (show _ = some (Value.pointer none) from rfl))
       have hz2 := ho2.size
       refine (sLevel_abs u2).mono ?_
       rintro e u3 ⟨l, m, rfl, l1, m1, hL, hM, hu3⟩
       have hz3 := hu3.size
       have ha3 := (hu3.block a (by omega)).trans ha2
       have ha30 := (cell_row (j := 0) ha3).trans (show _ = some (Value.pointer none) from rfl)
       have hfz3 := frozen_row (j := 0) ha3
       have ha40 : (u3.setCell ⟨a, 0, none⟩ (.pointer (some ⟨l, 0, none⟩))).cell? ⟨a, 0, none⟩ = some (.pointer (some ⟨l, 0, none⟩)) := World.cell?_setCell_same _ _ _ ha30
       obtain ⟨g1, g2⟩ := sgrow_done (t := bs t) HI.out.ok hp hN' HI.out.lt hu1 a1 s1 ha hsb (ho2.mono fun k hk => .inr hk) (by rw [if_neg n42, if_neg n62]; exact (ho2.block _ (by omega) (HM.out.1.ne hlevc).symm).trans hlev1) hm2 hu3 l1 m1 hL hM
       have hlt4 := And.intro (Array.getElem?_eq_some_iff.1 hL).1 (And.intro hM.lt hsb.lt)
       have HG := Lib.hid (And.intro g1 g2); clear g1 g2
       clear hlevc hlev1 hd0 ha ha0 ha2 ha3 hL hM hu3 hu1 hsb ho2
       go_wp2
       go_roundw
       case rel => exact ⟨k + 1, false, Tk.add (p ++ [bs t]) l m a sb, _, hlt, by go_num, rfl, (fun h => by cases h), (by rw [HE.out]; simp [STrie.add]), (fun _ => by rw [HE.out]; simp [STrie.add]), (by have hfin := HI.out.new (t := bs t) (l := l) (m := m) (a := a) (s := sb) (by rw [htP]) HV.out (by rw [hpp]; exact hN') (by rw [hpp]; exact HG.out.1) HG.out.2 ⟨by rw [size_setCell]; omega, by rw [size_setCell]; omega, by rw [size_setCell]; omega, by rw [size_setCell]; omega⟩ ⟨by omega, by omega, by omega, by omega⟩; rw [hpp] at hfin; exact hfin)⟩
       case measure => simp [intOf]; omega
     ·have n42 : bs t ≠ [42] := h42
      have n62 : bs t ≠ [62] := h62
      replace hlk := hlk n42 n62
      have hob1 : bs t = [t[0]] := by
       obtain ⟨y, hy⟩ := List.length_eq_one_iff.1 (show (bs t).length = 1 by rw [bs_len]; omega)
       have := bs_at? t 0 h0
       rw [hy] at this ⊢
       simpa using this
      have hc42 : (((t[0]).toNat : Int) == 42) = false := by
       rw [beq_eq_false_iff_ne]; intro e; have h3 : t[0] = 42 := UInt8.toNat_inj.1 (show (t[0]).toNat = 42 by omega); exact n42 (by rw [hob1, h3])
      have hc62 : (((t[0]).toNat : Int) == 62) = false := by
       rw [beq_eq_false_iff_ne]; intro e; have h3 : t[0] = 62 := UInt8.toNat_inj.1 (show (t[0]).toNat = 62 by omega); exact n62 (by rw [hob1, h3])
      clear hob1
      by_cases hN : Tk.N (p ++ [bs t])
      ·have hN' : Tk.N (p ++ [bs t]) := hN
       have hn0 := HI.out.ok.nod p (bs t) hN'
       have hn1 := (cell_row (j := 0) hn0).trans (show _ = some (Value.pointer (some ⟨Tk.aL (p ++ [bs t]), 0, none⟩)) from rfl)
       rw [STrie.ptr_yes hN'] at hlk
       clear hmf hff hn0 hlevc
       go_wp2
       go_roundw
       case rel => exact ⟨k + 1, false, Tk, Fk, hlt, by go_num, rfl, (fun h => by cases h), by rw [HE.out], (fun _ => by rw [HE.out]), HI.out.skip (by rw [htP]) (by rw [hpp]; exact hN')⟩
       case measure => simp [intOf]; omega
      ·have hN' : ¬ Tk.N (p ++ [bs t]) := hN
       rw [STrie.ptr_no hN'] at hlk
       clear hmf hff
       go_wp2_with fail
       refine (sNode_abs wr).mono ?_
       rintro e u1 ⟨a, sb, rfl, a1, s1, ha, hsb, hu1⟩
       have hlev1 := (hu1.block _ hlo).trans hlevc
       have hd0 := (cell_row (j := 0) hlev1).trans (show _ = some (Value.map (some (Tk.aM p))) from rfl)
       have ha0 := (cell_row (j := 0) ha).trans (show _ = some (Value.pointer none) from rfl)
       have hz1 := hu1.size
       have hla := (Array.getElem?_eq_some_iff.1 ha).1
       have hmlt := HM.out.1.lt
       clear hc0 hc1 hc2 hlk
       go_wp2_with (at_mapUpdate; refine wpList_upd _ rfl _ _ _ _ rfl (Tk.aM p) _ _ rfl rfl rfl (fun w' => (∃ kv, MapE w' (Tk.aM p) kv ∧ ∀ x v, (x, v) ∈ kv ↔ (∃ u, x = strV u ∧ u ≠ [42] ∧ u ≠ [62] ∧ Tk.N (p ++ [u]) ∧ v = .pointer (some ⟨Tk.aN (p ++ [u]), 0, none⟩)) ∨ (bs t ≠ [42] ∧ bs t ≠ [62] ∧ x = strV (bs t) ∧ v = .pointer (some ⟨a, 0, none⟩))) ∧ Only (· = Tk.aM p) u1 w') (HI.out.ok.put hp t n42 n62 hN' (hu1.block _ hmlt) a) ?_; rintro u2 ⟨hm2, ho2⟩; have ha2 := (ho2.block a hla (by omega)).trans ha; have ha20 := (cell_row (j := 0) ha2).trans (show _ = some (Value.pointer none) from rfl))
       have hz2 := ho2.size
       refine (sLevel_abs u2).mono ?_
       rintro e u3 ⟨l, m, rfl, l1, m1, hL, hM, hu3⟩
       have hz3 := hu3.size
       have ha3 := (hu3.block a (by omega)).trans ha2
       have ha30 := (cell_row (j := 0) ha3).trans (show _ = some (Value.pointer none) from rfl)
       have hfz3 := frozen_row (j := 0) ha3
       have ha40 : (u3.setCell ⟨a, 0, none⟩ (.pointer (some ⟨l, 0, none⟩))).cell? ⟨a, 0, none⟩ = some (.pointer (some ⟨l, 0, none⟩)) := World.cell?_setCell_same _ _ _ ha30
       obtain ⟨g1, g2⟩ := sgrow_done (t := bs t) HI.out.ok hp hN' HI.out.lt hu1 a1 s1 ha hsb (ho2.mono fun k hk => .inr hk) (by rw [if_neg n42, if_neg n62]; exact (ho2.block _ (by omega) (HM.out.1.ne hlevc).symm).trans hlev1) hm2 hu3 l1 m1 hL hM
       have hlt4 := And.intro (Array.getElem?_eq_some_iff.1 hL).1 (And.intro hM.lt hsb.lt)
       have HG := Lib.hid (And.intro g1 g2); clear g1 g2
       clear hlevc hlev1 hd0 ha ha0 ha2 ha3 hL hM hu3 hu1 hsb ho2
       go_wp2
       go_roundw
       case rel => exact ⟨k + 1, false, Tk.add (p ++ [bs t]) l m a sb, _, hlt, by go_num, rfl, (fun h => by cases h), (by rw [HE.out]; simp [STrie.add]), (fun _ => by rw [HE.out]; simp [STrie.add]), (by have hfin := HI.out.new (t := bs t) (l := l) (m := m) (a := a) (s := sb) (by rw [htP]) HV.out (by rw [hpp]; exact hN') (by rw [hpp]; exact HG.out.1) HG.out.2 ⟨by rw [size_setCell]; omega, by rw [size_setCell]; omega, by rw [size_setCell]; omega, by rw [size_setCell]; omega⟩ ⟨by omega, by omega, by omega, by omega⟩; rw [hpp] at hfin; exact hfin)⟩
       case measure => simp [intOf]; omega
  ·obtain rfl : k = (toks s).length := by omega
   have hlen := toks_pos s
   have eP : ((toks s).map bs).take (toks s).length = (toks s).map bs := List.take_of_length_le (by rw [List.length_map]; omega)
   obtain ⟨P', t', eS⟩ := snoc_of HPP.out.some'
   rw [eP] at hnd
   rw [hnd hlen]
   have hp := hI.here
   rw [eP] at hp
   have hn0 := hI.ok.nod P' t' (eS ▸ hp)
   have hsb := hI.ok.sub P' t' (eS ▸ hp)
   have hSk : Fk (Tk.aS ((toks s).map bs)) := by
    have := hI.ok.fS P' t' (eS ▸ hp)
    rwa [← eS] at this
   have hNk : Fk (Tk.aN ((toks s).map bs)) := by
    have := hI.ok.fN P' t' (eS ▸ hp)
    rwa [← eS] at this
   rw [← eS] at hn0 hsb
   clear eS P' t'
   have EP := Lib.hid eP; clear eP
   rw [hI.S] at hsb
   have hd1 := (cell_row (j := 1) hn0).trans (show _ = some (Value.map (some (Tk.aS ((toks s).map bs)))) from rfl)
   have hd3 := (cell_row (j := 3) hn0).trans (show _ = some (Value.slice none 0 0) from rfl)
   have hbr := (hI.only.block b (Array.getElem?_eq_some_iff.1 hbk2).1 hFb).trans hbk2
   have hsb2 : Tk.aS ((toks s).map bs) ≠ b := hsb.ne hbr
   have hsbN : Tk.aS ((toks s).map bs) ≠ Tk.aN ((toks s).map bs) := hsb.ne hn0
   have hFkb : ∀ k, Fk k → k ≠ b := fun k hk e => by
    rcases hI.old k hk with h | h
    ·exact hFb (e ▸ h)
    ·have := (Array.getElem?_eq_some_iff.1 hbk2).1; omega
   have o01 : Only (fun k => F k ∨ k = b) w w2 := (ho1.mono fun k hk => .inr hk).trans (Only.of (F := fun k => F k ∨ k = b) hb2) fun k hk => .inl hk
   have o02 : Only (fun k => F k ∨ k = b) w wr := o01.trans (hI.only.mono (F' := fun k => F k ∨ k = b) fun k hk => .inl hk) fun k hk => .inl hk
   have hsubr := HSUB.out.only o02 (fun k hk => HB.out k hk)
   obtain ⟨-, gt2, capt2, -, hrowr, -⟩ := hsubr
   have hsa2 := (cell_row (j := 2) hrowr).trans (show _ = some (Value.slice none 0 0) from rfl)
   have hkey : KeyAt Tryz.prog 231 wr (atBlk a) (subKV (T.S ((toks s).map bs))) := by
    obtain ⟨j, hj, hjs⟩ := Option.map_eq_some_iff.1 info282
    refine keyAt_ptr Tryz.underlying231 hj (by rw [hjs]; decide) hrowr fun x hx => ?_
    obtain ⟨y, hy, rfl⟩ := List.mem_map.1 hx
    obtain ⟨hyF, cs, ct, hyc⟩ := HS.out y hy
    by_cases hyb : y = b
    ·subst hyb; exact ⟨_, _, _, rfl, hbr⟩
    ·exact ⟨y, cs, ct, rfl, (o02.block y (Array.getElem?_eq_some_iff.1 hyc).1 (by rintro (h | h); exact hyF h; exact hyb h)).trans hyc⟩
   have hno : ∀ v, (atBlk a, v) ∉ subKV (T.S ((toks s).map bs)) := fun v hv => by
    obtain ⟨y, hy, e⟩ := List.mem_map.1 hv
    have : y = a := by have := congrArg Prod.fst e; unfold atBlk at this; simpa using this
    exact HNEW.out (this ▸ hy)
   have hlbr := (Array.getElem?_eq_some_iff.1 hbr).1
   have hnlr := (Array.getElem?_eq_some_iff.1 hn0).1
   have HMP := Lib.hid (hsb.store Tryz.underlying284 hkey hno unitV)
   have HI := Lib.hid hI
   clear hI
   clear hkey hno hnd hsb
   go_wp2_with (at_mapUpdate; refine wpList_upd _ rfl _ _ _ _ rfl (Tk.aS ((toks s).map bs)) _ _ rfl rfl rfl (fun w' => MapE w' (Tk.aS ((toks s).map bs)) (subKV (T.S ((toks s).map bs)) ++ [(atBlk a, unitV)]) ∧ Only (· = Tk.aS ((toks s).map bs)) wr w') (by obtain ⟨w', e1, e2, e3, e4⟩ := HMP.out; exact ⟨w', e1, e2, e3⟩) ?_; rintro u2 ⟨hm2, ho2⟩; have hn2 := (ho2.block _ hnlr hsbN.symm).trans hn0; have hb2' := (ho2.block b hlbr hsb2.symm).trans hbr; have hn21 := (cell_row (j := 1) hn2).trans (show _ = some (Value.map (some (Tk.aS ((toks s).map bs)))) from rfl); have hn23 := (cell_row (j := 3) hn2).trans (show _ = some (Value.slice none 0 0) from rfl); have hml := fun ty => hm2.len Tryz.underlying284 ty; obtain ⟨nl, hnl, hnl2⟩ : ∃ nl : Nat, (subKV (T.S ((toks s).map bs)) ++ [(atBlk a, unitV)]).length = nl ∧ ¬ ((nl : Int) > 256) := ⟨_, rfl, by simp [subKV]; omega⟩; rw [hnl] at hml; clear hnl; have r14 := (cell_row (j := 14) hb2').trans (show _ = some (Value.int .u32 c) from rfl); have r9 := (cell_row (j := 9) hb2').trans (show _ = some (Value.int .u64 i) from rfl); have hz7 := frozen_row (j := 14) hb2'; have hz9 := frozen_row (j := 9) hb2')
   have h14 := heap_setCell_same u2 b 14 _ 229 (.int .u32 (c + 1)) hb2'
   have h9 := heap_setCell_same (u2.setCell ⟨b, 14, none⟩ (.int .u32 (c + 1))) b 9 _ 229 (.int .u64 (i + 1)) h14
   have hU : Only (· = b) u2 ((u2.setCell ⟨b, 14, none⟩ (.int .u32 (c + 1))).setCell ⟨b, 9, none⟩ (.int .u64 (i + 1))) := ((Only.refl (· = b) u2).set (.inl rfl) _).set (.inl rfl) _
   generalize ((u2.setCell ⟨b, 14, none⟩ (.int .u32 (c + 1))).setCell ⟨b, 9, none⟩ (.int .u64 (i + 1))) = U at *
   have h9' : U.heap[b]? = some (.cells (slHeld (T.aL []) (.map cm) g m h (i + 1) r sw (c + 1)) 229 (0, 0)) := h9
   have oU : Only (fun k => F k ∨ k = b ∨ w2.heap.size ≤ k) w U := by
    have q1 := o02.mono (F' := fun k => F k ∨ k = b ∨ w2.heap.size ≤ k) fun k hk => hk.imp id .inl
    have q2 := q1.trans (F' := (· = Tk.aS ((toks s).map bs))) ho2 fun k hk => by
     subst hk
     exact .inl ((HI.out.old _ hSk).imp id .inr)
    exact q2.trans hU fun k hk => .inl (.inr (.inl hk))
   have hcaU : ∀ k, cm = some k → U.heap[k]? = w.heap[k]? := fun k hk => by
    obtain ⟨e1, e2, e3⟩ := HCM.out k hk
    refine oU.block k e3 ?_
    rintro (e | e | e)
    ·exact e1 e
    ·exact e2 e
    ·have := hb2.size; have := ho1.size; omega
   have hzU := hU.size
   refine (HCA.out U h9' hcaU).mono ?_
   rintro e w4 ⟨rfl, hb4⟩
   have hlU := (Array.getElem?_eq_some_iff.1 h9').1
   have h4 := (hb4.block b hlU).trans h9'
   have hadd := run_call_add (P := Tryz.prog) Tryz.func154 (by kernel_rfl) (by kernel_rfl) (by kernel_rfl) .u64 (by kernel_rfl) (a := ⟨b, 6, none⟩) (x := g) (y := 1) (s := g + 1) (w := w4) ((cell_row (j := 6) h4).trans rfl) (frozen_row h4) (by simp [go_sem, IntWalk.u64_in (g + 1) (by omega)])
   have h5 := heap_setCell_same w4 b 6 _ 229 (.int .u64 (g + 1)) h4
   have o5 : Only (· = b) w4 (w4.setCell ⟨b, 6, none⟩ (.int .u64 (g + 1))) := (Only.refl (· = b) w4).set (.inl rfl) _
   have hun := RwLone.wunlock_held rwWLib b 0 _ _ (w4.setCell ⟨b, 6, none⟩ (.int .u64 (g + 1))) ((cell_row (j := 0) h5).trans (show _ = some (Value.int .i32 1) from rfl)) ((cell_row (j := 2) h5).trans (show _ = some (Value.int .u32 0) from rfl)) ((cell_row (j := 3) h5).trans (show _ = some (Value.int .u32 0) from rfl))
    ((cell_row (j := 4) h5).trans (show _ = some (Value.int .i32 (-1073741824)) from rfl)) (frozen_row (j := 0) h5) (frozen_row (j := 4) h5)
   go_wp2_with fail
   generalize hU5 : w4.setCell ⟨b, 6, none⟩ (.int .u64 (g + 1)) = U5 at *
   have h8 := heap_setCell_same U5 b 4 _ 229 (.int .i32 0) h5
   have h99 := heap_setCell_same (U5.setCell ⟨b, 4, none⟩ (.int .i32 0)) b 0 _ 229 (.int .i32 0) h8
   have hoV : Only (· = b) w4 ((U5.setCell ⟨b, 4, none⟩ (.int .i32 0)).setCell ⟨b, 0, none⟩ (.int .i32 0)) := (o5.set (.inl rfl) _).set (.inl rfl) _
   refine hun.mono ?_
   rintro e w9 ⟨rfl, hw9⟩
   simp only [Nat.zero_add] at hw9
   rw [← hw9] at h99 hoV
   have h9c : w9.heap[b]? = some (.cells (slCells (T.aL []) (.map cm) (g + 1) m h (i + 1) r sw (c + 1)) 229 (0, 0)) := h99
   clear hun h5 h8 h99 o5 hw9 hU5 hadd
   go_wp2
   go_ret
   have oW4 : Only (fun k => F k ∨ k = b ∨ w2.heap.size ≤ k) w w4 := oU.trans (Only.of (F := fun _ => False) hb4) fun k hk => hk.elim
   have o2U : Only (· = b) u2 w9 := (hU.trans (Only.of (F := (· = b)) hb4) fun k hk => .inl hk).trans hoV fun k hk => .inl hk
   have hw2 : w.heap.size ≤ w2.heap.size := by have := hb2.size; have := ho1.size; omega
   refine ⟨rfl, Tk.fill ((toks s).map bs) a, Fk, ?_, fun q => ?_, fun q => ?_, HI.out.root, h9c, ?_, fun k hk => ?_, fun k hk => ?_⟩
   ·refine HI.out.ok.fill hp HPP.out.some' ?_ fun k hk hne => ?_
    ·rw [HI.out.S, subKV_snoc]
     exact hm2.keep (o2U.block _ hm2.lt (hFkb _ hSk))
    ·rw [o2U.block k (by have := HI.out.lt k hk; have := ho2.size; omega) (hFkb k hk), ho2.block k (HI.out.lt k hk) hne]
   ·show Tk.N q ↔ _
    have := HI.out.N q
    rwa [EP.out] at this
   ·simp only [STrie.fill]
    split
    ·rename_i e; rw [e, HI.out.S]
    ·exact HI.out.S q
   ·have q1 : Only (fun k => F k ∨ k = b) w u2 := o02.trans ho2 fun k hk => by
     subst hk
     rcases HI.out.old _ hSk with h | h
     ·exact .inl (.inl h)
     ·exact .inr (by omega)
    exact q1.trans o2U fun k hk => .inl (.inr hk)
   ·rcases HI.out.old k hk with h | h
    ·exact .inl h
    ·exact .inr (by omega)
   ·have := HI.out.lt k hk
    have := ho2.size
    have := o2U.size
    omega
end Go.Proofs.YtehlmjecbljafaaGreatDoor
