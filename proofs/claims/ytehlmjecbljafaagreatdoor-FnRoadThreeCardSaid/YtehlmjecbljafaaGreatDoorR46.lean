/- The server's list: is there interest, level by level. Printed by mkky.py out of At. The server's list: HasInterest. The server's list: SublistHas. The server's list: a match of two tokens in the tree of one filter a.* . -/
import Derived.Test.YtehlmjecbljafaaGreatDoorR10
import Derived.Test.YtehlmjecbljafaaGreatDoorR14
import Derived.Test.YtehlmjecbljafaaGreatDoorR32
import Derived.Test.YtehlmjecbljafaaGreatDoorR33
import Derived.Test.YtehlmjecbljafaaGreatDoorR42
import Derived.Test.YtehlmjecbljafaaGreatDoorR45
import Derived.Deep.RegionHeld3
namespace Go.Proofs.YtehlmjecbljafaaGreatDoor
open Go Go.RowKit
/-- The server's tree as a tree of counts. -/
def STrie.tr (T : STrie) : Trie := { N := T.N, aL := T.aL, aM := T.aM, aN := T.aN, aS := T.aS, V := fun q => (T.S q).length }
theorem subLen {w : World} {b : Nat} {l : List Nat} (h : MapE w b (subKV l)) (ty : TypeId) : (Builtin.len_ #[284] ty #[.map (some b)]).run Tryz.prog w = .ok (.int .i64 l.length) w := by
 have := h.len (P := Tryz.prog) Tryz.underlying284 ty
 rw [this]; simp [subKV]
theorem elem32' : Tryz.prog.elem 32 = 9 := by kernel_rfl
theorem size9' (w : World) : (sizeOf 9).run Tryz.prog w = .ok 1 w := by kernel_rfl
theorem strs_fromK (kb ko n cap k : Nat) (hk : k + 1 ≤ n) : ∃ sa, (∀ w, (Instr.slice 32 (.slice (some ⟨kb, ko, none⟩) n cap) (some (.int .i64 ((k : Int) + 1))) none none).run Tryz.prog w = .ok (.slice sa (n - (k + 1)) (cap - (k + 1))) w) ∧
  ∀ w xs, Sl w 1 (.slice (some ⟨kb, ko, none⟩) n cap) n xs → Sl w 1 (.slice sa (n - (k + 1)) (cap - (k + 1))) (n - (k + 1)) (xs.drop (k + 1)) := by
 refine ⟨if cap = k + 1 then some ⟨kb, ko, none⟩ else (some ⟨kb, ko, none⟩ : Option Addr).map (·.add ((k + 1) * 1)), fun w => ?_, fun w xs h => ?_⟩
 ·have := run_slice_l w 32 (some ⟨kb, ko, none⟩) n cap (by rw [elem32']; exact Tryz.underlying32) .i64 ((k : Int) + 1) (by omega) (by omega)
  rw [elem32', size9'] at this
  rw [this]
  have e : ((k : Int) + 1).toNat = k + 1 := by omega
  simp [Result.andThen, sliced, e]
 ·have := h.dropIf (j := k + 1) (by omega)
  simpa [add0, Addr.add] using this
set_option maxRecDepth 100000 in
set_option maxHeartbeats 3200000 in
theorem smatchAny_any : ∀ (m : Nat) (p : Path) (ts : List ByteArray) (v : Value) (T : STrie) (F : Nat → Prop) (w : World), ts.length = m → T.N p → STrieOK T F w → (∀ k, F k → k < w.heap.size) → Sl w 1 v ts.length (ts.map Value.string) →
  (∀ t ∈ ts, bs t ≠ [42] ∧ bs t ≠ [62] ∧ t.size ≤ maxLen) → ts.length ≤ 1000000 →
  Calls Tryz.prog 155 #[.pointer (some ⟨T.aL p, 0, none⟩), v, .pointer none, .pointer none] w (RBj (hasT T.tr p (ts.map bs)) w) := by
 intro m
 induction m using Nat.strongRecOn with
 | _ m ih =>
 intro p ts v T F w hm hp hT hF hv hlit hn
 subst hm
 obtain ⟨va, vc, rfl⟩ := hv.form
 have HV := Lib.hid hv; clear hv
 have HL := Lib.hid hlit; clear hlit
 have HT := Lib.hid hT; clear hT
 have HF := Lib.hid hF; clear hF
 have IH := Lib.hid ih; clear ih
 go_enter Tryz.func155, Tryz.ntmps155
 go_wp2
 go_loopw [0, 9, 10, 22] (fun lv pw nd i wr => ∃ (k : Nat), k ≤ ts.length ∧ i = .int .i64 k ∧ (T.N (p ++ (ts.map bs).take k) → lv = .pointer (some ⟨T.aL (p ++ (ts.map bs).take k), 0, none⟩)) ∧ (¬ T.N (p ++ (ts.map bs).take k) → lv = .pointer none) ∧
   (k = 0 → nd = .pointer none ∧ pw = .pointer none) ∧ (∀ j, k = j + 1 → nd = T.ptr (p ++ (ts.map bs).take k) ∧ pw = T.ptr (p ++ (ts.map bs).take j ++ [[42]])) ∧ HasSt T.tr p (ts.map bs) k ∧ Below w.heap.size w wr) (fun _ _ _ i _ => ts.length - (intOf i).toNat)
 case atStart =>
  refine ⟨0, Nat.zero_le _, rfl, fun _ => by simp, fun h => absurd (by simpa using hp) h, fun _ => ⟨rfl, rfl⟩, fun j h => by omega, HasSt.start hp, Below.refl _ _⟩
 case round =>
  obtain ⟨k, hk, rfl, hl1, hl2, hs1, hs2, hS, hb⟩ := hrel
  have hOK := HT.out.keep (w' := wr) fun x hx => hb.block x (HF.out x hx)
  by_cases hlt : k < ts.length
  ·obtain ⟨t, ht⟩ : ∃ t, ts[k]? = some t := ⟨_, List.getElem?_eq_getElem hlt⟩
   obtain ⟨kb, ko, t', rfl, Ht, hct⟩ := HV.out.str hb hlt
   obtain rfl : t' = t := by have := Ht.out; rw [ht] at this; exact (Option.some.inj this).symm
   have htP : (ts.map bs)[k]? = some (bs t') := by rw [List.getElem?_map, ht]; rfl
   have e2 : p ++ (ts.map bs).take (k + 1) = p ++ (ts.map bs).take k ++ [bs t'] := by rw [List.take_add_one, htP, List.append_assoc]; rfl
   obtain ⟨n42, n62, htM⟩ := HL.out t' (List.mem_of_getElem? ht)
   have HE2 := Lib.hid e2; clear e2
   have HS := Lib.hid hS; clear hS
   have HOK := Lib.hid hOK; clear hOK
   clear ht hs1 hs2
   generalize hq : p ++ (ts.map bs).take k = q at *
   by_cases hN : T.N q
   ·rw [hl1 hN]
    clear hl1 hl2
    have hlev := HOK.out.lev q hN
    have hc0 := (cell_row (j := 0) hlev).trans (show _ = some (Value.map (some (T.aM q))) from rfl)
    have hc1 := (cell_row (j := 1) hlev).trans (show _ = some (T.ptr (q ++ [[42]])) from rfl)
    have hc2 := (cell_row (j := 2) hlev).trans (show _ = some (T.ptr (q ++ [[62]])) from rfl)
    have hlk := HOK.out.look hN t' n42 n62
    clear hlev
    by_cases h62 : T.N (q ++ [[62]])
    ·rw [STrie.ptr_yes h62] at hc2
     go_wp2
     go_ret
     refine ⟨true, rfl, ⟨fun _ => ?_, fun _ => rfl⟩, hb⟩
     refine (HS.out.mid (by rw [List.length_map]; exact hlt)).2 ?_
     rw [hq, List.drop_eq_getElem_cons (by rw [List.length_map]; exact hlt), hasT]
     exact ⟨hN, .inl h62⟩
    ·rw [STrie.ptr_no h62] at hc2
     by_cases h42 : T.N (q ++ [[42]])
     ·rw [STrie.ptr_yes h42] at hc1
      have hn0 := HOK.out.nod q [42] h42
      have hnx := (cell_row (j := 0) hn0).trans (show _ = some (Value.pointer (some ⟨T.aL (q ++ [[42]]), 0, none⟩)) from rfl)
      clear hn0
      have hwrp : IntKind.i64.wrap ((k : Int) + 1) = (k : Int) + 1 := by rw [IntKind.wrap_i64]; omega
      obtain ⟨sa, hcut1, hcut2⟩ := strs_fromK kb ko ts.length vc k (by omega)
      have hbd : Below w.heap.size w wr.drew := hb.drew
      have hOKd := HT.out.keep (w' := wr.drew) fun x hx => hbd.block x (HF.out x hx)
      have hvd : Sl wr.drew 1 (.slice sa (ts.length - (k + 1)) (vc - (k + 1))) (ts.drop (k + 1)).length ((ts.drop (k + 1)).map Value.string) := by
       rw [List.length_drop, List.map_drop]
       exact hcut2 _ _ (HV.out.keep hbd)
      have hrec := IH.out (ts.length - (k + 1)) (by omega) (q ++ [[42]]) (ts.drop (k + 1)) _ T F wr.drew (by rw [List.length_drop]) h42 hOKd (fun x hx => Nat.lt_of_lt_of_le (HF.out x hx) hbd.size) hvd (fun x hx => HL.out x (List.mem_of_mem_drop hx)) (by rw [List.length_drop]; omega)
      have hnxd : wr.drew.cell? ⟨T.aN (q ++ [[42]]), 0, none⟩ = some (.pointer (some ⟨T.aL (q ++ [[42]]), 0, none⟩)) := hnx
      have HBD := Lib.hid hbd
      clear hcut2 hvd hOKd hbd
      go_wp2_with fail
      go_region_held3 (fun w1 => w1.cell? ⟨T.aN (q ++ [[42]]), 0, none⟩ = some (.pointer (some ⟨T.aL (q ++ [[42]]), 0, none⟩))) (first | exact x1 | exact hnxd) (first
       | (go_at_call 155; refine hrec.mono ?_; rintro e w3 ⟨bl, rfl, hbl, hb3⟩; have x1 := cell_bel hnxd hb3))
      have hb3' : Below w.heap.size w w3 := bel2 HBD.out hb3
      clear hrec x1 hnxd hcut1
      have hOK3 := HT.out.keep (w' := w3) fun x hx => hb3'.block x (HF.out x hx)
      have hlev3 := hOK3.lev q hN
      have hd0 := (cell_row (j := 0) hlev3).trans (show _ = some (Value.map (some (T.aM q))) from rfl)
      replace hlk := hOK3.look hN t' n42 n62
      replace HOK := Lib.hid hOK3
      clear hlev3 hOK3 hc0 hc1 hc2 hnx
      rw [List.map_drop] at hbl
      cases bl
      ·have hrec : ¬ hasT T.tr (q ++ [[42]]) ((ts.map bs).drop (k + 1)) := fun h => by have := hbl.2 h; cases this
       clear hbl
       by_cases hNt : T.N (q ++ [bs t'])
       ·rw [STrie.ptr_yes hNt] at hlk
        have hm0 := HOK.out.nod q (bs t') hNt
        have hmx := (cell_row (j := 0) hm0).trans (show _ = some (Value.pointer (some ⟨T.aL (q ++ [bs t']), 0, none⟩)) from rfl)
        clear hm0
        go_wp2
        go_roundw
        case rel => exact ⟨k + 1, hlt, by go_num, fun _ => by rw [HE2.out], fun h => absurd (by rw [HE2.out]; exact hNt) h, (fun h => by omega), (fun j hj => by obtain rfl : j = k := (by omega); rw [HE2.out, hq, STrie.ptr_yes hNt, STrie.ptr_yes h42]; exact ⟨rfl, rfl⟩), (HasSt.step HS.out htP (by rw [hq]; exact hN) (by rw [hq]; exact h62) (by rw [hq]; rintro ⟨-, h⟩; exact hrec h)), hb3'⟩
        case measure => simp [intOf]; omega
       ·rw [STrie.ptr_no hNt] at hlk
        go_wp2
        go_roundw
        case rel => exact ⟨k + 1, hlt, by go_num, fun h => absurd (by rw [HE2.out] at h; exact h) hNt, fun _ => rfl, (fun h => by omega), (fun j hj => by obtain rfl : j = k := (by omega); rw [HE2.out, hq, STrie.ptr_no hNt, STrie.ptr_yes h42]; exact ⟨rfl, rfl⟩), (HasSt.step HS.out htP (by rw [hq]; exact hN) (by rw [hq]; exact h62) (by rw [hq]; rintro ⟨-, h⟩; exact hrec h)), hb3'⟩
        case measure => simp [intOf]; omega
      ·have hrec : hasT T.tr (q ++ [[42]]) ((ts.map bs).drop (k + 1)) := hbl.1 rfl
       clear hbl
       have hfin : hasT T.tr p (ts.map bs) := by
        refine (HS.out.mid (by rw [List.length_map]; exact hlt)).2 ?_
        rw [hq, List.drop_eq_getElem_cons (by rw [List.length_map]; exact hlt), hasT]
        refine ⟨hN, .inr (.inl ⟨h42, ?_⟩)⟩
        rw [if_neg (fun e => by rw [e] at hrec; simp [hasT] at hrec)]
        exact hrec
       have HFI := Lib.hid hfin; clear hfin
       go_wp2
       all_goals
        go_ret
        exact ⟨true, rfl, ⟨fun _ => HFI.out, fun _ => rfl⟩, hb3'⟩
     ·rw [STrie.ptr_no h42] at hc1
      by_cases hNt : T.N (q ++ [bs t'])
      ·rw [STrie.ptr_yes hNt] at hlk
       have hm0 := HOK.out.nod q (bs t') hNt
       have hmx := (cell_row (j := 0) hm0).trans (show _ = some (Value.pointer (some ⟨T.aL (q ++ [bs t']), 0, none⟩)) from rfl)
       clear hm0
       go_wp2
       go_roundw
       case rel => exact ⟨k + 1, hlt, by go_num, fun _ => by rw [HE2.out], fun h => absurd (by rw [HE2.out]; exact hNt) h, (fun h => by omega), (fun j hj => by obtain rfl : j = k := (by omega); rw [HE2.out, hq, STrie.ptr_yes hNt, STrie.ptr_no h42]; exact ⟨rfl, rfl⟩), (HasSt.step HS.out htP (by rw [hq]; exact hN) (by rw [hq]; exact h62) (by rw [hq]; rintro ⟨h, -⟩; exact h42 h)), hb⟩
       case measure => simp [intOf]; omega
      ·rw [STrie.ptr_no hNt] at hlk
       go_wp2
       go_roundw
       case rel => exact ⟨k + 1, hlt, by go_num, fun h => absurd (by rw [HE2.out] at h; exact h) hNt, fun _ => rfl, (fun h => by omega), (fun j hj => by obtain rfl : j = k := (by omega); rw [HE2.out, hq, STrie.ptr_no hNt, STrie.ptr_no h42]; exact ⟨rfl, rfl⟩), (HasSt.step HS.out htP (by rw [hq]; exact hN) (by rw [hq]; exact h62) (by rw [hq]; rintro ⟨h, -⟩; exact h42 h)), hb⟩
       case measure => simp [intOf]; omega
   ·rw [hl2 hN]
    clear hl1 hl2
    go_wp2
    go_ret
    refine ⟨false, rfl, ⟨fun h => (by cases h), fun h => ?_⟩, hb⟩
    have := ((HS.out.mid (by rw [List.length_map]; exact hlt)).1 h).1
    rw [hq] at this
    exact absurd this hN
  ·obtain rfl : k = ts.length := by omega
   have hS' := HasSt.fin hS
   clear hl1 hl2
   cases hkz : ts.length with
   | zero =>
    have hts : ts = [] := List.eq_nil_of_length_eq_zero hkz
    obtain ⟨rfl, rfl⟩ := hs1 hkz
    clear hs2 hS' hS
    go_wp2
    go_ret
    refine ⟨false, rfl, ⟨fun h => (by cases h), fun h => ?_⟩, hb⟩
    simp [hasT] at h
   | succ j =>
    obtain ⟨rfl, rfl⟩ := hs2 j hkz
    have hF' := hS' j hkz (by rw [List.length_map])
    have HFin := Lib.hid hF'; clear hF' hS' hS hs1 hs2
    have HOK := Lib.hid hOK; clear hOK
    have HKZ := Lib.hid hkz; clear hkz
    have eP : ∀ P : Path, P ≠ [] → ∃ a b, P = a ++ [b] := fun P h => snoc_of h
    have hne1 : p ++ (ts.map bs).take ts.length ≠ [] := by
     intro e
     have := congrArg List.length e
     rw [List.length_append, List.length_take, List.length_map, List.length_nil] at this
     have := HKZ.out
     omega
    generalize hqe : p ++ (ts.map bs).take ts.length = q at *
    generalize hre : p ++ (ts.map bs).take j ++ [[42]] = r at *
    have hr1 : r ≠ [] := by rw [← hre]; simp
    obtain ⟨q', tq, rfl⟩ := snoc_of hne1
    obtain ⟨r', tr, rfl⟩ := snoc_of hr1
    clear eP
    by_cases hN : T.N (q' ++ [tq])
    ·rw [STrie.ptr_yes hN]
     have a0 := HOK.out.nod q' tq hN
     have a1 := (cell_row (j := 1) a0).trans (show _ = some (Value.map (some (T.aS (q' ++ [tq])))) from rfl)
     have a2 := fun ty => subLen (HOK.out.sub q' tq hN) ty
     have a4 := (cell_row (j := 2) a0).trans (show _ = some (Value.map none) from rfl)
     have a5 := (cell_row (j := 3) a0).trans (show _ = some (Value.slice none 0 0) from rfl)
     clear a0
     by_cases hv0 : 0 < (T.S (q' ++ [tq])).length
     ·have hv1 : (((T.S (q' ++ [tq])).length : Nat) : Int) > 0 := by omega
      go_wp2
      go_ret
      exact ⟨true, rfl, ⟨fun _ => HFin.out.2 (.inr ⟨hN, hv0⟩), fun _ => rfl⟩, hb⟩
     ·have hv1 : ¬ ((((T.S (q' ++ [tq])).length : Nat) : Int) > 0) := by omega
      by_cases hR : T.N (r' ++ [tr])
      ·rw [STrie.ptr_yes hR]
       have b0 := HOK.out.nod r' tr hR
       have b1 := (cell_row (j := 1) b0).trans (show _ = some (Value.map (some (T.aS (r' ++ [tr])))) from rfl)
       have b2 := fun ty => subLen (HOK.out.sub r' tr hR) ty
       have b4 := (cell_row (j := 2) b0).trans (show _ = some (Value.map none) from rfl)
       have b5 := (cell_row (j := 3) b0).trans (show _ = some (Value.slice none 0 0) from rfl)
       clear b0
       by_cases hw0 : 0 < (T.S (r' ++ [tr])).length
       ·have hw1 : (((T.S (r' ++ [tr])).length : Nat) : Int) > 0 := by omega
        go_wp2
        go_ret
        exact ⟨true, rfl, ⟨fun _ => HFin.out.2 (.inl ⟨hR, hw0⟩), fun _ => rfl⟩, hb⟩
       ·have hw1 : ¬ ((((T.S (r' ++ [tr])).length : Nat) : Int) > 0) := by omega
        go_wp2
        go_ret
        refine ⟨false, rfl, ⟨fun h => (by cases h), fun h => ?_⟩, hb⟩
        rcases HFin.out.1 h with h | h
        ·exact absurd h.2 hw0
        ·exact absurd h (fun h => hv0 h.2)
      ·rw [STrie.ptr_no hR]
       go_wp2
       go_ret
       refine ⟨false, rfl, ⟨fun h => (by cases h), fun h => ?_⟩, hb⟩
       rcases HFin.out.1 h with h | h
       ·exact absurd h.1 hR
       ·exact absurd h (fun h => hv0 h.2)
    ·rw [STrie.ptr_no hN]
     by_cases hR : T.N (r' ++ [tr])
     ·rw [STrie.ptr_yes hR]
      have b0 := HOK.out.nod r' tr hR
      have b1 := (cell_row (j := 1) b0).trans (show _ = some (Value.map (some (T.aS (r' ++ [tr])))) from rfl)
      have b2 := fun ty => subLen (HOK.out.sub r' tr hR) ty
      have b4 := (cell_row (j := 2) b0).trans (show _ = some (Value.map none) from rfl)
      have b5 := (cell_row (j := 3) b0).trans (show _ = some (Value.slice none 0 0) from rfl)
      clear b0
      by_cases hw0 : 0 < (T.S (r' ++ [tr])).length
      ·have hw1 : (((T.S (r' ++ [tr])).length : Nat) : Int) > 0 := by omega
       go_wp2
       go_ret
       exact ⟨true, rfl, ⟨fun _ => HFin.out.2 (.inl ⟨hR, hw0⟩), fun _ => rfl⟩, hb⟩
      ·have hw1 : ¬ ((((T.S (r' ++ [tr])).length : Nat) : Int) > 0) := by omega
       go_wp2
       go_ret
       refine ⟨false, rfl, ⟨fun h => (by cases h), fun h => ?_⟩, hb⟩
       rcases HFin.out.1 h with h | h
       ·exact absurd h.2 hw0
       ·exact absurd h (fun h => hN h.1)
     ·rw [STrie.ptr_no hR]
      go_wp2
      go_ret
      refine ⟨false, rfl, ⟨fun h => (by cases h), fun h => ?_⟩, hb⟩
      rcases HFin.out.1 h with h | h
      ·exact absurd h.1 hR
      ·exact absurd h (fun h => hN h.1)
end Go.Proofs.YtehlmjecbljafaaGreatDoor
namespace Go.Proofs.YtehlmjecbljafaaGreatDoor
open Go Go.RowKit
theorem neq226 (cm : Option Nat) (w : World) : (binOp .neq 226 (.map cm) (.map none)).run Tryz.prog w = .ok (.bool cm.isSome) w := by
 have h := run_neq_map_nil (P := Tryz.prog) w 226 9 234 cm Tryz.underlying226
 rw [h]
 cases cm <;> rfl
set_option maxRecDepth 100000 in
set_option maxHeartbeats 3200000 in
theorem sHasInt_any (b : Nat) (s : ByteArray) (cm : Option Nat) (g m h i r sw c : Int) (T : STrie) (F : Nat → Prop) (w : World) (hb : w.heap[b]? = some (.cells (slCells (T.aL []) (.map cm) g m h i r sw c) 229 (0, 0))) (hT : STrieOK T F w) (hF : ∀ k, F k → k < w.heap.size) (hFb : ¬ F b)
  (hcm : ∀ k, cm = some k → MapE w k [] ∧ k ≠ b) (hg : GoodS s) (hs : s.size ≤ 100000) :
  Calls Tryz.prog 108 #[.pointer (some ⟨b, 0, none⟩), .string s, .bool true, .pointer none, .pointer none] w fun e w' => ∃ bl, e = .returned (.bool bl) ∧ (bl = true ↔ hasT T.tr [] ((toks s).map bs)) ∧ Only (· = b) w w' := by
 have hlb := (Array.getElem?_eq_some_iff.1 hb).1
 have HG := Lib.hid hg; clear hg
 have rl : ∀ W : World, W.heap[b]? = some (.cells (slCells (T.aL []) (.map cm) g m h i r sw c) 229 (0, 0)) → Calls Tryz.prog 112 #[.pointer (some ⟨b, 0, none⟩)] W fun e w' => e = .returned (.tuple #[]) ∧ w' = W.setCell ⟨b, 4, none⟩ (.int .i32 1) := fun W hW => by
  have := RwLone.rlock_open rwRLib b 0 0 _ _ W ((cell_row (j := 0) hW).trans (show _ = some (Value.int .i32 0) from rfl)) ((cell_row (j := 3) hW).trans (show _ = some (Value.int .u32 0) from rfl)) ((cell_row (j := 4) hW).trans (show _ = some (Value.int .i32 0) from rfl)) (frozen_row (j := 4) hW) (by rw [wrap_up]; decide)
  rw [wrap_up] at this
  simpa using this
 have ru : ∀ W : World, W.heap[b]? = some (.cells (slRead (T.aL []) (.map cm) g m h i r sw c) 229 (0, 0)) → Calls Tryz.prog 113 #[.pointer (some ⟨b, 0, none⟩)] W fun e w' => e = .returned (.tuple #[]) ∧ w' = W.setCell ⟨b, 4, none⟩ (.int .i32 0) := fun W hW => by
  have := RwLone.runlock_held rwRLib b 0 1 _ _ W ((cell_row (j := 0) hW).trans (show _ = some (Value.int .i32 0) from rfl)) ((cell_row (j := 2) hW).trans (show _ = some (Value.int .u32 0) from rfl)) ((cell_row (j := 4) hW).trans (show _ = some (Value.int .i32 1) from rfl)) (frozen_row (j := 4) hW) (by rw [wrap_down]; decide)
  rw [wrap_down] at this
  simpa using this
 have rowR : ∀ W : World, W.heap[b]? = some (.cells (slCells (T.aL []) (.map cm) g m h i r sw c) 229 (0, 0)) → (W.setCell ⟨b, 4, none⟩ (.int .i32 1)).heap[b]? = some (.cells (slRead (T.aL []) (.map cm) g m h i r sw c) 229 (0, 0)) := fun W hW => heap_setCell_same W b 4 _ 229 (.int .i32 1) hW
 have rowU : ∀ W : World, W.heap[b]? = some (.cells (slRead (T.aL []) (.map cm) g m h i r sw c) 229 (0, 0)) → (W.setCell ⟨b, 4, none⟩ (.int .i32 0)).heap[b]? = some (.cells (slCells (T.aL []) (.map cm) g m h i r sw c) 229 (0, 0)) := fun W hW => heap_setCell_same W b 4 _ 229 (.int .i32 0) hW
 have hrl := rl w hb
 have HROW := Lib.hid (And.intro rl (And.intro ru (And.intro rowR rowU)))
 clear rl ru rowR rowU
 have HT := Lib.hid hT; clear hT
 have HF := Lib.hid hF; clear hF
 have HCM := Lib.hid hcm; clear hcm
 have HB := Lib.hid hb; clear hb
 go_enter_defers Tryz.func108, Tryz.ntmps108
 go_wp2_with fail
 refine hrl.mono ?_
 rintro e w3 ⟨rfl, hw3⟩
 have h4 := HROW.out.2.2.1 w HB.out
 have ho4 : Only (· = b) w (w.setCell ⟨b, 4, none⟩ (.int .i32 1)) := (Only.refl (· = b) w).set (.inl rfl) _
 rw [← hw3] at h4 ho4
 clear hw3 hrl
 have hru := HROW.out.2.1 w3 h4
 have c12 := (cell_row (j := 12) h4).trans (show _ = some (Value.map cm) from rfl)
 have hne := fun w => neq226 cm w
 have hm3 : ∀ k, cm = some k → MapE w3 k [] := fun k hk => (HCM.out k hk).1.keep (ho4.block k (HCM.out k hk).1.lt (HCM.out k hk).2)
 have HO4 := Lib.hid ho4
 have H4 := Lib.hid h4
 clear ho4 h4
 have hlk : ∀ k, cm = some k → (Instr.lookup 226 (.map (some k)) (.string s) true).run Tryz.prog w3 = .ok (.tuple #[.pointer none, .bool false]) w3 := fun k hk => by
  have := (hm3 k hk).look_no (P := Tryz.prog) Tryz.underlying226 (z234 w3) (keyAt_string (P := Tryz.prog) (k := 9) Tryz.underlying9 w3 s (kv := []) (by simp)) (by simp) true
  simpa using this
 have HCM2 := Lib.hid hm3
 clear hm3
 rcases cm with _ | k
 case' none =>
  clear hlk
  go_wp2_with fail
 case' some =>
  replace hlk := hlk k rfl
  go_wp2_with fail
 all_goals
  refine hru.mono ?_
  rintro e w4 ⟨rfl, hw4⟩
  have h44 := HROW.out.2.2.2 w3 H4.out
  have ho44 : Only (· = b) w3 (w3.setCell ⟨b, 4, none⟩ (.int .i32 0)) := (Only.refl (· = b) w3).set (.inl rfl) _
  rw [← hw4] at h44 ho44
  have HO44 := Lib.hid (HO4.out.trans ho44 fun x hx => .inl hx)
  have hlb4 : b < w4.heap.size := (Array.getElem?_eq_some_iff.1 h44).1
  clear hw4 hru ho44 c12 hne
  go_wp2_with (refine wpList_zero3 180 zero32 32 _ _ z32b z32i z32s z32o rfl rfl rfl rfl rfl rfl (by rfl) (by rfl) ?_)
  have hown0 := own32 w4
  have hb0 := (Below.refl w4.heap.size w4).alloc (Nat.le_refl _) (.cells zero32 180)
  go_loopw [17, 18, 19] (fun v f i wr => ∃ (k kf : Nat) (ss : List ByteArray), k ≤ s.size ∧ kf ≤ k ∧ i = .int .i64 k ∧ f = .int .i64 kf ∧ Hid (Done s kf k ss) ∧ Own wr w4.heap.size 1 v ss.length (ss.map Value.string) ∧ Below w4.heap.size w4 wr) (fun _ _ i _ => s.size - (intOf i).toNat)
  case atStart => exact ⟨0, 0, [], by omega, by omega, rfl, rfl, done_start s, hown0, hb0⟩
  case round =>
   obtain ⟨k, kf, ss, hk, hkf, rfl, rfl, HD, hown, hbel⟩ := hrel
   have hB := hbel.size
   have hssl := done_len HD.out hk
   by_cases hlt : k < s.size
   ·by_cases hc : s[k] = 46
    ·have hd2 := done_dot HD.out hlt hc
     obtain ⟨r, hr⟩ := done_toks hd2
     have hpos := good_at HG.out hr
     have hne : kf < k := by
      rcases Nat.lt_or_ge kf k with h | h
      ·exact h
      ·rw [← bs_len, bs_extract] at hpos
       simp at hpos
       omega
     have hcb : (((s[k]).toNat : Int) == 46) = true := by rw [hc]; rfl
     have HD2 := Lib.hid hd2; clear hd2 hr hpos hc
     go_wp2_with (at_builtin; go_must (refine wpList_app1 et32 rfl _ _ rfl w4.heap.size rfl hown [_] rfl rfl (by simp [Value.oneCell']) (by omega) hB ?_); intro v' w1 hown1 hgrow)
     go_roundw
     case rel => exact ⟨k+1, k+1, _, hlt, Nat.le_refl _, by go_num, by go_num, HD2.out, by simpa using hown1, bel_app hbel hgrow hown hB⟩
     case measure => simp [intOf]; omega
    ·have hcb : (((s[k]).toNat : Int) == 46) = false := by
      rw [beq_eq_false_iff_ne]; intro e; exact hc (UInt8.toNat_inj.1 (show (s[k]).toNat = 46 by omega))
     have hd2 := done_no HD.out hlt hkf hc
     have HD2 := Lib.hid hd2; clear hd2 hc
     go_wp2
     go_roundw
     case rel => exact ⟨k+1, kf, ss, hlt, by omega, by go_num, rfl, HD2.out, hown, hbel⟩
     case measure => simp [intOf]; omega
   ·obtain rfl : k = s.size := by omega
    have hend := done_end HD.out
    have hpos := good_at HG.out (r := []) (by rw [List.append_nil]; exact hend.symm)
    have hlt2 : kf < s.size := by
     rw [← bs_len, bs_extract_end, List.length_drop, bs_len] at hpos
     omega
    clear hpos
    have HE := Lib.hid hend; clear hend
    go_wp2_with (at_builtin; go_must (refine wpList_app1 et32 rfl _ _ rfl w4.heap.size rfl hown [_] rfl rfl (by simp [Value.oneCell']) (by omega) hB ?_); intro v' w1 hown1 hgrow)
    have hbw := bel_app hbel hgrow hown hB
    have hbk := (hbw.block b hlb4).trans h44
    have hrl2 := HROW.out.1 w1 hbk
    have HBW := Lib.hid hbw; clear hbw
    refine hrl2.mono ?_
    rintro e w5 ⟨rfl, hw5⟩
    have h5 := HROW.out.2.2.1 w1 hbk
    have ho5 : Only (· = b) w1 (w1.setCell ⟨b, 4, none⟩ (.int .i32 1)) := (Only.refl (· = b) w1).set (.inl rfl) _
    rw [← hw5] at h5 ho5
    have HOA := Lib.hid ((HO44.out.trans (Only.of (F := (· = b)) HBW.out) fun x hx => .inl hx).trans ho5 fun x hx => .inl hx)
    have hT5 := HT.out.keep (w' := w5) fun x hx => HOA.out.block x (HF.out x hx) (fun e => hFb (e ▸ hx))
    have hF5 : ∀ k, F k → k < w5.heap.size := fun k hk => by have := HF.out k hk; have := HOA.out.size; omega
    have hsl5 := (hown1.only ho5 (fun k hk e => by have := (hown1.lt k hk).1; omega)).sl
    have hlen : ss.length + 1 = (toks s).length := by
     have := congrArg List.length HE.out
     simpa using this
    have hts : ss.map Value.string ++ [Value.string (s.extract kf s.size)] = (toks s).map Value.string := by rw [← HE.out]; simp
    rw [hts, hlen] at hsl5
    clear hts hlen hw5 hrl2
    have r11 := (cell_row (j := 11) h5).trans (show _ = some (Value.pointer (some ⟨T.aL [], 0, none⟩)) from rfl)
    have hma := smatchAny_any (toks s).length [] (toks s) v' T F w5 rfl hT5.root hT5 hF5 hsl5 (fun t ht => by
     obtain ⟨k, hk, e⟩ := List.mem_iff_getElem.1 ht
     have hh := HG.out.heads k t (by rw [List.getElem?_eq_getElem hk, e])
     refine ⟨fun e => ?_, fun e => ?_, by have := toks_mem ht; unfold maxLen; omega⟩
     ·have := (bs_one e).2 hh.pos; exact hh.star (by rw [this]; rfl)
     ·have := (bs_one e).2 hh.pos; exact hh.rest (by rw [this]; rfl)) (by have := toks_len s; omega)
    clear hT5 hF5 hsl5 ho5
    go_wp2_with fail
    refine hma.mono ?_
    rintro e w6 ⟨bl, rfl, hbl, hb6⟩
    have h6 := (hb6.block b (Array.getElem?_eq_some_iff.1 h5).1).trans h5
    clear hma
    go_wp2
    refine leaves_cons (f := 113) (args := #[.pointer (some ⟨b, 0, none⟩)]) (by simp) (by simp [go_sem]) ?_
    refine (RwLone.runlock_deferred rwRLib b 0 1 _ _ .returning w6 ((cell_row (j := 0) h6).trans (show _ = some (Value.int .i32 0) from rfl)) ((cell_row (j := 2) h6).trans (show _ = some (Value.int .u32 0) from rfl)) ((cell_row (j := 4) h6).trans (show _ = some (Value.int .i32 1) from rfl)) (frozen_row (j := 4) h6) (by rw [wrap_down]; decide)).mono ?_
    rintro e u' w9 ⟨rfl, rfl, rfl⟩
    refine ⟨_, results_tmp rfl _ _ _, bl, rfl, hbl, ?_⟩
    exact (HOA.out.trans (Only.of (F := (· = b)) hb6) fun k hk => .inl hk).set (.inl rfl) _
end Go.Proofs.YtehlmjecbljafaaGreatDoor
namespace Go.Proofs.YtehlmjecbljafaaGreatDoor
open Go Go.RowKit
set_option maxRecDepth 100000 in
set_option maxHeartbeats 800000 in
theorem sHas74_any (b : Nat) (s : ByteArray) (cm : Option Nat) (g m h i r sw c : Int) (T : STrie) (F : Nat → Prop) (w : World) (hb : w.heap[b]? = some (.cells (slCells (T.aL []) (.map cm) g m h i r sw c) 229 (0, 0))) (hT : STrieOK T F w) (hF : ∀ k, F k → k < w.heap.size) (hFb : ¬ F b)
  (hcm : ∀ k, cm = some k → MapE w k [] ∧ k ≠ b) (hg : GoodS s) (hs : s.size ≤ 100000) :
  Calls Tryz.prog 74 #[.pointer (some ⟨b, 0, none⟩), .string s] w fun e w' => ∃ bl, e = .returned (.bool bl) ∧ (bl = true ↔ hasT T.tr [] ((toks s).map bs)) ∧ Only (· = b) w w' := by
 have hh := sHasInt_any b s cm g m h i r sw c T F w hb hT hF hFb hcm hg hs
 clear hb hT hF hFb hcm hg
 go_enter Tryz.func74, Tryz.ntmps74
 go_wp2_with fail
 refine hh.mono ?_
 rintro e w1 ⟨bl, rfl, h1, h2⟩
 go_wp2
 go_ret
 exact ⟨bl, rfl, h1, h2⟩
set_option maxRecDepth 100000 in
set_option maxHeartbeats 1600000 in
theorem sublistHas_any (cache : Bool) (_xs : List Int) (list : List Deed) (v : Value) (ds : List StepD) (s : ByteArray) (w : World) (hv : StepsAt w v ds) (hds : ds.length = list.length) (hput : ∀ (k : Nat) (d : Deed), list[k]? = some d → ds[k]? = some ⟨0, d.subj, d.val, ⟨#[]⟩⟩)
  (hnd : (list.map (·.val)).Nodup) (hss : ∀ d ∈ list, d.subj.size ≤ 100000) (hpp : ∀ d ∈ list, PatP (pathOf d)) (hn : list.length ≤ 40) (hg : GoodS s) (hs : s.size ≤ 100000) :
  Calls Tryz.prog 33 #[.bool cache, v, .string s] w fun e w' => ∃ bl, e = .returned (.bool bl) ∧ (∃ T, TrieOf list T ∧ (bl = true ↔ hasT T [] ((toks s).map bs))) ∧ Below w.heap.size w w' := by
 have hp := playedC_any cache (list.map (·.val)) (list.map (·.subj)) v ds w hv (by simp [hds]) (fun k s' x h1 h2 => by
  rw [List.getElem?_map] at h1 h2
  cases hd : list[k]? with
  | none => rw [hd] at h1; cases h1
  | some d =>
   rw [hd] at h1 h2
   cases h1; cases h2
   exact hput k d hd) (by simp) hnd (fun s' h => by obtain ⟨d, hd, rfl⟩ := List.mem_map.1 h; exact hss d hd) (fun s' h => by obtain ⟨d, hd, rfl⟩ := List.mem_map.1 h; exact hpp d hd) (by simpa using hn)
 have HG := Lib.hid hg; clear hg
 obtain ⟨va, vc, rfl⟩ := Sl.form hv
 clear hv hds hput hnd hss hpp
 go_enter Tryz.func33, Tryz.ntmps33
 go_wp2_with fail
 refine hp.mono ?_
 rintro e w1 ⟨P, b, u, vi, vs, subs, T, F, cm, rfl, hP, hb1⟩
 have hB := hb1.size
 have c0 := (cell_row (j := 0) hP.play.row).trans (show _ = some (Value.pointer (some ⟨b, 0, none⟩)) from rfl)
 have hh := sHas74_any b s cm _ _ _ _ _ _ _ T F w1 hP.row hP.ok (fun k hk => (hP.lt k hk).2) hP.nb (fun k hk => ⟨(hP.cmk k hk).1, (hP.cmk k hk).2.2.1⟩) HG.out hs
 have HP := Lib.hid hP; clear hP hp
 go_wp2_with fail
 refine hh.mono ?_
 rintro e w2 ⟨bl, rfl, h1, h2⟩
 clear hh
 go_wp2
 go_ret
 refine ⟨bl, rfl, ⟨T.tr, ⟨fun q => ?_, fun q => ?_⟩, h1⟩, hb1.trans (h2.below (fun x hx => by have := HP.out.bge; omega) hB)⟩
 ·show T.N q ↔ _
  rw [HP.out.N q]
  refine or_congr Iff.rfl ⟨fun ⟨s', h3, h4⟩ => ?_, fun ⟨d, h3, h4⟩ => ⟨d.subj, List.mem_map_of_mem h3, h4⟩⟩
  obtain ⟨d, h5, rfl⟩ := List.mem_map.1 h3
  exact ⟨d, h5, h4⟩
 ·show 0 < (T.S q).length ↔ _
  rw [List.length_pos_iff]
  constructor
  ·intro hne
   obtain ⟨y, hy⟩ := List.exists_mem_of_ne_nil _ hne
   obtain ⟨j, s', h3, h4, h5⟩ := (HP.out.S q y).1 hy
   obtain ⟨d, h6, rfl⟩ := List.mem_map.1 (List.mem_of_getElem? h4)
   exact ⟨d, h6, h5⟩
  ·rintro ⟨d, h3, h4⟩ e
   obtain ⟨j, hj, e2⟩ := List.mem_iff_getElem.1 h3
   have hl : subs.length = list.length := by have := HP.out.len; simpa using this.symm
   have hy := (HP.out.S q subs[j]).2 ⟨j, d.subj, List.getElem?_eq_getElem (by omega), by rw [List.getElem?_map, List.getElem?_eq_getElem hj, e2]; rfl, h4⟩
   rw [e] at hy; cases hy
end Go.Proofs.YtehlmjecbljafaaGreatDoor
namespace Go.Proofs.YtehlmjecbljafaaGreatDoor
open Go Go.RowKit
set_option maxRecDepth 100000 in
set_option maxHeartbeats 1600000 in
theorem ml_empty (lv : Value) (a : Option Addr) (c R : Nat) (w : World) : Calls Tryz.prog 221 #[lv, .slice a 0 c, .pointer (some ⟨R, 0, none⟩)] w fun e w' => e = .returned (.tuple #[]) ∧ w' = w := by
 go_enter Tryz.func221, Tryz.ntmps221
 go_wp2
 go_loopw [6, 7, 12] (fun p q i wr => p = .pointer none ∧ q = .pointer none ∧ i = .int .i64 0 ∧ wr = w) (fun _ _ _ _ => 0)
 case atStart => exact ⟨rfl, rfl, rfl, rfl⟩
 case round =>
  obtain ⟨rfl, rfl, rfl, rfl⟩ := hrel
  go_wp2
  go_end0
  exact ⟨rfl, rfl⟩
/-- The tree of the filter a.* . -/
def StarP : Path := [[97], [42]]
set_option maxRecDepth 100000 in
set_option maxHeartbeats 3200000 in
theorem ml_two (T : STrie) (F : Nat → Prop) (R : Nat) (A B : ByteArray) (v : Value) (w : World) (hA : bs A = [97]) (hB : bs B = [98]) (hT : STrieOK T F w) (hN : ∀ q, T.N q ↔ q <+: StarP) (hv : Sl w 1 v 2 [.string A, .string B]) (hvf : ∀ b o n c, v = .slice (some ⟨b, o, none⟩) n c → F b) (h : ResS F R [] w w) (hF : ∀ k, F k → k < w.heap.size) (hR : ¬ F R) (hS : (T.S StarP).length ≤ 100) :
  Calls Tryz.prog 221 #[.pointer (some ⟨T.aL [], 0, none⟩), v, .pointer (some ⟨R, 0, none⟩)] w fun e w' => e = .returned (.tuple #[]) ∧ ∃ l2, l2.Perm (T.S StarP) ∧ ResS F R l2 w w' := by
 obtain ⟨va, vc, rfl⟩ := hv.form
 have n0 : T.N [] := hT.root
 have n1 : T.N ([[97]]) := (hN _).2 ⟨[[42]], rfl⟩
 have n2 : T.N ([[97], [42]]) := (hN _).2 ⟨[], rfl⟩
 have x042 : ¬ T.N ([[42]]) := fun h => by obtain ⟨r, e⟩ := (hN _).1 h; cases e
 have x062 : ¬ T.N ([[62]]) := fun h => by obtain ⟨r, e⟩ := (hN _).1 h; cases e
 have x162 : ¬ T.N ([[97], [62]]) := fun h => by obtain ⟨r, e⟩ := (hN _).1 h; cases e
 have x1b : ¬ T.N ([[97], [98]]) := fun h => by obtain ⟨r, e⟩ := (hN _).1 h; cases e
 have HT := Lib.hid hT
 have H := Lib.hid h; clear h
 have HV := Lib.hid hv; clear hv
 have hvl : ∀ wr : World, Below w.heap.size w wr → ∃ b o, va = some ⟨b, o, none⟩ ∧ wr.cell? ⟨b, o, none⟩ = some (.string A) ∧ wr.cell? ⟨b, o + 1, none⟩ = some (.string B) := fun wr hb => by
  obtain ⟨b, o, e, hc⟩ := HV.out.cell hb (by simp)
  exact ⟨b, o, e, hc 0 _ rfl, hc 1 _ rfl⟩
 have HVL := Lib.hid hvl; clear hvl
 go_enter Tryz.func221, Tryz.ntmps221
 go_wp2
 go_loopw [0, 6, 7, 12] (fun lv p q i wr => ∃ k : Nat, i = .int .i64 k ∧ ((k = 0 ∧ lv = .pointer (some ⟨T.aL [], 0, none⟩) ∧ p = .pointer none ∧ q = .pointer none ∧ wr = w) ∨ (k = 1 ∧ lv = .pointer (some ⟨T.aL ([[97]]), 0, none⟩) ∧ p = .pointer none ∧ q = .pointer (some ⟨T.aN ([[97]]), 0, none⟩) ∧ wr = w) ∨ (k = 2 ∧ lv = .pointer none ∧ p = .pointer (some ⟨T.aN ([[97], [42]]), 0, none⟩) ∧ q = .pointer none ∧ Below w.heap.size w wr))) (fun _ _ _ i _ => 2 - (intOf i).toNat)
 case atStart => exact ⟨0, rfl, .inl ⟨rfl, rfl, rfl, rfl, rfl⟩⟩
 case round =>
  obtain ⟨k, rfl, ⟨rfl, rfl, rfl, rfl, rfl⟩ | ⟨rfl, rfl, rfl, rfl, rfl⟩ | ⟨rfl, rfl, rfl, rfl, hb⟩⟩ := hrel
  ·obtain ⟨b, o, rfl, c0, -⟩ := HVL.out _ (Below.refl _ _)
   have hlev : wr.heap[T.aL []]? = some (.cells #[.map (some (T.aM [])), T.ptr [[42]], T.ptr [[62]]] 279 (0, 0)) := HT.out.lev [] n0
   rw [STrie.ptr_no x042, STrie.ptr_no x062] at hlev
   have d0 := (cell_row (j := 0) hlev).trans (show _ = some (Value.map (some (T.aM []))) from rfl)
   have d1 := (cell_row (j := 1) hlev).trans (show _ = some (Value.pointer none) from rfl)
   have d2 := (cell_row (j := 2) hlev).trans (show _ = some (Value.pointer none) from rfl)
   have hlk : (Instr.lookup 276 (.map (some (T.aM []))) (.string A) false).run Tryz.prog wr = .ok (T.ptr ([] ++ [bs A])) wr := HT.out.look n0 A (by rw [hA]; decide) (by rw [hA]; decide)
   rw [hA, show ([] ++ [[97]] : Path) = [[97]] from rfl, STrie.ptr_yes n1] at hlk
   have hm0 : wr.cell? ⟨T.aN [[97]], 0, none⟩ = some (.pointer (some ⟨T.aL [[97]], 0, none⟩)) := (cell_row (j := 0) (HT.out.nod [] [97] n1)).trans (show _ = some (Value.pointer (some ⟨T.aL ([[97]]), 0, none⟩)) from rfl)
   clear hlev
   go_wp2
   go_roundw
   case rel => exact ⟨1, by go_num, .inr (.inl ⟨rfl, rfl, rfl, rfl, by first | rfl | trivial⟩)⟩
   case measure => simp [intOf]
  ·obtain ⟨b, o, rfl, -, c1⟩ := HVL.out _ (Below.refl _ _)
   have hlev : wr.heap[T.aL [[97]]]? = some (.cells #[.map (some (T.aM [[97]])), T.ptr [[97], [42]], T.ptr [[97], [62]]] 279 (0, 0)) := HT.out.lev [[97]] n1
   rw [STrie.ptr_yes n2, STrie.ptr_no x162] at hlev
   have d0 := (cell_row (j := 0) hlev).trans (show _ = some (Value.map (some (T.aM [[97]]))) from rfl)
   have d1 := (cell_row (j := 1) hlev).trans (show _ = some (Value.pointer (some ⟨T.aN [[97], [42]], 0, none⟩)) from rfl)
   have d2 := (cell_row (j := 2) hlev).trans (show _ = some (Value.pointer none) from rfl)
   have hm0 : wr.cell? ⟨T.aN [[97], [42]], 0, none⟩ = some (.pointer (some ⟨T.aL [[97], [42]], 0, none⟩)) := (cell_row (j := 0) (HT.out.nod [[97]] [42] n2)).trans (show _ = some (Value.pointer (some ⟨T.aL [[97], [42]], 0, none⟩)) from rfl)
   clear hlev
   have hbd : Below wr.heap.size wr wr.drew := (Below.refl _ wr).drew
   have hTd : STrieOK T F wr.drew := HT.out.keep fun k hk => hbd.block k (hF k hk)
   have hlk : (Instr.lookup 276 (.map (some (T.aM [[97]]))) (.string B) false).run Tryz.prog wr.drew = .ok (T.ptr ([[97]] ++ [bs B])) wr.drew := hTd.look n1 B (by rw [hB]; decide) (by rw [hB]; decide)
   rw [hB, show ([[97]] ++ [[98]] : Path) = [[97], [98]] from rfl, STrie.ptr_no x1b] at hlk
   have HBD := Lib.hid hbd
   clear hbd hTd
   go_wp2_with fail
   refine wp_region_L [0, 1, 2, 3, 4, 5, 6, 7, 8] (fun W' => W'.cell? ⟨T.aN [[97], [42]], 0, none⟩ = some (.pointer (some ⟨T.aL [[97], [42]], 0, none⟩))) (by kernel_rfl) (by kernel_rfl) hm0 (fun ne => ?_)
   have S0 := fun x : SubC (fun W' => W'.cell? ⟨T.aN [[97], [42]], 0, none⟩ = some (.pointer (some ⟨T.aL [[97], [42]], 0, none⟩))) => x.ok
   repeat (refine wpCL_q rfl rfl ?_; go_big_quiet_step (fail); refine wpQuiet_nil ?_)
   refine wpCL_n rfl rfl rfl rfl ?_
   go_simp
   repeat (refine wpCL_q rfl rfl ?_; go_big_quiet_step (fail); refine wpQuiet_nil ?_)
   refine wpCL_last ?_
   clear S0 ne
   generalize (if vc = 2 then some (⟨b, o, none⟩ : Addr) else some ⟨b, o + 2, none⟩) = sa
   go_wp2_with fail
   all_goals
    refine (ml_empty _ _ _ _ _).mono ?_
    rintro e w3 ⟨rfl, rfl⟩
    go_wp2
    go_roundw
    case rel => exact ⟨2, by go_num, .inr (.inr ⟨rfl, rfl, rfl, rfl, HBD.out⟩)⟩
    case measure => simp [intOf]
  ·obtain ⟨l2, hl2⟩ : ∃ l2 : List Nat, l2 = T.S StarP := ⟨_, rfl⟩
   have hTr : STrieOK T F wr := HT.out.keep fun k hk => hb.block k (hF k hk)
   have hadd := addNode_any (T.aN [[97], [42]]) (T.aL [[97], [42]]) (T.aS [[97], [42]]) (T.S [[97], [42]]) F R [] wr (hTr.nod [[97]] [42] n2) (hTr.sub [[97]] [42] n2) (hTr.fN [[97]] [42] n2) (hTr.fS [[97]] [42] n2) (H.out.bel hb).start (fun k hk => by have := hF k hk; have := hb.size; omega) hR (by simp only [List.length_nil]; have := hS; unfold StarP at this; omega)
   have HRB := Lib.hid (H.out.bel hb)
   clear hTr hb hl2
   go_wp2_with fail
   refine hadd.mono ?_
   rintro e w2 ⟨rfl, l3, hp, hr⟩
   have HR2 := Lib.hid (And.intro hp (HRB.out.trans hr))
   clear hadd hp hr
   go_wp2
   go_end0
   exact ⟨rfl, l3, HR2.out.1, HR2.out.2⟩
end Go.Proofs.YtehlmjecbljafaaGreatDoor
