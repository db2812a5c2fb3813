/- A drawn region's check of a pointer. The list of interest: is there interest. A loop in a function of very many temporaries: the frame by one function. What a mapping makes of a subject's tokens. isValidLiteralSubject over slices.Values: a range over a function. Match and Transform. Whether a subject may be published: zzIndex, zzSplit, zzIndexAny, IsValidPublishSubject. A good subject may be published. The list of interest: HasInterest. -/
import Derived.Test.YtehlmjecbljafaaGreatDoorR6
import Derived.Test.YtehlmjecbljafaaGreatDoorR7
import Derived.Test.YtehlmjecbljafaaGreatDoorR8
import Derived.Test.YtehlmjecbljafaaGreatDoorR9
import Derived.RangeFuncNested
import Derived.RangeFuncBound
import Derived.RangeFuncCalls
import Derived.RangeFuncLeaves
import Derived.RangeFuncBox
import Derived.RangeFuncFrom
import Derived.Shelf.Abstract
import Derived.WalkKit
import Derived.OwnWalkIn
import Derived.TacticsInMore
import Derived.LoopNIn
import Derived.LoopIn
import Derived.Lib.OthersKept
namespace Go.Proofs.YtehlmjecbljafaaGreatDoor
open Go Go.RowKit
theorem wpCL_n {P : Program} {l : List Oper} {Q : Exit → Act → World → Prop} {C : World → Prop} {rd : Nat → Bool} {i : Nat} {rest : List Oper} {o o2 : Oper} {a : Act} {w : World} {x : Operand} {ad : Addr}
  (hop : o.op = .nilCheck x) (hx : a.eval x = .pointer (some ad)) (hr : rd i = true) (hw : Region.wanted o (yielded l.toArray a.tmps) = true)
  (h : wpCL P l rd C Q (i + 1) (o2 :: rest) (a.put o.dst (.pointer (some ad))) w) : wpCL P l rd C Q i (o :: o2 :: rest) a w := fun hd => by
 obtain ⟨h1, h2⟩ := drop_at hd
 simp only [List.length_cons, List.range'_succ]
 refine wpC_rd h1 hr fun K hK => ?_
 rw [if_pos hw]
 refine ⟨_, fun w' _ => ?_, hK _ (by simpa [List.range'_succ] using h h2)⟩
 unfold execOp
 simp [hop, hx]
end Go.Proofs.YtehlmjecbljafaaGreatDoor
namespace Go.Proofs.YtehlmjecbljafaaGreatDoor
open Go Go.RowKit
/-- Interest in tokens below a path. -/
def hasT (T : Trie) : Path → Path → Prop
 | _, [] => False
 | p, t :: r => T.N (p ++ [[62]]) ∨ (T.N (p ++ [[42]]) ∧ if r = [] then 0 < T.V (p ++ [[42]]) else hasT T (p ++ [[42]]) r) ∨ (T.N (p ++ [t]) ∧ if r = [] then 0 < T.V (p ++ [t]) else hasT T (p ++ [t]) r)
theorem Sl.dropV {w : World} {b o n c : Nat} {xs : List Value} (h : Sl w 1 (.slice (some ⟨b, o, none⟩) n c) n xs) {j : Nat} (hj : j ≤ n) : Sl w 1 (.slice (some ⟨b, o + j, none⟩) (n - j) (c - j)) (n - j) (xs.drop j) := by
 obtain ⟨h1, a, cap, e, h2, h3, h4⟩ := h
 cases e
 refine ⟨by rw [List.length_drop]; omega, _, _, rfl, by omega, by omega, fun h0 => ⟨b, o + j, rfl, fun i x hx => ?_⟩⟩
 rw [List.getElem?_drop] at hx
 obtain ⟨b', o', e, hc⟩ := h4 (by have := (List.getElem?_eq_some_iff.1 hx).1; omega)
 cases e
 rw [Nat.add_assoc]; exact hc _ x hx
theorem Sl.dropIf {w : World} {b o n c : Nat} {xs : List Value} (h : Sl w 1 (.slice (some ⟨b, o, none⟩) n c) n xs) {j : Nat} (hj : j ≤ n) :
  Sl w 1 (.slice (if c = j then some ⟨b, o, none⟩ else some ⟨b, o + j, none⟩) (n - j) (c - j)) (n - j) (xs.drop j) := by
 split
 ·rename_i e
  obtain ⟨h1, a, cap, e', h2, h3, h4⟩ := h
  cases e'
  have hx : xs.drop j = [] := List.drop_of_length_le (by omega)
  rw [hx]
  exact ⟨by simp; omega, _, _, rfl, by omega, by omega, fun h => absurd h (Nat.lt_irrefl _)⟩
 ·exact h.dropV hj
/-- Hands back whether P, and nothing old has turned. -/
def RBj (P : Prop) (w : World) (e : Ending) (w' : World) : Prop := ∃ b, e = .returned (.bool b) ∧ (b = true ↔ P) ∧ Below w.heap.size w w'
/-- Where the search stands behind k tokens. -/
structure HasSt (T : Trie) (p P : Path) (k : Nat) : Prop where
 mid : k < P.length → (hasT T p P ↔ (T.N (p ++ P.take k) ∧ hasT T (p ++ P.take k) (P.drop k)))
 fin : ∀ j, k = j + 1 → k = P.length → (hasT T p P ↔ (T.N (p ++ P.take j ++ [[42]]) ∧ 0 < T.V (p ++ P.take j ++ [[42]])) ∨ (T.N (p ++ P.take k) ∧ 0 < T.V (p ++ P.take k)))
theorem HasSt.start {T : Trie} {p P : Path} (hp : T.N p) : HasSt T p P 0 := ⟨fun _ => by simp [hp], fun j h => by omega⟩
theorem HasSt.step {T : Trie} {p P : Path} {k : Nat} {t : List UInt8} (h : HasSt T p P k) (ht : P[k]? = some t) (hN : T.N (p ++ P.take k)) (h62 : ¬ T.N (p ++ P.take k ++ [[62]])) (h42 : ¬ (T.N (p ++ P.take k ++ [[42]]) ∧ hasT T (p ++ P.take k ++ [[42]]) (P.drop (k + 1)))) : HasSt T p P (k + 1) := by
 have hk := (List.getElem?_eq_some_iff.1 ht).1
 have e1 : P.drop k = t :: P.drop (k + 1) := by rw [List.drop_eq_getElem_cons hk, (List.getElem?_eq_some_iff.1 ht).2]
 have e2 : p ++ P.take (k + 1) = p ++ P.take k ++ [t] := by rw [List.take_add_one, ht, List.append_assoc]; rfl
 have hm := h.mid hk
 rw [e1, hasT] at hm
 refine ⟨fun hlt => ?_, fun j hj hl => ?_⟩
 ·have hr : P.drop (k + 1) ≠ [] := fun e => by have := congrArg List.length e; simp at this; omega
  rw [hm, if_neg hr, if_neg hr, e2]
  constructor
  ·rintro ⟨-, h | h | h⟩
   ·exact absurd h h62
   ·exact absurd h h42
   ·exact h
  ·exact fun h => ⟨hN, .inr (.inr h)⟩
 ·obtain rfl : j = k := by omega
  have hr : P.drop (j + 1) = [] := List.drop_of_length_le (by omega)
  rw [hm, if_pos hr, if_pos hr, e2]
  constructor
  ·rintro ⟨-, h | h | h⟩
   ·exact absurd h h62
   ·exact .inl h
   ·exact .inr h
  ·exact fun h => ⟨hN, .inr h⟩
set_option maxRecDepth 100000 in
set_option maxHeartbeats 3200000 in
theorem matchAny_any : ∀ (m : Nat) (p : Path) (ts : List ByteArray) (v : Value) (T : Trie) (F : Nat → Prop) (n : Nat) (w : World), ts.length = m → T.N p → TrieOK T F n w → (∀ k, F k → k < w.heap.size) → Sl w 1 v ts.length (ts.map Value.string) →
  (∀ t ∈ ts, bs t ≠ [42] ∧ bs t ≠ [62] ∧ t.size ≤ maxLen) → ts.length ≤ 1000000 →
  Calls Tryz.prog 135 #[.pointer (some ⟨T.aL p, 0, none⟩), v, .pointer none] w (RBj (hasT T p (ts.map bs)) w) := by
 intro m
 induction m using Nat.strongRecOn with
 | _ m ih =>
 intro p ts v T F n w hm hp hT hF hv hlit hn
 subst hm
 obtain ⟨va, vc, rfl⟩ := hv.form
 have HV := Lib.hid hv; clear hv
 have HL := Lib.hid hlit; clear hlit
 have HT := Lib.hid hT; clear hT
 have HF := Lib.hid hF; clear hF
 have IH := Lib.hid ih; clear ih
 go_enter Tryz.func135, Tryz.ntmps135
 go_wp2
 go_loopw [0, 7, 8, 14] (fun lv pw nd i wr => ∃ (k : Nat), k ≤ ts.length ∧ i = .int .i64 k ∧ (T.N (p ++ (ts.map bs).take k) → lv = .pointer (some ⟨T.aL (p ++ (ts.map bs).take k), 0, none⟩)) ∧ (¬ T.N (p ++ (ts.map bs).take k) → lv = .pointer none) ∧
   (k = 0 → nd = .pointer none ∧ pw = .pointer none) ∧ (∀ j, k = j + 1 → nd = T.ptr (p ++ (ts.map bs).take k) ∧ pw = T.ptr (p ++ (ts.map bs).take j ++ [[42]])) ∧ HasSt T p (ts.map bs) k ∧ Below w.heap.size w wr) (fun _ _ _ i _ => ts.length - (intOf i).toNat)
 case atStart =>
  refine ⟨0, Nat.zero_le _, rfl, fun _ => by simp, fun h => absurd (by simpa using hp) h, fun _ => ⟨rfl, rfl⟩, fun j h => by omega, HasSt.start hp, Below.refl _ _⟩
 case round =>
  obtain ⟨k, hk, rfl, hl1, hl2, hs1, hs2, hS, hb⟩ := hrel
  have hOK := HT.out.keep (w' := wr) fun x hx => hb.block x (HF.out x hx)
  by_cases hlt : k < ts.length
  ·obtain ⟨t, ht⟩ : ∃ t, ts[k]? = some t := ⟨_, List.getElem?_eq_getElem hlt⟩
   obtain ⟨kb, ko, t', rfl, Ht, hct⟩ := HV.out.str hb hlt
   obtain rfl : t' = t := by have := Ht.out; rw [ht] at this; exact (Option.some.inj this).symm
   have htP : (ts.map bs)[k]? = some (bs t') := by rw [List.getElem?_map, ht]; rfl
   have e2 : p ++ (ts.map bs).take (k + 1) = p ++ (ts.map bs).take k ++ [bs t'] := by rw [List.take_add_one, htP, List.append_assoc]; rfl
   obtain ⟨n42, n62, htM⟩ := HL.out t' (List.mem_of_getElem? ht)
   have HE2 := Lib.hid e2; clear e2
   have HS := Lib.hid hS; clear hS
   have HOK := Lib.hid hOK; clear hOK
   clear ht hs1 hs2
   generalize hq : p ++ (ts.map bs).take k = q at *
   by_cases hN : T.N q
   ·rw [hl1 hN]
    clear hl1 hl2
    have hlev := HOK.out.lev q hN
    have hc0 := (cell_row (j := 0) hlev).trans (show _ = some (Value.map (some (T.aM q))) from rfl)
    have hc1 := (cell_row (j := 1) hlev).trans (show _ = some (T.ptr (q ++ [[42]])) from rfl)
    have hc2 := (cell_row (j := 2) hlev).trans (show _ = some (T.ptr (q ++ [[62]])) from rfl)
    obtain ⟨f, hmf, hff⟩ := HOK.out.map q hN
    have hlk := hmf.look Tryz.underlying213 (z213 wr) t' htM
    rw [hff (bs t') n42 n62] at hlk
    clear hff hmf hlev
    by_cases h62 : T.N (q ++ [[62]])
    ·rw [Trie.ptr_yes h62] at hc2
     go_wp2
     go_ret
     refine ⟨true, rfl, ⟨fun _ => ?_, fun _ => rfl⟩, hb⟩
     refine (HS.out.mid (by rw [List.length_map]; exact hlt)).2 ?_
     rw [hq, List.drop_eq_getElem_cons (by rw [List.length_map]; exact hlt), hasT]
     exact ⟨hN, .inl h62⟩
    ·rw [Trie.ptr_no h62] at hc2
     by_cases h42 : T.N (q ++ [[42]])
     ·rw [Trie.ptr_yes h42] at hc1
      have hn0 := HOK.out.nod q [42] h42
      have hnx := (cell_row (j := 0) hn0).trans (show _ = some (Value.pointer (some ⟨T.aL (q ++ [[42]]), 0, none⟩)) from rfl)
      clear hn0
      go_wp2_with fail
      refine wp_region_L [0, 1, 2, 3, 4, 5, 6, 7, 8] (fun W' => W'.cell? ⟨T.aN (q ++ [[42]]), 0, none⟩ = some (.pointer (some ⟨T.aL (q ++ [[42]]), 0, none⟩))) (by kernel_rfl) (by kernel_rfl) hnx (fun ne => ?_)
      have S0 := fun x : SubC (fun W' => W'.cell? ⟨T.aN (q ++ [[42]]), 0, none⟩ = some (.pointer (some ⟨T.aL (q ++ [[42]]), 0, none⟩))) => x.ok
      repeat (refine wpCL_q rfl rfl ?_; go_big_quiet_step (fail); refine wpQuiet_nil ?_)
      refine wpCL_n rfl rfl rfl rfl ?_
      go_simp
      repeat (refine wpCL_q rfl rfl ?_; go_big_quiet_step (fail); refine wpQuiet_nil ?_)
      refine wpCL_ch rfl rfl (fun K hK => ?_)
      go_simp
      simp only [runsTo_enter]
      have hbd : Below w.heap.size w wr.drew := hb.drew
      have hOKd := HT.out.keep (w' := wr.drew) fun x hx => hbd.block x (HF.out x hx)
      have hvd : Sl wr.drew 1 (.slice (if vc = k + 1 then some ⟨kb, ko, none⟩ else some ⟨kb, ko + (k + 1), none⟩) (ts.length - (k + 1)) (vc - (k + 1))) (ts.drop (k + 1)).length ((ts.drop (k + 1)).map Value.string) := by
       rw [List.length_drop, List.map_drop]
       exact (HV.out.keep hbd).dropIf (by omega)
      generalize (if vc = k + 1 then some (⟨kb, ko, none⟩ : Addr) else some ⟨kb, ko + (k + 1), none⟩) = sa at hvd ⊢
      refine (IH.out (ts.length - (k + 1)) (by omega) (q ++ [[42]]) (ts.drop (k + 1)) _ T F n wr.drew (by rw [List.length_drop]) h42 hOKd (fun x hx => Nat.lt_of_lt_of_le (HF.out x hx) hbd.size) hvd (fun x hx => HL.out x (List.mem_of_mem_drop hx)) (by rw [List.length_drop]; omega)).mono ?_
      rintro e w3 ⟨bl, rfl, hbl, hb3⟩
      have hb3' : Below w.heap.size w w3 := bel2 hbd hb3
      have hwr : Below wr.heap.size wr w3 := bel2 (Below.refl wr.heap.size wr).drew hb3
      have hnx3 := cell_bel hnx hwr
      refine ⟨_, rfl, hK _ _ ⟨⟨w3, hnx3⟩, rfl⟩ ?_⟩
      clear hK K hvd hOKd S0 ne
      go_simp
      refine wpCL_last ?_
      have hOK3 := HT.out.keep (w' := w3) fun x hx => hb3'.block x (HF.out x hx)
      have hlev3 := hOK3.lev q hN
      have hd0 := (cell_row (j := 0) hlev3).trans (show _ = some (Value.map (some (T.aM q))) from rfl)
      obtain ⟨f, hmf, hff⟩ := hOK3.map q hN
      replace hlk := hmf.look Tryz.underlying213 (z213 w3) t' htM
      rw [hff (bs t') n42 n62] at hlk
      replace HOK := Lib.hid hOK3
      clear hmf hff hlev3 hOK3 hc0 hc1 hc2 hnx
      rw [List.map_drop] at hbl
      cases bl
      ·have hrec : ¬ hasT T (q ++ [[42]]) ((ts.map bs).drop (k + 1)) := fun h => by have := hbl.2 h; cases this
       clear hbl
       by_cases hNt : T.N (q ++ [bs t'])
       ·rw [Trie.ptr_yes hNt] at hlk
        have hm0 := HOK.out.nod q (bs t') hNt
        have hmx := (cell_row (j := 0) hm0).trans (show _ = some (Value.pointer (some ⟨T.aL (q ++ [bs t']), 0, none⟩)) from rfl)
        clear hm0
        go_wp2
        go_roundw
        case rel => exact ⟨k + 1, hlt, by go_num, fun _ => by rw [HE2.out], fun h => absurd (by rw [HE2.out]; exact hNt) h, (fun h => by omega), (fun j hj => by obtain rfl : j = k := (by omega); rw [HE2.out, hq, Trie.ptr_yes hNt, Trie.ptr_yes h42]; exact ⟨rfl, rfl⟩), (HasSt.step HS.out htP (by rw [hq]; exact hN) (by rw [hq]; exact h62) (by rw [hq]; rintro ⟨-, h⟩; exact hrec h)), hb3'⟩
        case measure => simp [intOf]; omega
       ·rw [Trie.ptr_no hNt] at hlk
        go_wp2
        go_roundw
        case rel => exact ⟨k + 1, hlt, by go_num, fun h => absurd (by rw [HE2.out] at h; exact h) hNt, fun _ => rfl, (fun h => by omega), (fun j hj => by obtain rfl : j = k := (by omega); rw [HE2.out, hq, Trie.ptr_no hNt, Trie.ptr_yes h42]; exact ⟨rfl, rfl⟩), (HasSt.step HS.out htP (by rw [hq]; exact hN) (by rw [hq]; exact h62) (by rw [hq]; rintro ⟨-, h⟩; exact hrec h)), hb3'⟩
        case measure => simp [intOf]; omega
      ·have hrec : hasT T (q ++ [[42]]) ((ts.map bs).drop (k + 1)) := hbl.1 rfl
       clear hbl
       have hfin : hasT T p (ts.map bs) := by
        refine (HS.out.mid (by rw [List.length_map]; exact hlt)).2 ?_
        rw [hq, List.drop_eq_getElem_cons (by rw [List.length_map]; exact hlt), hasT]
        refine ⟨hN, .inr (.inl ⟨h42, ?_⟩)⟩
        rw [if_neg (fun e => by rw [e] at hrec; simp [hasT] at hrec)]
        exact hrec
       have HFI := Lib.hid hfin; clear hfin
       go_wp2
       all_goals
        go_ret
        exact ⟨true, rfl, ⟨fun _ => HFI.out, fun _ => rfl⟩, hb3'⟩
     ·rw [Trie.ptr_no h42] at hc1
      by_cases hNt : T.N (q ++ [bs t'])
      ·rw [Trie.ptr_yes hNt] at hlk
       have hm0 := HOK.out.nod q (bs t') hNt
       have hmx := (cell_row (j := 0) hm0).trans (show _ = some (Value.pointer (some ⟨T.aL (q ++ [bs t']), 0, none⟩)) from rfl)
       clear hm0
       go_wp2
       go_roundw
       case rel => exact ⟨k + 1, hlt, by go_num, fun _ => by rw [HE2.out], fun h => absurd (by rw [HE2.out]; exact hNt) h, (fun h => by omega), (fun j hj => by obtain rfl : j = k := (by omega); rw [HE2.out, hq, Trie.ptr_yes hNt, Trie.ptr_no h42]; exact ⟨rfl, rfl⟩), (HasSt.step HS.out htP (by rw [hq]; exact hN) (by rw [hq]; exact h62) (by rw [hq]; rintro ⟨h, -⟩; exact h42 h)), hb⟩
       case measure => simp [intOf]; omega
      ·rw [Trie.ptr_no hNt] at hlk
       go_wp2
       go_roundw
       case rel => exact ⟨k + 1, hlt, by go_num, fun h => absurd (by rw [HE2.out] at h; exact h) hNt, fun _ => rfl, (fun h => by omega), (fun j hj => by obtain rfl : j = k := (by omega); rw [HE2.out, hq, Trie.ptr_no hNt, Trie.ptr_no h42]; exact ⟨rfl, rfl⟩), (HasSt.step HS.out htP (by rw [hq]; exact hN) (by rw [hq]; exact h62) (by rw [hq]; rintro ⟨h, -⟩; exact h42 h)), hb⟩
       case measure => simp [intOf]; omega
   ·rw [hl2 hN]
    clear hl1 hl2
    go_wp2
    go_ret
    refine ⟨false, rfl, ⟨fun h => (by cases h), fun h => ?_⟩, hb⟩
    have := ((HS.out.mid (by rw [List.length_map]; exact hlt)).1 h).1
    rw [hq] at this
    exact absurd this hN
  ·obtain rfl : k = ts.length := by omega
   have hS' := HasSt.fin hS
   clear hl1 hl2
   cases hkz : ts.length with
   | zero =>
    have hts : ts = [] := List.eq_nil_of_length_eq_zero hkz
    obtain ⟨rfl, rfl⟩ := hs1 hkz
    clear hs2 hS' hS
    go_wp2
    go_ret
    refine ⟨false, rfl, ⟨fun h => (by cases h), fun h => ?_⟩, hb⟩
    simp [hasT] at h
   | succ j =>
    obtain ⟨rfl, rfl⟩ := hs2 j hkz
    have hF' := hS' j hkz (by rw [List.length_map])
    have HFin := Lib.hid hF'; clear hF' hS' hS hs1 hs2
    have HOK := Lib.hid hOK; clear hOK
    have HKZ := Lib.hid hkz; clear hkz
    have eP : ∀ P : Path, P ≠ [] → ∃ a b, P = a ++ [b] := fun P h => snoc_of h
    have hne1 : p ++ (ts.map bs).take ts.length ≠ [] := by
     intro e
     have := congrArg List.length e
     rw [List.length_append, List.length_take, List.length_map, List.length_nil] at this
     have := HKZ.out
     omega
    generalize hqe : p ++ (ts.map bs).take ts.length = q at *
    generalize hre : p ++ (ts.map bs).take j ++ [[42]] = r at *
    have hr1 : r ≠ [] := by rw [← hre]; simp
    obtain ⟨q', tq, rfl⟩ := snoc_of hne1
    obtain ⟨r', tr, rfl⟩ := snoc_of hr1
    clear eP
    by_cases hN : T.N (q' ++ [tq])
    ·rw [Trie.ptr_yes hN]
     have a0 := HOK.out.nod q' tq hN
     have a1 := (cell_row (j := 1) a0).trans (show _ = some (Value.map (some (T.aS (q' ++ [tq])))) from rfl)
     have a2 := fun ty => (HOK.out.sub q' tq hN).len Tryz.underlying217 ty
     clear a0
     by_cases hv0 : 0 < T.V (q' ++ [tq])
     ·have hv1 : ((T.V (q' ++ [tq]) : Nat) : Int) > 0 := by omega
      go_wp2
      go_ret
      exact ⟨true, rfl, ⟨fun _ => HFin.out.2 (.inr ⟨hN, hv0⟩), fun _ => rfl⟩, hb⟩
     ·have hv1 : ¬ (((T.V (q' ++ [tq]) : Nat) : Int) > 0) := by omega
      by_cases hR : T.N (r' ++ [tr])
      ·rw [Trie.ptr_yes hR]
       have b0 := HOK.out.nod r' tr hR
       have b1 := (cell_row (j := 1) b0).trans (show _ = some (Value.map (some (T.aS (r' ++ [tr])))) from rfl)
       have b2 := fun ty => (HOK.out.sub r' tr hR).len Tryz.underlying217 ty
       clear b0
       go_wp2
       go_ret
       refine ⟨_, rfl, ?_, hb⟩
       rw [HFin.out]
       constructor
       ·intro h; exact .inl ⟨hR, by simpa using h⟩
       ·rintro (⟨-, h⟩ | h)
        ·simpa using h
        ·exact absurd h (fun h => hv0 h.2)
      ·rw [Trie.ptr_no hR]
       go_wp2
       go_ret
       refine ⟨false, rfl, ⟨fun h => (by cases h), fun h => ?_⟩, hb⟩
       rcases HFin.out.1 h with h | h
       ·exact absurd h.1 hR
       ·exact absurd h (fun h => hv0 h.2)
    ·rw [Trie.ptr_no hN]
     by_cases hR : T.N (r' ++ [tr])
     ·rw [Trie.ptr_yes hR]
      have b0 := HOK.out.nod r' tr hR
      have b1 := (cell_row (j := 1) b0).trans (show _ = some (Value.map (some (T.aS (r' ++ [tr])))) from rfl)
      have b2 := fun ty => (HOK.out.sub r' tr hR).len Tryz.underlying217 ty
      clear b0
      go_wp2
      go_ret
      refine ⟨_, rfl, ?_, hb⟩
      rw [HFin.out]
      constructor
      ·intro h; exact .inl ⟨hR, by simpa using h⟩
      ·rintro (⟨-, h⟩ | h)
       ·simpa using h
       ·exact absurd h (fun h => hN h.1)
     ·rw [Trie.ptr_no hR]
      go_wp2
      go_ret
      refine ⟨false, rfl, ⟨fun h => (by cases h), fun h => ?_⟩, hb⟩
      rcases HFin.out.1 h with h | h
      ·exact absurd h.1 hR
      ·exact absurd h (fun h => hN h.1)
end Go.Proofs.YtehlmjecbljafaaGreatDoor
namespace Go.Proofs.YtehlmjecbljafaaGreatDoor
open Go Go.RowKit
end Go.Proofs.YtehlmjecbljafaaGreatDoor
namespace Go.Proofs.YtehlmjecbljafaaGreatDoor
open Go Go.RowKit
end Go.Proofs.YtehlmjecbljafaaGreatDoor
namespace Go.Proofs.YtehlmjecbljafaaGreatDoor
open Go Go.RowKit Go.Shelf
attribute [local go_sem] Oper.semAt_some
end Go.Proofs.YtehlmjecbljafaaGreatDoor
namespace Go.Proofs.YtehlmjecbljafaaGreatDoor
open Go Go.RowKit
theorem joinD_splitDot (l : List UInt8) : joinD (splitDot l) = l := by
 induction l with
 | nil => rfl
 | cons c r ih =>
  unfold splitDot
  split
  ·rename_i hc
   cases h : splitDot r with
   | nil => exact absurd h (splitDot_ne r)
   | cons t ts => rw [h] at ih; simp [joinD, ih, hc]
  ·cases h : splitDot r with
   | nil => exact absurd h (splitDot_ne r)
   | cons t ts =>
    rw [h] at ih
    cases ts with
    | nil => simp only [joinD] at ih ⊢; rw [ih]
    | cons u us => simp only [joinD, List.cons_append] at ih ⊢; rw [ih]
set_option maxRecDepth 100000 in
set_option maxHeartbeats 800000 in
theorem one_nil (w : World) : Calls Tryz.prog 48 #[.nilIface] w fun e w' => e = .returned (.int .i64 0) ∧ w = w' := by
 go_enter Tryz.func48, Tryz.ntmps48
 go_wp2
 go_ret
 exact ⟨rfl, rfl⟩
end Go.Proofs.YtehlmjecbljafaaGreatDoor
namespace Go.Proofs.YtehlmjecbljafaaGreatDoor
open Go Go.RowKit
theorem bs_one_at (s : ByteArray) (k : Nat) (h : k < s.size) : bs (s.extract k (k + 1)) = [s[k]] := by
 rw [bs_extract, take_succ_bs s k h, List.drop_left' (by rw [List.length_take, bs_len]; omega)]
/-- The first dot. -/
def DotAt (l : List UInt8) (r : Int) : Prop := (r = -1 ∧ 46 ∉ l) ∨ ∃ pre rest, l = pre ++ 46 :: rest ∧ 46 ∉ pre ∧ r = pre.length
set_option maxRecDepth 100000 in
set_option maxHeartbeats 800000 in
theorem zzIndex_any (s : ByteArray) (w : World) (hs : s.size ≤ 274877906944) : Calls Tryz.prog 171 #[.string s, .string ⟨#[46]⟩] w fun e w' => ∃ r, e = .returned (.int .i64 r) ∧ DotAt (bs s) r ∧ w = w' := by
 have hd : (⟨#[46]⟩ : ByteArray).size = 1 := rfl
 go_enter Tryz.func171, Tryz.ntmps171
 go_wp2
 go_loop [5] (fun i => ∃ k : Nat, k ≤ s.size ∧ i = .int .i64 k ∧ Hid (46 ∉ (bs s).take k)) (fun i => s.size - (intOf i).toNat)
 case atStart => exact ⟨0, Nat.zero_le _, rfl, by simp [Hid]⟩
 case round =>
  obtain ⟨k, hk, rfl, HF⟩ := hrel
  by_cases hlt : k < s.size
  ·cases g : ((s.extract k (k + 1)).toList == [46])
   ·have hc : s[k] ≠ 46 := by
     intro e
     rw [toList_bs, bs_one_at s k hlt, e] at g
     simp at g
    have HF2 : Hid (46 ∉ (bs s).take (k + 1)) := by
     have := HF.out
     unfold Hid
     rw [take_succ_bs s k hlt]
     simp only [List.mem_append, List.mem_singleton, not_or]
     exact ⟨this, fun e => hc e.symm⟩
    clear hc
    go_wp2
    go_round
    case rel => exact ⟨k + 1, hlt, by go_num, HF2.out⟩
    case measure => simp [intOf]; omega
   ·have hc : s[k] = 46 := by
     have := eq_of_beq g
     rw [toList_bs, bs_one_at s k hlt] at this
     simpa using this
    have HD : Hid (DotAt (bs s) k) := .inr ⟨(bs s).take k, (bs s).drop (k + 1), by
     conv => lhs; rw [← List.take_append_drop k (bs s)]
     rw [List.drop_eq_getElem_cons (by rw [bs_len]; exact hlt)]
     have := bs_at? s k hlt
     rw [List.getElem?_eq_getElem (by rw [bs_len]; exact hlt)] at this
     rw [Option.some.inj this, hc], HF.out, by rw [List.length_take, bs_len]; omega⟩
    clear hc
    go_wp2
    go_ret
    exact ⟨_, rfl, HD.out, rfl⟩
  ·obtain rfl : k = s.size := by omega
   go_wp2
   go_ret
   refine ⟨_, rfl, .inl ⟨rfl, ?_⟩, rfl⟩
   have := HF.out
   rwa [List.take_of_length_le (by rw [bs_len]; omega)] at this
def sizeOfV : Value → Nat
 | .string s => s.size
 | _ => 0
theorem split_at {cur : ByteArray} {pre rest : List UInt8} (h : bs cur = pre ++ 46 :: rest) (hp : 46 ∉ pre) :
  toks cur = cur.extract 0 pre.length :: toks (cur.extract (pre.length + 1) cur.size) ∧ pre.length + 1 ≤ cur.size := by
 have hsz : pre.length + 1 ≤ cur.size := by
  rw [← bs_len, h]; simp
 refine ⟨?_, hsz⟩
 have h1 : bs (cur.extract 0 pre.length) = pre := by rw [bs_extract, h]; simp
 have h2 : bs (cur.extract (pre.length + 1) cur.size) = rest := by
  rw [bs_extract_end, h]; simp
 have e : cur.extract 0 pre.length = mk pre := by
  conv => rhs; rw [← h1]
  rw [mk_bs]
 unfold toks
 rw [h2, h, splitDot_dot _ _ hp, List.map_cons, e]
theorem split_none {cur : ByteArray} (h : 46 ∉ bs cur) : toks cur = [cur] := by
 unfold toks; rw [splitDot_none _ h]; simp [mk_bs]
set_option maxRecDepth 100000 in
set_option maxHeartbeats 800000 in
theorem zzSplit_any (s : ByteArray) (w : World) (hs : s.size ≤ 137438953472) :
  Calls Tryz.prog 120 #[.string s, .string ⟨#[46]⟩] w fun e w' => ∃ v, e = .returned v ∧ Own w' w.heap.size 1 v (toks s).length ((toks s).map Value.string) ∧ Below w.heap.size w w' := by
 have hd : (⟨#[46]⟩ : ByteArray).size = 1 := rfl
 have hl := toks_len s
 go_enter Tryz.func120, Tryz.ntmps120
 go_wp2
 go_loopw [0, 5] (fun c v wr => ∃ (cur : ByteArray) (ss : List ByteArray), c = .string cur ∧ cur.size ≤ s.size ∧ Hid (toks s = ss ++ toks cur) ∧ Own wr w.heap.size 1 v ss.length (ss.map Value.string) ∧ Below w.heap.size w wr) (fun c _ _ => sizeOfV c)
 case atStart => exact ⟨s, [], rfl, Nat.le_refl _, rfl, Own.nil _ _ _, Below.refl _ _⟩
 case round =>
  obtain ⟨cur, ss, rfl, hc, HT, hown, hb⟩ := hrel
  have hssl : ss.length ≤ 137438953474 := by
   have := congrArg List.length HT.out
   rw [List.length_append] at this; omega
  have hbz := hb.size
  go_wp2_with fail
  refine (zzIndex_any cur _ (by omega)).mono ?_
  rintro e w1 ⟨r, rfl, hr, rfl⟩
  rcases hr with ⟨rfl, hno⟩ | ⟨pre, rest, h1, h2, rfl⟩
  ·have H1 := Lib.hid (split_none hno); clear hno
   go_wp2_with (at_builtin; go_must (refine wpList_app1 et32 rfl _ _ rfl w.heap.size rfl hown [_] rfl rfl (by simp [Value.oneCell']) (by omega) hbz ?_); intro v' w1 hown1 hgrow)
   go_ret
   refine ⟨_, rfl, ?_, bel_app hb hgrow hown hbz⟩
   rw [HT.out, H1.out]
   simpa using hown1
  ·obtain ⟨h3, h4⟩ := split_at h1 h2
   have H3 := Lib.hid h3; clear h3 h1 h2
   go_wp2_with (at_builtin; go_must (refine wpList_app1 et32 rfl _ _ rfl w.heap.size rfl hown [_] rfl rfl (by simp [Value.oneCell']) (by omega) hbz ?_); intro v' w1 hown1 hgrow)
   have hes : (cur.extract (pre.length + 1) cur.size).size = cur.size - (pre.length + 1) := by rw [← bs_len, bs_extract_end, List.length_drop, bs_len]
   go_roundw
   case rel => exact ⟨_, ss ++ [cur.extract 0 pre.length], rfl, by omega, by unfold Hid; rw [HT.out, H3.out]; simp, by simpa using hown1, bel_app hb hgrow hown hbz⟩
   case measure => simp only [sizeOfV]; omega
theorem width_pos (s : ByteArray) (pos : Nat) (h : pos < s.size) : 1 ≤ (Utf8.decode s pos).2 := by
 by_cases ha : (s[pos]'h).toNat < 128
 ·rw [decode_ascii s pos h ha]
  exact Nat.le_refl _
 ·exact (decode_high s pos h (by omega)).2
def blanks : ByteArray := ⟨#[9, 10, 12, 13, 32]⟩
/-- A subject of tokens that are neither empty nor wildcards, without blanks. -/
structure GoodS (s : ByteArray) : Prop where
 heads : ∀ (k : Nat) (t : ByteArray), (toks s)[k]? = some t → HeadOK t
 clean : ∀ c ∈ bs s, 32 < c.toNat
theorem splitDot_app : ∀ (a b : List UInt8), splitDot (a ++ 46 :: b) = splitDot a ++ splitDot b
 | [], b => by simp [splitDot]
 | c :: a, b => by
  have ih := splitDot_app a b
  simp only [List.cons_append, splitDot, ih]
  split
  ·rfl
  ·cases h : splitDot a with
   | nil => exact absurd h (splitDot_ne a)
   | cons t ts => rfl
end Go.Proofs.YtehlmjecbljafaaGreatDoor
namespace Go.Proofs.YtehlmjecbljafaaGreatDoor
open Go Go.RowKit
end Go.Proofs.YtehlmjecbljafaaGreatDoor
namespace Go.Proofs.YtehlmjecbljafaaGreatDoor
open Go Go.RowKit
theorem split_more : ∀ (b a : List UInt8) (A : List (List UInt8)) (c : List UInt8), splitDot a = A ++ [c] → ∃ r, splitDot (a ++ b) = A ++ r
 | [], a, A, c, h => ⟨[c], by rw [List.append_nil]; exact h⟩
 | x :: b, a, A, c, h => by
  have e : a ++ x :: b = (a ++ [x]) ++ b := by simp
  rw [e]
  by_cases hx : x = 46
  ·obtain ⟨r, hr⟩ := split_more b (a ++ [x]) (A ++ [c]) [] (by rw [hx, splitDot_snoc_dot, h])
   exact ⟨c :: r, by rw [hr]; simp⟩
  ·exact split_more b (a ++ [x]) A (c ++ [x]) (splitDot_snoc hx h)
theorem done_toks {s : ByteArray} {f i : Nat} {out : List ByteArray} (h : Done s f i out) : ∃ r, toks s = out ++ r := by
 obtain ⟨r, hr⟩ := split_more ((bs s).drop i) _ _ _ h
 rw [List.take_append_drop] at hr
 refine ⟨r.map mk, ?_⟩
 unfold toks
 rw [hr, List.map_append, List.map_map]
 congr 1
 conv => rhs; rw [← List.map_id out]
 apply List.map_congr_left
 intro t _
 exact mk_bs t
theorem good_at {s : ByteArray} (hg : GoodS s) {out : List ByteArray} {x : ByteArray} {r : List ByteArray} (h : toks s = out ++ [x] ++ r) : 0 < x.size := by
 refine (hg.heads out.length x ?_).pos
 rw [h, List.append_assoc, List.getElem?_append_right (Nat.le_refl _), Nat.sub_self]; rfl
theorem wrap_up : wrap32 (0 + 1) = 1 := by simp [wrap32]
theorem wrap_down : wrap32 (1 + -1) = 0 := by simp [wrap32]
set_option maxRecDepth 100000 in
set_option maxHeartbeats 3200000 in
theorem hasInterest_any (b : Nat) (s : ByteArray) (c : Int) (T : Trie) (F : Nat → Prop) (n : Nat) (w : World) (hb : w.heap[b]? = some (.cells (gslCells (T.aL []) c) 178 (0, 0))) (hT : TrieOK T F n w) (hF : ∀ k, F k → k < w.heap.size) (hFb : ¬ F b)
  (hg : GoodS s) (hs : s.size ≤ 100000) :
  Calls Tryz.prog 97 #[.pointer (some ⟨b, 0, none⟩), .string s, .bool true, .pointer none] w fun e w' => ∃ bl, e = .returned (.bool bl) ∧ (bl = true ↔ hasT T [] ((toks s).map bs)) ∧ Only (· = b) w w' ∧ w'.heap[b]? = w.heap[b]? := by
 have hlb := (Array.getElem?_eq_some_iff.1 hb).1
 have HG := Lib.hid hg; clear hg
 go_enter_defers Tryz.func97, Tryz.ntmps97
 go_wp2_with (refine wpList_zero3 180 zero32 32 _ _ z32b z32i z32s z32o rfl rfl rfl rfl rfl rfl (by rfl) (by rfl) ?_)
 have hown0 := own32 w
 have hb0 := (Below.refl w.heap.size w).alloc (Nat.le_refl _) (.cells zero32 180)
 go_loopw [10, 11, 12] (fun v f i wr => ∃ (k kf : Nat) (ss : List ByteArray), k ≤ s.size ∧ kf ≤ k ∧ i = .int .i64 k ∧ f = .int .i64 kf ∧ Hid (Done s kf k ss) ∧ Own wr w.heap.size 1 v ss.length (ss.map Value.string) ∧ Below w.heap.size w wr) (fun _ _ i _ => s.size - (intOf i).toNat)
 case atStart => exact ⟨0, 0, [], by omega, by omega, rfl, rfl, done_start s, hown0, hb0⟩
 case round =>
  obtain ⟨k, kf, ss, hk, hkf, rfl, rfl, HD, hown, hbel⟩ := hrel
  have hB := hbel.size
  have hssl := done_len HD.out hk
  by_cases hlt : k < s.size
  ·by_cases hc : s[k] = 46
   ·have hd2 := done_dot HD.out hlt hc
    obtain ⟨r, hr⟩ := done_toks hd2
    have hpos := good_at HG.out hr
    have hne : kf < k := by
     rcases Nat.lt_or_ge kf k with h | h
     ·exact h
     ·rw [← bs_len, bs_extract] at hpos
      simp at hpos
      omega
    have hcb : (((s[k]).toNat : Int) == 46) = true := by rw [hc]; rfl
    have HD2 := Lib.hid hd2; clear hd2 hr hpos hc
    go_wp2_with (at_builtin; go_must (refine wpList_app1 et32 rfl _ _ rfl w.heap.size rfl hown [_] rfl rfl (by simp [Value.oneCell']) (by omega) hB ?_); intro v' w1 hown1 hgrow)
    go_roundw
    case rel => exact ⟨k+1, k+1, _, hlt, Nat.le_refl _, by go_num, by go_num, HD2.out, by simpa using hown1, bel_app hbel hgrow hown hB⟩
    case measure => simp [intOf]; omega
   ·have hcb : (((s[k]).toNat : Int) == 46) = false := by
     rw [beq_eq_false_iff_ne]; intro e; exact hc (UInt8.toNat_inj.1 (show (s[k]).toNat = 46 by omega))
    have hd2 := done_no HD.out hlt hkf hc
    have HD2 := Lib.hid hd2; clear hd2 hc
    go_wp2
    go_roundw
    case rel => exact ⟨k+1, kf, ss, hlt, by omega, by go_num, rfl, HD2.out, hown, hbel⟩
    case measure => simp [intOf]; omega
  ·obtain rfl : k = s.size := by omega
   have hend := done_end HD.out
   have hpos := good_at HG.out (r := []) (by rw [List.append_nil]; exact hend.symm)
   have hlt2 : kf < s.size := by
    rw [← bs_len, bs_extract_end, List.length_drop, bs_len] at hpos
    omega
   clear hpos
   have HE := Lib.hid hend; clear hend
   go_wp2_with (at_builtin; go_must (refine wpList_app1 et32 rfl _ _ rfl w.heap.size rfl hown [_] rfl rfl (by simp [Value.oneCell']) (by omega) hB ?_); intro v' w1 hown1 hgrow)
   have hbw := bel_app hbel hgrow hown hB
   have hbk := (hbw.block b hlb).trans hb
   have hT1 := hT.keep (w' := w1) fun x hx => hbw.block x (hF x hx)
   have hrl := RwLone.rlock_open rwRLib b 0 0 _ _ w1 ((cell_row (j := 0) hbk).trans (show _ = some (Value.int .i32 0) from rfl)) ((cell_row (j := 3) hbk).trans (show _ = some (Value.int .u32 0) from rfl)) ((cell_row (j := 4) hbk).trans (show _ = some (Value.int .i32 0) from rfl)) (frozen_row (j := 4) hbk) (by rw [wrap_up]; decide)
   have h4 : (w1.setCell ⟨b, 4, none⟩ (.int .i32 1)).heap[b]? = some (.cells #[.int .i32 0, .int .u32 0, .int .u32 0, .int .u32 0, .int .i32 1, .int .i32 0, .pointer (some ⟨T.aL [], 0, none⟩), .int .u32 c] 178 (0, 0)) := heap_setCell_same w1 b 4 _ 178 (.int .i32 1) hbk
   have ho4 : Only (· = b) w1 (w1.setCell ⟨b, 4, none⟩ (.int .i32 1)) := (Only.refl (· = b) w1).set (.inl rfl) _
   refine hrl.mono ?_
   rintro e w3 ⟨rfl, hw3⟩
   rw [wrap_up] at hw3
   simp only [Nat.zero_add] at hw3
   rw [← hw3] at h4 ho4
   have hzz := hbw.size
   have hT3 := hT1.keep (w' := w3) fun x hx => ho4.block x (by have := hF x hx; omega) (fun e => hFb (e ▸ hx))
   have hF3 : ∀ k, F k → k < w3.heap.size := fun k hk => by have := hF k hk; have := ho4.size; omega
   have hsl3 := (hown1.only ho4 (fun k hk e => by have := (hown1.lt k hk).1; omega)).sl
   have hlen : ss.length + 1 = (toks s).length := by
    have := congrArg List.length HE.out
    simpa using this
   have hts : ss.map Value.string ++ [Value.string (s.extract kf s.size)] = (toks s).map Value.string := by rw [← HE.out]; simp
   rw [hts, hlen] at hsl3
   clear hts hlen
   have r6 := (cell_row (j := 6) h4).trans (show _ = some (Value.pointer (some ⟨T.aL [], 0, none⟩)) from rfl)
   have hma := matchAny_any (toks s).length [] (toks s) v' T F n w3 rfl hT3.root hT3 hF3 hsl3 (fun t ht => by
    obtain ⟨k, hk, e⟩ := List.mem_iff_getElem.1 ht
    have hh := HG.out.heads k t (by rw [List.getElem?_eq_getElem hk, e])
    refine ⟨fun e => ?_, fun e => ?_, by have := toks_mem ht; unfold maxLen; omega⟩
    ·have := (bs_one e).2 hh.pos; exact hh.star (by rw [this]; rfl)
    ·have := (bs_one e).2 hh.pos; exact hh.rest (by rw [this]; rfl)) (by have := toks_len s; omega)
   clear hT3 hF3 hsl3 hT1 hrl hw3
   go_wp2_with fail
   refine hma.mono ?_
   rintro e w5 ⟨bl, rfl, hbl, hb5⟩
   have h5 := (hb5.block b (Array.getElem?_eq_some_iff.1 h4).1).trans h4
   clear hma
   go_wp2
   refine leaves_cons (f := 113) (args := #[.pointer (some ⟨b, 0, none⟩)]) (by simp) (by simp [go_sem]) ?_
   refine (RwLone.runlock_deferred rwRLib b 0 1 _ _ .returning w5 ((cell_row (j := 0) h5).trans (show _ = some (Value.int .i32 0) from rfl)) ((cell_row (j := 2) h5).trans (show _ = some (Value.int .u32 0) from rfl)) ((cell_row (j := 4) h5).trans (show _ = some (Value.int .i32 1) from rfl)) (frozen_row (j := 4) h5) (by rw [wrap_down]; decide)).mono ?_
   rintro e u' w9 ⟨rfl, rfl, rfl⟩
   refine ⟨_, results_tmp rfl _ _ _, bl, rfl, hbl, ?_, ?_⟩
   rotate_left
   ·rw [hb]
    rw [wrap_down]
    exact heap_setCell_same w5 b 4 _ 178 (.int .i32 0) h5
   have o1 : Only (· = b) w w1 := ⟨hbw.os, hbw.tape, hbw.output, hbw.size, fun k hk _ => hbw.block k hk⟩
   have o3 := o1.trans ho4 fun k hk => .inl hk
   have o5 := o3.trans (Only.of (F := (· = b)) hb5) fun k hk => .inl hk
   exact o5.set (.inl rfl) _
end Go.Proofs.YtehlmjecbljafaaGreatDoor
