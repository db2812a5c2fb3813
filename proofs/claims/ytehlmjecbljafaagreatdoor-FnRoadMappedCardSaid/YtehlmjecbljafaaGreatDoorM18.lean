/- The list of interest: is there interest. -/
import Derived.Test.YtehlmjecbljafaaGreatDoorM16
import Derived.Test.YtehlmjecbljafaaGreatDoorM17
namespace Go.Proofs.YtehlmjecbljafaaGreatDoor
open Go Go.RowKit
/-- Interest in tokens below a path. -/
def hasT (T : Trie) : Path → Path → Prop
  | _, [] => False
  | p, t :: r => T.N (p ++ [[62]]) ∨ (T.N (p ++ [[42]]) ∧ if r = [] then 0 < T.V (p ++ [[42]]) else hasT T (p ++ [[42]]) r) ∨ (T.N (p ++ [t]) ∧ if r = [] then 0 < T.V (p ++ [t]) else hasT T (p ++ [t]) r)
theorem Sl.dropV {w : World} {b o n c : Nat} {xs : List Value} (h : Sl w 1 (.slice (some ⟨b, o, none⟩) n c) n xs) {j : Nat} (hj : j ≤ n) : Sl w 1 (.slice (some ⟨b, o + j, none⟩) (n - j) (c - j)) (n - j) (xs.drop j) := by
  obtain ⟨h1, a, cap, e, h2, h3, h4⟩ := h
  cases e
  refine ⟨by rw [List.length_drop]; omega, _, _, rfl, by omega, by omega, fun h0 => ⟨b, o + j, rfl, fun i x hx => ?_⟩⟩
  rw [List.getElem?_drop] at hx
  obtain ⟨b', o', e, hc⟩ := h4 (by have := (List.getElem?_eq_some_iff.1 hx).1; omega)
  cases e
  rw [Nat.add_assoc]; exact hc _ x hx
theorem Sl.dropIf {w : World} {b o n c : Nat} {xs : List Value} (h : Sl w 1 (.slice (some ⟨b, o, none⟩) n c) n xs) {j : Nat} (hj : j ≤ n) :
    Sl w 1 (.slice (if c = j then some ⟨b, o, none⟩ else some ⟨b, o + j, none⟩) (n - j) (c - j)) (n - j) (xs.drop j) := by
  split
  · rename_i e
    obtain ⟨h1, a, cap, e', h2, h3, h4⟩ := h
    cases e'
    have hx : xs.drop j = [] := List.drop_of_length_le (by omega)
    rw [hx]
    exact ⟨by simp; omega, _, _, rfl, by omega, by omega, fun h => absurd h (Nat.lt_irrefl _)⟩
  · exact h.dropV hj
/-- Hands back whether P, and nothing old has turned. -/
def RBj (P : Prop) (w : World) (e : Ending) (w' : World) : Prop := ∃ b, e = .returned (.bool b) ∧ (b = true ↔ P) ∧ Below w.heap.size w w'
/-- Where the search stands behind k tokens. -/
structure HasSt (T : Trie) (p P : Path) (k : Nat) : Prop where
  mid : k < P.length → (hasT T p P ↔ (T.N (p ++ P.take k) ∧ hasT T (p ++ P.take k) (P.drop k)))
  fin : ∀ j, k = j + 1 → k = P.length → (hasT T p P ↔ (T.N (p ++ P.take j ++ [[42]]) ∧ 0 < T.V (p ++ P.take j ++ [[42]])) ∨ (T.N (p ++ P.take k) ∧ 0 < T.V (p ++ P.take k)))
theorem HasSt.start {T : Trie} {p P : Path} (hp : T.N p) : HasSt T p P 0 := ⟨fun _ => by simp [hp], fun j h => by omega⟩
theorem HasSt.step {T : Trie} {p P : Path} {k : Nat} {t : List UInt8} (h : HasSt T p P k) (ht : P[k]? = some t) (hN : T.N (p ++ P.take k)) (h62 : ¬ T.N (p ++ P.take k ++ [[62]])) (h42 : ¬ (T.N (p ++ P.take k ++ [[42]]) ∧ hasT T (p ++ P.take k ++ [[42]]) (P.drop (k + 1)))) : HasSt T p P (k + 1) := by
  have hk := (List.getElem?_eq_some_iff.1 ht).1
  have e1 : P.drop k = t :: P.drop (k + 1) := by rw [List.drop_eq_getElem_cons hk, (List.getElem?_eq_some_iff.1 ht).2]
  have e2 : p ++ P.take (k + 1) = p ++ P.take k ++ [t] := by rw [List.take_add_one, ht, List.append_assoc]; rfl
  have hm := h.mid hk
  rw [e1, hasT] at hm
  refine ⟨fun hlt => ?_, fun j hj hl => ?_⟩
  · have hr : P.drop (k + 1) ≠ [] := fun e => by have := congrArg List.length e; simp at this; omega
    rw [hm, if_neg hr, if_neg hr, e2]
    constructor
    · rintro ⟨-, h | h | h⟩
      · exact absurd h h62
      · exact absurd h h42
      · exact h
    · exact fun h => ⟨hN, .inr (.inr h)⟩
  · obtain rfl : j = k := by omega
    have hr : P.drop (j + 1) = [] := List.drop_of_length_le (by omega)
    rw [hm, if_pos hr, if_pos hr, e2]
    constructor
    · rintro ⟨-, h | h | h⟩
      · exact absurd h h62
      · exact .inl h
      · exact .inr h
    · exact fun h => ⟨hN, .inr h⟩
set_option maxRecDepth 100000 in
set_option maxHeartbeats 3200000 in
theorem matchAny_any : ∀ (m : Nat) (p : Path) (ts : List ByteArray) (v : Value) (T : Trie) (F : Nat → Prop) (n : Nat) (w : World), ts.length = m → T.N p → TrieOK T F n w → (∀ k, F k → k < w.heap.size) → Sl w 1 v ts.length (ts.map Value.string) →
    (∀ t ∈ ts, bs t ≠ [42] ∧ bs t ≠ [62] ∧ t.size ≤ maxLen) → ts.length ≤ 1000000 →
    Calls Tryz.prog 135 #[.pointer (some ⟨T.aL p, 0, none⟩), v, .pointer none] w (RBj (hasT T p (ts.map bs)) w) := by
  intro m
  induction m using Nat.strongRecOn with
  | _ m ih =>
  intro p ts v T F n w hm hp hT hF hv hlit hn
  subst hm
  obtain ⟨va, vc, rfl⟩ := hv.form
  have HV := Lib.hid hv; clear hv
  have HL := Lib.hid hlit; clear hlit
  have HT := Lib.hid hT; clear hT
  have HF := Lib.hid hF; clear hF
  have IH := Lib.hid ih; clear ih
  go_enter Tryz.func135, Tryz.ntmps135
  go_wp2
  go_loopw [0, 7, 8, 14] (fun lv pw nd i wr => ∃ (k : Nat), k ≤ ts.length ∧ i = .int .i64 k ∧ (T.N (p ++ (ts.map bs).take k) → lv = .pointer (some ⟨T.aL (p ++ (ts.map bs).take k), 0, none⟩)) ∧ (¬ T.N (p ++ (ts.map bs).take k) → lv = .pointer none) ∧
      (k = 0 → nd = .pointer none ∧ pw = .pointer none) ∧ (∀ j, k = j + 1 → nd = T.ptr (p ++ (ts.map bs).take k) ∧ pw = T.ptr (p ++ (ts.map bs).take j ++ [[42]])) ∧ HasSt T p (ts.map bs) k ∧ Below w.heap.size w wr) (fun _ _ _ i _ => ts.length - (intOf i).toNat)
  case atStart =>
    refine ⟨0, Nat.zero_le _, rfl, fun _ => by simp, fun h => absurd (by simpa using hp) h, fun _ => ⟨rfl, rfl⟩, fun j h => by omega, HasSt.start hp, Below.refl _ _⟩
  case round =>
    obtain ⟨k, hk, rfl, hl1, hl2, hs1, hs2, hS, hb⟩ := hrel
    have hOK := HT.out.keep (w' := wr) fun x hx => hb.block x (HF.out x hx)
    by_cases hlt : k < ts.length
    · obtain ⟨t, ht⟩ : ∃ t, ts[k]? = some t := ⟨_, List.getElem?_eq_getElem hlt⟩
      obtain ⟨kb, ko, t', rfl, Ht, hct⟩ := HV.out.str hb hlt
      obtain rfl : t' = t := by have := Ht.out; rw [ht] at this; exact (Option.some.inj this).symm
      have htP : (ts.map bs)[k]? = some (bs t') := by rw [List.getElem?_map, ht]; rfl
      have e2 : p ++ (ts.map bs).take (k + 1) = p ++ (ts.map bs).take k ++ [bs t'] := by rw [List.take_add_one, htP, List.append_assoc]; rfl
      obtain ⟨n42, n62, htM⟩ := HL.out t' (List.mem_of_getElem? ht)
      have HE2 := Lib.hid e2; clear e2
      have HS := Lib.hid hS; clear hS
      have HOK := Lib.hid hOK; clear hOK
      clear ht hs1 hs2
      generalize hq : p ++ (ts.map bs).take k = q at *
      by_cases hN : T.N q
      · rw [hl1 hN]
        clear hl1 hl2
        have hlev := HOK.out.lev q hN
        have hc0 := (cell_row (j := 0) hlev).trans (show _ = some (Value.map (some (T.aM q))) from rfl)
        have hc1 := (cell_row (j := 1) hlev).trans (show _ = some (T.ptr (q ++ [[42]])) from rfl)
        have hc2 := (cell_row (j := 2) hlev).trans (show _ = some (T.ptr (q ++ [[62]])) from rfl)
        obtain ⟨f, hmf, hff⟩ := HOK.out.map q hN
        have hlk := hmf.look Tryz.underlying213 (z213 wr) t' htM
        rw [hff (bs t') n42 n62] at hlk
        clear hff hmf hlev
        by_cases h62 : T.N (q ++ [[62]])
        · rw [Trie.ptr_yes h62] at hc2
          go_wp2
          go_ret
          refine ⟨true, rfl, ⟨fun _ => ?_, fun _ => rfl⟩, hb⟩
          refine (HS.out.mid (by rw [List.length_map]; exact hlt)).2 ?_
          rw [hq, List.drop_eq_getElem_cons (by rw [List.length_map]; exact hlt), hasT]
          exact ⟨hN, .inl h62⟩
        · rw [Trie.ptr_no h62] at hc2
          by_cases h42 : T.N (q ++ [[42]])
          · rw [Trie.ptr_yes h42] at hc1
            have hn0 := HOK.out.nod q [42] h42
            have hnx := (cell_row (j := 0) hn0).trans (show _ = some (Value.pointer (some ⟨T.aL (q ++ [[42]]), 0, none⟩)) from rfl)
            clear hn0
            go_wp2_with fail
            refine wp_region_L [0, 1, 2, 3, 4, 5, 6, 7, 8] (fun W' => W'.cell? ⟨T.aN (q ++ [[42]]), 0, none⟩ = some (.pointer (some ⟨T.aL (q ++ [[42]]), 0, none⟩))) (by kernel_rfl) (by kernel_rfl) hnx (fun ne => ?_)
            have S0 := fun x : SubC (fun W' => W'.cell? ⟨T.aN (q ++ [[42]]), 0, none⟩ = some (.pointer (some ⟨T.aL (q ++ [[42]]), 0, none⟩))) => x.ok
            repeat (refine wpCL_q rfl rfl ?_; go_big_quiet_step (fail); refine wpQuiet_nil ?_)
            refine wpCL_n rfl rfl rfl rfl ?_
            go_simp
            repeat (refine wpCL_q rfl rfl ?_; go_big_quiet_step (fail); refine wpQuiet_nil ?_)
            refine wpCL_ch rfl rfl (fun K hK => ?_)
            go_simp
            simp only [runsTo_enter]
            have hbd : Below w.heap.size w wr.drew := hb.drew
            have hOKd := HT.out.keep (w' := wr.drew) fun x hx => hbd.block x (HF.out x hx)
            have hvd : Sl wr.drew 1 (.slice (if vc = k + 1 then some ⟨kb, ko, none⟩ else some ⟨kb, ko + (k + 1), none⟩) (ts.length - (k + 1)) (vc - (k + 1))) (ts.drop (k + 1)).length ((ts.drop (k + 1)).map Value.string) := by
              rw [List.length_drop, List.map_drop]
              exact (HV.out.keep hbd).dropIf (by omega)
            generalize (if vc = k + 1 then some (⟨kb, ko, none⟩ : Addr) else some ⟨kb, ko + (k + 1), none⟩) = sa at hvd ⊢
            refine (IH.out (ts.length - (k + 1)) (by omega) (q ++ [[42]]) (ts.drop (k + 1)) _ T F n wr.drew (by rw [List.length_drop]) h42 hOKd (fun x hx => Nat.lt_of_lt_of_le (HF.out x hx) hbd.size) hvd (fun x hx => HL.out x (List.mem_of_mem_drop hx)) (by rw [List.length_drop]; omega)).mono ?_
            rintro e w3 ⟨bl, rfl, hbl, hb3⟩
            have hb3' : Below w.heap.size w w3 := bel2 hbd hb3
            have hwr : Below wr.heap.size wr w3 := bel2 (Below.refl wr.heap.size wr).drew hb3
            have hnx3 := cell_bel hnx hwr
            refine ⟨_, rfl, hK _ _ ⟨⟨w3, hnx3⟩, rfl⟩ ?_⟩
            clear hK K hvd hOKd S0 ne
            go_simp
            refine wpCL_last ?_
            have hOK3 := HT.out.keep (w' := w3) fun x hx => hb3'.block x (HF.out x hx)
            have hlev3 := hOK3.lev q hN
            have hd0 := (cell_row (j := 0) hlev3).trans (show _ = some (Value.map (some (T.aM q))) from rfl)
            obtain ⟨f, hmf, hff⟩ := hOK3.map q hN
            replace hlk := hmf.look Tryz.underlying213 (z213 w3) t' htM
            rw [hff (bs t') n42 n62] at hlk
            replace HOK := Lib.hid hOK3
            clear hmf hff hlev3 hOK3 hc0 hc1 hc2 hnx
            rw [List.map_drop] at hbl
            cases bl
            · have hrec : ¬ hasT T (q ++ [[42]]) ((ts.map bs).drop (k + 1)) := fun h => by have := hbl.2 h; cases this
              clear hbl
              by_cases hNt : T.N (q ++ [bs t'])
              · rw [Trie.ptr_yes hNt] at hlk
                have hm0 := HOK.out.nod q (bs t') hNt
                have hmx := (cell_row (j := 0) hm0).trans (show _ = some (Value.pointer (some ⟨T.aL (q ++ [bs t']), 0, none⟩)) from rfl)
                clear hm0
                go_wp2
                go_roundw
                case rel => exact ⟨k + 1, hlt, by go_num, fun _ => by rw [HE2.out], fun h => absurd (by rw [HE2.out]; exact hNt) h, (fun h => by omega), (fun j hj => by obtain rfl : j = k := (by omega); rw [HE2.out, hq, Trie.ptr_yes hNt, Trie.ptr_yes h42]; exact ⟨rfl, rfl⟩), (HasSt.step HS.out htP (by rw [hq]; exact hN) (by rw [hq]; exact h62) (by rw [hq]; rintro ⟨-, h⟩; exact hrec h)), hb3'⟩
                case measure => simp [intOf]; omega
              · rw [Trie.ptr_no hNt] at hlk
                go_wp2
                go_roundw
                case rel => exact ⟨k + 1, hlt, by go_num, fun h => absurd (by rw [HE2.out] at h; exact h) hNt, fun _ => rfl, (fun h => by omega), (fun j hj => by obtain rfl : j = k := (by omega); rw [HE2.out, hq, Trie.ptr_no hNt, Trie.ptr_yes h42]; exact ⟨rfl, rfl⟩), (HasSt.step HS.out htP (by rw [hq]; exact hN) (by rw [hq]; exact h62) (by rw [hq]; rintro ⟨-, h⟩; exact hrec h)), hb3'⟩
                case measure => simp [intOf]; omega
            · have hrec : hasT T (q ++ [[42]]) ((ts.map bs).drop (k + 1)) := hbl.1 rfl
              clear hbl
              have hfin : hasT T p (ts.map bs) := by
                refine (HS.out.mid (by rw [List.length_map]; exact hlt)).2 ?_
                rw [hq, List.drop_eq_getElem_cons (by rw [List.length_map]; exact hlt), hasT]
                refine ⟨hN, .inr (.inl ⟨h42, ?_⟩)⟩
                rw [if_neg (fun e => by rw [e] at hrec; simp [hasT] at hrec)]
                exact hrec
              have HFI := Lib.hid hfin; clear hfin
              go_wp2
              all_goals
                go_ret
                exact ⟨true, rfl, ⟨fun _ => HFI.out, fun _ => rfl⟩, hb3'⟩
          · rw [Trie.ptr_no h42] at hc1
            by_cases hNt : T.N (q ++ [bs t'])
            · rw [Trie.ptr_yes hNt] at hlk
              have hm0 := HOK.out.nod q (bs t') hNt
              have hmx := (cell_row (j := 0) hm0).trans (show _ = some (Value.pointer (some ⟨T.aL (q ++ [bs t']), 0, none⟩)) from rfl)
              clear hm0
              go_wp2
              go_roundw
              case rel => exact ⟨k + 1, hlt, by go_num, fun _ => by rw [HE2.out], fun h => absurd (by rw [HE2.out]; exact hNt) h, (fun h => by omega), (fun j hj => by obtain rfl : j = k := (by omega); rw [HE2.out, hq, Trie.ptr_yes hNt, Trie.ptr_no h42]; exact ⟨rfl, rfl⟩), (HasSt.step HS.out htP (by rw [hq]; exact hN) (by rw [hq]; exact h62) (by rw [hq]; rintro ⟨h, -⟩; exact h42 h)), hb⟩
              case measure => simp [intOf]; omega
            · rw [Trie.ptr_no hNt] at hlk
              go_wp2
              go_roundw
              case rel => exact ⟨k + 1, hlt, by go_num, fun h => absurd (by rw [HE2.out] at h; exact h) hNt, fun _ => rfl, (fun h => by omega), (fun j hj => by obtain rfl : j = k := (by omega); rw [HE2.out, hq, Trie.ptr_no hNt, Trie.ptr_no h42]; exact ⟨rfl, rfl⟩), (HasSt.step HS.out htP (by rw [hq]; exact hN) (by rw [hq]; exact h62) (by rw [hq]; rintro ⟨h, -⟩; exact h42 h)), hb⟩
              case measure => simp [intOf]; omega
      · rw [hl2 hN]
        clear hl1 hl2
        go_wp2
        go_ret
        refine ⟨false, rfl, ⟨fun h => (by cases h), fun h => ?_⟩, hb⟩
        have := ((HS.out.mid (by rw [List.length_map]; exact hlt)).1 h).1
        rw [hq] at this
        exact absurd this hN
    · obtain rfl : k = ts.length := by omega
      have hS' := HasSt.fin hS
      clear hl1 hl2
      cases hkz : ts.length with
      | zero =>
        have hts : ts = [] := List.eq_nil_of_length_eq_zero hkz
        obtain ⟨rfl, rfl⟩ := hs1 hkz
        clear hs2 hS' hS
        go_wp2
        go_ret
        refine ⟨false, rfl, ⟨fun h => (by cases h), fun h => ?_⟩, hb⟩
        simp [hasT, hts] at h
      | succ j =>
        obtain ⟨rfl, rfl⟩ := hs2 j hkz
        have hF' := hS' j hkz (by rw [List.length_map])
        have HFin := Lib.hid hF'; clear hF' hS' hS hs1 hs2
        have HOK := Lib.hid hOK; clear hOK
        have HKZ := Lib.hid hkz; clear hkz
        have eP : ∀ P : Path, P ≠ [] → ∃ a b, P = a ++ [b] := fun P h => snoc_of h
        have hne1 : p ++ (ts.map bs).take ts.length ≠ [] := by
          intro e
          have := congrArg List.length e
          rw [List.length_append, List.length_take, List.length_map, List.length_nil] at this
          have := HKZ.out
          omega
        generalize hqe : p ++ (ts.map bs).take ts.length = q at *
        generalize hre : p ++ (ts.map bs).take j ++ [[42]] = r at *
        have hr1 : r ≠ [] := by rw [← hre]; simp
        obtain ⟨q', tq, rfl⟩ := snoc_of hne1
        obtain ⟨r', tr, rfl⟩ := snoc_of hr1
        clear eP
        by_cases hN : T.N (q' ++ [tq])
        · rw [Trie.ptr_yes hN]
          have a0 := HOK.out.nod q' tq hN
          have a1 := (cell_row (j := 1) a0).trans (show _ = some (Value.map (some (T.aS (q' ++ [tq])))) from rfl)
          have a2 := fun ty => (HOK.out.sub q' tq hN).len Tryz.underlying217 ty
          clear a0
          by_cases hv0 : 0 < T.V (q' ++ [tq])
          · have hv1 : ((T.V (q' ++ [tq]) : Nat) : Int) > 0 := by omega
            go_wp2
            go_ret
            exact ⟨true, rfl, ⟨fun _ => HFin.out.2 (.inr ⟨hN, hv0⟩), fun _ => rfl⟩, hb⟩
          · have hv1 : ¬ (((T.V (q' ++ [tq]) : Nat) : Int) > 0) := by omega
            by_cases hR : T.N (r' ++ [tr])
            · rw [Trie.ptr_yes hR]
              have b0 := HOK.out.nod r' tr hR
              have b1 := (cell_row (j := 1) b0).trans (show _ = some (Value.map (some (T.aS (r' ++ [tr])))) from rfl)
              have b2 := fun ty => (HOK.out.sub r' tr hR).len Tryz.underlying217 ty
              clear b0
              go_wp2
              go_ret
              refine ⟨_, rfl, ?_, hb⟩
              rw [HFin.out]
              constructor
              · intro h; exact .inl ⟨hR, by simpa using h⟩
              · rintro (⟨-, h⟩ | h)
                · simpa using h
                · exact absurd h (fun h => hv0 h.2)
            · rw [Trie.ptr_no hR]
              go_wp2
              go_ret
              refine ⟨false, rfl, ⟨fun h => (by cases h), fun h => ?_⟩, hb⟩
              rcases HFin.out.1 h with h | h
              · exact absurd h.1 hR
              · exact absurd h (fun h => hv0 h.2)
        · rw [Trie.ptr_no hN]
          by_cases hR : T.N (r' ++ [tr])
          · rw [Trie.ptr_yes hR]
            have b0 := HOK.out.nod r' tr hR
            have b1 := (cell_row (j := 1) b0).trans (show _ = some (Value.map (some (T.aS (r' ++ [tr])))) from rfl)
            have b2 := fun ty => (HOK.out.sub r' tr hR).len Tryz.underlying217 ty
            clear b0
            go_wp2
            go_ret
            refine ⟨_, rfl, ?_, hb⟩
            rw [HFin.out]
            constructor
            · intro h; exact .inl ⟨hR, by simpa using h⟩
            · rintro (⟨-, h⟩ | h)
              · simpa using h
              · exact absurd h (fun h => hN h.1)
          · rw [Trie.ptr_no hR]
            go_wp2
            go_ret
            refine ⟨false, rfl, ⟨fun h => (by cases h), fun h => ?_⟩, hb⟩
            rcases HFin.out.1 h with h | h
            · exact absurd h.1 hR
            · exact absurd h (fun h => hN h.1)
end Go.Proofs.YtehlmjecbljafaaGreatDoor
