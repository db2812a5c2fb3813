/- The list of interest: the walk over all that match. The list of interest: made by deeds, and asked. The list of interest: Match. -/
import Derived.Test.YtehlmjecbljafaaGreatDoorQ14
import Derived.Test.YtehlmjecbljafaaGreatDoorQ35
import Derived.Deep.DeepCutAuto
namespace Go.Proofs.YtehlmjecbljafaaGreatDoor
open Go Go.RowKit
theorem TrieOK.out {T : Trie} {F : Nat → Prop} {n Bo cnt : Nat} {w0 w : World} (h : TrieOK T F n w0) (ho : OutS F Bo cnt w0 w) (hF : ∀ k, F k → k < w0.heap.size) : TrieOK T F n w := h.keep fun _ hk => ho.kept hF hk
open Classical in
theorem Trie.ptr_form (T : Trie) (q : Path) : ∃ po, T.ptr q = .pointer po ∧ (T.N q → po = some ⟨T.aN q, 0, none⟩) ∧ (¬ T.N q → po = none) := by
  by_cases h : T.N q
  · exact ⟨_, Trie.ptr_yes h, fun _ => rfl, fun h' => absurd h h'⟩
  · exact ⟨_, Trie.ptr_no h, fun h' => absurd h' h, fun _ => rfl⟩
theorem ptrNe212 (po : Option Addr) (w : World) : (binOp .neq 212 (.pointer po) (.pointer none)).run Tryz.prog w = .ok (.bool po.isSome) w := by cases po with
  | none => kernel_rfl
  | some a => obtain ⟨b, o, c⟩ := a; kernel_rfl
theorem Sl.out {F : Nat → Prop} {Bo cnt sz n cap : Nat} {w0 w : World} {a : Option Addr} {xs : List Value} (h : Sl w0 sz (.slice a n cap) n xs) (ho : OutS F Bo cnt w0 w) (hF : ∀ b o, a = some ⟨b, o, none⟩ → F b) : Sl w sz (.slice a n cap) n xs :=
  h.only ho.2 fun b o e hk => hk.1 (hF b o e)
open Classical in
/-- A node's callbacks. -/
theorem node_cb {T : Trie} {F : Nat → Prop} {n Bo cnt : Nat} {w : World} (h : TrieOK T F n w) {q : Path} (q0 : q ≠ []) (hN : T.N q) (ho : OutS F Bo cnt w w) (hF : ∀ k, F k → k < w.heap.size) (hB : ¬ F Bo) (hn : cnt + T.V q < 1000000) :
    Calls Tryz.prog 184 #[.pointer (some ⟨T.aN q, 0, none⟩), .func (.func 64) #[] #[.pointer (some ⟨Bo, 0, none⟩)]] w (CbC F Bo cnt (T.V q) w) := by
  obtain ⟨p, t, rfl⟩ := snoc_of q0
  exact cbAll_any _ _ _ n _ F Bo cnt w (h.nod p t hN) (h.sub p t hN) (h.fS p t hN) ho hF hB hn
set_option maxRecDepth 100000 in
set_option maxHeartbeats 6400000 in
open Classical in
theorem mlv_any : ∀ (m : Nat) (p : Path) (ts : List ByteArray) (v : Value) (T : Trie) (F : Nat → Prop) (n Bo cnt : Nat) (w : World), ts.length = m → T.N p → TrieOK T F n w → Sl w 1 v ts.length (ts.map Value.string) → (∀ b o n c, v = .slice (some ⟨b, o, none⟩) n c → F b) → (∀ k, F k → k < w.heap.size) → ¬ F Bo →
    (∀ t ∈ ts, bs t ≠ [42] ∧ bs t ≠ [62] ∧ t.size ≤ maxLen) → ts.length ≤ 1000000 → OutS F Bo cnt w w → cnt + numT T p (ts.map bs) < 1000000 →
    Calls Tryz.prog 137 #[.pointer (some ⟨T.aL p, 0, none⟩), v, .func (.func 64) #[] #[.pointer (some ⟨Bo, 0, none⟩)]] w (CbC F Bo cnt (numT T p (ts.map bs)) w) := by
  intro m
  induction m using Nat.strongRecOn with
  | _ m ih =>
  intro p ts v T F n Bo cnt w hm hp hT hv hvf hF hB hlit hn hO hct
  subst hm
  obtain ⟨va, vc, rfl⟩ := hv.form
  have HV := Lib.hid hv; clear hv
  have HVF := Lib.hid hvf; clear hvf
  have HL := Lib.hid hlit; clear hlit
  have HT := Lib.hid hT; clear hT
  have HF := Lib.hid hF; clear hF
  have HB := Lib.hid hB; clear hB
  have HO0 := Lib.hid hO; clear hO
  have HCT := Lib.hid hct; clear hct
  have IH := Lib.hid ih; clear ih
  go_enter Tryz.func137, Tryz.ntmps137
  go_wp2
  go_loopw [0, 6, 7, 12] (fun lv pw nd i wr => ∃ (k acc : Nat), k ≤ ts.length ∧ i = .int .i64 k ∧ (T.N (p ++ (ts.map bs).take k) → lv = .pointer (some ⟨T.aL (p ++ (ts.map bs).take k), 0, none⟩)) ∧ (¬ T.N (p ++ (ts.map bs).take k) → lv = .pointer none) ∧
      (k = 0 → nd = .pointer none ∧ pw = .pointer none ∧ acc = 0) ∧ (∀ j, k = j + 1 → nd = T.ptr (p ++ (ts.map bs).take k) ∧ pw = T.ptr (p ++ (ts.map bs).take j ++ [[42]])) ∧ NumSt T p (ts.map bs) k acc ∧ OutS F Bo (cnt + acc) w wr) (fun _ _ _ i _ => ts.length - (intOf i).toNat)
  case atStart =>
    refine ⟨0, 0, Nat.zero_le _, rfl, fun _ => by simp, fun h => absurd (by simpa using hp) h, fun _ => ⟨rfl, rfl, rfl⟩, fun j h => by omega, NumSt.start hp, HO0.out⟩
  case round =>
    obtain ⟨k, acc, hk, rfl, hl1, hl2, hs1, hs2, hS, hO⟩ := hrel
    have HO := Lib.hid hO; clear hO
    have hOK := HT.out.out HO.out HF.out
    by_cases hlt : k < ts.length
    · obtain ⟨t, ht⟩ : ∃ t, ts[k]? = some t := ⟨_, List.getElem?_eq_getElem hlt⟩
      have hvr := HV.out.out HO.out (fun b o e => HVF.out b o _ _ (by rw [e]))
      obtain ⟨kb, ko, t', rfl, Ht, hct⟩ := hvr.str (Below.refl _ _) hlt
      obtain rfl : t' = t := by have := Ht.out; rw [ht] at this; exact (Option.some.inj this).symm
      have htP : (ts.map bs)[k]? = some (bs t') := by rw [List.getElem?_map, ht]; rfl
      have e2 : p ++ (ts.map bs).take (k + 1) = p ++ (ts.map bs).take k ++ [bs t'] := by rw [List.take_add_one, htP, List.append_assoc]; rfl
      obtain ⟨n42, n62, htM⟩ := HL.out t' (List.mem_of_getElem? ht)
      have HE2 := Lib.hid e2; clear e2
      have hacc := hS.le (.inl (by rw [List.length_map]; exact hlt))
      have HS := Lib.hid hS; clear hS
      have HOK0 := Lib.hid hOK; clear hOK
      clear ht hs1 hs2 hvr
      generalize hq : p ++ (ts.map bs).take k = q at *
      by_cases hN : T.N q
      · rw [hl1 hN]
        clear hl1 hl2
        have hlev := HOK0.out.lev q hN
        have hc2 := (cell_row (j := 2) hlev).trans (show _ = some (T.ptr (q ++ [[62]])) from rfl)
        obtain ⟨po, hpo, hp1, hp2⟩ := T.ptr_form (q ++ [[62]])
        rw [hpo] at hc2
        have hne := fun w => ptrNe212 po w
        have hcn : acc + (if T.N (q ++ [[62]]) then T.V (q ++ [[62]]) else 0) + (if T.N (q ++ [[42]]) then numT T (q ++ [[42]]) ((ts.map bs).drop (k + 1)) else 0) ≤ numT T p (ts.map bs) := by
          have hst := NumSt.step HS.out htP (by rw [hq]; exact hN)
          rw [hq] at hst
          refine hst.le ?_
          rw [List.length_map]
          rcases Nat.lt_or_ge (k + 1) ts.length with h | h
          · exact .inl h
          · exact .inr ⟨by omega, by omega⟩
        obtain ⟨a62, HA⟩ : ∃ a62, Hid ((if T.N (q ++ [[62]]) then T.V (q ++ [[62]]) else 0) = a62) := ⟨_, Lib.hid rfl⟩
        rw [HA.out] at hcn
        clear hlev
        go_upto_if 23 with fail
        clear hne
        go_cut [] (fun wc => OutS F Bo (cnt + (acc + a62)) w wc)
        case first =>
          by_cases h62 : T.N (q ++ [[62]])
          · obtain rfl := hp1 h62
            have hcb := node_cb HOK0.out (snoc_ne _ _) h62 HO.out.start (fun x hx => Nat.lt_of_lt_of_le (HF.out x hx) HO.out.size) HB.out (by have := HCT.out; have h1 := HA.out; rw [if_pos h62] at h1; omega)
            go_wp2_with fail
            refine hcb.mono ?_
            rintro e w4 ⟨rfl, ho4⟩
            have HO4 := Lib.hid (HO.out.trans ho4); clear ho4 hcb
            go_wp2
            go_meet
            case rel => have h1 := HA.out; rw [if_pos h62] at h1; rw [← h1, ← Nat.add_assoc]; exact HO4.out
          · obtain rfl := hp2 h62
            go_wp2
            go_meet
            case rel => have h1 := HA.out; rw [if_neg h62] at h1; rw [← h1]; exact HO.out
        case rest =>
          have HO1 := Lib.hid hcut; clear hcut
          clear hc2 hct
          have hOK := HT.out.out HO1.out HF.out
          have hlev := hOK.lev q hN
          have hc0 := (cell_row (j := 0) hlev).trans (show _ = some (Value.map (some (T.aM q))) from rfl)
          have hc1 := (cell_row (j := 1) hlev).trans (show _ = some (T.ptr (q ++ [[42]])) from rfl)
          have HVC := Lib.hid (HV.out.out HO1.out (fun b o e => HVF.out b o _ _ (by rw [e])))
          have HFC := Lib.hid (show ∀ x, F x → x < wc.heap.size from fun x hx => Nat.lt_of_lt_of_le (HF.out x hx) HO1.out.size)
          have HOK := Lib.hid hOK
          clear hlev
          by_cases h42 : T.N (q ++ [[42]])
          · rw [Trie.ptr_yes h42] at hc1
            have hn0 := hOK.nod q [42] h42
            have hnx := (cell_row (j := 0) hn0).trans (show _ = some (Value.pointer (some ⟨T.aL (q ++ [[42]]), 0, none⟩)) from rfl)
            have HCN := Lib.hid (show cnt + (acc + a62) + numT T (q ++ [[42]]) ((ts.map bs).drop (k + 1)) < 1000000 by have := HCT.out; rw [if_pos h42] at hcn; omega)
            clear hn0 hOK hcn hc0
            go_wp2_with fail
            refine wp_region_L [0, 1, 2, 3, 4, 5, 6, 7, 8] (fun W' => W'.cell? ⟨T.aN (q ++ [[42]]), 0, none⟩ = some (.pointer (some ⟨T.aL (q ++ [[42]]), 0, none⟩))) (by kernel_rfl) (by kernel_rfl) hnx (fun ne => ?_)
            have S0 := fun x : SubC (fun W' => W'.cell? ⟨T.aN (q ++ [[42]]), 0, none⟩ = some (.pointer (some ⟨T.aL (q ++ [[42]]), 0, none⟩))) => x.ok
            repeat (refine wpCL_q rfl rfl ?_; go_big_quiet_step (fail); refine wpQuiet_nil ?_)
            refine wpCL_n rfl rfl rfl rfl ?_
            go_simp
            repeat (refine wpCL_q rfl rfl ?_; go_big_quiet_step (fail); refine wpQuiet_nil ?_)
            refine wpCL_last ?_
            have hbd : Below wc.heap.size wc wc.drew := (Below.refl _ wc).drew
            have hOd := HO1.out.bel hbd
            have hvd : Sl wc.drew 1 (.slice (if vc = k + 1 then some ⟨kb, ko, none⟩ else some ⟨kb, ko + (k + 1), none⟩) (ts.length - (k + 1)) (vc - (k + 1))) (ts.drop (k + 1)).length ((ts.drop (k + 1)).map Value.string) := by
              rw [List.length_drop, List.map_drop]
              exact (HVC.out.keep hbd).dropIf (by omega)
            have hvb : ∀ b o n c, Value.slice (if vc = k + 1 then some (⟨kb, ko, none⟩ : Addr) else some ⟨kb, ko + (k + 1), none⟩) (ts.length - (k + 1)) (vc - (k + 1)) = .slice (some ⟨b, o, none⟩) n c → F b := fun b o n c e => by
              have hkb := HVF.out kb ko ts.length vc rfl
              split at e <;> (injection e with e; injection e with e; injection e with e; exact e ▸ hkb)
            generalize (if vc = k + 1 then some (⟨kb, ko, none⟩ : Addr) else some ⟨kb, ko + (k + 1), none⟩) = sa at hvd hvb ⊢
            have hrec := IH.out (ts.length - (k + 1)) (by omega) (q ++ [[42]]) (ts.drop (k + 1)) _ T F n Bo (cnt + (acc + a62)) wc.drew (by rw [List.length_drop]) h42 (HOK.out.keep fun x hx => hbd.block x (HFC.out x hx)) hvd hvb (fun x hx => Nat.lt_of_lt_of_le (HFC.out x hx) hbd.size) HB.out (fun x hx => HL.out x (List.mem_of_mem_drop hx)) (by rw [List.length_drop]; omega) hOd.start (by rw [List.map_drop]; exact HCN.out)
            rw [List.map_drop] at hrec
            clear hvd hvb hOd
            go_wp2_with fail
            refine hrec.mono ?_
            rintro e w3 ⟨rfl, ho3⟩
            have HO3 := Lib.hid ((HO1.out.bel hbd).trans ho3)
            clear hrec ho3 S0 ne
            have hOK3 := HT.out.out HO3.out HF.out
            have hlev3 := hOK3.lev q hN
            have hd0 := (cell_row (j := 0) hlev3).trans (show _ = some (Value.map (some (T.aM q))) from rfl)
            obtain ⟨f, hmf, hff⟩ := hOK3.map q hN
            have hlk := hmf.look Tryz.underlying213 (z213 w3) t' htM
            rw [hff (bs t') n42 n62] at hlk
            have HOK3 := Lib.hid hOK3
            clear hmf hff hlev3 hOK3 hnx
            have hst := NumSt.step HS.out htP (by rw [hq]; exact hN)
            rw [hq] at hst
            have HST := Lib.hid (show NumSt T p (ts.map bs) (k + 1) (acc + a62 + numT T (q ++ [[42]]) ((ts.map bs).drop (k + 1))) by simpa [HA.out, h42, Nat.add_assoc] using hst)
            clear hst
            by_cases hNt : T.N (q ++ [bs t'])
            · rw [Trie.ptr_yes hNt] at hlk
              have hm0 := HOK3.out.nod q (bs t') hNt
              have hmx := (cell_row (j := 0) hm0).trans (show _ = some (Value.pointer (some ⟨T.aL (q ++ [bs t']), 0, none⟩)) from rfl)
              clear hm0
              go_wp2
              go_roundw
              case rel => exact ⟨k + 1, acc + a62 + numT T (q ++ [[42]]) ((ts.map bs).drop (k + 1)), hlt, by go_num, fun _ => by rw [HE2.out], fun h => absurd (by rw [HE2.out]; exact hNt) h, (fun h => by omega), (fun j hj => by obtain rfl : j = k := (by omega); rw [HE2.out, hq, Trie.ptr_yes hNt, Trie.ptr_yes h42]; exact ⟨rfl, rfl⟩), HST.out, (by rw [show cnt + (acc + a62 + numT T (q ++ [[42]]) ((ts.map bs).drop (k + 1))) = cnt + (acc + a62) + numT T (q ++ [[42]]) ((ts.map bs).drop (k + 1)) by omega]; exact HO3.out)⟩
              case measure => simp [intOf]; omega
            · rw [Trie.ptr_no hNt] at hlk
              go_wp2
              go_roundw
              case rel => exact ⟨k + 1, acc + a62 + numT T (q ++ [[42]]) ((ts.map bs).drop (k + 1)), hlt, by go_num, fun h => absurd (by rw [HE2.out] at h; exact h) hNt, fun _ => rfl, (fun h => by omega), (fun j hj => by obtain rfl : j = k := (by omega); rw [HE2.out, hq, Trie.ptr_no hNt, Trie.ptr_yes h42]; exact ⟨rfl, rfl⟩), HST.out, (by rw [show cnt + (acc + a62 + numT T (q ++ [[42]]) ((ts.map bs).drop (k + 1))) = cnt + (acc + a62) + numT T (q ++ [[42]]) ((ts.map bs).drop (k + 1)) by omega]; exact HO3.out)⟩
              case measure => simp [intOf]; omega
          · rw [Trie.ptr_no h42] at hc1
            obtain ⟨f, hmf, hff⟩ := hOK.map q hN
            have hlk := hmf.look Tryz.underlying213 (z213 wc) t' htM
            rw [hff (bs t') n42 n62] at hlk
            clear hff hmf hOK hcn
            have hst := NumSt.step HS.out htP (by rw [hq]; exact hN)
            rw [hq] at hst
            have HST := Lib.hid (show NumSt T p (ts.map bs) (k + 1) (acc + a62) by simpa [HA.out, h42, Nat.add_assoc] using hst)
            clear hst
            by_cases hNt : T.N (q ++ [bs t'])
            · rw [Trie.ptr_yes hNt] at hlk
              have hm0 := HOK.out.nod q (bs t') hNt
              have hmx := (cell_row (j := 0) hm0).trans (show _ = some (Value.pointer (some ⟨T.aL (q ++ [bs t']), 0, none⟩)) from rfl)
              clear hm0
              go_wp2
              go_roundw
              case rel => exact ⟨k + 1, acc + a62, hlt, by go_num, fun _ => by rw [HE2.out], fun h => absurd (by rw [HE2.out]; exact hNt) h, (fun h => by omega), (fun j hj => by obtain rfl : j = k := (by omega); rw [HE2.out, hq, Trie.ptr_yes hNt, Trie.ptr_no h42]; exact ⟨rfl, rfl⟩), HST.out, HO1.out⟩
              case measure => simp [intOf]; omega
            · rw [Trie.ptr_no hNt] at hlk
              go_wp2
              go_roundw
              case rel => exact ⟨k + 1, acc + a62, hlt, by go_num, fun h => absurd (by rw [HE2.out] at h; exact h) hNt, fun _ => rfl, (fun h => by omega), (fun j hj => by obtain rfl : j = k := (by omega); rw [HE2.out, hq, Trie.ptr_no hNt, Trie.ptr_no h42]; exact ⟨rfl, rfl⟩), HST.out, HO1.out⟩
              case measure => simp [intOf]; omega
      · rw [hl2 hN]
        have hend := HS.out.stop (by rw [List.length_map]; exact hlt) (by rw [hq]; exact hN)
        have HE := Lib.hid hend; clear hend
        clear hl1 hl2
        go_wp2
        refine bodyPost_ret (results_none rfl _ _ _) rfl ⟨rfl, ?_⟩
        rw [HE.out]; exact HO.out
    · obtain rfl : k = ts.length := by omega
      have hS' := NumSt.fin hS
      clear hl1 hl2
      cases hkz : ts.length with
      | zero =>
        have hts : ts = [] := List.eq_nil_of_length_eq_zero hkz
        obtain ⟨rfl, rfl, rfl⟩ := hs1 hkz
        clear hs2 hS' hs1
        have HZ := Lib.hid (show numT T p (ts.map bs) = 0 by rw [hts]; rfl)
        clear hkz hts hS
        go_wp2
        go_end0
        refine ⟨rfl, ?_⟩
        rw [HZ.out]; exact HO.out
      | succ j =>
        obtain ⟨rfl, rfl⟩ := hs2 j hkz
        have hF' := hS' j hkz (by rw [List.length_map])
        have HFin := Lib.hid hF'; clear hF' hS' hS hs1 hs2
        have HOK := Lib.hid hOK; clear hOK
        have HKZ := Lib.hid hkz; clear hkz
        have hne1 : p ++ (ts.map bs).take ts.length ≠ [] := by
          intro e
          have := congrArg List.length e
          rw [List.length_append, List.length_take, List.length_map, List.length_nil] at this
          have := HKZ.out
          omega
        have hr1 : p ++ (ts.map bs).take j ++ [[42]] ≠ [] := by simp
        generalize hqe : p ++ (ts.map bs).take ts.length = q at *
        generalize hre : p ++ (ts.map bs).take j ++ [[42]] = r at *
        by_cases hN : T.N q
        · by_cases hR : T.N r
          · rw [Trie.ptr_yes hN]
            rw [Trie.ptr_yes hR]
            have hfe : numT T p (ts.map bs) = acc + T.V q + T.V r := by rw [HFin.out, if_pos hN, if_pos hR]
            have HFE := Lib.hid hfe; clear hfe
            have hcb := node_cb HOK.out hne1 hN HO.out.start (fun x hx => Nat.lt_of_lt_of_le (HF.out x hx) HO.out.size) HB.out (by have := HFE.out; have := HCT.out; omega)
            go_wp2_with fail
            refine hcb.mono ?_
            rintro e w4 ⟨rfl, ho4⟩
            clear hcb
            have HO4 := Lib.hid (HO.out.trans ho4); clear ho4
            have hOK4 := HT.out.out HO4.out HF.out
            have hcb := node_cb hOK4 hr1 hR HO4.out.start (fun x hx => Nat.lt_of_lt_of_le (HF.out x hx) HO4.out.size) HB.out (by have := HFE.out; have := HCT.out; omega)
            clear hOK4
            go_wp2_with fail
            refine hcb.mono ?_
            rintro e w5 ⟨rfl, ho5⟩
            clear hcb
            have HO5 := Lib.hid (HO4.out.trans ho5); clear ho5
            go_wp2
            go_end0
            refine ⟨rfl, ?_⟩
            rw [HFE.out, ← Nat.add_assoc, ← Nat.add_assoc]
            exact HO5.out
          · rw [Trie.ptr_yes hN]
            rw [Trie.ptr_no hR]
            have hfe : numT T p (ts.map bs) = acc + T.V q + 0 := by rw [HFin.out, if_pos hN, if_neg hR]
            have HFE := Lib.hid hfe; clear hfe
            have hcb := node_cb HOK.out hne1 hN HO.out.start (fun x hx => Nat.lt_of_lt_of_le (HF.out x hx) HO.out.size) HB.out (by have := HFE.out; have := HCT.out; omega)
            go_wp2_with fail
            refine hcb.mono ?_
            rintro e w4 ⟨rfl, ho4⟩
            clear hcb
            have HO4 := Lib.hid (HO.out.trans ho4); clear ho4
            have HO5 : Hid (OutS F Bo (cnt + acc + T.V q + 0) w w4) := HO4
            go_wp2
            go_end0
            refine ⟨rfl, ?_⟩
            rw [HFE.out, ← Nat.add_assoc, ← Nat.add_assoc]
            exact HO5.out
        · by_cases hR : T.N r
          · rw [Trie.ptr_no hN]
            rw [Trie.ptr_yes hR]
            have hfe : numT T p (ts.map bs) = acc + 0 + T.V r := by rw [HFin.out, if_neg hN, if_pos hR]
            have HFE := Lib.hid hfe; clear hfe
            have HO4 : Hid (OutS F Bo (cnt + acc + 0) w wr) := HO
            have hOK4 := HT.out.out HO4.out HF.out
            have hcb := node_cb hOK4 hr1 hR HO4.out.start (fun x hx => Nat.lt_of_lt_of_le (HF.out x hx) HO4.out.size) HB.out (by have := HFE.out; have := HCT.out; omega)
            clear hOK4
            go_wp2_with fail
            refine hcb.mono ?_
            rintro e w5 ⟨rfl, ho5⟩
            clear hcb
            have HO5 := Lib.hid (HO4.out.trans ho5); clear ho5
            go_wp2
            go_end0
            refine ⟨rfl, ?_⟩
            rw [HFE.out, ← Nat.add_assoc, ← Nat.add_assoc]
            exact HO5.out
          · rw [Trie.ptr_no hN]
            rw [Trie.ptr_no hR]
            have hfe : numT T p (ts.map bs) = acc + 0 + 0 := by rw [HFin.out, if_neg hN, if_neg hR]
            have HFE := Lib.hid hfe; clear hfe
            have HO4 : Hid (OutS F Bo (cnt + acc + 0) w wr) := HO
            have HO5 : Hid (OutS F Bo (cnt + acc + 0 + 0) w wr) := HO4
            go_wp2
            go_end0
            refine ⟨rfl, ?_⟩
            rw [HFE.out, ← Nat.add_assoc, ← Nat.add_assoc]
            exact HO5.out
end Go.Proofs.YtehlmjecbljafaaGreatDoor
namespace Go.Proofs.YtehlmjecbljafaaGreatDoor
open Go Go.RowKit
def pathOf (d : Deed) : Path := (toks d.subj).map bs
/-- What k deeds have made of a list. -/
structure ListSt (ds : List Deed) (b B : Nat) (w : World) (k : Nat) (T : Trie) (F : Nat → Prop) (n : Nat) (wr : World) : Prop where
  ok : TrieOK T F n wr
  n : n ≤ k * 200000
  N : ∀ q, T.N q ↔ q = [] ∨ ∃ d ∈ ds.take k, q <+: pathOf d
  V : ∀ q, 0 < T.V q ↔ ∃ d ∈ ds.take k, q = pathOf d
  V1 : ∀ q, T.V q ≤ k
  head : wr.heap[b]? = some (.cells (gslCells (T.aL []) k) 178 (0, 0))
  range : ∀ x, F x → B ≤ x ∧ x < wr.heap.size
  nb : ¬ F b
  bel : Below B w wr
open Classical in
/-- An empty trie. -/
noncomputable def trie0 (l m : Nat) : Trie := { N := fun q => q = [], aL := fun _ => l, aM := fun _ => m, aN := fun _ => 0, aS := fun _ => m + 1, V := fun _ => 0 }
theorem trie0_ok {l m n : Nat} {F : Nat → Prop} {w : World} (hL : w.heap[l]? = some (.cells #[.map (some m), .pointer none, .pointer none] 215 (0, 0))) (hM : MapS w m n (.pointer none) (fun _ => .pointer none)) (fl : F l) (fm : F m) : TrieOK (trie0 l m) F n w := by
  have hp : ∀ (p : Path) (t : List UInt8), (trie0 l m).ptr (p ++ [t]) = .pointer none := fun p t => Trie.ptr_no (fun h => snoc_ne p t h)
  refine ⟨rfl, fun p t h => absurd h (snoc_ne p t), fun p _ => by rw [hp, hp]; exact hL, fun p _ => ⟨_, hM, fun t _ _ => (hp p t).symm⟩, fun p t h => absurd h (snoc_ne p t), fun p t h => absurd h (snoc_ne p t), fun p q h1 h2 _ => ?_, fun p q h1 h2 _ => ?_, fun p q h1 _ h3 => absurd h1 h3, fun p q _ h2 h3 => absurd h2 h3, fun p _ => fl, fun p _ => fm, fun p t h => absurd h (snoc_ne p t), fun p t h => absurd h (snoc_ne p t)⟩
  · have h1 : p = [] := h1
    have h2 : q = [] := h2
    rw [h1, h2]
  · have h1 : p = [] := h1
    have h2 : q = [] := h2
    rw [h1, h2]
set_option maxRecDepth 100000 in
set_option maxHeartbeats 3200000 in
theorem list_any (v : Value) (ds : List Deed) (w : World) (hd : DeedsAt w v ds) (hop : ∀ d ∈ ds, d.op = 0 ∧ d.subj.size ≤ 100000 ∧ PatP (pathOf d) ∧ (Lit.int .i64 d.val).wf = true) (hn : ds.length ≤ 1000) :
    Calls Tryz.prog 56 #[v] w fun e w' => ∃ b u xs T F n, e = .returned (.tuple #[.pointer (some ⟨b, 0, none⟩), u]) ∧ w.heap.size ≤ b ∧ ListSt ds b w.heap.size w ds.length T F n w' ∧ Own w' w.heap.size 1 u ds.length xs ∧ (∀ x ∈ xs, x = .int .i64 0) ∧ (∀ x, u.ownBlock = some x → x ≠ b) := by
  obtain ⟨a, cap, rfl⟩ := Sl.form hd
  have HD := Lib.hid hd; clear hd
  have HO := Lib.hid hop; clear hop
  go_enter Tryz.func56, Tryz.ntmps56
  go_wp2_with fail
  refine (newSublist_any w).mono ?_
  rintro e w1 ⟨rfl, hw1⟩
  have hz1 : (w.alloc (.map #[] 0)).heap.size = w.heap.size + 1 := by simp
  have hz2 : ((w.alloc (.map #[] 0)).alloc (.cells #[.map (some w.heap.size), .pointer none, .pointer none] 215)).heap.size = w.heap.size + 2 := by simp
  have hz3 : w1.heap.size = w.heap.size + 3 := by rw [hw1]; simp
  have k0 : MapS w1 w.heap.size 0 (.pointer none) (fun _ => .pointer none) := by
    rw [hw1]
    exact (MapS.made w _).keep ((((Below.refl (w.heap.size + 1) _).alloc (by omega) _).alloc (by omega) _).block _ (by omega))
  have k1 : w1.heap[w.heap.size + 1]? = some (.cells #[.map (some w.heap.size), .pointer none, .pointer none] 215 (0, 0)) := by
    have h := heap_alloc_new (w.alloc (.map #[] 0)) (.cells #[.map (some w.heap.size), .pointer none, .pointer none] 215)
    rw [hz1] at h
    rw [hw1, ((Below.refl (w.heap.size + 2) _).alloc (by omega) _).block _ (by omega)]
    exact h
  have k2 : w1.heap[w.heap.size + 2]? = some (.cells (gslCells (w.heap.size + 1) 0) 178 (0, 0)) := by
    have h := heap_alloc_new ((w.alloc (.map #[] 0)).alloc (.cells #[.map (some w.heap.size), .pointer none, .pointer none] 215)) (.cells (gslCells (w.heap.size + 1) 0) 178)
    rw [hz2] at h
    rw [hw1]; exact h
  have kb : Below w.heap.size w w1 := by
    rw [hw1]; exact (((Below.refl _ w).alloc (Nat.le_refl _) _).alloc (by omega) _).alloc (by omega) _
  clear hw1 hz1 hz2
  have hI : ListSt ds (w.heap.size + 2) w.heap.size w 0 (trie0 (w.heap.size + 1) w.heap.size) (fun x => x = w.heap.size ∨ x = w.heap.size + 1) 0 w1 :=
    ⟨trie0_ok k1 k0 (.inr rfl) (.inl rfl), by omega, fun q => by simp [trie0], fun q => by simp [trie0], fun q => by simp [trie0], k2, fun x hx => by omega, fun h => by omega, kb⟩
  clear k0 k1 k2 kb
  go_wp2
  go_loopw [5, 6] (fun o i wr => ∃ (k : Nat) (T : Trie) (F : Nat → Prop) (n : Nat) (xs : List Value), k ≤ ds.length ∧ i = .int .i64 k ∧ ListSt ds (w.heap.size + 2) w.heap.size w k T F n wr ∧ Own wr w.heap.size 1 o k xs ∧ (∀ x ∈ xs, x = .int .i64 0) ∧ (∀ x, o.ownBlock = some x → ¬ (F x ∨ x = w.heap.size + 2))) (fun _ i _ => ds.length - (intOf i).toNat)
  case atStart => exact ⟨0, _, _, 0, [], Nat.zero_le _, rfl, hI, Own.nil _ _ _, (fun x h => by cases h), (fun x h => by cases h)⟩
  case round =>
    obtain ⟨k, T, F, n, xs, hk, rfl, hL, hown, hxs, hob⟩ := hrel
    obtain ⟨oa, oc, rfl, -⟩ := hown.form
    by_cases hlt : k < ds.length
    · obtain ⟨bd, od, d, rfl, Hd, c0, c1, c2⟩ := HD.out.at' hL.bel hlt
      have hlb := World.block_lt_of_cell? _ _ c0
      obtain ⟨e0, esz, hP, hwf⟩ := HO.out d (List.mem_of_getElem? Hd.out)
      rw [e0] at c0
      have hW := (Below.refl wr.heap.size wr).alloc (Nat.le_refl _) (.cells #[.int .i64 0, .string d.subj, .int .i64 d.val] 39)
      have hnb : n ≤ 1000000000 := by have := hL.n; have := Nat.mul_le_mul_right 200000 (show k ≤ 1000 by omega); omega
      have hins := insert_any (w.heap.size + 2) d.subj d.val k T F n (wr.alloc (.cells #[.int .i64 0, .string d.subj, .int .i64 d.val] 39)) ((hW.block _ (Array.getElem?_eq_some_iff.1 hL.head).1).trans hL.head)
        (hL.ok.keep fun x hx => hW.block x (hL.range x hx).2) (fun q hq => (hL.N q).2 (.inr (by obtain ⟨d', h1, h2⟩ := (hL.V q).1 hq; exact ⟨d', h1, by rw [h2]; exact List.prefix_refl _⟩)))
        (fun x hx => Nat.lt_of_lt_of_le (hL.range x hx).2 hW.size) hL.nb hP esz hnb hwf ⟨by omega, by omega⟩
      have HL := Lib.hid hL; clear hL
      go_wp2_with fail
      refine hins.mono ?_
      rintro e W2 ⟨rfl, T', F', n', q1, q2, q3, q4, q5, q6, q7, q8, q9, q10⟩
      have hown2 := (hown.keep hW).only q7 (fun x hx h => hob x hx h)
      have hnbF : ¬ F' (w.heap.size + 2) := fun h => by
        rcases q8 _ h with h | h
        · exact HL.out.nb h
        · have := hW.size
          have := (Array.getElem?_eq_some_iff.1 HL.out.head).1
          omega
      have hzW := hW.size
      have hwr := HL.out.bel.size
      have hL2 : ListSt ds (w.heap.size + 2) w.heap.size w (k + 1) T' F' n' W2 := by
        have etk : ∀ q : Path, (∃ d' ∈ ds.take (k + 1), q <+: pathOf d') ↔ (∃ d' ∈ ds.take k, q <+: pathOf d') ∨ q <+: pathOf d := fun q => by
          rw [List.take_add_one, Hd.out]
          simp only [Option.toList_some, List.mem_append, List.mem_singleton]
          constructor
          · rintro ⟨d', h | rfl, h2⟩
            · exact .inl ⟨d', h, h2⟩
            · exact .inr h2
          · rintro (⟨d', h, h2⟩ | h2)
            · exact ⟨d', .inl h, h2⟩
            · exact ⟨d, .inr rfl, h2⟩
        have etv : ∀ q : Path, (∃ d' ∈ ds.take (k + 1), q = pathOf d') ↔ (∃ d' ∈ ds.take k, q = pathOf d') ∨ q = pathOf d := fun q => by
          rw [List.take_add_one, Hd.out]
          simp only [Option.toList_some, List.mem_append, List.mem_singleton]
          constructor
          · rintro ⟨d', h | rfl, h2⟩
            · exact .inl ⟨d', h, h2⟩
            · exact .inr h2
          · rintro (⟨d', h, h2⟩ | h2)
            · exact ⟨d', .inl h, h2⟩
            · exact ⟨d, .inr rfl, h2⟩
        refine ⟨q1, by have := HL.out.n; rw [Nat.succ_mul]; omega, fun q => ?_, fun q => ?_, fun q => by have := q10 q; have := HL.out.V1 q; omega, ?_, fun x hx => ⟨?_, q9 x hx⟩, hnbF, ?_⟩
        · rw [q3 q, HL.out.N q, etk q, or_assoc]; exact Iff.rfl
        · rw [q4 q, HL.out.V q, etv q]; exact Iff.rfl
        · rw [q5]; exact q6
        · rcases q8 x hx with h | h
          · exact (HL.out.range x h).1
          · omega
        · exact (HL.out.bel.trans (hW.mono hwr)).trans (q7.below (fun x hx => by rcases hx with h | h; exact (HL.out.range x h).1; omega) (by omega))
      have hob2 : ∀ x, (Value.slice oa k oc).ownBlock = some x → ¬ (F' x ∨ x = w.heap.size + 2) := fun x hx h => by
        rcases h with h | h
        · rcases q8 x h with h | h
          · exact hob x hx (.inl h)
          · have := (hown.lt x hx).2; omega
        · exact hob x hx (.inr h)
      have HL2 := Lib.hid hL2; clear hL2 q1 q2 q3 q4 q5 q6 hins hown hob q7 q8 q9
      go_wp2_with fail
      refine (one_nil W2).mono ?_
      rintro e W3 ⟨rfl, rfl⟩
      have hlt3 : ∀ x, (F' x ∨ x = w.heap.size + 2) → x < W2.heap.size := fun x hx => by
        rcases hx with h | rfl
        · exact (HL2.out.range x h).2
        · exact (Array.getElem?_eq_some_iff.1 HL2.out.head).1
      have hB2 := HL2.out.bel.size
      go_wp2_with (at_builtin; go_must (refine wpList_appX et33 rfl _ _ rfl w.heap.size (fun x => F' x ∨ x = w.heap.size + 2) (v := .slice oa k oc) (n := k) (xs := xs) (by rfl) hown2 hob2 hlt3 [.int .i64 0] (by rfl) rfl (by simp [Value.oneCell']) (by omega) hB2 ?_); intro v' w5 hown5 hF5 honly5)
      go_roundw
      case rel =>
        refine ⟨k + 1, T', F', n', _, hlt, by go_num, ⟨HL2.out.ok.keep fun x hx => ?_, HL2.out.n, HL2.out.N, HL2.out.V, HL2.out.V1, ?_, fun x hx => ⟨(HL2.out.range x hx).1, ?_⟩, HL2.out.nb, ?_⟩, hown5, ?_, hF5⟩
        · exact honly5.block x (HL2.out.range x hx).2 (fun h => hob2 x h (.inl hx))
        · exact (honly5.block _ (Array.getElem?_eq_some_iff.1 HL2.out.head).1 (fun h => hob2 _ h (.inr rfl))).trans HL2.out.head
        · have := (HL2.out.range x hx).2; have := honly5.size; omega
        · exact HL2.out.bel.trans (honly5.below (fun x hx => (hown2.lt x hx).1) hB2)
        · intro x hx
          rcases List.mem_append.1 hx with h | h
          · exact hxs x h
          · exact List.mem_singleton.1 h
      case measure => simp [intOf]; omega
    · obtain rfl : k = ds.length := by omega
      go_wp2
      go_ret2
      exact ⟨_, _, xs, T, F, n, rfl, by omega, hL, hown, hxs, fun x hx e => hob x hx (.inr e)⟩
end Go.Proofs.YtehlmjecbljafaaGreatDoor
namespace Go.Proofs.YtehlmjecbljafaaGreatDoor
open Go Go.RowKit
theorem TrieOK.wider {T : Trie} {F F' : Nat → Prop} {n : Nat} {w : World} (h : TrieOK T F n w) (hF : ∀ k, F k → F' k) : TrieOK T F' n w :=
  { h with fL := fun p hp => hF _ (h.fL p hp), fM := fun p hp => hF _ (h.fM p hp), fN := fun p t hp => hF _ (h.fN p t hp), fS := fun p t hp => hF _ (h.fS p t hp) }
set_option maxRecDepth 100000 in
set_option maxHeartbeats 3200000 in
theorem gmatch_any (b Bo : Nat) (s : ByteArray) (c : Int) (T : Trie) (F : Nat → Prop) (n : Nat) (w : World) (hb : w.heap[b]? = some (.cells (gslCells (T.aL []) c) 178 (0, 0))) (hT : TrieOK T F n w) (hF : ∀ k, F k → k < w.heap.size) (hFb : ¬ F b)
    (hou0 : w.heap[Bo]? = some (.cells #[.slice none 0 0] 33 (0, 0))) (hFB : ¬ F Bo) (hbB : b < Bo) (hct : numT T [] ((toks s).map bs) < 1000000)
    (hg : GoodS s) (hs : s.size ≤ 100000) :
    Calls Tryz.prog 101 #[.pointer (some ⟨b, 0, none⟩), .string s, .func (.func 64) #[] #[.pointer (some ⟨Bo, 0, none⟩)], .bool true] w fun e w' => e = .returned (.tuple #[]) ∧ ∃ ov xs, w'.heap[Bo]? = some (.cells #[ov] 33 (0, 0)) ∧ Own w' (Bo + 1) 1 ov (numT T [] ((toks s).map bs)) xs ∧ Only (fun k => k = b ∨ Bo ≤ k) w w' := by
  have hlb := (Array.getElem?_eq_some_iff.1 hb).1
  have HG := Lib.hid hg; clear hg
  go_enter_defers Tryz.func101, Tryz.ntmps101
  go_wp2_with (refine wpList_zero3 180 zero32 32 _ _ z32b z32i z32s z32o rfl rfl rfl rfl rfl rfl (by rfl) (by rfl) ?_)
  have hown0 := own32 w
  have hb0 := (Below.refl w.heap.size w).alloc (Nat.le_refl _) (.cells zero32 180)
  go_loopw [9, 10, 11] (fun v f i wr => ∃ (k kf : Nat) (ss : List ByteArray), k ≤ s.size ∧ kf ≤ k ∧ i = .int .i64 k ∧ f = .int .i64 kf ∧ Hid (Done s kf k ss) ∧ Own wr w.heap.size 1 v ss.length (ss.map Value.string) ∧ Below w.heap.size w wr) (fun _ _ i _ => s.size - (intOf i).toNat)
  case atStart => exact ⟨0, 0, [], by omega, by omega, rfl, rfl, done_start s, hown0, hb0⟩
  case round =>
    obtain ⟨k, kf, ss, hk, hkf, rfl, rfl, HD, hown, hbel⟩ := hrel
    have hB := hbel.size
    have hssl := done_len HD.out hk
    by_cases hlt : k < s.size
    · by_cases hc : s[k] = 46
      · have hd2 := done_dot HD.out hlt hc
        obtain ⟨r, hr⟩ := done_toks hd2
        have hpos := good_at HG.out hr
        have hne : kf < k := by
          rcases Nat.lt_or_ge kf k with h | h
          · exact h
          · rw [← bs_len, bs_extract] at hpos
            simp at hpos
            omega
        have hcb : (((s[k]).toNat : Int) == 46) = true := by rw [hc]; rfl
        have HD2 := Lib.hid hd2; clear hd2 hr hpos hc
        go_wp2_with (at_builtin; go_must (refine wpList_app1 et32 rfl _ _ rfl w.heap.size rfl hown [_] rfl rfl (by simp [Value.oneCell']) (by omega) hB ?_); intro v' w1 hown1 hgrow)
        go_roundw
        case rel => exact ⟨k+1, k+1, _, hlt, Nat.le_refl _, by go_num, by go_num, HD2.out, by simpa using hown1, bel_app hbel hgrow hown hB⟩
        case measure => simp [intOf]; omega
      · have hcb : (((s[k]).toNat : Int) == 46) = false := by
          rw [beq_eq_false_iff_ne]; intro e; exact hc (UInt8.toNat_inj.1 (show (s[k]).toNat = 46 by omega))
        have hd2 := done_no HD.out hlt hkf hc
        have HD2 := Lib.hid hd2; clear hd2 hc
        go_wp2
        go_roundw
        case rel => exact ⟨k+1, kf, ss, hlt, by omega, by go_num, rfl, HD2.out, hown, hbel⟩
        case measure => simp [intOf]; omega
    · obtain rfl : k = s.size := by omega
      have hend := done_end HD.out
      have hpos := good_at HG.out (r := []) (by rw [List.append_nil]; exact hend.symm)
      have hlt2 : kf < s.size := by
        rw [← bs_len, bs_extract_end, List.length_drop, bs_len] at hpos
        omega
      clear hpos
      have HE := Lib.hid hend; clear hend
      go_wp2_with (at_builtin; go_must (refine wpList_app1 et32 rfl _ _ rfl w.heap.size rfl hown [_] rfl rfl (by simp [Value.oneCell']) (by omega) hB ?_); intro v' w1 hown1 hgrow)
      have hbw := bel_app hbel hgrow hown hB
      have hbk := (hbw.block b hlb).trans hb
      have hT1 := hT.keep (w' := w1) fun x hx => hbw.block x (hF x hx)
      have hrl := RwLone.rlock_open rwRLib b 0 0 _ _ w1 ((cell_row (j := 0) hbk).trans (show _ = some (Value.int .i32 0) from rfl)) ((cell_row (j := 3) hbk).trans (show _ = some (Value.int .u32 0) from rfl)) ((cell_row (j := 4) hbk).trans (show _ = some (Value.int .i32 0) from rfl)) (frozen_row (j := 4) hbk) (by rw [wrap_up]; decide)
      have h4 : (w1.setCell ⟨b, 4, none⟩ (.int .i32 1)).heap[b]? = some (.cells #[.int .i32 0, .int .u32 0, .int .u32 0, .int .u32 0, .int .i32 1, .int .i32 0, .pointer (some ⟨T.aL [], 0, none⟩), .int .u32 c] 178 (0, 0)) := heap_setCell_same w1 b 4 _ 178 (.int .i32 1) hbk
      have ho4 : Only (· = b) w1 (w1.setCell ⟨b, 4, none⟩ (.int .i32 1)) := (Only.refl (· = b) w1).set (.inl rfl) _
      refine hrl.mono ?_
      rintro e w3 ⟨rfl, hw3⟩
      rw [wrap_up] at hw3
      simp only [Nat.zero_add] at hw3
      rw [← hw3] at h4 ho4
      have hzz := hbw.size
      have hT3 := hT1.keep (w' := w3) fun x hx => ho4.block x (by have := hF x hx; omega) (fun e => hFb (e ▸ hx))
      have hF3 : ∀ k, F k → k < w3.heap.size := fun k hk => by have := hF k hk; have := ho4.size; omega
      have hsl3 := (hown1.only ho4 (fun k hk e => by have := (hown1.lt k hk).1; omega)).sl
      have hlen : ss.length + 1 = (toks s).length := by
        have := congrArg List.length HE.out
        simpa using this
      have hts : ss.map Value.string ++ [Value.string (s.extract kf s.size)] = (toks s).map Value.string := by rw [← HE.out]; simp
      rw [hts, hlen] at hsl3
      clear hts hlen
      have r6 := (cell_row (j := 6) h4).trans (show _ = some (Value.pointer (some ⟨T.aL [], 0, none⟩)) from rfl)
      have hou := (ho4.block Bo (by have := hbw.size; have := (Array.getElem?_eq_some_iff.1 hou0).1; omega) (by omega)).trans ((hbw.block Bo (Array.getElem?_eq_some_iff.1 hou0).1).trans hou0)
      have hF9 : ∀ k, (F k ∨ v'.ownBlock = some k) → k < w3.heap.size := fun k hk => by
        rcases hk with hk | hk
        · exact hF3 k hk
        · have := (hown1.lt k hk).2; have := ho4.size; omega
      have hB9 : ¬ (F Bo ∨ v'.ownBlock = some Bo) := by
        rintro (e | e)
        · exact hFB e
        · have := (hown1.lt Bo e).1; have := (Array.getElem?_eq_some_iff.1 hou0).1; omega
      have hma := mlv_any (toks s).length [] (toks s) v' T (fun k => F k ∨ v'.ownBlock = some k) n Bo 0 w3 rfl hT3.root (hT3.wider fun k => .inl) hsl3 (fun b o n c e => .inr (by rw [e]; rfl)) hF9 hB9 (fun t ht => by
        obtain ⟨k, hk, e⟩ := List.mem_iff_getElem.1 ht
        have hh := HG.out.heads k t (by rw [List.getElem?_eq_getElem hk, e])
        refine ⟨fun e => ?_, fun e => ?_, by have := toks_mem ht; unfold maxLen; omega⟩
        · have := (bs_one e).2 hh.pos; exact hh.star (by rw [this]; rfl)
        · have := (bs_one e).2 hh.pos; exact hh.rest (by rw [this]; rfl)) (by have := toks_len s; omega) ⟨⟨_, [], hou, Own.nil _ _ _, fun k hk => by cases hk⟩, Only.refl _ _⟩ (by omega)
      have HO4 := Lib.hid ho4
      have HFb := Lib.hid (fun k (h : v'.ownBlock = some k) => hown1.lt k h)
      clear hT3 hF3 hsl3 hT1 hrl hw3 hF9 hB9 ho4
      go_wp2_with fail
      refine hma.mono ?_
      rintro e w5 ⟨rfl, ho5⟩
      rw [Nat.zero_add] at ho5
      have hbF : ¬ (F b ∨ v'.ownBlock = some b) := by
        rintro (e | e)
        · exact hFb e
        · have := (HFb.out b e).1; omega
      have h5 := (ho5.2.block b (Array.getElem?_eq_some_iff.1 h4).1 (fun e => by omega)).trans h4
      have HO5 := Lib.hid ho5
      clear hma ho5
      go_wp2
      refine leaves_cons (f := 113) (args := #[.pointer (some ⟨b, 0, none⟩)]) (by simp) (by simp [go_sem]) ?_
      refine (RwLone.runlock_deferred rwRLib b 0 1 _ _ .returning w5 ((cell_row (j := 0) h5).trans (show _ = some (Value.int .i32 0) from rfl)) ((cell_row (j := 2) h5).trans (show _ = some (Value.int .u32 0) from rfl)) ((cell_row (j := 4) h5).trans (show _ = some (Value.int .i32 1) from rfl)) (frozen_row (j := 4) h5) (by rw [wrap_down]; decide)).mono ?_
      rintro e u' w9 ⟨rfl, rfl, rfl⟩
      obtain ⟨⟨ov, xs, k1, k2, k3⟩, k4⟩ := HO5.out
      refine ⟨_, results_none rfl _ _ _, rfl, ov, xs, ?_, ?_, ?_⟩
      · exact (heap_setCell_other _ _ _ _ (by show Bo ≠ b; omega)).trans k1
      · exact k2.kept fun k hk => heap_setCell_other _ _ _ _ (by have := (k2.lt k hk).1; show k ≠ b; omega)
      · have o1 : Only (fun k => k = b ∨ Bo ≤ k) w w1 := ⟨hbw.os, hbw.tape, hbw.output, hbw.size, fun k hk _ => hbw.block k hk⟩
        have o3 := o1.trans HO4.out fun k hk => .inl (.inl hk)
        have o5 := o3.trans k4 fun k hk => .inl (.inr hk.2)
        exact o5.set (.inl (.inl rfl)) _
end Go.Proofs.YtehlmjecbljafaaGreatDoor
