/- The server's list: what a filter matches, below a level. The list of interest: HasInterest. The list of interest: callbacks for all that match. The list of interest: how many match, below a path. -/
import Derived.Test.YtehlmjecbljafaaGreatDoorQ14
import Derived.Test.YtehlmjecbljafaaGreatDoorQ18
import Derived.Test.YtehlmjecbljafaaGreatDoorQ30
import Derived.Test.YtehlmjecbljafaaGreatDoorQ31
import Derived.Test.YtehlmjecbljafaaGreatDoorQ34
import Derived.Deep.DeepCutAuto
namespace Go.Proofs.YtehlmjecbljafaaGreatDoor
open Go Go.RowKit
/-- The paths below p that tokens match. -/
def RevQ (p P q : Path) : Prop := ∃ r, q = p ++ r ∧ matchT r P = true
theorem matchT_lits : ∀ (k : Nat) (P r : Path), (∀ j t, j < k → P[j]? = some t → t ≠ [42] ∧ t ≠ [62]) → k ≤ P.length → (matchT r P = true ↔ ∃ r', r = P.take k ++ r' ∧ matchT r' (P.drop k) = true)
  | 0, P, r, _, _ => by simp
  | k + 1, [], r, _, h => by simp at h
  | k + 1, c :: P, [], _, _ => by simp [matchT]
  | k + 1, c :: P, t :: r, hl, h => by
    obtain ⟨n42, n62⟩ := hl 0 c (by omega) rfl
    have ih := matchT_lits k P r (fun j u hj hu => hl (j + 1) u (by omega) (by simpa using hu)) (by simp at h; omega)
    rw [matchT, if_neg n62]
    by_cases hct : c = t
    · subst hct
      rw [if_neg (show ¬ (c ≠ [42] ∧ c ≠ c) from fun h => h.2 rfl), ih]
      simp
    · rw [if_pos (show c ≠ [42] ∧ c ≠ t from ⟨n42, hct⟩)]
      refine Iff.intro (fun h => by cases h) ?_
      rintro ⟨r', e, -⟩
      simp at e
      exact absurd e.1.symm hct
theorem RevQ.shift {p P : Path} {k : Nat} (hl : ∀ j t, j < k → P[j]? = some t → t ≠ [42] ∧ t ≠ [62]) (hk : k ≤ P.length) (q : Path) : RevQ p P q ↔ RevQ (p ++ P.take k) (P.drop k) q := by
  unfold RevQ
  constructor
  · rintro ⟨r, rfl, h⟩
    obtain ⟨r', rfl, h2⟩ := (matchT_lits k P r hl hk).1 h
    exact ⟨r', by rw [List.append_assoc], h2⟩
  · rintro ⟨r', rfl, h⟩
    exact ⟨P.take k ++ r', by rw [List.append_assoc], (matchT_lits k P _ hl hk).2 ⟨r', rfl, h⟩⟩
theorem RevQ.rest (p q : Path) : RevQ p [[62]] q ↔ p <+: q ∧ q ≠ p := by
  unfold RevQ
  constructor
  · rintro ⟨r, rfl, h⟩
    refine ⟨List.prefix_append _ _, fun e => ?_⟩
    cases r with
    | nil => simp [matchT] at h
    | cons t r => have := congrArg List.length e; simp at this
  · rintro ⟨⟨r, rfl⟩, h⟩
    refine ⟨r, rfl, ?_⟩
    cases r with
    | nil => simp at h
    | cons t r => simp [matchT]
theorem RevQ.star (p R q : Path) : RevQ p ([42] :: R) q ↔ ∃ t, RevQ (p ++ [t]) R q := by
  unfold RevQ
  constructor
  · rintro ⟨r, rfl, h⟩
    cases r with
    | nil => simp [matchT] at h
    | cons t r => exact ⟨t, r, by simp, by simpa [matchT] using h⟩
  · rintro ⟨t, r, rfl, h⟩
    exact ⟨t :: r, by simp, by simpa [matchT] using h⟩
theorem RevQ.below {p P q : Path} (h : RevQ p P q) : p <+: q := by obtain ⟨r, rfl, -⟩ := h; exact List.prefix_append _ _
theorem RevQ.one {p q : Path} : RevQ p [] q ↔ q = p := by
  unfold RevQ
  constructor
  · rintro ⟨r, rfl, h⟩
    cases r with
    | nil => simp
    | cons t r => simp [matchT] at h
  · rintro rfl
    exact ⟨[], by simp, rfl⟩
theorem bs_single {t : ByteArray} (h : t.size = 1) (h0 : 0 < t.size) : bs t = [t[0]] := by
  have := bs_len t
  obtain ⟨x, hx⟩ := List.length_eq_one_iff.1 (this.trans h)
  rw [hx, (bs_one hx).2 h0]
theorem Sl.onl {F G : Nat → Prop} {sz n cap : Nat} {w w' : World} {a : Option Addr} {xs : List Value} (h : Sl w sz (.slice a n cap) n xs) (ho : Only G w w') (hF : ∀ b o, a = some ⟨b, o, none⟩ → F b) (hG : ∀ k, G k → ¬ F k) : Sl w' sz (.slice a n cap) n xs :=
  h.only ho fun b o e hk => hG b hk (hF b o e)
set_option maxRecDepth 100000 in
set_option maxHeartbeats 6400000 in
theorem revLevel_any (T : STrie) (D : Nat) (all : List Nat) (R : Nat) (hL : STL T D all) : ∀ (m : Nat) (p : Path) (ts : List ByteArray) (v nv : Value) (F : Nat → Prop) (Q : Path → Prop) (w : World), ts.length = m → T.N p → STrieOK T F w → Sl w 1 v ts.length (ts.map Value.string) → (∀ b o n c, v = .slice (some ⟨b, o, none⟩) n c → F b) → (p = [] → nv = .pointer none) → (p ≠ [] → nv = .pointer (some ⟨T.aN p, 0, none⟩)) →
    (∀ q, Q q → ¬ p <+: q) → FndR T F R Q w w → (∀ k, F k → k < w.heap.size) → ¬ F R → (∀ t ∈ ts, 0 < t.size ∧ t.size ≤ maxLen) → (∀ k t, ts[k]? = some t → bs t = [62] → k + 1 = ts.length) → ts.length ≤ 1000000 →
    Calls Tryz.prog 193 #[.pointer (some ⟨T.aL p, 0, none⟩), v, nv, .pointer (some ⟨R, 0, none⟩)] w (AddC T F R (fun q => Q q ∨ RevQ p (ts.map bs) q) w) := by
  intro m
  induction m using Nat.strongRecOn with
  | _ m ih =>
  intro p ts v nv F Q w hm hp hT hv hvf hn1 hn2 hQ h hF hR hts hlast hn
  subst hm
  obtain ⟨va, vc, rfl⟩ := hv.form
  have HV := Lib.hid hv; clear hv
  have HVF := Lib.hid hvf; clear hvf
  have HL := Lib.hid hL; clear hL
  have HT := Lib.hid hT; clear hT
  have HF := Lib.hid hF; clear hF
  have HQ := Lib.hid hQ; clear hQ
  have H := Lib.hid h; clear h
  have HTS := Lib.hid hts; clear hts
  have HLAST := Lib.hid hlast; clear hlast
  have IH := Lib.hid ih; clear ih
  go_enter Tryz.func193, Tryz.ntmps193
  go_wp2
  go_loopw [0, 2, 16] (fun lv nd i wr => ∃ k : Nat, k ≤ ts.length ∧ i = .int .i64 k ∧ wr = w ∧ T.N (p ++ (ts.map bs).take k) ∧ lv = .pointer (some ⟨T.aL (p ++ (ts.map bs).take k), 0, none⟩) ∧ (p ++ (ts.map bs).take k = [] → nd = .pointer none) ∧ (p ++ (ts.map bs).take k ≠ [] → nd = .pointer (some ⟨T.aN (p ++ (ts.map bs).take k), 0, none⟩)) ∧ Hid (∀ j t, j < k → (ts.map bs)[j]? = some t → t ≠ [42] ∧ t ≠ [62])) (fun _ _ i _ => ts.length - (intOf i).toNat)
  case atStart =>
    exact ⟨0, Nat.zero_le _, rfl, rfl, by simpa using hp, by simp, by simpa using hn1, by simpa using hn2, Lib.hid fun j t h => absurd h (Nat.not_lt_zero _)⟩
  case round =>
    obtain ⟨k, hk, rfl, rfl, hN, rfl, hd1, hd2, HLT⟩ := hrel
    obtain ⟨wo, rfl⟩ : ∃ x : World, x = wr := ⟨_, rfl⟩
    have hsh := RevQ.shift (p := p) HLT.out (by rw [List.length_map]; exact hk)
    have hQ2 : ∀ q, Q q → ¬ (p ++ (ts.map bs).take k) <+: q := fun q hq h => HQ.out q hq ((List.prefix_append _ _).trans h)
    by_cases hlt : k < ts.length
    · obtain ⟨kb, ko, t, rfl, Ht, hct⟩ := HV.out.str (Below.refl _ _) hlt
      have htP : (ts.map bs)[k]? = some (bs t) := by rw [List.getElem?_map, Ht.out]; rfl
      have e1 : (ts.map bs).drop k = bs t :: (ts.drop (k + 1)).map bs := by
        rw [List.drop_eq_getElem_cons (by rw [List.length_map]; exact hlt), List.map_drop]
        congr 1
        have := (List.getElem?_eq_some_iff.1 htP).2
        exact this
      have e2 : p ++ (ts.map bs).take (k + 1) = p ++ (ts.map bs).take k ++ [bs t] := by rw [List.take_add_one, htP, List.append_assoc]; rfl
      obtain ⟨h0, htM⟩ := HTS.out t (List.mem_of_getElem? Ht.out)
      have hl62 := HLAST.out k t Ht.out
      have HL62 := Lib.hid hl62; clear hl62
      rw [e1] at hsh
      have HSH := Lib.hid hsh; clear hsh
      have HQ2 := Lib.hid hQ2; clear hQ2
      have HE2 := Lib.hid e2; clear e2
      clear e1 hn1 hn2 hd1 hd2
      have hlev := lev_lit HT.out HL.out hN
      have c0 := (cell_row (j := 0) hlev).trans (show _ = some (Value.map (some (T.aM (p ++ (ts.map bs).take k)))) from rfl)
      have c1 := (cell_row (j := 1) hlev).trans (show _ = some (Value.pointer none) from rfl)
      have c2 := (cell_row (j := 2) hlev).trans (show _ = some (Value.pointer none) from rfl)
      clear hlev
      generalize hpc : p ++ (ts.map bs).take k = pc at *
      by_cases h62 : bs t = [62]
      · obtain ⟨s1, s2⟩ := bs_one h62
        have hc62 : (((t[0]).toNat : Int) == 62) = true := by rw [s2 h0]; rfl
        have es1 : ((t.size : Int) == 1) = true := by rw [s1]; rfl
        have hga := getAll_any T D all R HL.out _ pc F Q wo rfl hN HT.out (fun q hq h => absurd h (HQ2.out q hq)) H.out HF.out hR
        have HTL : Hid (ts.drop (k + 1) = []) := Lib.hid (List.drop_of_length_le (by have := HL62.out h62; omega))
        have S1 := Lib.hid s1; clear s1 s2
        go_wp2_with fail
        refine hga.mono ?_
        rintro e w2 ⟨rfl, hr⟩
        have HR2 := Lib.hid hr
        clear hga hr
        go_wp2
        refine bodyPost_ret (results_none rfl _ _ _) rfl ⟨rfl, ?_⟩
        refine HR2.out.congr fun q b hb => or_congr Iff.rfl ?_
        rw [HSH.out, HTL.out, h62]
        exact (RevQ.rest _ _).symm
      · by_cases h42 : bs t = [42]
        · obtain ⟨s1, s2⟩ := bs_one h42
          have hc42 : (((t[0]).toNat : Int) == 42) = true := by rw [s2 h0]; rfl
          have hc62 : (((t[0]).toNat : Int) == 62) = false := by rw [s2 h0]; rfl
          have es1 : ((t.size : Int) == 1) = true := by rw [s1]; rfl
          have S1 := Lib.hid s1; clear s1 s2
          obtain ⟨kv, hm, hkd⟩ := HT.out.map pc hN
          have HK := Lib.hid hkd
          have HINV := Lib.hid hkd.inv
          have HND := Lib.hid hm.nd
          have hFM := HT.out.fM pc hN
          go_wp2_with (at_range; refine wpList_rangeE _ rfl _ 276 rfl _ _ Tryz.underlying276 (T.aM pc) kv rfl hm ?_; intro w0 hit hb0 hz0)
          go_frame
          have HB0 := Lib.hid (And.intro hb0 hz0)
          have hz1 : wo.heap.size < w0.heap.size := by omega
          clear hb0 hz0 hkd hm
          have hrF : ¬ F wo.heap.size := fun e => by have := HF.out _ e; omega
          have hRl := H.out.lt
          go_loopw [11] (fun _ wr => ∃ (done : List (List UInt8)) (left : List (Value × Value)), kv.Perm (done.map (kidE T pc) ++ left) ∧ IterE wr (T.aM pc) wo.heap.size kv left ∧ FndR T (fun k => F k ∨ k = wo.heap.size) R (fun q => Q q ∨ ∃ t' ∈ done, RevQ (pc ++ [t']) ((ts.drop (k + 1)).map bs) q) wr wr ∧ Only (fun k => ¬ F k ∧ R ≤ k) wo wr) (fun _ wr => wr.rangeLeft (T.aM pc) wo.heap.size)
          case atStart =>
            refine ⟨[], kv, List.Perm.refl _, hit, ?_, Only.of HB0.out.1⟩
            exact (H.out.more HB0.out.1 (Nat.le_refl _)).congr fun q b hb => by simp
          case round =>
            obtain ⟨done, left, hpm, hitr, hout, honw⟩ := hrel
            have HPM := Lib.hid hpm; clear hpm
            have HO := Lib.hid (And.intro hout honw)
            have HI := Lib.hid hitr
            have hTr : STrieOK T F wr := HT.out.keep fun k hk => honw.block k (HF.out k hk) fun e => e.1 hk
            have hlevr := lev_lit hTr HL.out hN
            have d1 := (cell_row (j := 1) hlevr).trans (show _ = some (Value.pointer none) from rfl)
            have d2 := (cell_row (j := 2) hlevr).trans (show _ = some (Value.pointer none) from rfl)
            clear hout honw hTr hlevr
            go_wp2_with (at_next; refine wpList_nextKV _ strV atBlk rfl _ rfl (T.aM pc) wo.heap.size kv left HINV.out rfl hitr ?_ ?_)
            · intro hl0
              have HL0 := Lib.hid hl0; clear hl0
              go_wp2
              refine bodyPost_ret (results_none rfl _ _ _) rfl ⟨rfl, ?_⟩
              refine (HO.out.1.less HO.out.2).congr fun q b hb => or_congr Iff.rfl ?_
              have hpm := HPM.out
              rw [HL0.out, List.append_nil] at hpm
              rw [HSH.out, h42, RevQ.star]
              constructor
              · rintro ⟨t', -, h⟩; exact ⟨t', h⟩
              · rintro ⟨t', h⟩
                refine ⟨t', ?_, h⟩
                obtain ⟨r, hq⟩ := h.below
                have hN' : T.N (pc ++ [t']) := HT.out.pre r _ (by rw [hq]; exact (HL.out.mem q b hb).1)
                obtain ⟨n1, n2⟩ := HL.out.lit pc t' hN'
                have hin : kidE T pc t' ∈ kv := (HK.out _ _).2 ⟨t', rfl, n1, n2, hN', rfl⟩
                obtain ⟨t2, ht2, e⟩ := List.mem_map.1 (hpm.mem_iff.1 hin)
                have e2 := strV_inj (congrArg Prod.fst e)
                exact e2 ▸ ht2
            · intro u y left' w1 hperm hit1 hon1 hz1' hen
              have hl2 := hperm.length_eq
              rw [List.length_cons] at hl2
              have hzw := HO.out.2.size
              have hz2 : wo.heap.size ≤ w1.heap.size := by omega
              have hF1 : ∀ k, (F k ∨ k = wo.heap.size) → k < w1.heap.size := fun k hk => by
                rcases hk with hk | rfl
                · have := HF.out k hk; omega
                · have := hit1.lt; omega
              have hR1 : ¬ (F R ∨ R = wo.heap.size) := by rintro (e | e); exact hR e; omega
              obtain ⟨hNt, rfl⟩ := HK.out.at' (hitr.sub _ (hperm.mem_iff.2 (List.mem_cons_self ..)))
              have honw1 : Only (fun k => ¬ F k ∧ R ≤ k) wo w1 := HO.out.2.trans (hon1.mono (F' := fun k => ¬ F k ∧ R ≤ k) fun k hk => by subst hk; exact ⟨hrF, by omega⟩) fun k hk => .inl hk
              have hTw : STrieOK T (fun k => F k ∨ k = wo.heap.size) w1 := (HT.out.keep fun k hk => honw1.block k (HF.out k hk) fun e => e.1 hk).wider fun k => .inl
              have hvw := HV.out.onl honw1 (fun b o e => HVF.out b o _ _ (by rw [e])) (fun k hk => hk.1)
              have hnd : u ∉ done := fun ht => by
                have h1 := HND.out
                have h2 : kv.Perm (done.map (kidE T pc) ++ kidE T pc u :: left') := HPM.out.trans (hperm.append_left _)
                have h3 := (h2.map (·.1)).nodup_iff.1 h1
                rw [List.map_append, List.map_cons] at h3
                have h4 := (List.nodup_append.1 h3).2.2
                exact h4 (kidE T pc u).1 (List.mem_map.2 ⟨_, List.mem_map.2 ⟨u, ht, rfl⟩, rfl⟩) _ (List.mem_cons_self ..) rfl
              have hno : ∀ q, (Q q ∨ ∃ t' ∈ done, RevQ (pc ++ [t']) ((ts.drop (k + 1)).map bs) q) → ¬ pc ++ [u] <+: q := fun q hq hp2 => by
                rcases hq with hq | ⟨t', ht', hp3⟩
                · exact HQ2.out q hq ((List.prefix_append pc [u]).trans hp2)
                · have e := List.prefix_of_prefix_length_le hp2 hp3.below (by simp)
                  have e := e.eq_of_length (by simp)
                  have e := List.append_cancel_left e
                  injection e with e; subst e
                  exact hnd ht'
              have HP := Lib.hid (And.intro hperm (And.intro hit1 (And.intro hon1 (And.intro hz1' hl2))))
              have HF1 := Lib.hid hF1
              have HNO := Lib.hid hno
              have HTw := Lib.hid hTw
              have HON1 := Lib.hid honw1
              have HVW := Lib.hid hvw
              have HRt := Lib.hid (HO.out.1.turn hon1 (by omega))
              have hnx := (cell_row (j := 0) (hTw.nod pc u hNt)).trans (show _ = some (Value.pointer (some ⟨T.aL (pc ++ [u]), 0, none⟩)) from rfl)
              clear hperm hit1 hon1 hz1' hl2 hF1 hno hTw honw1 hvw hitr d1 d2 c0 c1 c2
              go_wp2_with fail
              refine wp_region_L [0, 1, 2, 3, 4, 5, 6, 7, 8, 9] (fun W' => W'.cell? ⟨T.aN (pc ++ [u]), 0, none⟩ = some (.pointer (some ⟨T.aL (pc ++ [u]), 0, none⟩))) (by kernel_rfl) (by kernel_rfl) hnx (fun ne => ?_)
              have S0 := fun x : SubC (fun W' => W'.cell? ⟨T.aN (pc ++ [u]), 0, none⟩ = some (.pointer (some ⟨T.aL (pc ++ [u]), 0, none⟩))) => x.ok
              repeat (refine wpCL_q rfl rfl ?_; go_big_quiet_step (fail); refine wpQuiet_nil ?_)
              refine wpCL_n rfl rfl rfl rfl ?_
              go_simp
              repeat (refine wpCL_q rfl rfl ?_; go_big_quiet_step (fail); refine wpQuiet_nil ?_)
              refine wpCL_last ?_
              have hbd : Below w1.heap.size w1 w1.drew := (Below.refl _ w1).drew
              have hvd : Sl w1.drew 1 (.slice (if vc = k + 1 then some ⟨kb, ko, none⟩ else some ⟨kb, ko + (k + 1), none⟩) (ts.length - (k + 1)) (vc - (k + 1))) (ts.drop (k + 1)).length ((ts.drop (k + 1)).map Value.string) := by
                rw [List.length_drop, List.map_drop]
                exact (HVW.out.keep hbd).dropIf (by omega)
              have hvb : ∀ b o n c, Value.slice (if vc = k + 1 then some (⟨kb, ko, none⟩ : Addr) else some ⟨kb, ko + (k + 1), none⟩) (ts.length - (k + 1)) (vc - (k + 1)) = .slice (some ⟨b, o, none⟩) n c → (F b ∨ b = wo.heap.size) := fun b o n c e => by
                have hkb := HVF.out kb ko ts.length vc rfl
                split at e <;> (injection e with e; injection e with e; injection e with e; exact .inl (e ▸ hkb))
              generalize (if vc = k + 1 then some (⟨kb, ko, none⟩ : Addr) else some ⟨kb, ko + (k + 1), none⟩) = sa at hvd hvb ⊢
              have hrec := IH.out (ts.length - (k + 1)) (by omega) (pc ++ [u]) (ts.drop (k + 1)) _ (.pointer (some ⟨T.aN (pc ++ [u]), 0, none⟩)) _ _ w1.drew (by rw [List.length_drop]) hNt (HTw.out.keep fun x hx => hbd.block x (HF1.out x hx)) hvd hvb (fun h => absurd h (snoc_ne _ _)) (fun _ => rfl) HNO.out (HRt.out.bel hbd).start (fun x hx => Nat.lt_of_lt_of_le (HF1.out x hx) hbd.size) hR1 (fun x hx => HTS.out x (List.mem_of_mem_drop hx)) (fun j x hj hx => by
                rw [List.getElem?_drop] at hj
                have := HLAST.out (k + 1 + j) x hj hx
                rw [List.length_drop]; omega) (by rw [List.length_drop]; omega)
              have HBD := Lib.hid hbd
              clear hvd hvb hbd
              go_wp2_with fail
              refine hrec.mono ?_
              rintro e w3 ⟨rfl, hr3⟩
              have HR3 := Lib.hid ((HRt.out.bel HBD.out).trans hr3)
              clear hrec hr3 S0 ne
              go_wp2
              go_roundw
              case rel =>
                obtain ⟨p1, p2, p3, p4, p5⟩ := HP.out
                refine ⟨done ++ [u], left', ?_, p2.keep (HR3.out.kept HF1.out (.inl hFM)) (HR3.out.kept HF1.out (.inr rfl)), ?_, ?_⟩
                · refine HPM.out.trans ?_
                  rw [List.map_append, List.append_assoc]
                  exact p1.append_left _
                · refine HR3.out.start.congr fun q b hb => ?_
                  constructor
                  · rintro ((h | ⟨t', h1, h2⟩) | h)
                    · exact .inl h
                    · exact .inr ⟨t', List.mem_append_left _ h1, h2⟩
                    · exact .inr ⟨u, by simp, h⟩
                  · rintro (h | ⟨t', h1, h2⟩)
                    · exact .inl (.inl h)
                    · rcases List.mem_append.1 h1 with h1 | h1
                      · exact .inl (.inr ⟨t', h1, h2⟩)
                      · obtain rfl := List.mem_singleton.1 h1
                        exact .inr h2
                · exact HON1.out.trans HR3.out.only fun k hk => .inl ⟨fun e => hk.1 (.inl e), hk.2⟩
              case measure =>
                obtain ⟨p1, p2, p3, p4, p5⟩ := HP.out
                rw [(p2.keep (HR3.out.kept HF1.out (.inl hFM)) (HR3.out.kept HF1.out (.inr rfl))).left_eq, HI.out.left_eq]
                omega
        · by_cases hs1 : t.size = 1
          · have es1 : ((t.size : Int) == 1) = true := by rw [hs1]; rfl
            have hbt := bs_single hs1 h0
            have hc42 : (((t[0]).toNat : Int) == 42) = false := by
              rw [beq_eq_false_iff_ne]; intro e; have e3 : t[0] = 42 := UInt8.toNat_inj.1 (show (t[0]).toNat = 42 by omega); exact h42 (by rw [hbt, e3])
            have hc62 : (((t[0]).toNat : Int) == 62) = false := by
              rw [beq_eq_false_iff_ne]; intro e; have e3 : t[0] = 62 := UInt8.toNat_inj.1 (show (t[0]).toNat = 62 by omega); exact h62 (by rw [hbt, e3])
            clear hbt
            have HS1 := Lib.hid hs1; clear hs1
            have hlk := HT.out.look hN t h42 h62
            have HNL := Lib.hid (And.intro h42 h62)
            by_cases hNt : T.N (pc ++ [bs t])
            · rw [STrie.ptr_yes hNt] at hlk
              have hnod := (cell_row (j := 0) (HT.out.nod pc (bs t) hNt)).trans (show _ = some (Value.pointer (some ⟨T.aL (pc ++ [bs t]), 0, none⟩)) from rfl)
              go_wp2
              go_roundw
              case rel =>
                refine ⟨k + 1, hlt, by go_num, (by first | rfl | trivial), by rw [HE2.out]; exact hNt, by rw [HE2.out], (fun h => by rw [HE2.out] at h; exact absurd h (snoc_ne _ _)), (fun _ => by rw [HE2.out]), Lib.hid fun j u hj hu => ?_⟩
                by_cases e : j = k
                · subst e; rw [htP] at hu; cases hu; exact HNL.out
                · exact HLT.out j u (by omega) hu
              case measure => simp [intOf]; omega
            · rw [STrie.ptr_no hNt] at hlk
              go_wp2
              go_end0
              refine ⟨rfl, H.out.congr fun q b hb => ?_⟩
              refine ⟨.inl, fun h => ?_⟩
              rcases h with h | h
              · exact h
              · exfalso
                obtain ⟨r, hq, hmt⟩ := (HSH.out q).1 h
                cases r with
                | nil => simp [matchT] at hmt
                | cons u r =>
                  rw [matchT, if_neg HNL.out.2] at hmt
                  by_cases e : bs t = u
                  · subst e
                    refine hNt (HT.out.pre r _ ?_)
                    have := (HL.out.mem q b hb).1
                    rw [hq] at this
                    simpa using this
                  · rw [if_pos ⟨HNL.out.1, e⟩] at hmt
                    cases hmt
          · have es1 : ((t.size : Int) == 1) = false := by rw [beq_eq_false_iff_ne]; omega
            have HS1 := Lib.hid hs1; clear hs1
            have hlk := HT.out.look hN t h42 h62
            have HNL := Lib.hid (And.intro h42 h62)
            by_cases hNt : T.N (pc ++ [bs t])
            · rw [STrie.ptr_yes hNt] at hlk
              have hnod := (cell_row (j := 0) (HT.out.nod pc (bs t) hNt)).trans (show _ = some (Value.pointer (some ⟨T.aL (pc ++ [bs t]), 0, none⟩)) from rfl)
              go_wp2
              go_roundw
              case rel =>
                refine ⟨k + 1, hlt, by go_num, (by first | rfl | trivial), by rw [HE2.out]; exact hNt, by rw [HE2.out], (fun h => by rw [HE2.out] at h; exact absurd h (snoc_ne _ _)), (fun _ => by rw [HE2.out]), Lib.hid fun j u hj hu => ?_⟩
                by_cases e : j = k
                · subst e; rw [htP] at hu; cases hu; exact HNL.out
                · exact HLT.out j u (by omega) hu
              case measure => simp [intOf]; omega
            · rw [STrie.ptr_no hNt] at hlk
              go_wp2
              go_end0
              refine ⟨rfl, H.out.congr fun q b hb => ?_⟩
              refine ⟨.inl, fun h => ?_⟩
              rcases h with h | h
              · exact h
              · exfalso
                obtain ⟨r, hq, hmt⟩ := (HSH.out q).1 h
                cases r with
                | nil => simp [matchT] at hmt
                | cons u r =>
                  rw [matchT, if_neg HNL.out.2] at hmt
                  by_cases e : bs t = u
                  · subst e
                    refine hNt (HT.out.pre r _ ?_)
                    have := (HL.out.mem q b hb).1
                    rw [hq] at this
                    simpa using this
                  · rw [if_pos ⟨HNL.out.1, e⟩] at hmt
                    cases hmt
    · obtain rfl : k = ts.length := by omega
      have hz : (ts.map bs).drop ts.length = [] := List.drop_of_length_le (by rw [List.length_map]; omega)
      rw [hz] at hsh
      have HSH := Lib.hid hsh; clear hsh hz
      have HQ2 := Lib.hid hQ2; clear hQ2
      generalize hpc : p ++ (ts.map bs).take ts.length = pc at *
      by_cases hp0 : pc = []
      · obtain rfl := hd1 hp0
        clear hd1 hd2 hn1 hn2
        have HP0 := Lib.hid hp0; clear hp0
        go_wp2
        go_end0
        refine ⟨rfl, H.out.congr fun q b hb => ?_⟩
        rw [HSH.out, RevQ.one]
        exact ⟨.inl, fun h => by
          rcases h with h | h
          · exact h
          · exact absurd (h.trans HP0.out) (HL.out.mem q b hb).2.1⟩
      · obtain rfl := hd2 hp0
        clear hd1 hd2 hn1 hn2
        obtain ⟨p0, t0, e⟩ := snoc_of hp0
        subst e
        have hcb := addNodeF_any T D all F R Q p0 t0 wo HT.out HL.out hN (fun hq => HQ2.out _ hq (List.prefix_refl _)) H.out HF.out hR
        go_wp2_with fail
        refine hcb.mono ?_
        rintro e w2 ⟨rfl, hr⟩
        have HR2 := Lib.hid hr
        clear hcb hr
        go_wp2
        go_end0
        refine ⟨rfl, HR2.out.congr fun q b hb => or_congr Iff.rfl ?_⟩
        rw [HSH.out, RevQ.one]
end Go.Proofs.YtehlmjecbljafaaGreatDoor
namespace Go.Proofs.YtehlmjecbljafaaGreatDoor
open Go Go.RowKit
theorem split_more : ∀ (b a : List UInt8) (A : List (List UInt8)) (c : List UInt8), splitDot a = A ++ [c] → ∃ r, splitDot (a ++ b) = A ++ r
  | [], a, A, c, h => ⟨[c], by rw [List.append_nil]; exact h⟩
  | x :: b, a, A, c, h => by
    have e : a ++ x :: b = (a ++ [x]) ++ b := by simp
    rw [e]
    by_cases hx : x = 46
    · obtain ⟨r, hr⟩ := split_more b (a ++ [x]) (A ++ [c]) [] (by rw [hx, splitDot_snoc_dot, h])
      exact ⟨c :: r, by rw [hr]; simp⟩
    · exact split_more b (a ++ [x]) A (c ++ [x]) (splitDot_snoc hx h)
theorem done_toks {s : ByteArray} {f i : Nat} {out : List ByteArray} (h : Done s f i out) : ∃ r, toks s = out ++ r := by
  obtain ⟨r, hr⟩ := split_more ((bs s).drop i) _ _ _ h
  rw [List.take_append_drop] at hr
  refine ⟨r.map mk, ?_⟩
  unfold toks
  rw [hr, List.map_append, List.map_map]
  congr 1
  conv => rhs; rw [← List.map_id out]
  apply List.map_congr_left
  intro t _
  exact mk_bs t
theorem good_at {s : ByteArray} (hg : GoodS s) {out : List ByteArray} {x : ByteArray} {r : List ByteArray} (h : toks s = out ++ [x] ++ r) : 0 < x.size := by
  refine (hg.heads out.length x ?_).pos
  rw [h, List.append_assoc, List.getElem?_append_right (Nat.le_refl _), Nat.sub_self]; rfl
theorem wrap_up : wrap32 (0 + 1) = 1 := by simp [wrap32]
theorem wrap_down : wrap32 (1 + -1) = 0 := by simp [wrap32]
end Go.Proofs.YtehlmjecbljafaaGreatDoor
namespace Go.Proofs.YtehlmjecbljafaaGreatDoor
open Go Go.RowKit Go.MapKept
open Go.WideElems (Fit rd rg pl rd_key rd_val rg_of)
/-- A map by numbers, by its entries. -/
theorem MapN.entries {w : World} {b n m : Nat} (h : MapN w b n m) : ∃ kv, MapE w b kv ∧ kv.length = m ∧ ∀ p ∈ kv, ∃ x, p.1 = .int .i64 x := by
  obtain ⟨D, ⟨es, clock, hb, F, hs, rfl⟩, hm⟩ := h
  refine ⟨es.toList.map entKV, ⟨es, clock, hb, rfl, F.stamped⟩, ?_, fun p hp => ?_⟩
  · rw [← hm]
    simp [Maps.size, length_sorted]
  · obtain ⟨x, hx, rfl⟩ := List.mem_map.1 hp
    obtain ⟨y, hy⟩ := F.reads x hx
    obtain ⟨a, ha, -⟩ := Maps.keyOf_int_inv Tryz.underlying3 (rd_key hy)
    exact ⟨a, ha⟩
/-- What has been put down: cnt numbers; nothing of F has turned. -/
def OutS (F : Nat → Prop) (Bo cnt : Nat) (w0 w : World) : Prop := (∃ ov xs, w.heap[Bo]? = some (.cells #[ov] 33 (0, 0)) ∧ Own w (Bo + 1) 1 ov cnt xs ∧ ∀ k, ov.ownBlock = some k → ¬ F k) ∧ Only (fun k => ¬ F k ∧ Bo ≤ k) w0 w
theorem OutS.bel {F : Nat → Prop} {Bo cnt : Nat} {w0 w w' : World} (h : OutS F Bo cnt w0 w) (hb : Below w.heap.size w w') : OutS F Bo cnt w0 w' := by
  obtain ⟨⟨ov, xs, h1, h2, h3⟩, h4⟩ := h
  exact ⟨⟨ov, xs, (hb.block _ (Array.getElem?_eq_some_iff.1 h1).1).trans h1, h2.keep hb, h3⟩, h4.trans (Only.of (F := fun _ => False) hb) fun k hk => hk.elim⟩
theorem OutS.start {F : Nat → Prop} {Bo cnt : Nat} {w0 w : World} (h : OutS F Bo cnt w0 w) : OutS F Bo cnt w w := ⟨h.1, Only.refl _ _⟩
theorem OutS.trans {F : Nat → Prop} {Bo c1 c2 : Nat} {w0 w w' : World} (h : OutS F Bo c1 w0 w) (k : OutS F Bo c2 w w') : OutS F Bo c2 w0 w' := ⟨k.1, h.2.trans k.2 fun _b hb => .inl hb⟩
theorem OutS.kept {F : Nat → Prop} {Bo cnt : Nat} {w0 w : World} (h : OutS F Bo cnt w0 w) (hF : ∀ k, F k → k < w0.heap.size) {k : Nat} (hk : F k) : w.heap[k]? = w0.heap[k]? := h.2.block k (hF k hk) fun e => e.1 hk
theorem OutS.size {F : Nat → Prop} {Bo cnt : Nat} {w0 w : World} (h : OutS F Bo cnt w0 w) : w0.heap.size ≤ w.heap.size := h.2.size
theorem OutS.lt {F : Nat → Prop} {Bo cnt : Nat} {w0 w : World} (h : OutS F Bo cnt w0 w) : Bo < w.heap.size := by obtain ⟨⟨ov, xs, h1, -⟩, -⟩ := h; exact (Array.getElem?_eq_some_iff.1 h1).1
/-- What a function that calls back m times does. -/
def CbC (F : Nat → Prop) (Bo cnt m : Nat) (w : World) (e : Ending) (w' : World) : Prop := e = .returned (.tuple #[]) ∧ OutS F Bo (cnt + m) w w'
set_option maxRecDepth 100000 in
set_option maxHeartbeats 1600000 in
theorem cb64_any (x : Int) (F : Nat → Prop) (Bo cnt : Nat) (w : World) (h : OutS F Bo cnt w w) (hF : ∀ k, F k → k < w.heap.size) (hB : ¬ F Bo) (hn : cnt < 1000000) :
    Calls Tryz.prog 64 #[.int .i64 x, .pointer (some ⟨Bo, 0, none⟩)] w (CbC F Bo cnt 1 w) := by
  obtain ⟨⟨ov, xs, h1, h2, h3⟩, -⟩ := h
  obtain ⟨oa, oc, rfl, -⟩ := h2.form
  have hlo := (Array.getElem?_eq_some_iff.1 h1).1
  have c0 := (cell_row (j := 0) h1).trans (show _ = some (Value.slice oa cnt oc) from rfl)
  have H1 := Lib.hid h1
  have H2 := Lib.hid h2
  have H3 := Lib.hid h3
  have hb2 : Bo + 1 ≤ w.heap.size := hlo
  go_enter Tryz.func64, Tryz.ntmps64
  go_wp2_with (at_builtin; go_must (refine wpList_appZ et33 rfl _ _ rfl (Bo + 1) rfl h2 [_] rfl rfl (by simp [Value.oneCell']) (by omega) hb2 ?_); intro v' w1 hown1 hf1 hon1; obtain ⟨va, vc, rfl, -⟩ := hown1.form; have k1 := (hon1.block Bo hlo (fun e => by have := (H2.out.lt Bo e).1; omega)).trans H1.out; have kc := (cell_row (j := 0) k1).trans (show _ = some (Value.slice oa cnt oc) from rfl); have kf := frozen_row (j := 0) k1; have HO := Lib.hid (And.intro hown1 (And.intro hf1 hon1)); clear hown1 hf1 hon1)
  go_end0
  obtain ⟨o1, f1, n1⟩ := HO.out
  refine ⟨rfl, ⟨.slice va (cnt + 1) vc, _, heap_setCell_same w1 Bo 0 _ 33 _ k1, o1.kept fun k hk => heap_setCell_other _ _ _ _ (by have := (o1.lt k hk).1; show k ≠ Bo; omega), fun k hk hFk => ?_⟩, ?_⟩
  · rcases f1 k hk with h | h
    · exact H3.out k h hFk
    · have := hF k hFk; omega
  · refine (n1.mono fun k hk => ?_).set (.inl ⟨hB, Nat.le_refl _⟩) _
    exact ⟨H3.out k hk, by have := (H2.out.lt k hk).1; omega⟩
/-- One block more that stays. -/
theorem OutS.more {F : Nat → Prop} {Bo cnt r : Nat} {w w0 : World} (h : OutS F Bo cnt w w) (hb : Below w.heap.size w w0) (hr : w.heap.size ≤ r) : OutS (fun k => F k ∨ k = r) Bo cnt w0 w0 := by
  obtain ⟨⟨ov, xs, h1, h2, h3⟩, -⟩ := h
  refine ⟨⟨ov, xs, (hb.block Bo (Array.getElem?_eq_some_iff.1 h1).1).trans h1, h2.keep hb, fun k hk => ?_⟩, Only.refl _ _⟩
  rintro (e | rfl)
  · exact h3 k hk e
  · have := (h2.lt _ hk).2; omega
/-- That block turns. -/
theorem OutS.turn {F : Nat → Prop} {Bo cnt r : Nat} {w w1 : World} (h : OutS (fun k => F k ∨ k = r) Bo cnt w w) (ho : Only (· = r) w w1) (hr : Bo ≠ r) : OutS (fun k => F k ∨ k = r) Bo cnt w1 w1 := by
  obtain ⟨⟨ov, xs, h1, h2, h3⟩, -⟩ := h
  exact ⟨⟨ov, xs, (ho.block Bo (Array.getElem?_eq_some_iff.1 h1).1 hr).trans h1, h2.only ho (fun k hk e => h3 k hk (.inr e)), h3⟩, Only.refl _ _⟩
theorem OutS.less {F : Nat → Prop} {Bo cnt r : Nat} {w w1 : World} (h : OutS (fun k => F k ∨ k = r) Bo cnt w w) (ho : Only (fun k => ¬ F k ∧ Bo ≤ k) w1 w) : OutS F Bo cnt w1 w := by
  obtain ⟨⟨ov, xs, h1, h2, h3⟩, -⟩ := h
  exact ⟨⟨ov, xs, h1, h2, fun k hk e => h3 k hk (.inl e)⟩, ho⟩
set_option maxRecDepth 100000 in
set_option maxHeartbeats 1600000 in
theorem cbAll_any (a s l n m : Nat) (F : Nat → Prop) (Bo cnt : Nat) (w : World) (ha : w.heap[a]? = some (.cells #[.pointer (some ⟨l, 0, none⟩), .map (some s)] 219 (0, 0))) (hs : MapN w s n m) (hFs : F s) (h : OutS F Bo cnt w w) (hF : ∀ k, F k → k < w.heap.size) (hB : ¬ F Bo) (hn : cnt + m < 1000000) :
    Calls Tryz.prog 184 #[.pointer (some ⟨a, 0, none⟩), .func (.func 64) #[] #[.pointer (some ⟨Bo, 0, none⟩)]] w (CbC F Bo cnt m w) := by
  obtain ⟨kv, hkv, hlen, hint⟩ := hs.entries
  have HKV := Lib.hid (And.intro hlen hint)
  have hm : kv.length ≤ m := by omega
  have c1 := (cell_row (j := 1) ha).trans (show _ = some (Value.map (some s)) from rfl)
  have H := Lib.hid h
  clear hlen hint ha h
  go_enter Tryz.func184, Tryz.ntmps184
  go_wp2_with (at_range; refine wpList_rangeE _ rfl _ 217 rfl 3 9 Tryz.underlying217 s kv rfl hkv ?_; intro w0 hit hb0 hz0)
  go_frame
  have HB0 := Lib.hid (And.intro hb0 hz0)
  have hz1 : w.heap.size < w0.heap.size := by omega
  clear hb0 hz0
  have HINV := Lib.hid (show ∀ p ∈ kv, ∃ (x : Int) (y : Value), p = (Value.int .i64 x, y) from fun p hp => by
    obtain ⟨x, hx⟩ := HKV.out.2 p hp
    exact ⟨x, p.2, by rw [← hx]⟩)
  have hrF : ¬ F w.heap.size := fun e => by have := hF _ e; omega
  have hBo := H.out.lt
  go_loopw [4] (fun _ wr => ∃ (left : List (Value × Value)), IterE wr s w.heap.size kv left ∧ left.length ≤ kv.length ∧ OutS (fun k => F k ∨ k = w.heap.size) Bo (cnt + (kv.length - left.length)) wr wr ∧ Only (fun k => ¬ F k ∧ Bo ≤ k) w wr) (fun _ wr => wr.rangeLeft s w.heap.size)
  case atStart =>
    refine ⟨kv, hit, Nat.le_refl _, ?_, Only.of HB0.out.1⟩
    rw [Nat.sub_self, Nat.add_zero]
    exact H.out.more HB0.out.1 (Nat.le_refl _)
  case round =>
    obtain ⟨left, hitr, hll, hout, honw⟩ := hrel
    have HO := Lib.hid (And.intro hout honw); clear hout honw
    have HI := Lib.hid hitr
    go_wp2_with (at_next; refine wpList_nextKV _ (Value.int .i64) (fun v : Value => v) rfl _ rfl s w.heap.size kv left HINV.out rfl hitr ?_ ?_)
    · intro hl0
      have HL := Lib.hid hl0; clear hl0
      go_wp2
      go_end0
      refine ⟨rfl, ?_⟩
      have ho := HO.out.1
      rw [HL.out, List.length_nil, Nat.sub_zero, HKV.out.1] at ho
      exact ho.less HO.out.2
    · intro x v left' w1 hperm hit1 hon1 hz1' hen
      have hlen := hperm.length_eq
      rw [List.length_cons] at hlen
      have HP := Lib.hid (And.intro hperm (And.intro hit1 (And.intro hon1 (And.intro hz1' hlen))))
      have hzw := HO.out.2.size
      have hz2 : w.heap.size ≤ w1.heap.size := by omega
      have hcb := cb64_any x (fun k => F k ∨ k = w.heap.size) Bo (cnt + (kv.length - left.length)) w1 (HO.out.1.turn hon1 (by omega)) (fun k hk => by
        rcases hk with hk | rfl
        · have := hF k hk; omega
        · have := hit1.lt; omega) (by rintro (e | e); exact hB e; omega) (by omega)
      have hl2 : left'.length ≤ kv.length := by omega
      clear hperm hit1 hon1 hz1' hlen
      go_wp2_with fail
      refine hcb.mono ?_
      rintro e w2 ⟨rfl, hout2⟩
      have HO2 := Lib.hid hout2
      clear hcb hout2
      go_wp2
      go_roundw
      case rel =>
        obtain ⟨p1, p2, p3, p4, p5⟩ := HP.out
        have hz3 := HO2.out.size
        refine ⟨left', p2.keep (HO2.out.kept (fun k hk => ?_) (.inl hFs)) (HO2.out.kept (fun k hk => ?_) (.inr rfl)), hl2, ?_, ?_⟩
        · rcases hk with hk | rfl
          · have := hF k hk; omega
          · have := p2.lt; omega
        · rcases hk with hk | rfl
          · have := hF k hk; omega
          · have := p2.lt; omega
        · have := HO2.out.start
          rw [show cnt + (kv.length - left'.length) = cnt + (kv.length - left.length) + 1 by omega]
          exact this
        · have q1 := HO.out.2.trans (p3.mono (F' := fun k => ¬ F k ∧ Bo ≤ k) fun k hk => by subst hk; exact ⟨hrF, by omega⟩) fun k hk => .inl hk
          exact q1.trans HO2.out.2 fun k hk => .inl ⟨fun e => hk.1 (.inl e), hk.2⟩
      case measure =>
        obtain ⟨p1, p2, p3, p4, p5⟩ := HP.out
        rw [(p2.keep (HO2.out.kept (fun k hk => by
          rcases hk with hk | rfl
          · have := hF k hk; omega
          · have := p2.lt; omega) (.inl hFs)) (HO2.out.kept (fun k hk => by
          rcases hk with hk | rfl
          · have := hF k hk; omega
          · have := p2.lt; omega) (.inr rfl))).left_eq, HI.out.left_eq]
        omega
end Go.Proofs.YtehlmjecbljafaaGreatDoor
namespace Go.Proofs.YtehlmjecbljafaaGreatDoor
open Go Go.RowKit
open Classical in
/-- How many entries match tokens below a path. -/
noncomputable def numT (T : Trie) : Path → Path → Nat
  | _, [] => 0
  | p, t :: r => (if T.N (p ++ [[62]]) then T.V (p ++ [[62]]) else 0) + (if T.N (p ++ [[42]]) then (if r = [] then T.V (p ++ [[42]]) else numT T (p ++ [[42]]) r) else 0) + (if T.N (p ++ [t]) then (if r = [] then T.V (p ++ [t]) else numT T (p ++ [t]) r) else 0)
open Classical in
/-- Where the search stands behind k tokens. -/
structure NumSt (T : Trie) (p P : Path) (k acc : Nat) : Prop where
  mid : k < P.length → numT T p P = acc + (if T.N (p ++ P.take k) then numT T (p ++ P.take k) (P.drop k) else 0)
  fin : ∀ j, k = j + 1 → k = P.length → numT T p P = acc + (if T.N (p ++ P.take k) then T.V (p ++ P.take k) else 0) + (if T.N (p ++ P.take j ++ [[42]]) then T.V (p ++ P.take j ++ [[42]]) else 0)
theorem NumSt.start {T : Trie} {p P : Path} (hp : T.N p) : NumSt T p P 0 0 := ⟨fun _ => by simp [hp], fun j h => by omega⟩
open Classical in
theorem NumSt.step {T : Trie} {p P : Path} {k acc : Nat} {t : List UInt8} (h : NumSt T p P k acc) (ht : P[k]? = some t) (hN : T.N (p ++ P.take k)) :
    NumSt T p P (k + 1) (acc + (if T.N (p ++ P.take k ++ [[62]]) then T.V (p ++ P.take k ++ [[62]]) else 0) + (if T.N (p ++ P.take k ++ [[42]]) then numT T (p ++ P.take k ++ [[42]]) (P.drop (k + 1)) else 0)) := by
  have hk := (List.getElem?_eq_some_iff.1 ht).1
  have e1 : P.drop k = t :: P.drop (k + 1) := by rw [List.drop_eq_getElem_cons hk, (List.getElem?_eq_some_iff.1 ht).2]
  have e2 : p ++ P.take (k + 1) = p ++ P.take k ++ [t] := by rw [List.take_add_one, ht, List.append_assoc]; rfl
  have hm := h.mid hk
  rw [if_pos hN, e1, numT] at hm
  refine ⟨fun hlt => ?_, fun j hj hl => ?_⟩
  · have hr : P.drop (k + 1) ≠ [] := fun e => by have := congrArg List.length e; simp at this; omega
    rw [hm, if_neg hr, if_neg hr, e2]
    omega
  · obtain rfl : j = k := by omega
    have hr : P.drop (j + 1) = [] := List.drop_of_length_le (by omega)
    rw [hm, if_pos hr, if_pos hr, e2, hr, numT]
    split <;> split <;> split <;> omega
theorem NumSt.stop {T : Trie} {p P : Path} {k acc : Nat} (h : NumSt T p P k acc) (hk : k < P.length) (hN : ¬ T.N (p ++ P.take k)) : numT T p P = acc := by
  have := h.mid hk
  rw [if_neg hN] at this; omega
theorem NumSt.le {T : Trie} {p P : Path} {k acc : Nat} (h : NumSt T p P k acc) (hk : k < P.length ∨ (k = P.length ∧ 0 < k)) : acc ≤ numT T p P := by
  rcases hk with hk | ⟨hk, h0⟩
  · have := h.mid hk; omega
  · obtain ⟨j, rfl⟩ : ∃ j, k = j + 1 := ⟨k - 1, by omega⟩
    have := h.fin j rfl hk; omega
end Go.Proofs.YtehlmjecbljafaaGreatDoor
