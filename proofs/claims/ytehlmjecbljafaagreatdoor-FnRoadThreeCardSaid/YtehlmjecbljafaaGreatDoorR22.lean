/- The tree's filters: cut into parts, all in one block. -/
import Derived.Test.YtehlmjecbljafaaGreatDoorR21
namespace Go.Proofs.YtehlmjecbljafaaGreatDoor
open Go Go.RowKit
/-- A value that reads as a piece of block b. -/
def PcF (w : World) (b : Nat) (u : Value) (p : List UInt8) : Prop := ∃ o c, u = .slice (some ⟨b, o, none⟩) p.length c ∧ p.length ≤ c ∧ c ≤ maxLen ∧ BsAt w b o p
theorem PcF.sl {w : World} {b : Nat} {u : Value} {p : List UInt8} (h : PcF w b u p) : Sl w 1 u p.length (u8s p) := by
 obtain ⟨o, c, rfl, h1, h2, h3⟩ := h
 exact h3.sl rfl h1 h2
theorem PcF.keep {w w' : World} {b : Nat} {u : Value} {p : List UInt8} (h : PcF w b u p) (hb : w'.heap[b]? = w.heap[b]?) : PcF w' b u p := by
 obtain ⟨o, c, rfl, h1, h2, h3⟩ := h
 exact ⟨o, c, rfl, h1, h2, fun j c hj => (World.cell?_of_block hb).trans (h3 j c hj)⟩
/-- Values that read as pieces of one block. -/
def PartsF (w : World) (b : Nat) (us : List Value) (ps : List (List UInt8)) : Prop := us.length = ps.length ∧ ∀ (j : Nat) (u : Value) (p : List UInt8), us[j]? = some u → ps[j]? = some p → PcF w b u p
theorem PartsF.nil (w : World) (b : Nat) : PartsF w b [] [] := ⟨rfl, fun j u p h => by simp at h⟩
theorem PartsF.snoc {w : World} {b : Nat} {us : List Value} {ps : List (List UInt8)} (h : PartsF w b us ps) {u : Value} {p : List UInt8} (hu : PcF w b u p) : PartsF w b (us ++ [u]) (ps ++ [p]) := by
 refine ⟨by simp [h.1], fun j x q hx hq => ?_⟩
 rcases Nat.lt_or_ge j us.length with hj | hj
 ·rw [List.getElem?_append_left hj] at hx
  rw [List.getElem?_append_left (by rw [← h.1]; exact hj)] at hq
  exact h.2 j x q hx hq
 ·rw [List.getElem?_append_right hj] at hx
  rw [List.getElem?_append_right (by rw [← h.1]; exact hj), ← h.1] at hq
  have hz : j - us.length = 0 := by
   have := (List.getElem?_eq_some_iff.1 hx).1
   simp at this; omega
  rw [hz] at hx hq
  simp at hx hq
  subst hx hq; exact hu
theorem PartsF.keep {w w' : World} {b : Nat} {us : List Value} {ps : List (List UInt8)} (h : PartsF w b us ps) (hb : w'.heap[b]? = w.heap[b]?) : PartsF w' b us ps := ⟨h.1, fun j u p h1 h2 => (h.2 j u p h1 h2).keep hb⟩
theorem PartsF.at' {w : World} {b : Nat} {us : List Value} {ps : List (List UInt8)} (h : PartsF w b us ps) {k : Nat} (hk : k < ps.length) : ∃ u p, us[k]? = some u ∧ ps[k]? = some p ∧ PcF w b u p := by
 have hk' : k < us.length := by rw [h.1]; exact hk
 exact ⟨us[k], ps[k], List.getElem?_eq_getElem hk', List.getElem?_eq_getElem hk, h.2 k _ _ (List.getElem?_eq_getElem hk') (List.getElem?_eq_getElem hk)⟩
/-- Where the cutting stands at place i; st: where the run began. -/
structure CutF (w0 : World) (b : Nat) (f : List UInt8) (i st : Nat) (us : List Value) : Prop where
 le : st ≤ i ∧ i ≤ f.length
 cut : ∃ ps, PartsF w0 b us ps ∧ ps ++ gB ((f.take i).drop st) (f.drop i) = gB [] f
 wild : ∀ c, f[i]? = some c → c = 42 ∨ c = 62 → st = i
 head : st < f.length → f[st]? ≠ some 46
theorem cutF_start (w0 : World) (b : Nat) {f : List UInt8} (h : WildB f) : CutF w0 b f 0 0 [] :=
 ⟨⟨Nat.le_refl _, Nat.zero_le _⟩, ⟨[], PartsF.nil _ _, by simp⟩, fun _ _ _ => rfl, fun _ => h.first⟩
/-- A plain byte. -/
theorem CutF.plain {w0 : World} {b : Nat} {f : List UInt8} {i st : Nat} {us : List Value} (h : CutF w0 b f i st us) (hW : WildB f) {c : UInt8} (hc : f[i]? = some c) (h46 : c ≠ 46) (h42 : c ≠ 42) (h62 : c ≠ 62) : CutF w0 b f (i + 1) st us := by
 have hi := (List.getElem?_eq_some_iff.1 hc).1
 obtain ⟨ps, h1, h2⟩ := h.cut
 refine ⟨⟨by have := h.le.1; omega, hi⟩, ⟨ps, h1, ?_⟩, fun d hd hw => ?_, h.head⟩
 ·rw [drop_cons hc, gB, if_neg (fun h => h46 h.1), if_neg (fun h => h46 h.1), if_neg h42, if_neg h62] at h2
  rw [take_snoc hc h.le.1]; exact h2
 ·rcases (hW.alone (i + 1) d hd hw).1 with h3 | h3
  ·omega
  ·rw [Nat.add_sub_cancel, hc] at h3; exact absurd (Option.some.inj h3) h46
/-- A point ahead of a plain byte. -/
theorem CutF.dot {w0 : World} {b : Nat} {f : List UInt8} {i st : Nat} {us : List Value} (h : CutF w0 b f i st us) {d : UInt8} (hc : f[i]? = some 46) (hd : f[i + 1]? = some d) (h42 : d ≠ 42) (h62 : d ≠ 62) : CutF w0 b f (i + 1) st us := by
 have hi := (List.getElem?_eq_some_iff.1 hc).1
 obtain ⟨ps, h1, h2⟩ := h.cut
 refine ⟨⟨by have := h.le.1; omega, hi⟩, ⟨ps, h1, ?_⟩, fun e he hw => ?_, h.head⟩
 ·have hh : (f.drop (i + 1)).head? = some d := by rw [drop_cons hd]; rfl
  rw [drop_cons hc, gB, hh, if_neg (fun h => h42 (Option.some.inj h.2)), if_neg (fun h => h62 (Option.some.inj h.2)), if_neg (by decide), if_neg (by decide)] at h2
  rw [take_snoc hc h.le.1]; exact h2
 ·rw [hd] at he; cases he; rcases hw with e | e
  ·exact absurd e h42
  ·exact absurd e h62
theorem run_partF {w0 : World} {b o cap : Nat} {f : List UInt8} (hf : BsAt w0 b o f) (hcap : f.length ≤ cap) (hm : cap ≤ maxLen) {i st n c : Nat} {p : List UInt8} (hs : st ≤ i) (hi : i ≤ f.length) (hp : p = (f.take i).drop st) (hn : n = i - st) (hc : c = cap - st) :
  PcF w0 b (.slice (some ⟨b, o + st, none⟩) n c) p := by
 have hl : p.length = n := by rw [hp, List.length_drop, List.length_take]; omega
 refine ⟨o + st, c, by rw [hl], by omega, by omega, ?_⟩
 have := hf.sub st i
 rw [← hp] at this; exact this
/-- A point ahead of a star. -/
theorem CutF.star {w0 : World} {b : Nat} {f : List UInt8} {i st : Nat} {us : List Value} (h : CutF w0 b f i st us) (hW : WildB f) (hc : f[i]? = some 46) (hd : f[i + 1]? = some 42) {u v : Value}
  (hu : PcF w0 b u ((f.take (i + 1)).drop st)) (hv : PcF w0 b v [42]) :
  (f.length = i + 2 → CutF w0 b f (i + 2) (i + 2) (us ++ [u] ++ [v])) ∧ (f.length ≠ i + 2 → CutF w0 b f (i + 3) (i + 3) (us ++ [u] ++ [v])) := by
 have hi := (List.getElem?_eq_some_iff.1 hd).1
 obtain ⟨ps, h1, h2⟩ := h.cut
 have hh : (f.drop (i + 1)).head? = some 42 := by rw [drop_cons hd]; rfl
 rw [drop_cons hc, gB, hh, if_pos ⟨rfl, rfl⟩, ← take_snoc hc h.le.1] at h2
 have hP := (h1.snoc hu).snoc (p := [42]) hv
 have h2' : ∀ x, x = f.drop (i + 3) → (ps ++ [(f.take (i + 1)).drop st] ++ [[42]]) ++ gB [] x = gB [] f := by
  intro x hx
  rw [← h2, hx, List.drop_drop, show i + 1 + 2 = i + 3 by omega]; simp
 refine ⟨fun hl => ⟨⟨Nat.le_refl _, by omega⟩, ⟨_, hP, ?_⟩, fun _ _ _ => rfl, fun h => by omega⟩, fun hl => ⟨⟨Nat.le_refl _, ?_⟩, ⟨_, hP, ?_⟩, fun _ _ _ => rfl, fun h => ?_⟩⟩
 ·rw [take_drop_self, h2' _ (by rw [List.drop_of_length_le (by omega), List.drop_of_length_le (by omega)])]
 ·omega
 ·rw [take_drop_self, h2' _ rfl]
 ·rcases (hW.alone (i + 1) 42 hd (.inl rfl)).2 with h3 | h3
  ·omega
  ·obtain ⟨c, hc1, hc2⟩ := hW.dot (i + 2) h3
   rw [hc1]; intro e; exact hc2 (Option.some.inj e)
theorem CutF.rest {w0 : World} {b : Nat} {f : List UInt8} {i st : Nat} {us : List Value} (h : CutF w0 b f i st us) (hW : WildB f) (hc : f[i]? = some 46) (hd : f[i + 1]? = some 62) {u v : Value}
  (hu : PcF w0 b u ((f.take (i + 1)).drop st)) (hv : PcF w0 b v [62]) : CutF w0 b f (i + 2) (i + 2) (us ++ [u] ++ [v]) := by
 have hi := hW.last (i + 1) hd
 obtain ⟨ps, h1, h2⟩ := h.cut
 have hh : (f.drop (i + 1)).head? = some 62 := by rw [drop_cons hd]; rfl
 rw [drop_cons hc, gB, hh, if_neg (by rintro ⟨-, h⟩; simp at h), if_pos ⟨rfl, rfl⟩, ← take_snoc hc h.le.1] at h2
 have hP := (h1.snoc hu).snoc (p := [62]) hv
 refine ⟨⟨Nat.le_refl _, by omega⟩, ⟨_, hP, ?_⟩, fun _ _ _ => rfl, fun h => by omega⟩
 rw [take_drop_self, show f.drop (i + 2) = [] from List.drop_of_length_le (by omega), ← h2]
 simp [gB]
/-- A star at a run's beginning. -/
theorem CutF.star0 {w0 : World} {b : Nat} {f : List UInt8} {i : Nat} {us : List Value} (h : CutF w0 b f i i us) (hW : WildB f) (hc : f[i]? = some 42) {v : Value} (hv : PcF w0 b v [42]) :
  (f.length = i + 1 → CutF w0 b f (i + 1) (i + 1) (us ++ [v])) ∧ (f.length ≠ i + 1 → CutF w0 b f (i + 2) (i + 2) (us ++ [v])) := by
 have hi := (List.getElem?_eq_some_iff.1 hc).1
 obtain ⟨ps, h1, h2⟩ := h.cut
 rw [drop_cons hc, take_drop_self, gB, if_neg (by simp), if_neg (by simp), if_pos rfl] at h2
 have hP := h1.snoc (p := [42]) hv
 have h2' : ∀ x, x = f.drop (i + 2) → (ps ++ [[42]]) ++ gB [] x = gB [] f := by
  intro x hx
  rw [← h2, hx, List.drop_drop]; simp
 refine ⟨fun hl => ⟨⟨Nat.le_refl _, by omega⟩, ⟨_, hP, ?_⟩, fun _ _ _ => rfl, fun h => by omega⟩, fun hl => ?_⟩
 ·rw [take_drop_self, h2' _ (by rw [List.drop_of_length_le (by omega), List.drop_of_length_le (by omega)])]
 ·rcases (hW.alone i 42 hc (.inl rfl)).2 with h3 | h3
  ·omega
  ·obtain ⟨c, hc1, hc2⟩ := hW.dot (i + 1) h3
   have := (List.getElem?_eq_some_iff.1 hc1).1
   refine ⟨⟨Nat.le_refl _, by omega⟩, ⟨_, hP, by rw [take_drop_self, h2' _ rfl]⟩, fun _ _ _ => rfl, fun h => ?_⟩
   rw [hc1]; intro e; exact hc2 (Option.some.inj e)
theorem CutF.rest0 {w0 : World} {b : Nat} {f : List UInt8} {i : Nat} {us : List Value} (h : CutF w0 b f i i us) (hW : WildB f) (hc : f[i]? = some 62) {v : Value} (hv : PcF w0 b v [62]) : CutF w0 b f (i + 1) (i + 1) (us ++ [v]) := by
 have hi := hW.last i hc
 obtain ⟨ps, h1, h2⟩ := h.cut
 rw [drop_cons hc, take_drop_self, gB, if_neg (by simp), if_neg (by simp), if_neg (by simp), if_pos rfl] at h2
 have hP := h1.snoc (p := [62]) hv
 refine ⟨⟨Nat.le_refl _, by omega⟩, ⟨_, hP, ?_⟩, fun _ _ _ => rfl, fun h => by omega⟩
 rw [take_drop_self, show f.drop (i + 1) = [] from List.drop_of_length_le (by omega), ← h2]
 simp [gB]
/-- The end. -/
theorem CutF.done {w0 : World} {b : Nat} {f : List UInt8} {st : Nat} {us : List Value} (h : CutF w0 b f f.length st us) : (st = f.length → PartsF w0 b us (gB [] f)) ∧ (st < f.length → ∀ u, PcF w0 b u ((f.take f.length).drop st) → PartsF w0 b (us ++ [u]) (gB [] f)) := by
 obtain ⟨ps, h1, h2⟩ := h.cut
 rw [List.drop_length, gB] at h2
 refine ⟨fun e => ?_, fun e u hu => ?_⟩
 ·rw [if_pos (by rw [e]; exact take_drop_self _ _), List.append_nil] at h2
  rw [← h2]; exact h1
 ·rw [if_neg (by
   intro e2
   have := congrArg List.length e2
   rw [List.length_drop, List.length_take, List.length_nil] at this
   omega)] at h2
  rw [← h2]; exact h1.snoc hu
set_option maxRecDepth 100000 in
set_option maxHeartbeats 6400000 in
theorem genPartsF_any (b o cap : Nat) (f : List UInt8) (v : Value) (B : Nat) (w : World) (hW : WildB f) (hf : BsAt w b o f) (hcap : f.length ≤ cap) (hm : cap ≤ maxLen) (hown : Own w B 1 v 0 []) (hbB : b < B) (hB : B ≤ w.heap.size) (hn : f.length ≤ 100000) :
  Calls Tryz.prog 91 #[.slice (some ⟨b, o, none⟩) f.length cap, v] w fun e w' => ∃ u, e = .returned u ∧ ∃ us, Own w' B 1 u us.length us ∧ PartsF w b us (gB [] f) ∧ Below B w w' := by
 obtain ⟨va, vc, rfl, -⟩ := hown.form
 have HW := Lib.hid hW; clear hW
 have HF := Lib.hid hf; clear hf
 go_enter Tryz.func91, Tryz.ntmps91
 go_wp2
 go_loopw [1, 5, 6] (fun v s i wr => ∃ (k st : Nat) (us : List Value), s = .int .i64 st ∧ i = .int .i64 k ∧ Own wr B 1 v us.length us ∧ us.length ≤ 2 * k ∧ CutF w b f k st us ∧ Below B w wr) (fun _ _ i _ => f.length - (intOf i).toNat)
 case atStart => exact ⟨0, 0, [], rfl, rfl, hown, Nat.le_refl _, cutF_start w b HW.out, Below.refl _ _⟩
 case round =>
  obtain ⟨k, st, us, rfl, rfl, hown, hul, hc, hb⟩ := hrel
  obtain ⟨va, vc, rfl, -⟩ := hown.form
  have HC := Lib.hid hc
  obtain ⟨hst, hk⟩ := hc.le
  by_cases hlt : k < f.length
  ·obtain ⟨c, hcc⟩ : ∃ c, f[k]? = some c := ⟨_, List.getElem?_eq_getElem hlt⟩
   have hf' : BsAt wr b o f := fun j c hj => (World.cell?_of_block (hb.block b hbB)).trans (HF.out j c hj)
   have c0 := hf' k c hcc
   have hbw := World.block_lt_of_cell? _ _ c0
   have HX := Lib.hid hf'; clear hf' hc
   by_cases h46 : c = 46
   ·subst h46
    obtain ⟨d, hd, hd46⟩ := HW.out.dot k hcc
    have hi1 := (List.getElem?_eq_some_iff.1 hd).1
    have hslt : st < k := by
     rcases Nat.lt_or_ge st k with h | h
     ·exact h
     ·obtain rfl : st = k := by omega
      exact absurd hcc (HC.out.head hlt)
    have c1 := HX.out (k + 1) d hd
    have hsz := hb.size
    by_cases h42 : d = 42
    ·subst h42
     have hu := run_partF HF.out hcap hm (i := k + 1) (st := st) (p := (f.take (k + 1)).drop st) (by omega) (by omega) rfl rfl rfl
     have hv := run_partF HF.out hcap hm (i := k + 2) (st := k + 1) (n := 1) (p := [42]) (by omega) (by omega) (by rw [take_snoc hd (Nat.le_refl _), take_drop_self]; rfl) (by omega) rfl
     have hstar := HC.out.star HW.out hcc hd hu hv
     have HS := Lib.hid hstar; clear hstar hu hv
     have hBw : B ≤ wr.heap.size := Nat.le_trans hB hsz
     have hr1 : k + 2 < f.length → k + 3 < f.length := fun h => by
      rcases (HW.out.alone (k + 1) 42 hd (.inl rfl)).2 with h3 | h3
      ·omega
      ·obtain ⟨c, hc1, -⟩ := HW.out.dot (k + 2) h3
       exact (List.getElem?_eq_some_iff.1 hc1).1
     have hr2 : k + 2 < f.length → wr.cell? ⟨b, o + (k + 2), none⟩ = some (.int .u8 46) := fun h => by
      rcases (HW.out.alone (k + 1) 42 hd (.inl rfl)).2 with h3 | h3
      ·omega
      ·exact HX.out (k + 2) 46 h3
     by_cases hl : k + 2 < f.length
     ·have hl3 := hr1 hl
      have c2 := hr2 hl
      clear hr1 hr2 HX
      go_wp2_with (at_builtin; first
       | (refine wpList_app1 et141 rfl _ _ rfl B rfl hown [_] rfl rfl (by simp [Value.oneCell']) (by omega) hBw ?_; intro v1 w1 hown1 hgrow1; have hb1 := bel_app hb hgrow1 hown hBw; have hB1 : B ≤ w1.heap.size := Nat.le_trans hBw hgrow1.size; obtain ⟨va1, vc1, rfl, -⟩ := hown1.form; clear hown)
       | (go_must (refine wpList_app1 et141 rfl _ _ rfl B rfl hown1 [_] rfl rfl (by simp [Value.oneCell']) (by omega) hB1 ?_); intro v2 w2 hown2 hgrow2; have hb2 := bel_app hb1 hgrow2 hown1 hB1; clear hown1))
      go_roundw
      case rel => exact ⟨k + 3, k + 3, _, by go_num, by go_num, hown2.cast (by simp), by simp; omega, HS.out.2 (by omega), hb2⟩
      case measure => simp [intOf]; omega
     ·clear hr1 hr2 HX
      go_wp2_with (at_builtin; first
       | (refine wpList_app1 et141 rfl _ _ rfl B rfl hown [_] rfl rfl (by simp [Value.oneCell']) (by omega) hBw ?_; intro v1 w1 hown1 hgrow1; have hb1 := bel_app hb hgrow1 hown hBw; have hB1 : B ≤ w1.heap.size := Nat.le_trans hBw hgrow1.size; obtain ⟨va1, vc1, rfl, -⟩ := hown1.form; clear hown)
       | (go_must (refine wpList_app1 et141 rfl _ _ rfl B rfl hown1 [_] rfl rfl (by simp [Value.oneCell']) (by omega) hB1 ?_); intro v2 w2 hown2 hgrow2; have hb2 := bel_app hb1 hgrow2 hown1 hB1; clear hown1))
      go_roundw
      case rel => exact ⟨k + 2, k + 2, _, by go_num, by go_num, hown2.cast (by simp), by simp; omega, HS.out.1 (by omega), hb2⟩
      case measure => simp [intOf]; omega
    ·by_cases h62 : d = 62
     ·subst h62
      have hu := run_partF HF.out hcap hm (i := k + 1) (st := st) (p := (f.take (k + 1)).drop st) (by omega) (by omega) rfl rfl rfl
      have hv := run_partF HF.out hcap hm (i := k + 2) (st := k + 1) (n := 1) (p := [62]) (by omega) (by omega) (by rw [take_snoc hd (Nat.le_refl _), take_drop_self]; rfl) (by omega) rfl
      have hrest := HC.out.rest HW.out hcc hd hu hv
      have HS := Lib.hid hrest; clear hrest hu hv
      have hBw : B ≤ wr.heap.size := Nat.le_trans hB hsz
      have hl2 : f.length ≤ k + 2 := by have := HW.out.last (k + 1) hd; omega
      clear HX
      go_wp2_with (at_builtin; first
       | (refine wpList_app1 et141 rfl _ _ rfl B rfl hown [_] rfl rfl (by simp [Value.oneCell']) (by omega) hBw ?_; intro v1 w1 hown1 hgrow1; have hb1 := bel_app hb hgrow1 hown hBw; have hB1 : B ≤ w1.heap.size := Nat.le_trans hBw hgrow1.size; obtain ⟨va1, vc1, rfl, -⟩ := hown1.form; clear hown)
       | (go_must (refine wpList_app1 et141 rfl _ _ rfl B rfl hown1 [_] rfl rfl (by simp [Value.oneCell']) (by omega) hB1 ?_); intro v2 w2 hown2 hgrow2; have hb2 := bel_app hb1 hgrow2 hown1 hB1; clear hown1))
      go_roundw
      case rel => exact ⟨k + 2, k + 2, _, by go_num, by go_num, hown2.cast (by simp), by simp; omega, HS.out, hb2⟩
      case measure => simp [intOf]; omega
     ·have hdot := HC.out.dot hcc hd h42 h62
      have HS := Lib.hid hdot; clear hdot
      have e42 : ((d.toNat : Int) == 42) = false := by
       rw [beq_eq_false_iff_ne]; intro e; exact h42 (UInt8.toNat_inj.1 (show d.toNat = 42 by omega))
      have e62 : ((d.toNat : Int) == 62) = false := by
       rw [beq_eq_false_iff_ne]; intro e; exact h62 (UInt8.toNat_inj.1 (show d.toNat = 62 by omega))
      clear HX h42 h62 hd46
      go_wp2
      go_roundw
      case rel => exact ⟨k + 1, st, us, rfl, by go_num, hown, by omega, HS.out, hb⟩
      case measure => simp [intOf]; omega
   ·by_cases h42 : c = 42
    ·subst h42
     obtain rfl : st = k := HC.out.wild 42 hcc (.inl rfl)
     have hsz := hb.size
     have hBw : B ≤ wr.heap.size := Nat.le_trans hB hsz
     have hv := run_partF HF.out hcap hm (i := st + 1) (st := st) (n := 1) (p := [42]) (by omega) (by omega) (by rw [take_snoc hcc (Nat.le_refl _), take_drop_self]; rfl) (by omega) rfl
     have hstar := HC.out.star0 HW.out hcc hv
     have HS := Lib.hid hstar; clear hstar hv
     have hal := HW.out.alone st 42 hcc (.inl rfl)
     have hp : st < 1 ∨ (0 < st ∧ wr.cell? ⟨b, o + (st - 1), none⟩ = some (.int .u8 46)) := by
      rcases hal.1 with h | h
      ·exact .inl (by omega)
      ·rcases Nat.eq_zero_or_pos st with h0 | h0
       ·exact .inl (by omega)
       ·exact .inr ⟨h0, HX.out (st - 1) 46 h⟩
     have hq : f.length ≤ st + 1 ∨ (st + 2 < f.length ∧ wr.cell? ⟨b, o + (st + 1), none⟩ = some (.int .u8 46)) := by
      rcases hal.2 with h | h
      ·exact .inl (by omega)
      ·obtain ⟨x, hx, -⟩ := HW.out.dot (st + 1) h
       exact .inr ⟨(List.getElem?_eq_some_iff.1 hx).1, HX.out (st + 1) 46 h⟩
     clear hal HX h46
     rcases hq with hq | ⟨hq, c1⟩
     ·rcases hp with hp | ⟨hp, cp⟩
      ·go_wp2_with (at_builtin; go_must (refine wpList_app1 et141 rfl _ _ rfl B rfl hown [_] rfl rfl (by simp [Value.oneCell']) (by omega) hBw ?_); intro v1 w1 hown1 hgrow1; have hb1 := bel_app hb hgrow1 hown hBw)
       go_roundw
       case rel => exact ⟨st + 1, st + 1, _, by go_num, by go_num, hown1.cast (by simp), by simp; omega, HS.out.1 (by omega), hb1⟩
       case measure => simp [intOf]; omega
      ·go_wp2_with (at_builtin; go_must (refine wpList_app1 et141 rfl _ _ rfl B rfl hown [_] rfl rfl (by simp [Value.oneCell']) (by omega) hBw ?_); intro v1 w1 hown1 hgrow1; have hb1 := bel_app hb hgrow1 hown hBw)
       go_roundw
       case rel => exact ⟨st + 1, st + 1, _, by go_num, by go_num, hown1.cast (by simp), by simp; omega, HS.out.1 (by omega), hb1⟩
       case measure => simp [intOf]; omega
     ·rcases hp with hp | ⟨hp, cp⟩
      ·go_wp2_with (at_builtin; go_must (refine wpList_app1 et141 rfl _ _ rfl B rfl hown [_] rfl rfl (by simp [Value.oneCell']) (by omega) hBw ?_); intro v1 w1 hown1 hgrow1; have hb1 := bel_app hb hgrow1 hown hBw)
       go_roundw
       case rel => exact ⟨st + 2, st + 2, _, by go_num, by go_num, hown1.cast (by simp), by simp; omega, HS.out.2 (by omega), hb1⟩
       case measure => simp [intOf]; omega
      ·go_wp2_with (at_builtin; go_must (refine wpList_app1 et141 rfl _ _ rfl B rfl hown [_] rfl rfl (by simp [Value.oneCell']) (by omega) hBw ?_); intro v1 w1 hown1 hgrow1; have hb1 := bel_app hb hgrow1 hown hBw)
       go_roundw
       case rel => exact ⟨st + 2, st + 2, _, by go_num, by go_num, hown1.cast (by simp), by simp; omega, HS.out.2 (by omega), hb1⟩
       case measure => simp [intOf]; omega
    ·by_cases h62 : c = 62
     ·subst h62
      obtain rfl : st = k := HC.out.wild 62 hcc (.inr rfl)
      have hsz := hb.size
      have hBw : B ≤ wr.heap.size := Nat.le_trans hB hsz
      have hv := run_partF HF.out hcap hm (i := st + 1) (st := st) (n := 1) (p := [62]) (by omega) (by omega) (by rw [take_snoc hcc (Nat.le_refl _), take_drop_self]; rfl) (by omega) rfl
      have hrest := HC.out.rest0 HW.out hcc hv
      have HS := Lib.hid hrest; clear hrest hv
      have hal := HW.out.alone st 62 hcc (.inr rfl)
      have hl2 : f.length ≤ st + 1 := by have := HW.out.last st hcc; omega
      have hp : st < 1 ∨ (0 < st ∧ wr.cell? ⟨b, o + (st - 1), none⟩ = some (.int .u8 46)) := by
       rcases hal.1 with h | h
       ·exact .inl (by omega)
       ·rcases Nat.eq_zero_or_pos st with h0 | h0
        ·exact .inl (by omega)
        ·exact .inr ⟨h0, HX.out (st - 1) 46 h⟩
      clear hal HX h46 h42
      rcases hp with hp | ⟨hp, cp⟩
      ·go_wp2_with (at_builtin; go_must (refine wpList_app1 et141 rfl _ _ rfl B rfl hown [_] rfl rfl (by simp [Value.oneCell']) (by omega) hBw ?_); intro v1 w1 hown1 hgrow1; have hb1 := bel_app hb hgrow1 hown hBw)
       go_roundw
       case rel => exact ⟨st + 1, st + 1, _, by go_num, by go_num, hown1.cast (by simp), by simp; omega, HS.out, hb1⟩
       case measure => simp [intOf]; omega
      ·go_wp2_with (at_builtin; go_must (refine wpList_app1 et141 rfl _ _ rfl B rfl hown [_] rfl rfl (by simp [Value.oneCell']) (by omega) hBw ?_); intro v1 w1 hown1 hgrow1; have hb1 := bel_app hb hgrow1 hown hBw)
       go_roundw
       case rel => exact ⟨st + 1, st + 1, _, by go_num, by go_num, hown1.cast (by simp), by simp; omega, HS.out, hb1⟩
       case measure => simp [intOf]; omega
     ·have hpl := HC.out.plain HW.out hcc h46 h42 h62
      have HS := Lib.hid hpl; clear hpl
      have e46 : ((c.toNat : Int) == 46) = false := by
       rw [beq_eq_false_iff_ne]; intro e; exact h46 (UInt8.toNat_inj.1 (show c.toNat = 46 by omega))
      have e42 : ((c.toNat : Int) == 42) = false := by
       rw [beq_eq_false_iff_ne]; intro e; exact h42 (UInt8.toNat_inj.1 (show c.toNat = 42 by omega))
      have e62 : ((c.toNat : Int) == 62) = false := by
       rw [beq_eq_false_iff_ne]; intro e; exact h62 (UInt8.toNat_inj.1 (show c.toNat = 62 by omega))
      clear HX h42 h62 h46
      go_wp2
      go_roundw
      case rel => exact ⟨k + 1, st, us, rfl, by go_num, hown, by omega, HS.out, hb⟩
      case measure => simp [intOf]; omega
  ·obtain rfl : k = f.length := by omega
   have hdn := hc.done
   clear hc
   by_cases hs : st < f.length
   ·have hu := run_partF HF.out hcap hm (i := f.length) (st := st) (p := (f.take f.length).drop st) (by omega) (by omega) rfl rfl rfl
    have hps := hdn.2 hs _ hu
    have HPs := Lib.hid hps; clear hps hdn hu
    have hh := HC.out.head hs
    obtain ⟨c, hc⟩ : ∃ c, f[st]? = some c := ⟨_, List.getElem?_eq_getElem hs⟩
    have e46 : ((c.toNat : Int) == 46) = false := by
     rw [beq_eq_false_iff_ne]; intro e; have h3 : c = 46 := UInt8.toNat_inj.1 (show c.toNat = 46 by omega); exact hh (by rw [hc, h3])
    have cs := (World.cell?_of_block (a := ⟨b, o + st, none⟩) (hb.block b hbB)).trans (HF.out st c hc)
    have hsz := hb.size
    have hBw : B ≤ wr.heap.size := Nat.le_trans hB hsz
    clear hh
    go_wp2_with (at_builtin; go_must (refine wpList_app1 et141 rfl _ _ rfl B rfl hown [_] rfl rfl (by simp [Value.oneCell']) (by omega) hBw ?_); intro v1 w1 hown1 hgrow1; have hb1 := bel_app hb hgrow1 hown hBw)
    go_ret
    exact ⟨_, rfl, _, hown1.cast (by simp), HPs.out, hb1⟩
   ·obtain rfl : st = f.length := by omega
    have hps := hdn.1 rfl
    go_wp2
    go_ret
    exact ⟨_, rfl, us, hown, hps, hb⟩
end Go.Proofs.YtehlmjecbljafaaGreatDoor
