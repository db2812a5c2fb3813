/- A mapping turned round: back. A mapping's own form: kinds, NewMapping, mapping. 'var x [n]T' by one law: a zero composite stored into its own new block. The server's own tokens and subset match. -/
import Derived.Test.YtehlmjecbljafaaGreatDoorM8
import Derived.Test.YtehlmjecbljafaaGreatDoorM9
import Derived.Deep.WholeRow
import Derived.Laws.Tables
namespace Go.Proofs.YtehlmjecbljafaaGreatDoor
open Go Go.RowKit
theorem et22 : ET Tryz.prog 22 70 5 64 (.agg #[.int .i64 0, .string ⟨#[]⟩, .int .i64 0, .int .i64 0, .slice none 0 0]) := ⟨Tryz.underlying22, by kernel_rfl, rfl, by decide, by decide⟩
/-- A part as a pattern's token. -/
def backP (p : Part) : List UInt8 := if p.kind = 0 then bs p.word else if p.kind = 11 then [62] else [42]
def backs (ps : List Part) : List (List UInt8) := ps.map backP
theorem backs_sum {wn : Nat} {ps : List Part} (h : ∀ p ∈ ps, PartOK wn p) (hl : ps.length ≤ 10) : sumL (backs ps) ≤ 137438953472 := by
  have key : ∀ l : List Part, (∀ p ∈ l, PartOK wn p) → sumL (backs l) ≤ l.length * 2147483648 := by
    intro l
    induction l with
    | nil => intro _; simp [backs, sumL]
    | cons x r ih =>
      intro hh
      have := ih fun p hp => hh p (List.mem_cons_of_mem _ hp)
      have : (backP x).length ≤ 2147483647 := by
        have hw := (hh x (by simp)).word
        unfold backP
        split
        · rw [bs_len]; exact hw
        · split <;> simp
      simp only [backs, sumL, List.map_cons, List.foldr_cons, List.length_cons] at *
      omega
  have := key ps h
  omega
theorem backs_step {ps : List Part} {ss : List ByteArray} {k : Nat} {p : Part} (h : ss.map bs = (backs ps).take k) (hp : ps[k]? = some p) : (ss ++ [mk (backP p)]).map bs = (backs ps).take (k + 1) := by
  rw [List.map_append, h, List.take_add_one]
  congr 1
  simp [backs, hp]
theorem wilds_take (l : List (List UInt8)) (k : Nat) : wildsN (l.take k) ≤ wildsN l := ((List.take_sublist k l).filter _).length_le
theorem IntRow.kb {w w' : World} {b n : Nat} (h : IntRow w b n) (hb : Below (b + 1) w w') : IntRow w' b n := by
  obtain ⟨us, h1, h2⟩ := h
  exact ⟨us, h1, by rw [hb.block b (by omega)]; exact h2⟩
set_option maxRecDepth 100000 in
set_option maxHeartbeats 1600000 in
theorem back_any (s : ByteArray) (v : Value) (ps : List Part) (w : World) (hs : s.size ≤ 137438953472) (hps : PartsAt w v ps) (hok : ∀ p ∈ ps, PartOK (wildsN ((toks s).map bs)) p) (hl : ps.length ≤ 10) :
    Calls Tryz.prog 14 #[.string s, v] w fun e w' => ∃ u, e = .returned (.tuple #[.string (mk (joinD (backs ps))), u]) ∧ Below w.heap.size w w' := by
  obtain ⟨a, cap, rfl⟩ := hps.1.form
  have HP := Lib.hid hps; clear hps
  have hl' := toks_len s
  have hsum := backs_sum hok hl
  have Hok := Lib.hid hok; clear hok
  have hwl := wildsN_le ((toks s).map bs)
  rw [List.length_map] at hwl
  obtain ⟨n, hnn⟩ : ∃ n, n = wildsN ((toks s).map bs) := ⟨_, rfl⟩
  rw [← hnn] at hwl
  have Hn := Lib.hid hnn; clear hnn
  have hmk := run_make_row' (P := Tryz.prog) 33 3 (.int .i64 0) 8 Tryz.underlying33 (by kernel_rfl) rfl .i64 .i64 (n + 1) (by omega) (by omega)
  rw [show ((n + 1 : Nat) : Int) = (n : Int) + 1 by omega] at hmk
  go_enter Tryz.func14, Tryz.ntmps14
  go_wp2_with fail
  refine (wilds_any s _ hs).mono ?_
  rw [← Hn.out]
  rintro e w1 ⟨rfl, hbel⟩
  go_wp2_with fail
  have hrow0 := IntRow.made w1 (n + 1)
  have hbw : Below w.heap.size w (w1.alloc (.cells (madeCells #[.int .i64 0] (n + 1)) 3)) := hbel.alloc hbel.size _
  have hbs := hbel.size
  generalize hW : w1.alloc (.cells (madeCells #[.int .i64 0] (n + 1)) 3) = W at *
  clear hW hbel
  generalize w1.heap.size = B at *
  have hB1 := hrow0.lt
  go_loopw [6, 8, 9] (fun y c i wr => ∃ (k : Nat) (q : Nat) (ss : List ByteArray), k ≤ ps.length ∧ q ≤ k ∧ i = .int .i64 k ∧ c = .int .i64 q ∧ Own wr (B + 1) 1 y ss.length (ss.map Value.string) ∧ Hid (ss.map bs = (backs ps).take k) ∧ IntRow wr B (n + 1) ∧ Below w.heap.size w wr) (fun _ _ i _ => ps.length - (intOf i).toNat)
  case atStart => exact ⟨0, 0, [], Nat.zero_le _, Nat.le_refl _, rfl, rfl, Own.nil _ _ _, rfl, hrow0, hbw⟩
  case round =>
    obtain ⟨k, q, ss, hk, hq, rfl, rfl, hown, HT, hrow, hb⟩ := hrel
    have hssl : ss.length ≤ 10 := by
      have := congrArg List.length HT.out
      simp [backs] at this; omega
    have hBr := hrow.lt
    by_cases hlt : k < ps.length
    · obtain ⟨b, o, p, rfl, Hp, c0, c1, c2, c3, c4, hpo⟩ := HP.out.at' hb hlt
      have HT2 := Lib.hid (backs_step HT.out Hp.out); clear hpo
      have hpk := Hok.out p (List.mem_of_getElem? Hp.out)
      obtain ⟨kind, word, n', m, aa, ca, ats⟩ := p
      obtain ⟨hk1, hn0, hn1, hw0, hw1⟩ := hpk
      simp only at *
      have Hw0 := Lib.hid hw0; clear hw0
      rcases hk1 with (rfl | rfl) | (rfl | rfl)
      · go_wp2_with (at_builtin; go_must (refine wpList_app1 et32 rfl _ _ rfl (B + 1) rfl hown [_] rfl rfl (by simp [Value.oneCell']) (by omega) hBr ?_); intro v' w2 hown3 hgrow)
        have hb5 : Below (B + 1) wr w2 := bel_app (Below.refl _ _) hgrow hown hBr
        go_roundw
        case rel => exact ⟨k + 1, q, ss ++ [mk (backP ⟨0, word, n', m, aa, ca, ats⟩)], hlt, by omega, by go_num, rfl, (by rw [show mk (backP ⟨0, word, n', m, aa, ca, ats⟩) = word from (by simp [backP, mk_bs])]; simpa using hown3), HT2.out, hrow.kb hb5, hb.trans (hb5.mono (by omega))⟩
        case measure => simp [intOf]; omega
      · go_wp2_with (at_builtin; go_must (refine wpList_app1 et32 rfl _ _ rfl (B + 1) rfl hown [_] rfl rfl (by simp [Value.oneCell']) (by omega) hBr ?_); intro v' w2 hown3 hgrow)
        have hb5 : Below (B + 1) wr w2 := bel_app (Below.refl _ _) hgrow hown hBr
        go_roundw
        case rel => exact ⟨k + 1, q, ss ++ [mk (backP ⟨11, word, n', m, aa, ca, ats⟩)], hlt, by omega, by go_num, rfl, (by rw [show mk (backP ⟨11, word, n', m, aa, ca, ats⟩) = (⟨#[62]⟩ : ByteArray) from (by simp [backP]; rfl)]; simpa using hown3), HT2.out, hrow.kb hb5, hb.trans (hb5.mono (by omega))⟩
        case measure => simp [intOf]; omega
      · obtain ⟨hr1, hr2⟩ := Hw0.out (by simp)
        rw [← Hn.out] at hr2
        obtain ⟨z, rfl⟩ := Int.eq_ofNat_of_zero_le (show 0 ≤ n' by omega)
        have hz : z < n + 1 := by omega
        obtain ⟨x, hx, hfx⟩ := hrow.cell hz
        have hown2 := hown.kept (w' := wr.setCell ⟨B, z, none⟩ (.int .i64 ((q : Int) + 1))) fun k' hk' => Below.heap_setCell wr ⟨B, z, none⟩ _ k' (by have := (hown.lt k' hk').1; show k' ≠ B; omega)
        have hrow2 := hrow.set (k := z) ((q : Int) + 1)
        have hsz2 : B + 1 ≤ (wr.setCell ⟨B, z, none⟩ (.int .i64 ((q : Int) + 1))).heap.size := by rw [size_setCell]; exact hBr
        have HS2 := Lib.hid (hb.setCell hbs (p := ⟨B, z, none⟩) (.int .i64 ((q : Int) + 1)))
        go_wp2_with (at_builtin; go_must (refine wpList_app1 et32 rfl _ _ rfl (B + 1) (by rfl) hown2 [_] (by rw [size_setCell]; rfl) rfl (by simp [Value.oneCell']) (by omega) hsz2 ?_); intro v' w2 hown3 hgrow)
        have hb5 := bel_app (Below.refl (B + 1) _) hgrow hown2 hsz2
        go_roundw
        case rel => exact ⟨k + 1, q + 1, ss ++ [mk (backP ⟨1, word, z, m, aa, ca, ats⟩)], hlt, by omega, by go_num, by go_num, (by rw [show mk (backP ⟨1, word, z, m, aa, ca, ats⟩) = (⟨#[42]⟩ : ByteArray) from (by simp [backP]; rfl)]; simpa using hown3), HT2.out, hrow2.kb hb5, HS2.out.trans (hb5.mono (by omega))⟩
        case measure => simp [intOf]; omega
      · obtain ⟨hr1, hr2⟩ := Hw0.out (by simp)
        rw [← Hn.out] at hr2
        obtain ⟨z, rfl⟩ := Int.eq_ofNat_of_zero_le (show 0 ≤ n' by omega)
        have hz : z < n + 1 := by omega
        obtain ⟨x, hx, hfx⟩ := hrow.cell hz
        have hown2 := hown.kept (w' := wr.setCell ⟨B, z, none⟩ (.int .i64 ((q : Int) + 1))) fun k' hk' => Below.heap_setCell wr ⟨B, z, none⟩ _ k' (by have := (hown.lt k' hk').1; show k' ≠ B; omega)
        have hrow2 := hrow.set (k := z) ((q : Int) + 1)
        have hsz2 : B + 1 ≤ (wr.setCell ⟨B, z, none⟩ (.int .i64 ((q : Int) + 1))).heap.size := by rw [size_setCell]; exact hBr
        have HS2 := Lib.hid (hb.setCell hbs (p := ⟨B, z, none⟩) (.int .i64 ((q : Int) + 1)))
        go_wp2_with (at_builtin; go_must (refine wpList_app1 et32 rfl _ _ rfl (B + 1) (by rfl) hown2 [_] (by rw [size_setCell]; rfl) rfl (by simp [Value.oneCell']) (by omega) hsz2 ?_); intro v' w2 hown3 hgrow)
        have hb5 := bel_app (Below.refl (B + 1) _) hgrow hown2 hsz2
        go_roundw
        case rel => exact ⟨k + 1, q + 1, ss ++ [mk (backP ⟨2, word, z, m, aa, ca, ats⟩)], hlt, by omega, by go_num, by go_num, (by rw [show mk (backP ⟨2, word, z, m, aa, ca, ats⟩) = (⟨#[42]⟩ : ByteArray) from (by simp [backP]; rfl)]; simpa using hown3), HT2.out, hrow2.kb hb5, HS2.out.trans (hb5.mono (by omega))⟩
        case measure => simp [intOf]; omega
    · obtain rfl : k = ps.length := by omega
      have hT : ss.map bs = backs ps := by rw [HT.out, List.take_of_length_le (by simp [backs])]
      have HT' := Lib.hid hT; clear hT
      obtain ⟨ya, yc, rfl, hyc⟩ := hown.form
      go_wp2_with fail
      refine (toks_any s _ (by omega)).mono ?_
      rintro e w2 ⟨tv, rfl, hto, hb2⟩
      have hto := hto.sl
      obtain ⟨ta, tc, rfl⟩ := hto.form
      have HTO := Lib.hid hto; clear hto
      have HY := Lib.hid (hown.keep hb2); clear hown
      have hrow2 := hrow.keep hb2; clear hrow
      have hb3 := below_up hb hb.size hb2
      have hwlt := hrow2.lt
      clear hb2 hBr hb hbw hrow0
      generalize hC : w2.heap.size = C at *
      go_wp2_with fail
      go_loopw [8, 10, 12] (fun c A i wr => ∃ (k m : Nat) (xs : List Value), k ≤ (toks s).length ∧ m ≤ k ∧ i = .int .i64 k ∧ c = .int .i64 m ∧ Hid (m = wildsN (((toks s).take k).map bs)) ∧ Own wr C 5 A k xs ∧ Below C w2 wr) (fun _ _ i _ => (toks s).length - (intOf i).toNat)
      case atStart => exact ⟨0, 0, [], Nat.zero_le _, Nat.le_refl _, rfl, rfl, by simp [Hid, wildsN], Own.nil _ _ _, Below.refl _ _⟩
      case round =>
        obtain ⟨k, m, xs, hk, hm, rfl, rfl, HF, hA, hb⟩ := hrel
        have hb2 : Below w2.heap.size w2 wr := by rw [hC]; exact hb
        obtain ⟨Aa, Ac, rfl, hAc⟩ := hA.form
        by_cases hlt : k < (toks s).length
        · obtain ⟨b, o, t, rfl, Ht, hc⟩ := HTO.out.str hb2 hlt
          cases g1 : (t.toList == [42])
          · cases g2 : (t.toList == [62])
            · go_wp2_with (at_builtin; go_must (refine wpList_app1 et22 rfl _ _ rfl C (by rfl) hA [_, _, _, _, _] (by rfl) rfl (by simp [Value.oneCell']) (by omega) (Nat.le_trans (Nat.le_of_eq hC.symm) hb.size) ?_); intro v' w3 hA2 hgrow)
              have hb5 := bel_app hb hgrow hA (Nat.le_trans (Nat.le_of_eq hC.symm) hb.size)
              go_roundw
              case rel => exact ⟨k + 1, m, _, hlt, by omega, by go_num, by rfl, by have hh := HF.out; unfold Hid; rw [wildsN_step Ht.out, if_neg (by rw [← toList_bs]; simpa using g1)]; omega, hA2, hb5⟩
              case measure => simp [intOf]; omega
            · go_wp2_with (at_builtin; go_must (refine wpList_app1 et22 rfl _ _ rfl C (by rfl) hA [_, _, _, _, _] (by rfl) rfl (by simp [Value.oneCell']) (by omega) (Nat.le_trans (Nat.le_of_eq hC.symm) hb.size) ?_); intro v' w3 hA2 hgrow)
              have hb5 := bel_app hb hgrow hA (Nat.le_trans (Nat.le_of_eq hC.symm) hb.size)
              go_roundw
              case rel => exact ⟨k + 1, m, _, hlt, by omega, by go_num, by rfl, by have hh := HF.out; unfold Hid; rw [wildsN_step Ht.out, if_neg (by rw [← toList_bs]; simpa using g1)]; omega, hA2, hb5⟩
              case measure => simp [intOf]; omega
          · have hmn : m + 1 ≤ n := by
              have h1 := wilds_take ((toks s).map bs) (k + 1)
              rw [← List.map_take, wildsN_step Ht.out, if_pos (by rw [← toList_bs]; exact eq_of_beq g1), ← HF.out, ← Hn.out] at h1
              exact h1
            obtain ⟨x, hx, -⟩ := (hrow2.keep hb2).cell (k := m + 1) (by omega)
            go_wp2_with (at_builtin; go_must (refine wpList_app1 et22 rfl _ _ rfl C (by rfl) hA [_, _, _, _, _] (by rfl) rfl (by simp [Value.oneCell']) (by omega) (Nat.le_trans (Nat.le_of_eq hC.symm) hb.size) ?_); intro v' w3 hA2 hgrow)
            have hb5 := bel_app hb hgrow hA (Nat.le_trans (Nat.le_of_eq hC.symm) hb.size)
            go_roundw
            case rel => exact ⟨k + 1, m + 1, _, hlt, by omega, by go_num, by go_num, by have hh := HF.out; unfold Hid; rw [wildsN_step Ht.out, if_pos (by rw [← toList_bs]; exact eq_of_beq g1)]; omega, hA2, hb5⟩
            case measure => simp [intOf]; omega
        · obtain rfl : k = (toks s).length := by omega
          have hY := (HY.out.keep hb2).sl
          go_wp2_with fail
          refine (join_any _ ss _ hY (by omega) (by rw [HT'.out]; exact hsum)).mono ?_
          rintro e w' ⟨rfl, rfl⟩
          rw [HT'.out]
          go_wp2
          go_ret2
          exact ⟨_, rfl, below_up hb3 hb3.size hb2⟩
end Go.Proofs.YtehlmjecbljafaaGreatDoor
namespace Go.Proofs.YtehlmjecbljafaaGreatDoor
open Go Go.RowKit
theorem et126 : ET Tryz.prog 126 179 1 2 (.int .i16 0) := ⟨Tryz.underlying126, by kernel_rfl, rfl, by decide, by decide⟩
theorem et124 : ET Tryz.prog 124 21 1 4 (.int .i32 0) := ⟨Tryz.underlying124, by kernel_rfl, rfl, by decide, by decide⟩
def kind16 (k : Int) : Value := .int .i16 (if k = 1 then 3 else 0)
set_option maxRecDepth 100000 in
set_option maxHeartbeats 800000 in
theorem kinds_any (v : Value) (l : List Int) (w : World) (hsl : Sl w 1 v l.length (ints l)) (hl : ∀ k ∈ l, k = 0 ∨ k = 1) (hn : l.length ≤ 10) :
    Calls Tryz.prog 82 #[v] w fun e w' => ∃ u, e = .returned u ∧ Own w' w.heap.size 1 u l.length (l.map kind16) ∧ Below w.heap.size w w' := by
  obtain ⟨a, cap, rfl⟩ := hsl.form
  have HS := Lib.hid hsl; clear hsl
  have Hl := Lib.hid hl; clear hl
  go_enter Tryz.func82, Tryz.ntmps82
  go_wp2
  go_loopw [3, 4] (fun o i wr => ∃ k : Nat, k ≤ l.length ∧ i = .int .i64 k ∧ Own wr w.heap.size 1 o k ((l.take k).map kind16) ∧ Below w.heap.size w wr) (fun _ i _ => l.length - (intOf i).toNat)
  case atStart => exact ⟨0, Nat.zero_le _, rfl, Own.nil _ _ _, Below.refl _ _⟩
  case round =>
    obtain ⟨k, hk, rfl, hown, hb⟩ := hrel
    have hbz := hb.size
    by_cases hlt : k < l.length
    · obtain ⟨b, o, x, rfl, Hx, hc, -⟩ := HS.out.int hb hlt
      have hx := Hl.out x (List.mem_of_getElem? Hx.out)
      have ht : ∀ z, kind16 x = z → (l.take k).map kind16 ++ [z] = (l.take (k + 1)).map kind16 := by
        rintro z rfl
        simp [List.take_add_one, Hx.out]
      have HT := Lib.hid ht; clear ht
      rcases hx with rfl | rfl
      all_goals
        go_wp2_with (at_builtin; go_must (refine wpList_app1 et126 rfl _ _ rfl w.heap.size rfl hown [_] rfl rfl (by simp [Value.oneCell']) (by omega) hb.size ?_); intro v' w2 hown3 hgrow)
        go_roundw
        case rel => exact ⟨k + 1, hlt, by go_num, by rw [← HT.out _ rfl]; exact hown3, bel_app hb hgrow hown hb.size⟩
        case measure => simp [intOf]; omega
    · obtain rfl : k = l.length := by omega
      go_wp2
      go_ret
      rw [List.take_length] at hown
      exact ⟨_, rfl, hown, hb⟩
set_option maxRecDepth 100000 in
set_option maxHeartbeats 800000 in
theorem newMapping_any (v0 v1 v2 v3 v4 v5 v6 v7 : Value) (w : World) (h0 : ∃ s, v0 = .string s) (h1 : ∃ s, v1 = .string s) (h2 : ∃ a n c, v2 = .slice a n c) (h3 : ∃ a n c, v3 = .slice a n c) (h4 : ∃ a n c, v4 = .slice a n c) (h5 : ∃ a n c, v5 = .slice a n c) (h6 : ∃ a n c, v6 = .slice a n c) (h7 : ∃ a n c, v7 = .slice a n c) :
    Calls Tryz.prog 81 #[v0, v1, v2, v3, v4, v5, v6, v7] w fun e w' => e = .returned (.pointer (some ⟨w.heap.size, 0, none⟩)) ∧ w' = w.alloc (.cells #[v0, v1, v3, v2, v4, v5, v6, v7] 129) := by
  obtain ⟨s0, rfl⟩ := h0
  obtain ⟨s1, rfl⟩ := h1
  obtain ⟨_, _, _, rfl⟩ := h2
  obtain ⟨_, _, _, rfl⟩ := h3
  obtain ⟨_, _, _, rfl⟩ := h4
  obtain ⟨_, _, _, rfl⟩ := h5
  obtain ⟨_, _, _, rfl⟩ := h6
  obtain ⟨_, _, _, rfl⟩ := h7
  go_enter Tryz.func81, Tryz.ntmps81
  go_wp2
  go_ret
  exact ⟨rfl, rfl⟩
/-- A mapping as the server has it, in memory. -/
def MapIs (w : World) (v : Value) (s D : ByteArray) (ps : List Part) (pl : List Nat) : Prop :=
  ∃ mb dv sv kv pv iv tv pvs, v = .pointer (some ⟨mb, 0, none⟩) ∧ w.heap[mb]? = some (.cells #[.string s, .string D, dv, sv, kv, pv, iv, tv] 129 (0, 0)) ∧ Sl w 1 sv (toks s).length ((toks s).map Value.string) ∧ Sl w 1 dv (toks D).length ((toks D).map Value.string) ∧
    Sl w 1 kv ps.length (ps.map fun p => kind16 (kindN p.kind)) ∧ Sl w 1 pv ps.length pvs ∧ pvs.length = ps.length ∧ ∀ (j : Nat) (p : Part) (u : Value), ps[j]? = some p → pvs[j]? = some u → PlRd w pl p u
theorem PlRd.keep {w w' : World} {pl : List Nat} {p : Part} {v : Value} (h : PlRd w pl p v) (hb : Below w.heap.size w w') : PlRd w' pl p v := by
  rcases h with h | ⟨h, x, h1, h2⟩
  · exact .inl h
  · exact .inr ⟨h, x, h1.keep hb, h2⟩
set_option maxRecDepth 100000 in
set_option maxHeartbeats 800000 in
theorem mapping46_any (v : Value) (s D : ByteArray) (ps : List Part) (pl : List Nat) (w : World) (hv : PlanIs w v s D ps pl) (hl : ps.length ≤ 10) :
    Calls Tryz.prog 46 #[v] w fun e w' => ∃ u, e = .returned u ∧ MapIs w' u s D ps pl ∧ Below w.heap.size w w' := by
  obtain ⟨sv, dv, kv, pv, nv, tv, pvs, xs, rfl, hs, hd, hk, hp, hn, ht, hpl, hpr⟩ := hv.is
  obtain ⟨sa, sc, rfl⟩ := hs.form
  obtain ⟨da, dc, rfl⟩ := hd.form
  obtain ⟨ka, kc, rfl⟩ := hk.form
  obtain ⟨pa, pc, rfl⟩ := hp.form
  obtain ⟨na, nc, rfl⟩ := hn.form
  obtain ⟨ta, tc, rfl⟩ := ht.form
  have HS := Lib.hid (And.intro hs (And.intro hd (And.intro hk hp))); clear hs hd hk hp
  have HN := Lib.hid hn; clear hn
  have HP := Lib.hid (And.intro hpl hpr); clear hpl hpr hv ht
  obtain ⟨ns, hns⟩ : ∃ ns, ns = ps.map fun p => p.m := ⟨_, rfl⟩
  have hnl : ns.length = ps.length := by rw [hns]; simp
  rw [← hns] at HN
  clear hns
  go_enter Tryz.func46, Tryz.ntmps46
  go_wp2
  have HB := Lib.hid ((Below.refl w.heap.size w).alloc (Nat.le_refl _) (.cells #[.string s, .string D, .slice sa (toks s).length sc, .slice da (toks D).length dc, .slice ka ps.length kc, .slice pa ps.length pc, .slice na ps.length nc, .slice ta ps.length tc] 36))
  have hw0 := heap_alloc_new w (.cells #[.string s, .string D, .slice sa (toks s).length sc, .slice da (toks D).length dc, .slice ka ps.length kc, .slice pa ps.length pc, .slice na ps.length nc, .slice ta ps.length tc] 36)
  generalize (w.alloc (.cells #[.string s, .string D, .slice sa (toks s).length sc, .slice da (toks D).length dc, .slice ka ps.length kc, .slice pa ps.length pc, .slice na ps.length nc, .slice ta ps.length tc] 36)) = W at *
  have hcl := fun (i : Nat) (v : Value) h => (cell_row (j := i) hw0).trans (h : _ = some v)
  have q0 := hcl 0 _ rfl
  have q1 := hcl 1 _ rfl
  have q2 := hcl 2 _ rfl
  have q3 := hcl 3 _ rfl
  have q4 := hcl 4 _ rfl
  have q5 := hcl 5 _ rfl
  have q6 := hcl 6 _ rfl
  have q7 := hcl 7 _ rfl
  clear hcl hw0
  go_loopw [3, 4] (fun o i wr => ∃ (k : Nat) (ys : List Value), k ≤ ps.length ∧ i = .int .i64 k ∧ Own wr W.heap.size 1 o k ys ∧ Below W.heap.size W wr) (fun _ i _ => ps.length - (intOf i).toNat)
  case atStart => exact ⟨0, [], Nat.zero_le _, rfl, Own.nil _ _ _, Below.refl _ _⟩
  case round =>
    obtain ⟨k, ys, hk, rfl, hown, hb⟩ := hrel
    have hbz := hb.size
    have r6 := cell_bel q6 hb
    by_cases hlt : k < ps.length
    · obtain ⟨b, o, x, rfl, Hx, hc, -⟩ := HN.out.int (bel2 HB.out hb) (show k < ns.length by omega)
      go_wp2_with (at_builtin; go_must (refine wpList_app1 et124 rfl _ _ rfl W.heap.size rfl hown [_] rfl rfl (by simp [Value.oneCell']) (by omega) hb.size ?_); intro v' w2 hown3 hgrow)
      go_roundw
      case rel => exact ⟨k + 1, _, hlt, by go_num, hown3, bel_app hb hgrow hown hb.size⟩
      case measure => simp [intOf]; omega
    · obtain rfl : k = ps.length := by omega
      have hbw := bel2 HB.out hb
      obtain ⟨va, vc, rfl, -⟩ := hown.form
      go_wp2_with fail
      have q0 := cell_bel q0 hb
      have q1 := cell_bel q1 hb
      have q2 := cell_bel q2 hb
      have q3 := cell_bel q3 hb
      have q4 := cell_bel q4 hb
      have q5 := cell_bel q5 hb
      have q7 := cell_bel q7 hb
      refine wp_region_L [0, 1, 2, 3, 4, 5, 6, 7, 8, 9, 11, 12, 13, 14, 15] (fun W' => Below wr.heap.size wr W') (by kernel_rfl) (by kernel_rfl) (Below.refl _ _).drew (fun ne => ?_)
      have S0 := fun x : SubC (fun W' => Below wr.heap.size wr W') => cell_bel q0 x.ok
      have S1 := fun x : SubC (fun W' => Below wr.heap.size wr W') => cell_bel q1 x.ok
      have S2 := fun x : SubC (fun W' => Below wr.heap.size wr W') => cell_bel q2 x.ok
      have S3 := fun x : SubC (fun W' => Below wr.heap.size wr W') => cell_bel q3 x.ok
      have S4 := fun x : SubC (fun W' => Below wr.heap.size wr W') => cell_bel q4 x.ok
      have S5 := fun x : SubC (fun W' => Below wr.heap.size wr W') => cell_bel q5 x.ok
      have S7 := fun x : SubC (fun W' => Below wr.heap.size wr W') => cell_bel q7 x.ok
      repeat (refine wpCL_q rfl rfl ?_; go_big_quiet_step (fail); refine wpQuiet_nil ?_)
      refine wpCL_ch rfl rfl (fun K hK => ?_)
      go_simp
      simp only [runsTo_enter]
      obtain ⟨hs, hd, hkk, hp⟩ := HS.out
      refine (kinds_any _ (ps.map fun p => kindN p.kind) wr.drew (by rw [List.length_map]; exact hkk.keep hbw.drew) (fun k hk => by obtain ⟨p, -, rfl⟩ := List.mem_map.1 hk; show kindN p.kind = 0 ∨ kindN p.kind = 1; unfold kindN; split <;> simp) (by simpa using hl)).mono ?_
      rintro e w2 ⟨kv, rfl, hko, hb2⟩
      have hb3 : Below wr.heap.size wr w2 := ⟨hb2.os, hb2.tape, hb2.output, hb2.size, hb2.block⟩
      have hks := hko.sl
      rw [List.length_map] at hks
      obtain ⟨ka2, kc2, rfl⟩ := hks.form
      refine ⟨_, rfl, hK _ _ ⟨⟨w2, hb3⟩, rfl⟩ ?_⟩
      clear hK K
      go_simp
      repeat (refine wpCL_q rfl rfl ?_; go_big_quiet_step (fail); refine wpQuiet_nil ?_)
      refine wpCL_ch rfl rfl (fun K hK => ?_)
      go_simp
      simp only [runsTo_enter]
      refine (newMapping_any _ _ _ _ _ _ _ _ w2 ⟨_, rfl⟩ ⟨_, rfl⟩ ⟨_, _, _, rfl⟩ ⟨_, _, _, rfl⟩ ⟨_, _, _, rfl⟩ ⟨_, _, _, rfl⟩ ⟨_, _, _, rfl⟩ ⟨_, _, _, rfl⟩).mono ?_
      rintro e w3 ⟨rfl, rfl⟩
      have hal : ∀ o, Below wr.heap.size wr (w2.alloc o) := fun o => hb3.alloc hb3.size o
      refine ⟨_, rfl, hK _ _ ⟨⟨_, hal _⟩, rfl⟩ ?_⟩
      clear hK K
      go_simp
      refine wpCL_last ?_
      go_wp2
      go_ret
      have hbf : ∀ o, Below w.heap.size w (w2.alloc o) := fun o => bel2 hbw (hal o)
      have hao : ∀ o, Below w2.heap.size w2 (w2.alloc o) := fun o => (Below.refl _ _).alloc (Nat.le_refl _) o
      refine ⟨_, rfl, ⟨_, _, _, _, _, _, _, pvs, rfl, heap_alloc_new w2 _, hs.keep (hbf _), hd.keep (hbf _), ?_, hp.keep (hbf _), HP.out.1, fun j p u h1 h2 => (HP.out.2 j p u h1 h2).keep (hbf _)⟩, hbf _⟩
      have := hks.keep (hao (Obj.cells #[Value.string s, Value.string D, .slice da (toks D).length dc, .slice sa (toks s).length sc, .slice ka2 ps.length kc2, .slice pa ps.length pc, .slice va ps.length vc, .slice ta ps.length tc] 129))
      simpa [List.map_map, Function.comp_def] using this
end Go.Proofs.YtehlmjecbljafaaGreatDoor
namespace Go.Proofs.YtehlmjecbljafaaGreatDoor
open Go Go.RowKit
section
variable {P : Program} {ops : Array Oper} {rest : List Oper} {o1 o2 o3 : Oper} {a : Act} {w : World} {Q : Exit → Act → World → Prop}
theorem wpList_zero3 (T : TypeId) (Z : Array Value) (n : Nat) (x y : Operand) (hb : P.built T [] = some Z) (hi : (P.info? T).map (fun i => (i.zero, i.size)) = some (some (.agg Z), n)) (hn : Z.size = n) (h1 : Z.all (·.oneCell') = true)
    (g1 : o1.guard = none) (g2 : o2.guard = none) (g3 : o3.guard = none) (e1 : o1.op = .build T #[]) (e2 : o2.op = .alloc T) (e3 : o3.op = .store T x y)
    (hx : ((a.put o1.dst (.agg Z)).put o2.dst (.pointer (some ⟨w.heap.size, 0, none⟩))).eval x = .pointer (some ⟨w.heap.size, 0, none⟩)) (hy : ((a.put o1.dst (.agg Z)).put o2.dst (.pointer (some ⟨w.heap.size, 0, none⟩))).eval y = .agg Z)
    (h : wpList P ops Q rest (((a.put o1.dst (.agg Z)).put o2.dst (.pointer (some ⟨w.heap.size, 0, none⟩))).put o3.dst undef) (w.alloc (.cells Z T))) : wpList P ops Q (o1 :: o2 :: o3 :: rest) a w := by
  obtain ⟨hz, hs⟩ := zero_of_info hi
  refine wpList_plain g1 fun K hK => ?_
  have r1 : (execOp a.eval o1).run P w = .ok (.value (.agg Z)) w := by
    unfold execOp
    simp only [e1, Sem.run_bind]
    have := run_build (P := P) w T #[] Z hb
    simp only [List.map_toArray, List.map_nil]
    rw [this]; rfl
  unfold Oper.wp
  rw [r1, Oper.upon_value]
  refine hK _ _ (wpList_plain g2 fun K hK => ?_)
  have r2 : ∀ ρ : Operand → Value, (execOp ρ o2).run P w = .ok (.value (.pointer (some ⟨w.heap.size, 0, none⟩))) (w.alloc (.cells Z T)) := by
    intro ρ
    unfold execOp
    simp [e2, Instr.alloc, hz, newVar, Value.cells, newRow, newObj]
    rfl
  unfold Oper.wp
  rw [r2, Oper.upon_value]
  refine hK _ _ (wpList_plain g3 fun K hK => ?_)
  have r3 : (execOp ((a.put o1.dst (.agg Z)).put o2.dst (.pointer (some ⟨w.heap.size, 0, none⟩))).eval o3).run P (w.alloc (.cells Z T)) = .ok .skip (w.alloc (.cells Z T)) := by
    unfold execOp
    simp only [e3, Sem.run_bind, hx, hy]
    rw [run_storeAt_new w T Z Z (by rw [hs, hn]) rfl h1]; rfl
  unfold Oper.wp
  rw [r3, Oper.upon_skip]
  exact hK _ _ h
end
end Go.Proofs.YtehlmjecbljafaaGreatDoor
namespace Go.Proofs.YtehlmjecbljafaaGreatDoor
open Go Go.RowKit
def zero32 : Array Value := #[Value.string ⟨#[]⟩, Value.string ⟨#[]⟩, Value.string ⟨#[]⟩, Value.string ⟨#[]⟩, Value.string ⟨#[]⟩, Value.string ⟨#[]⟩, Value.string ⟨#[]⟩, Value.string ⟨#[]⟩, Value.string ⟨#[]⟩, Value.string ⟨#[]⟩, Value.string ⟨#[]⟩, Value.string ⟨#[]⟩, Value.string ⟨#[]⟩, Value.string ⟨#[]⟩, Value.string ⟨#[]⟩, Value.string ⟨#[]⟩, Value.string ⟨#[]⟩, Value.string ⟨#[]⟩, Value.string ⟨#[]⟩, Value.string ⟨#[]⟩, Value.string ⟨#[]⟩, Value.string ⟨#[]⟩, Value.string ⟨#[]⟩, Value.string ⟨#[]⟩, Value.string ⟨#[]⟩, Value.string ⟨#[]⟩, Value.string ⟨#[]⟩, Value.string ⟨#[]⟩, Value.string ⟨#[]⟩, Value.string ⟨#[]⟩, Value.string ⟨#[]⟩, Value.string ⟨#[]⟩]
theorem z32b : Tryz.prog.built 180 [] = some zero32 := by kernel_rfl
theorem z32i : (Tryz.prog.info? 180).map (fun i => (i.zero, i.size)) = some (some (.agg zero32), 32) := by kernel_rfl
theorem z32s : zero32.size = 32 := rfl
theorem own32 (w : World) : Own (w.alloc (.cells zero32 180)) w.heap.size 1 (.slice (some ⟨w.heap.size, 0, none⟩) 0 32) 0 [] :=
  ⟨rfl, .inr ⟨w.heap.size, 32, zero32, 180, rfl, Nat.le_refl _, heap_alloc_new w _, by omega, by decide, by decide, rfl⟩⟩
theorem z32o : zero32.all (·.oneCell') = true := by kernel_rfl
set_option maxRecDepth 100000 in
set_option maxHeartbeats 400000 in
theorem tokenize_any (s : ByteArray) (w : World) (hs : s.size ≤ 274877906944) :
    Calls Tryz.prog 83 #[.string s] w fun e w' => ∃ v, e = .returned v ∧ Own w' w.heap.size 1 v (toks s).length ((toks s).map Value.string) ∧ Below w.heap.size w w' := by
  go_enter Tryz.func83, Tryz.ntmps83
  go_wp2_with (refine wpList_zero3 180 zero32 32 _ _ z32b z32i z32s z32o rfl rfl rfl rfl rfl rfl (by rfl) (by rfl) ?_)
  have hown0 := own32 w
  have hb0 := (Below.refl w.heap.size w).alloc (Nat.le_refl _) (.cells zero32 180)
  go_loopw [4, 5, 6] (fun v f i wr => ∃ (k kf : Nat) (ss : List ByteArray), k ≤ s.size ∧ kf ≤ k ∧ i = .int .i64 k ∧ f = .int .i64 kf ∧ Hid (Done s kf k ss) ∧ Own wr w.heap.size 1 v ss.length (ss.map Value.string) ∧ Below w.heap.size w wr) (fun _ _ i _ => s.size - (intOf i).toNat)
  case atStart => exact ⟨0, 0, [], by omega, by omega, rfl, rfl, done_start s, hown0, hb0⟩
  case round =>
    obtain ⟨k, kf, ss, hk, hkf, rfl, rfl, HD, hown, hbel⟩ := hrel
    have hB := hbel.size
    have hssl := done_len HD.out hk
    by_cases hlt : k < s.size
    · go_wp2_with (at_builtin; go_must (refine wpList_app1 et32 rfl _ _ rfl w.heap.size rfl hown [_] rfl rfl (by simp [Value.oneCell']) (by omega) hB ?_); intro v' w1 hown1 hgrow)
      · have hc : s[k] = 46 := byt ‹_› rfl
        go_roundw
        case rel => exact ⟨k+1, k+1, _, hlt, Nat.le_refl _, by go_num, by go_num, done_dot HD.out hlt hc, by simpa using hown1, bel_app hbel hgrow hown hB⟩
        case measure => simp [intOf]; omega
      · have hc : s[k] ≠ 46 := byf ‹_› rfl
        go_roundw
        case rel => exact ⟨k+1, kf, ss, hlt, by omega, by go_num, rfl, done_no HD.out hlt hkf hc, hown, hbel⟩
        case measure => simp [intOf]; omega
    · obtain rfl : k = s.size := by omega
      go_wp2_with (at_builtin; go_must (refine wpList_app1 et32 rfl _ _ rfl w.heap.size rfl hown [_] rfl rfl (by simp [Value.oneCell']) (by omega) hB ?_); intro v' w1 hown1 hgrow)
      go_ret
      refine ⟨_, rfl, ?_, bel_app hbel hgrow hown hB⟩
      rw [← done_end HD.out]
      simpa using hown1
set_option maxRecDepth 100000 in
set_option maxHeartbeats 400000 in
theorem into_any (s : ByteArray) (w : World) (v0 : Value) (B : Nat) (h0 : Own w B 1 v0 0 []) (hB : B ≤ w.heap.size) (hs : s.size ≤ 274877906944) :
    Calls Tryz.prog 115 #[v0, .string s] w fun e w' => ∃ v, e = .returned v ∧ Own w' B 1 v (toks s).length ((toks s).map Value.string) ∧ Below B w w' := by
  obtain ⟨a0, c0, rfl, -⟩ := h0.form
  go_enter Tryz.func115, Tryz.ntmps115
  go_wp2
  go_loopw [0, 5, 6] (fun v f i wr => ∃ (k kf : Nat) (ss : List ByteArray), k ≤ s.size ∧ kf ≤ k ∧ i = .int .i64 k ∧ f = .int .i64 kf ∧ Hid (Done s kf k ss) ∧ Own wr B 1 v ss.length (ss.map Value.string) ∧ Below B w wr) (fun _ _ i _ => s.size - (intOf i).toNat)
  case atStart => exact ⟨0, 0, [], by omega, by omega, rfl, rfl, done_start s, h0, Below.refl _ _⟩
  case round =>
    obtain ⟨k, kf, ss, hk, hkf, rfl, rfl, HD, hown, hbel⟩ := hrel
    have hBr := Nat.le_trans hB hbel.size
    have hssl := done_len HD.out hk
    by_cases hlt : k < s.size
    · go_wp2_with (at_builtin; go_must (refine wpList_app1 et32 rfl _ _ rfl B rfl hown [_] rfl rfl (by simp [Value.oneCell']) (by omega) hBr ?_); intro v' w1 hown1 hgrow)
      · have hc : s[k] = 46 := byt ‹_› rfl
        go_roundw
        case rel => exact ⟨k+1, k+1, _, hlt, Nat.le_refl _, by go_num, by go_num, done_dot HD.out hlt hc, by simpa using hown1, bel_app hbel hgrow hown hBr⟩
        case measure => simp [intOf]; omega
      · have hc : s[k] ≠ 46 := byf ‹_› rfl
        go_roundw
        case rel => exact ⟨k+1, kf, ss, hlt, by omega, by go_num, rfl, done_no HD.out hlt hkf hc, hown, hbel⟩
        case measure => simp [intOf]; omega
    · obtain rfl : k = s.size := by omega
      go_wp2_with (at_builtin; go_must (refine wpList_app1 et32 rfl _ _ rfl B rfl hown [_] rfl rfl (by simp [Value.oneCell']) (by omega) hBr ?_); intro v' w1 hown1 hgrow)
      go_ret
      refine ⟨_, rfl, ?_, bel_app hbel hgrow hown hBr⟩
      rw [← done_end HD.out]
      simpa using hown1
end Go.Proofs.YtehlmjecbljafaaGreatDoor
