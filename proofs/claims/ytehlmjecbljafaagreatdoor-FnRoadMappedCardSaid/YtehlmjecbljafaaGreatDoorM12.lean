/- strings.Builder's writers at this program: the shelf's proofs, turned to this program's numbers. The server's subset match. Plain words on what a mapping makes of a subject. A loop in a function of very many temporaries: the frame by one function. -/
import Derived.Test.YtehlmjecbljafaaGreatDoorM8
import Derived.Test.YtehlmjecbljafaaGreatDoorM10
import Derived.Test.YtehlmjecbljafaaGreatDoorM11
namespace Go.Proofs.YtehlmjecbljafaaGreatDoor
open Go Go.Shelf Go.RowKit
theorem infoByte : (Tryz.prog.info? 5).map (fun i => (i.zero, i.size, i.bytes)) = some (some (.int .u8 0), 1, 1) := by kernel_rfl
theorem sizeBuilder : (Tryz.prog.info? 184).map (·.size) = some 2 := by kernel_rfl
theorem liesBuilder : liesAt Tryz.prog Tryz.prog.depth 184 (2 / Tryz.prog.cellsOf 184) 0 184 1 = true := by kernel_rfl
set_option maxRecDepth 100000 in
set_option maxHeartbeats 800000 in
theorem copyCheck_fresh (b : Nat) (w : World) (h0 : w.cell? ⟨b, 0, none⟩ = some (.pointer none)) (hsh : w.shape? b = some (184, 2)) (hfz : w.frozen? ⟨b, 0, none⟩ = false) :
    Calls Tryz.prog 167 #[.pointer (some ⟨b, 0, none⟩)] w fun e w' => e = .returned (.tuple #[]) ∧ w' = w.setCell ⟨b, 0, none⟩ (.pointer (some ⟨b, 0, none⟩)) := by
  obtain ⟨j, hj, hjs⟩ := Option.map_eq_some_iff.1 sizeBuilder
  go_enter Tryz.func167, Tryz.ntmps167
  go_wp2
  rw [Lib.run_to_unsafe w ⟨b, 0, none⟩ Tryz.underlying182 Tryz.underlying256 hj (by rw [hjs]; decide) hsh (Nat.zero_lt_succ 1)]
  simp only [Result.andThen]
  rw [Oper.upon_value]
  go_wp2
  rw [run_callFunc_extern Tryz.func207 (by kernel_rfl) (by kernel_rfl) (by kernel_rfl) (e := Extern.AbiNoEscape.same) (by kernel_rfl)]
  rw [Lib.run_noEscape]
  simp only [Result.andThen]
  rw [Oper.upon_value]
  go_wp2
  rw [Lib.run_from_unsafe w ⟨b, 0, none⟩ Tryz.underlying256 Tryz.underlying182 hj hsh liesBuilder]
  simp only [Result.andThen]
  rw [Oper.upon_value]
  go_wp2
  go_end0
  exact ⟨rfl, rfl⟩
set_option maxRecDepth 100000 in
set_option maxHeartbeats 800000 in
theorem copyCheck_used (b : Nat) (w : World) (h0 : w.cell? ⟨b, 0, none⟩ = some (.pointer (some ⟨b, 0, none⟩))) :
    Calls Tryz.prog 167 #[.pointer (some ⟨b, 0, none⟩)] w fun e w' => e = .returned (.tuple #[]) ∧ w' = w := by
  obtain ⟨j, hj, _⟩ := Option.map_eq_some_iff.1 sizeBuilder
  go_enter Tryz.func167, Tryz.ntmps167
  go_wp2
  rw [Lib.run_neq_ptr_same w _ Tryz.underlying182 hj]
  go_wp2
  go_end0
  exact ⟨rfl, rfl⟩
theorem copyCheck_any (B b : Nat) (bs : List Value) (w : World) (h : Lib.IsBuilderF 184 5 B b bs w) :
    Calls Tryz.prog 167 #[.pointer (some ⟨b, 0, none⟩)] w fun e w' => e = .returned (.tuple #[]) ∧ (Lib.BuilderAtF 184 5 B b (.pointer (some ⟨b, 0, none⟩)) bs w' ∧ Below B w w' ∧ Lib.OthersKept 5 (some b) w w') := by
  rcases h with h | h
  · refine (copyCheck_fresh b w h.cell0 h.shape h.frozen0).mono ?_
    rintro e w' ⟨rfl, rfl⟩
    exact ⟨rfl, h.used _, (Below.refl B w).setCell (p := ⟨b, 0, none⟩) h.1 _, (Lib.OthersKept.refl _ _ w).setCell ⟨b, 0, none⟩ rfl _⟩
  · refine (copyCheck_used b w h.cell0).mono ?_
    rintro e w' ⟨rfl, rfl⟩
    exact ⟨rfl, h, Below.refl B _, Lib.OthersKept.refl _ _ _⟩
set_option maxHeartbeats 2000000 in
set_option maxRecDepth 100000 in
theorem wb_any (B b : Nat) (bs : List Value) (c : Int) (w : World) (h : Lib.IsBuilderF 184 5 B b bs w) (hlen : bs.length + 1 ≤ 140737488355328) (hBw : B ≤ w.heap.size) :
    Calls Tryz.prog 121 #[.pointer (some ⟨b, 0, none⟩), .int .u8 c] w fun e w' => e = .returned .nilIface ∧ (Lib.BuilderAtF 184 5 B b (.pointer (some ⟨b, 0, none⟩)) (bs ++ [.int .u8 c]) w' ∧ Below B w w' ∧ Lib.OthersKept 5 (some b) w w') := by
  obtain ⟨i0, hi, hz0, hz1, hz2⟩ := info_parts infoByte
  go_enter Tryz.func121, Tryz.ntmps121
  go_wp2_with (go_at_call 167; refine (copyCheck_any B b bs _ h).mono ?_)
  rintro e w1 ⟨rfl, h1, hb1, hk1⟩
  obtain ⟨hB, v, hbk, hown, hne⟩ := h1
  have c0 : w1.cell? ⟨b, 0, none⟩ = some (.pointer (some ⟨b, 0, none⟩)) := by rw [Lib.cell_of_heap hbk]; rfl
  have c1 : w1.cell? ⟨b, 1, none⟩ = some v := by rw [Lib.cell_of_heap hbk]; rfl
  go_wp2_with (at_builtin; refine wpList_append_ownF _ rfl _ _ 94 rfl B 5 i0 (.int .u8 0) 1 1 Tryz.underlying94 hi hz0 hz1 hz2 rfl (by decide) _ _ _ rfl (hown.alloc _) ⟨w1.heap.size, 0, none⟩ 1 1 [.int .u8 c] rfl rfl ?c1 ?c2 ?c3 ?c4 ?c5 ?_)
  case c1 =>
    intro j u hj
    match j, hj with
    | 0, hj => simp at hj; subst hj; simp [Addr.add]
  case c2 => intro u hu; simp at hu; subst hu; rfl
  case c3 => unfold maxLen; omega
  case c4 => omega
  case c5 => have := hb1.size; simp; omega
  intro v' w2 hown' hgrow _
  have hlt : b < w1.heap.size := by
    rcases Nat.lt_or_ge b w1.heap.size with h' | h'
    · exact h'
    · simp [Array.getElem?_eq_none h'] at hbk
  have hb2 : w2.heap[b]? = some (.cells #[.pointer (some ⟨b, 0, none⟩), v] 184 (0, 0)) := by
    rw [hgrow.block b (by simp; omega) (fun e => hne e.symm), Lib.alloc_old w1 _ b hlt]
    exact hbk
  have d0 : w2.cell? ⟨b, 0, none⟩ = some (.pointer (some ⟨b, 0, none⟩)) := by rw [Lib.cell_of_heap hb2]; rfl
  have d1 : w2.cell? ⟨b, 1, none⟩ = some v := by rw [Lib.cell_of_heap hb2]; rfl
  have f1 : w2.frozen? ⟨b, 1, none⟩ = false := Lib.frozen_of_heap hb2 1
  obtain ⟨g, cap, rfl⟩ : ∃ g cap, v' = .slice (some ⟨g, 0, none⟩) (bs.length + 1) cap := by
    rcases hown'.2 with ⟨_, h0⟩ | ⟨g, cap, cur, fz, hv, _⟩
    · omega
    · exact ⟨g, cap, hv⟩
  go_wp2
  go_ret
  refine ⟨rfl, ?_, ?_, ((hk1.alloc _).grown hgrow (Lib.ownsRowF_kind (hown.alloc _))).setCell ⟨b, 1, none⟩ rfl _⟩
  · exact Lib.BuilderAtF.put (T := 184) (e := 5) hB hb2 (bs' := bs ++ [.int .u8 c]) (by simpa using hown') (by decide)
  · exact ((hb1.alloc (by have := hb1.size; omega) _).grown hgrow (by have := hb1.size; simp; omega) (fun k hk => (hown.lt k hk).1)).setCell (p := ⟨b, 1, none⟩) hB _
set_option maxHeartbeats 2000000 in
set_option maxRecDepth 100000 in
theorem ws_any (B b : Nat) (bs : List Value) (s : ByteArray) (w : World) (h : Lib.IsBuilderF 184 5 B b bs w) (hlen : bs.length + s.size ≤ 140737488355328) (hBw : B ≤ w.heap.size) :
    Calls Tryz.prog 117 #[.pointer (some ⟨b, 0, none⟩), .string s] w fun e w' => e = .returned (.tuple #[.int .i64 s.size, .nilIface]) ∧ (Lib.BuilderAtF 184 5 B b (.pointer (some ⟨b, 0, none⟩)) (bs ++ Lib.strCells s) w' ∧ Below B w w' ∧ Lib.OthersKept 5 (some b) w w') := by
  obtain ⟨i0, hi, hz0, hz1, hz2⟩ := info_parts infoByte
  go_enter Tryz.func117, Tryz.ntmps117
  go_wp2_with (go_at_call 167; refine (copyCheck_any B b bs _ h).mono ?_)
  rintro e w1 ⟨rfl, h1, hb1, hk1⟩
  obtain ⟨hB, v, hbk, hown, hne⟩ := h1
  have c0 : w1.cell? ⟨b, 0, none⟩ = some (.pointer (some ⟨b, 0, none⟩)) := by rw [Lib.cell_of_heap hbk]; rfl
  have c1 : w1.cell? ⟨b, 1, none⟩ = some v := by rw [Lib.cell_of_heap hbk]; rfl
  go_wp2_with (at_builtin; refine Lib.wpList_append_own_stringF _ rfl _ _ 94 9 rfl B 5 i0 Tryz.underlying94 Tryz.underlying9 hi hz0 hz1 hz2 _ _ _ rfl hown s rfl ?c3 ?c4 ?c5 ?_)
  case c3 => unfold maxLen; omega
  case c4 => omega
  case c5 => have := hb1.size; omega
  intro v' w2 hown' hgrow _
  have hlt : b < w1.heap.size := by
    rcases Nat.lt_or_ge b w1.heap.size with h' | h'
    · exact h'
    · simp [Array.getElem?_eq_none h'] at hbk
  have hb2 : w2.heap[b]? = some (.cells #[.pointer (some ⟨b, 0, none⟩), v] 184 (0, 0)) := by
    rw [hgrow.block b hlt (fun e => hne e.symm)]
    exact hbk
  have d0 : w2.cell? ⟨b, 0, none⟩ = some (.pointer (some ⟨b, 0, none⟩)) := by rw [Lib.cell_of_heap hb2]; rfl
  have d1 : w2.cell? ⟨b, 1, none⟩ = some v := by rw [Lib.cell_of_heap hb2]; rfl
  have f1 : w2.frozen? ⟨b, 1, none⟩ = false := Lib.frozen_of_heap hb2 1
  obtain ⟨ao, n', cap, rfl⟩ : ∃ ao n' cap, v' = .slice ao n' cap := by
    rcases hown'.2 with ⟨hv, _⟩ | ⟨g, cap, cur, fz, hv, _⟩
    · exact ⟨_, _, _, hv⟩
    · exact ⟨_, _, _, hv⟩
  go_wp2
  go_ret2
  refine ⟨rfl, ?_, ?_, (hk1.grown hgrow (Lib.ownsRowF_kind hown)).setCell ⟨b, 1, none⟩ rfl _⟩
  · exact Lib.BuilderAtF.put (T := 184) (e := 5) hB hb2 (bs' := bs ++ Lib.strCells s) (by simpa [Lib.strCells_length] using hown') (by decide)
  · exact (hb1.grown hgrow (by have := hb1.size; omega) (fun k hk => (hown.lt k hk).1)).setCell (p := ⟨b, 1, none⟩) hB _
end Go.Proofs.YtehlmjecbljafaaGreatDoor
namespace Go.Proofs.YtehlmjecbljafaaGreatDoor
open Go Go.RowKit
theorem compare_refl : ∀ l : List UInt8, Lib.compareBytes l l = 0
  | [] => rfl
  | a :: r => by
    unfold Lib.compareBytes
    rw [if_neg (by simp), if_neg (by simp)]
    exact compare_refl r
/-- A token that is not empty and has no wildcard's sign at its head. -/
structure HeadOK (t : ByteArray) : Prop where
  pos : 0 < t.size
  star : t[0].toNat ≠ 42
  rest : t[0].toNat ≠ 62
theorem bs_pos {t : ByteArray} (h : bs t ≠ []) : 0 < t.size := by
  rw [← bs_len]; exact List.length_pos_iff.2 h
theorem bs_one {t : ByteArray} {c : UInt8} (h : bs t = [c]) : t.size = 1 ∧ ∀ h0 : 0 < t.size, t[0] = c := by
  refine ⟨by rw [← bs_len, h]; rfl, fun h0 => ?_⟩
  have := bs_at? t 0 h0
  rw [h] at this
  simpa using this.symm
theorem bs_head {t : ByteArray} (h0 : 0 < t.size) : t[0] ∈ bs t := List.mem_of_getElem? (bs_at? t 0 h0)
theorem headOK {ss : List ByteArray} (hf : FormedP ss ss.length) (hl : LitP ss ss.length) (ht : TameS ss ss.length) {k : Nat} {t : ByteArray} (h : ss[k]? = some t) : HeadOK t := by
  have hk : k < ss.length := (List.getElem?_eq_some_iff.1 h).1
  have h0 := bs_pos (hf k t hk h).1
  obtain ⟨l1, l2⟩ := hl k t hk h
  refine ⟨h0, ?_, ?_⟩ <;> intro e
  · have ec : t[0] = 42 := UInt8.toNat_inj.1 e
    rcases ht k t hk h with h1 | h1
    · rw [bs_len] at h1
      have e1 : bs t = [t[0]] := by
        have hl1 : (bs t).length = 1 := by rw [bs_len]; omega
        obtain ⟨x, hx⟩ := List.length_eq_one_iff.1 hl1
        have := bs_at? t 0 h0
        rw [hx] at this ⊢
        simpa using this
      exact l1 (by rw [e1, ec])
    · exact (h1 _ (bs_head h0)).1 ec
  · have ec : t[0] = 62 := UInt8.toNat_inj.1 e
    rcases ht k t hk h with h1 | h1
    · rw [bs_len] at h1
      have e1 : bs t = [t[0]] := by
        have hl1 : (bs t).length = 1 := by rw [bs_len]; omega
        obtain ⟨x, hx⟩ := List.length_eq_one_iff.1 hl1
        have := bs_at? t 0 h0
        rw [hx] at this ⊢
        simpa using this
      exact l2 (by rw [e1, ec])
    · exact (h1 _ (bs_head h0)).2 ec
theorem matchT_next {l p : List ByteArray} {k : Nat} {q : ByteArray} (hm : matchT ((l.map bs).drop k) ((p.map bs).drop k) = true) (hq : p[k]? = some q) :
    ∃ t, l[k]? = some t ∧ (bs q = [62] ∨ (bs q ≠ [62] ∧ (bs q = [42] ∨ q = t) ∧ matchT ((l.map bs).drop (k + 1)) ((p.map bs).drop (k + 1)) = true)) := by
  have hk' : k < p.length := (List.getElem?_eq_some_iff.1 hq).1
  have e2 : (p.map bs).drop k = bs q :: (p.map bs).drop (k+1) := by
    rw [List.drop_eq_getElem_cons (by simpa using hk')]; simp [(List.getElem?_eq_some_iff.1 hq).2]
  rw [e2] at hm
  by_cases hk : k < l.length
  · refine ⟨l[k], List.getElem?_eq_getElem hk, ?_⟩
    have e1 : (l.map bs).drop k = bs l[k] :: (l.map bs).drop (k+1) := by
      rw [List.drop_eq_getElem_cons (by simpa using hk)]; simp
    rw [e1, matchT] at hm
    by_cases h1 : bs q = [62]
    · exact .inl h1
    · rw [if_neg h1] at hm
      refine .inr ⟨h1, ?_⟩
      by_cases h2 : bs q ≠ [42] ∧ bs q ≠ bs l[k]
      · rw [if_pos h2] at hm; cases hm
      · rw [if_neg h2] at hm
        refine ⟨?_, hm⟩
        by_cases h3 : bs q = [42]
        · exact .inl h3
        · exact .inr (bs_inj (by by_cases h4 : bs q = bs l[k]; exact h4; exact absurd ⟨h3, h4⟩ h2))
  · rw [List.drop_eq_nil_of_le (by simp; omega), matchT] at hm
    cases hm
set_option maxRecDepth 100000 in
set_option maxHeartbeats 1600000 in
theorem subset_any (v u : Value) (l p : List ByteArray) (w : World) (hsl : Sl w 1 v l.length (l.map Value.string)) (hsp : Sl w 1 u p.length (p.map Value.string)) (hm : matchT (l.map bs) (p.map bs) = true)
    (hh : ∀ (k : Nat) (t : ByteArray), l[k]? = some t → HeadOK t) (hn : l.length ≤ 274877906944) (hn' : p.length ≤ 274877906944) :
    Calls Tryz.prog 116 #[v, u] w fun e w' => e = .returned (.bool true) ∧ w' = w := by
  obtain ⟨a, cap, rfl⟩ := hsl.form
  obtain ⟨a', cap', rfl⟩ := hsp.form
  have HL := Lib.hid hsl; clear hsl
  have HP := Lib.hid hsp; clear hsp
  have Hh := Lib.hid hh; clear hh
  go_enter Tryz.func116, Tryz.ntmps116
  go_wp2
  go_loop [12] (fun i => ∃ k : Nat, k ≤ p.length ∧ k ≤ l.length ∧ i = .int .i64 k ∧ Hid (matchT ((l.map bs).drop k) ((p.map bs).drop k) = true)) (fun i => p.length - (intOf i).toNat)
  case atStart => exact ⟨0, Nat.zero_le _, Nat.zero_le _, rfl, by simpa [Hid] using hm⟩
  case round =>
    obtain ⟨k, hk, hkl', rfl, HF⟩ := hrel
    by_cases hlt : k < p.length
    · obtain ⟨b', o', q, rfl, Hq, hc'⟩ := HP.out.str (Below.refl _ _) hlt
      obtain ⟨t, ht, hcase⟩ := matchT_next HF.out Hq.out
      have hkl : k < l.length := (List.getElem?_eq_some_iff.1 ht).1
      obtain ⟨b, o, t', rfl, Ht, hc⟩ := HL.out.str (Below.refl _ _) hkl
      obtain rfl : t = t' := by have := Ht.out; rw [ht] at this; exact Option.some.inj this
      obtain ⟨hp0, hs0, hr0⟩ := Hh.out k t ht
      clear ht
      have g1 : (((t[0]).toNat : Int) == 42) = false := by simp; omega
      have g2 : (((t[0]).toNat : Int) == 62) = false := by simp; omega
      have g3 : ((t.size : Int) == 0) = false := by rw [beq_eq_false_iff_ne]; omega
      rcases hcase with hq | ⟨hq62, hq42, hrest⟩
      · obtain ⟨q1, q2⟩ := bs_one hq
        have q0 : 0 < q.size := by omega
        have e1 : ((q.size : Int) == 0) = false := by rw [beq_eq_false_iff_ne]; omega
        have e2 : ((q.size : Int) == 1) = true := by rw [beq_iff_eq]; omega
        have e3 : (((q[0]).toNat : Int) == 62) = true := by rw [q2 q0]; rfl
        clear q1 q2 hq
        go_wp2
        go_ret
        exact ⟨rfl, rfl⟩
      · have HR := Lib.hid hrest; clear hrest
        rcases hq42 with hq | rfl
        · obtain ⟨q1, q2⟩ := bs_one hq
          have q0 : 0 < q.size := by omega
          have e1 : ((q.size : Int) == 0) = false := by rw [beq_eq_false_iff_ne]; omega
          have e3 : (((q[0]).toNat : Int) == 62) = false := by rw [q2 q0]; rfl
          have e4 : (((q[0]).toNat : Int) == 42) = true := by rw [q2 q0]; rfl
          have e5 : (((q[0]).toNat : Int) != 42) = false := by rw [q2 q0]; rfl
          clear q1 q2 hq hq62
          go_wp2
          go_round
          case rel => exact ⟨k + 1, hlt, hkl, by go_num, HR.out⟩
          case measure => simp [intOf]; omega
        · have e5 : (((q[0]).toNat : Int) != 42) = true := by rw [bne_iff_ne]; omega
          go_wp2_with (go_at_call 151; go_must (refine (Tryz.strings_Compare q q _).mono ?_); rintro e w' ⟨rfl, rfl⟩; rw [compare_refl])
          go_round
          case rel => exact ⟨k + 1, hlt, hkl, by go_num, HR.out⟩
          case measure => simp [intOf]; omega
    · obtain rfl : k = p.length := by omega
      have hll : l.length ≤ p.length := by
        have := HF.out
        rw [show (p.map bs).drop p.length = [] from List.drop_eq_nil_of_le (by simp)] at this
        cases hd : (l.map bs).drop p.length with
        | nil => have := List.drop_eq_nil_iff.1 hd; simpa using this
        | cons x xs => rw [hd] at this; simp [matchT] at this
      have e1 : ((l.length : Int) == (p.length : Int)) = true := by rw [beq_iff_eq]; omega
      go_wp2
      go_ret
      exact ⟨rfl, rfl⟩
set_option maxRecDepth 100000 in
set_option maxHeartbeats 800000 in
theorem subsetMatch_any (v : Value) (l : List ByteArray) (p : ByteArray) (w : World) (hsl : Sl w 1 v l.length (l.map Value.string)) (hm : matchT (l.map bs) ((toks p).map bs) = true)
    (hh : ∀ (k : Nat) (t : ByteArray), l[k]? = some t → HeadOK t) (hn : l.length ≤ 274877906944) (hn' : p.size ≤ 137438953472) :
    Calls Tryz.prog 86 #[v, .string p] w fun e w' => e = .returned (.bool true) ∧ Below w.heap.size w w' := by
  obtain ⟨a, cap, rfl⟩ := hsl.form
  have hl := toks_len p
  go_enter Tryz.func86, Tryz.ntmps86
  go_wp2_with (refine wpList_zero3 180 zero32 32 _ _ z32b z32i z32s z32o rfl rfl rfl rfl rfl rfl (by rfl) (by rfl) ?_)
  refine (into_any p _ _ w.heap.size (own32 w) (by rw [size_alloc]; omega) (by omega)).mono ?_
  rintro e w1 ⟨u, rfl, hu, hb⟩
  have hb1 : Below w.heap.size w w1 := ((Below.refl w.heap.size w).alloc (Nat.le_refl _) _).trans hb
  have hu := hu.sl
  obtain ⟨ua, uc, rfl⟩ := hu.form
  go_wp2_with fail
  refine (subset_any _ _ l (toks p) w1 (hsl.keep hb1) hu hm hh hn (by omega)).mono ?_
  rintro e w2 ⟨rfl, rfl⟩
  go_wp2
  go_ret
  exact ⟨rfl, hb1⟩
end Go.Proofs.YtehlmjecbljafaaGreatDoor
namespace Go.Proofs.YtehlmjecbljafaaGreatDoor
open Go Go.RowKit
/-- Tokens, each with a dot behind it. -/
def dots (l : List (List UInt8)) : List UInt8 := l.flatMap fun t => t ++ [46]
theorem joinD_dots : ∀ (l r : List (List UInt8)), r ≠ [] → joinD (l ++ r) = dots l ++ joinD r
  | [], r, _ => by simp [dots]
  | t :: l, r, h => by
    have ih := joinD_dots l r h
    have hne : ∃ x xs, l ++ r = x :: xs := by
      cases l with
      | nil => cases r with
        | nil => exact absurd rfl h
        | cons y ys => exact ⟨_, _, rfl⟩
      | cons y ys => exact ⟨_, _, rfl⟩
    obtain ⟨x, xs, e⟩ := hne
    rw [List.cons_append, e]
    simp only [joinD]
    rw [← e, ih]
    simp [dots]
theorem joinD_one (t : List UInt8) : joinD [t] = t := rfl
theorem dots_snoc (l : List (List UInt8)) (t : List UInt8) : dots (l ++ [t]) = dots l ++ t ++ [46] := by simp [dots]
theorem dots_len (l : List (List UInt8)) : (dots l).length = sumL l := by
  induction l with
  | nil => simp [dots, sumL]
  | cons t r ih =>
    simp only [dots, List.flatMap_cons, List.length_append, List.length_cons, List.length_nil, sumL, List.foldr_cons] at ih ⊢
    omega
theorem splitDot_none : ∀ t : List UInt8, 46 ∉ t → splitDot t = [t]
  | [], _ => rfl
  | c :: r, h => by
    have hc : c ≠ 46 := fun e => h (by simp [e])
    have ih := splitDot_none r (fun hm => h (by simp [hm]))
    unfold splitDot
    rw [if_neg hc, ih]
theorem splitDot_dot : ∀ (t r : List UInt8), 46 ∉ t → splitDot (t ++ 46 :: r) = t :: splitDot r
  | [], r, _ => by
    rw [List.nil_append]
    conv => lhs; unfold splitDot
    rw [if_pos rfl]
  | c :: t, r, h => by
    have hc : c ≠ 46 := fun e => h (by simp [e])
    have ih := splitDot_dot t r (fun hm => h (by simp [hm]))
    rw [List.cons_append]
    conv => lhs; unfold splitDot
    rw [if_neg hc, ih]
theorem splitDot_join : ∀ (l : List (List UInt8)), l ≠ [] → (∀ t ∈ l, 46 ∉ t) → splitDot (joinD l) = l
  | [], h, _ => absurd rfl h
  | [t], _, h => by rw [joinD_one]; exact splitDot_none t (h t (by simp))
  | t :: u :: r, _, h => by
    have ih := splitDot_join (u :: r) (by simp) (fun x hx => h x (by simp [hx]))
    simp only [joinD]
    rw [splitDot_dot t _ (h t (by simp)), ih]
theorem toks_join {l : List (List UInt8)} (h : l ≠ []) (hd : ∀ t ∈ l, 46 ∉ t) : toks (mk (joinD l)) = l.map mk := by
  unfold toks
  rw [bs_mk, splitDot_join l h hd]
theorem map_mk_bs (l : List (List UInt8)) : (l.map mk).map bs = l := by
  rw [List.map_map]
  conv => rhs; rw [← List.map_id l]
  apply List.map_congr_left
  intro t _
  exact bs_mk t
theorem dig_ok (n : Nat) : dig n ≠ 46 := by
  unfold dig chB
  intro e
  have := congrArg UInt8.toNat e
  simp at this
  omega
theorem letter_ok {c : UInt8} (h : letterB c) : c ≠ 46 ∧ c ≠ 42 ∧ c ≠ 62 := by
  unfold letterB at h
  refine ⟨?_, ?_, ?_⟩ <;> (rintro rfl; simp at h)
theorem splitDot_nodot {l t : List UInt8} (h : t ∈ splitDot l) : 46 ∉ t := by
  induction l generalizing t with
  | nil => simp [splitDot] at h; subst h; simp
  | cons c r ih =>
    unfold splitDot at h
    split at h
    · rcases List.mem_cons.1 h with rfl | h
      · simp
      · exact ih h
    · rename_i hc
      split at h
      · rename_i u us e
        rcases List.mem_cons.1 h with rfl | h
        · have := ih (t := u) (by rw [e]; simp)
          simp only [List.mem_cons, not_or]
          exact ⟨fun e => hc e.symm, this⟩
        · exact ih (t := t) (by rw [e]; simp [h])
      · simp at h; subst h; simp only [List.mem_cons, List.not_mem_nil, or_false]; exact fun e => hc e.symm
theorem digitsL_ok (n : Nat) : 46 ∉ digitsL n := by
  unfold digitsL
  split
  · simp only [List.mem_cons, List.not_mem_nil, or_false]; exact fun h => dig_ok _ h.symm
  · simp only [List.mem_cons, List.not_mem_nil, or_false, not_or]; exact ⟨fun h => dig_ok _ h.symm, fun h => dig_ok _ h.symm⟩
/-- What a part must be for a mapping that can be turned round. -/
def PartsOK (wn : Nat) (ps : List Part) : Prop := (∀ p ∈ ps, PartOK wn p) ∧ KnownN ps ps.length ∧ 0 < ps.length ∧ ps.length ≤ 10
theorem PartsOK.letters {wn : Nat} {ps : List Part} (h : PartsOK wn ps) {p : Part} (hp : p ∈ ps) (hk : p.kind = 0) : LettersP p.word := by
  obtain ⟨j, hj, e⟩ := List.mem_iff_getElem.1 hp
  exact (h.2.1 j p hj (by rw [List.getElem?_eq_getElem hj, e])).1 hk
theorem PartsOK.last {wn : Nat} {ps : List Part} (h : PartsOK wn ps) {j : Nat} {p : Part} (hp : ps[j]? = some p) (hk : p.kind = 11) : j + 1 = ps.length :=
  (h.2.1 j p (List.getElem?_eq_some_iff.1 hp).1 hp).2.1 hk
theorem texts_ok {wn : Nat} {ps : List Part} (h : PartsOK wn ps) : ∀ t ∈ texts ps, 46 ∉ t := by
  intro t ht
  obtain ⟨p, hp, rfl⟩ := List.mem_map.1 ht
  have hok := h.1 p hp
  unfold textP textL
  split
  · rename_i hk
    intro hm
    exact (letter_ok ((h.letters hp hk).2 _ hm)).1 rfl
  · split
    · simp
    · split
      · simp only [List.mem_cons, not_or]; exact ⟨by decide, digitsL_ok _⟩
      · simp only [List.mem_append, List.mem_cons, List.not_mem_nil, or_false, not_or]
        exact ⟨⟨by decide, digitsL_ok _⟩, by decide⟩
theorem toks_dest {wn : Nat} {ps : List Part} (h : PartsOK wn ps) : toks (mk (joinD (texts ps))) = (texts ps).map mk :=
  toks_join (by
    intro e
    have h1 := congrArg List.length e
    have h2 := h.2.2.1
    rw [texts, List.length_map, List.length_nil] at h1
    omega) (texts_ok h)
/-- What becomes of a part, and of all. -/
def outP (T : List ByteArray) (pl : List Nat) (p : Part) : List UInt8 := if p.kind = 0 then bs p.word else bs ((T[(pl[(p.n - 1).toNat]?).getD 0]?).getD ⟨#[]⟩)
def outT (T : List ByteArray) (pl : List Nat) (m : Nat) (ps : List Part) : List (List UInt8) := ps.flatMap fun p => if p.kind = 11 then (T.drop (m - 1)).map bs else [outP T pl p]
theorem outT_plain {T : List ByteArray} {pl : List Nat} {m : Nat} : ∀ {ps : List Part}, (∀ p ∈ ps, p.kind ≠ 11) → outT T pl m ps = ps.map (outP T pl)
  | [], _ => rfl
  | p :: r, h => by
    have ih := outT_plain (T := T) (pl := pl) (m := m) (ps := r) fun q hq => h q (by simp [hq])
    unfold outT at *
    rw [List.flatMap_cons, if_neg (h p (by simp)), ih]
    rfl
theorem outT_snoc {T : List ByteArray} {pl : List Nat} {m : Nat} {ps : List Part} {p : Part} (h : ∀ q ∈ ps, q.kind ≠ 11) (hp : p.kind = 11) : outT T pl m (ps ++ [p]) = ps.map (outP T pl) ++ (T.drop (m - 1)).map bs := by
  have := outT_plain (T := T) (pl := pl) (m := m) h
  unfold outT at *
  rw [List.flatMap_append, this]
  simp [hp]
/-- What is written behind k parts. -/
def OutSt (T : List ByteArray) (pl : List Nat) (ps : List Part) (k : Nat) (l : List UInt8) : Prop :=
  (∀ q ∈ ps.take k, q.kind ≠ 11) ∧ l = if k < ps.length then dots ((ps.take k).map (outP T pl)) else joinD (ps.map (outP T pl))
theorem outP_len {T : List ByteArray} {pl : List Nat} {p : Part} (hw : p.word.size ≤ 137438953472) (hT : sumL (T.map bs) ≤ 137438953472) : (outP T pl p).length ≤ 137438953472 := by
  unfold outP
  split
  · rw [bs_len]; exact hw
  · cases h : T[(pl[(p.n - 1).toNat]?).getD 0]? with
    | none => simp [bs]
    | some t =>
      have := sumL_mem (List.mem_map_of_mem (f := bs) (List.mem_of_getElem? h))
      simp only [Option.getD_some]
      omega
theorem sumL_le {l : List (List UInt8)} {n : Nat} (h : ∀ t ∈ l, t.length ≤ n) : sumL l ≤ l.length * (n + 1) := by
  induction l with
  | nil => simp [sumL]
  | cons t r ih =>
    have h1 := ih fun t ht => h t (by simp [ht])
    have h2 := h t (by simp)
    simp only [sumL, List.foldr_cons, List.length_cons] at h1 ⊢
    rw [Nat.succ_mul]; omega
theorem OutSt.len {T : List ByteArray} {pl : List Nat} {ps : List Part} {k : Nat} {l : List UInt8} (h : OutSt T pl ps k l) (hk : k < ps.length) (hw : ∀ p ∈ ps, p.word.size ≤ 137438953472) (hT : sumL (T.map bs) ≤ 137438953472) (hn : ps.length ≤ 10) : l.length ≤ 3298534883328 := by
  rw [h.2, if_pos hk, dots_len]
  refine Nat.le_trans (sumL_le (n := 137438953472) fun t ht => ?_) ?_
  · obtain ⟨p, hp, rfl⟩ := List.mem_map.1 ht
    exact outP_len (hw p (List.mem_of_mem_take hp)) hT
  · rw [List.length_map, List.length_take]
    have : min k ps.length ≤ 10 := by omega
    have := Nat.mul_le_mul_right 137438953473 this
    omega
theorem OutSt.step {T : List ByteArray} {pl : List Nat} {ps : List Part} {k : Nat} {l : List UInt8} {p : Part} (h : OutSt T pl ps k l) (hp : ps[k]? = some p) (h11 : p.kind ≠ 11) :
    (k + 1 < ps.length → OutSt T pl ps (k + 1) (l ++ outP T pl p ++ [46])) ∧ (¬ k + 1 < ps.length → OutSt T pl ps (k + 1) (l ++ outP T pl p)) := by
  have hk : k < ps.length := (List.getElem?_eq_some_iff.1 hp).1
  have e : ps.take (k + 1) = ps.take k ++ [p] := by rw [List.take_add_one, hp]; rfl
  have h1 : ∀ q ∈ ps.take (k + 1), q.kind ≠ 11 := by
    intro q hq
    rw [e] at hq
    rcases List.mem_append.1 hq with hq | hq
    · exact h.1 q hq
    · rw [List.mem_singleton] at hq; subst hq; exact h11
  have h2 := h.2
  rw [if_pos hk] at h2
  refine ⟨fun hl => ⟨h1, ?_⟩, fun hl => ⟨h1, ?_⟩⟩
  · rw [if_pos hl, e, List.map_append, List.map_cons, List.map_nil, dots_snoc, h2]
  · rw [if_neg hl]
    have e2 : ps = ps.take k ++ [p] := by
      rw [← e, List.take_of_length_le (by omega)]
    conv => rhs; rw [e2]
    rw [List.map_append, List.map_cons, List.map_nil, joinD_dots _ _ (by simp), joinD_one, h2]
/-- The words of the last '>' . -/
theorem OutSt.last {T : List ByteArray} {pl : List Nat} {m : Nat} {ps : List Part} {k : Nat} {l : List UInt8} {p : Part} (h : OutSt T pl ps k l) (hp : ps[k]? = some p) (h11 : p.kind = 11) (hk : k + 1 = ps.length) :
    l = dots ((ps.take k).map (outP T pl)) ∧ outT T pl m ps = (ps.take k).map (outP T pl) ++ (T.drop (m - 1)).map bs := by
  have h2 := h.2
  rw [if_pos (by omega)] at h2
  refine ⟨h2, ?_⟩
  have e : ps = ps.take k ++ [p] := by
    have : ps.take (k + 1) = ps.take k ++ [p] := by rw [List.take_add_one, hp]; rfl
    rw [← this, List.take_of_length_le (by omega)]
  conv => lhs; rw [e]
  exact outT_snoc h.1 h11
theorem OutSt.all {T : List ByteArray} {pl : List Nat} {m : Nat} {ps : List Part} {l : List UInt8} (h : OutSt T pl ps ps.length l) : l = joinD (outT T pl m ps) ∧ ∀ p ∈ ps, p.kind ≠ 11 := by
  have h1 := h.1
  rw [List.take_length] at h1
  refine ⟨?_, h1⟩
  rw [h.2, if_neg (by omega), outT_plain h1]
theorem toks_pos (s : ByteArray) : 0 < (toks s).length := by
  unfold toks; rw [List.length_map]; exact List.length_pos_iff.2 (splitDot_ne _)
/-- What is written behind the front F and the tokens from place m to place j. -/
def RestSt (F : List (List UInt8)) (T : List ByteArray) (m j : Nat) (l : List UInt8) : Prop :=
  l = if j < T.length then dots (F ++ ((T.drop m).map bs).take (j - m)) else joinD (F ++ (T.drop m).map bs)
theorem RestSt.start {F : List (List UInt8)} {T : List ByteArray} {m : Nat} {l : List UInt8} (h : l = dots F) (hm : m < T.length) : RestSt F T m m l := by
  unfold RestSt; rw [if_pos hm, h]; simp
theorem RestSt.all {F : List (List UInt8)} {T : List ByteArray} {m : Nat} {l : List UInt8} (h : RestSt F T m T.length l) : l = joinD (F ++ (T.drop m).map bs) := by
  unfold RestSt at h; rwa [if_neg (by omega)] at h
theorem RestSt.step {F : List (List UInt8)} {T : List ByteArray} {m j : Nat} {l : List UInt8} {u : ByteArray} (h : RestSt F T m j l) (hu : T[j]? = some u) (hm : m ≤ j) :
    (j + 1 < T.length → RestSt F T m (j + 1) (l ++ bs u ++ [46])) ∧ (¬ j + 1 < T.length → RestSt F T m (j + 1) (l ++ bs u)) := by
  have hj : j < T.length := (List.getElem?_eq_some_iff.1 hu).1
  unfold RestSt at h ⊢
  rw [if_pos hj] at h
  have e : ((T.drop m).map bs).take (j + 1 - m) = ((T.drop m).map bs).take (j - m) ++ [bs u] := by
    rw [show j + 1 - m = (j - m) + 1 by omega, List.take_add_one]
    congr 1
    rw [List.getElem?_map, List.getElem?_drop, show m + (j - m) = j by omega, hu]; rfl
  refine ⟨fun hl => ?_, fun hl => ?_⟩
  · rw [if_pos hl, e, ← List.append_assoc, dots_snoc, h]
  · rw [if_neg hl]
    have e2 : (T.drop m).map bs = ((T.drop m).map bs).take (j - m) ++ [bs u] := by
      rw [← e, List.take_of_length_le (by simp; omega)]
    conv => rhs; rw [e2]
    rw [← List.append_assoc, joinD_dots _ _ (by simp), joinD_one, h]
theorem sumL_append (a b : List (List UInt8)) : sumL (a ++ b) = sumL a + sumL b := by
  induction a with
  | nil => simp [sumL]
  | cons t r ih => simp only [List.cons_append, sumL, List.foldr_cons] at ih ⊢; omega
theorem sumL_drop (l : List (List UInt8)) (k : Nat) : sumL (l.drop k) ≤ sumL l := by
  have := sumL_append (l.take k) (l.drop k)
  rw [List.take_append_drop] at this
  omega
theorem RestSt.len {T : List ByteArray} {pl : List Nat} {ps : List Part} {k m j : Nat} {l : List UInt8} (h : RestSt ((ps.take k).map (outP T pl)) T m j l) (hw : ∀ q ∈ ps.take k, (outP T pl q).length ≤ 137438953472) (hT : sumL (T.map bs) ≤ 137438953472) (hn : ps.length ≤ 10) (hj : j < T.length) : l.length ≤ 3298534883328 := by
  unfold RestSt at h
  rw [if_pos hj] at h
  rw [h, dots_len, sumL_append]
  have h1 : sumL ((ps.take k).map (outP T pl)) ≤ 10 * 137438953473 := by
    refine Nat.le_trans (sumL_le (n := 137438953472) fun t ht => ?_) ?_
    · obtain ⟨p, hp, rfl⟩ := List.mem_map.1 ht
      exact hw p hp
    · rw [List.length_map, List.length_take]
      exact Nat.mul_le_mul_right _ (by omega)
  have h2 := sumL_take ((T.drop m).map bs) (j - m)
  have h3 : sumL ((T.drop m).map bs) ≤ sumL (T.map bs) := by rw [List.map_drop]; exact sumL_drop _ _
  omega
end Go.Proofs.YtehlmjecbljafaaGreatDoor
namespace Go.Proofs.YtehlmjecbljafaaGreatDoor
open Go Go.RowKit
theorem frame_fun {T : Array Value} {n : Nat} (hn : T.size = n) : T = ((List.range n).map fun i => T.getD i undef).toArray := by
  apply Array.ext
  · simp [hn]
  · intro i h1 h2
    simp [h1]
/-- What the end of a round must show. -/
def BigEnd (n slot : Nat) (T0 : Array Value) (ds : List Deferred) (keep : List Nat) (R : Value → World → Prop) (mu : Value → Nat) (v0 : Value) (a' : Act) (w' : World) : Prop :=
  (a'.tmps.size = n ∧ a'.defers = ds ∧ (∀ i ∈ keep, a'.tmps.getD i undef = T0.getD i undef) ∧ R (a'.tmps.getD slot undef) w') ∧ mu (a'.tmps.getD slot undef) < mu v0
theorem wp_loop_big {P : Program} {c : Code} {T0 : Array Value} {ds : List Deferred} {w : World} {Q : Exit → Act → World → Prop} (n slot : Nat) (lit : (Nat → Value) → List Value) (hlit : ∀ f, (List.range n).map f = lit f) (hn : T0.size = n) (keep : List Nat) (R : Value → World → Prop) (mu : Value → Nat)
    (h0 : R (T0.getD slot undef) w)
    (round : ∀ (f : Nat → Value) (w' : World), (∀ i ∈ keep, f i = T0.getD i undef) → R (f slot) w' →
      c.wp P (Exit.then (BigEnd n slot T0 ds keep R mu (f slot)) Q) ⟨(lit f).toArray, ds⟩ w') :
    (Code.loop c).wp P Q ⟨T0, ds⟩ w := by
  refine wp_loop (fun a' w' => a'.tmps.size = n ∧ a'.defers = ds ∧ (∀ i ∈ keep, a'.tmps.getD i undef = T0.getD i undef) ∧ R (a'.tmps.getD slot undef) w') (fun a' _ => mu (a'.tmps.getD slot undef)) ⟨hn, rfl, fun _ _ => rfl, h0⟩ ?_
  rintro ⟨T, d⟩ w' ⟨h1, h2, h3, h4⟩
  dsimp only at h1 h2 h3 h4
  subst h2
  have e := frame_fun h1
  have hr := round (fun i => T.getD i undef) w' h3 h4
  rw [← hlit] at hr
  rw [← e] at hr
  exact hr
def lit594 (f : Nat → Value) : List Value := [f 0, f 1, f 2, f 3, f 4, f 5, f 6, f 7, f 8, f 9, f 10, f 11, f 12, f 13, f 14, f 15, f 16, f 17, f 18, f 19, f 20, f 21, f 22, f 23, f 24, f 25, f 26, f 27, f 28, f 29, f 30, f 31, f 32, f 33, f 34, f 35, f 36, f 37, f 38, f 39, f 40, f 41, f 42, f 43, f 44, f 45, f 46, f 47, f 48, f 49, f 50, f 51, f 52, f 53, f 54, f 55, f 56, f 57, f 58, f 59, f 60, f 61, f 62, f 63, f 64, f 65, f 66, f 67, f 68, f 69, f 70, f 71, f 72, f 73, f 74, f 75, f 76, f 77, f 78, f 79, f 80, f 81, f 82, f 83, f 84, f 85, f 86, f 87, f 88, f 89, f 90, f 91, f 92, f 93, f 94, f 95, f 96, f 97, f 98, f 99, f 100, f 101, f 102, f 103, f 104, f 105, f 106, f 107, f 108, f 109, f 110, f 111, f 112, f 113, f 114, f 115, f 116, f 117, f 118, f 119, f 120, f 121, f 122, f 123, f 124, f 125, f 126, f 127, f 128, f 129, f 130, f 131, f 132, f 133, f 134, f 135, f 136, f 137, f 138, f 139, f 140, f 141, f 142, f 143, f 144, f 145, f 146, f 147, f 148, f 149, f 150, f 151, f 152, f 153, f 154, f 155, f 156, f 157, f 158, f 159, f 160, f 161, f 162, f 163, f 164, f 165, f 166, f 167, f 168, f 169, f 170, f 171, f 172, f 173, f 174, f 175, f 176, f 177, f 178, f 179, f 180, f 181, f 182, f 183, f 184, f 185, f 186, f 187, f 188, f 189, f 190, f 191, f 192, f 193, f 194, f 195, f 196, f 197, f 198, f 199, f 200, f 201, f 202, f 203, f 204, f 205, f 206, f 207, f 208, f 209, f 210, f 211, f 212, f 213, f 214, f 215, f 216, f 217, f 218, f 219, f 220, f 221, f 222, f 223, f 224, f 225, f 226, f 227, f 228, f 229, f 230, f 231, f 232, f 233, f 234, f 235, f 236, f 237, f 238, f 239, f 240, f 241, f 242, f 243, f 244, f 245, f 246, f 247, f 248, f 249, f 250, f 251, f 252, f 253, f 254, f 255, f 256, f 257, f 258, f 259, f 260, f 261, f 262, f 263, f 264, f 265, f 266, f 267, f 268, f 269, f 270, f 271, f 272, f 273, f 274, f 275, f 276, f 277, f 278, f 279, f 280, f 281, f 282, f 283, f 284, f 285, f 286, f 287, f 288, f 289, f 290, f 291, f 292, f 293, f 294, f 295, f 296, f 297, f 298, f 299, f 300, f 301, f 302, f 303, f 304, f 305, f 306, f 307, f 308, f 309, f 310, f 311, f 312, f 313, f 314, f 315, f 316, f 317, f 318, f 319, f 320, f 321, f 322, f 323, f 324, f 325, f 326, f 327, f 328, f 329, f 330, f 331, f 332, f 333, f 334, f 335, f 336, f 337, f 338, f 339, f 340, f 341, f 342, f 343, f 344, f 345, f 346, f 347, f 348, f 349, f 350, f 351, f 352, f 353, f 354, f 355, f 356, f 357, f 358, f 359, f 360, f 361, f 362, f 363, f 364, f 365, f 366, f 367, f 368, f 369, f 370, f 371, f 372, f 373, f 374, f 375, f 376, f 377, f 378, f 379, f 380, f 381, f 382, f 383, f 384, f 385, f 386, f 387, f 388, f 389, f 390, f 391, f 392, f 393, f 394, f 395, f 396, f 397, f 398, f 399, f 400, f 401, f 402, f 403, f 404, f 405, f 406, f 407, f 408, f 409, f 410, f 411, f 412, f 413, f 414, f 415, f 416, f 417, f 418, f 419, f 420, f 421, f 422, f 423, f 424, f 425, f 426, f 427, f 428, f 429, f 430, f 431, f 432, f 433, f 434, f 435, f 436, f 437, f 438, f 439, f 440, f 441, f 442, f 443, f 444, f 445, f 446, f 447, f 448, f 449, f 450, f 451, f 452, f 453, f 454, f 455, f 456, f 457, f 458, f 459, f 460, f 461, f 462, f 463, f 464, f 465, f 466, f 467, f 468, f 469, f 470, f 471, f 472, f 473, f 474, f 475, f 476, f 477, f 478, f 479, f 480, f 481, f 482, f 483, f 484, f 485, f 486, f 487, f 488, f 489, f 490, f 491, f 492, f 493, f 494, f 495, f 496, f 497, f 498, f 499, f 500, f 501, f 502, f 503, f 504, f 505, f 506, f 507, f 508, f 509, f 510, f 511, f 512, f 513, f 514, f 515, f 516, f 517, f 518, f 519, f 520, f 521, f 522, f 523, f 524, f 525, f 526, f 527, f 528, f 529, f 530, f 531, f 532, f 533, f 534, f 535, f 536, f 537, f 538, f 539, f 540, f 541, f 542, f 543, f 544, f 545, f 546, f 547, f 548, f 549, f 550, f 551, f 552, f 553, f 554, f 555, f 556, f 557, f 558, f 559, f 560, f 561, f 562, f 563, f 564, f 565, f 566, f 567, f 568, f 569, f 570, f 571, f 572, f 573, f 574, f 575, f 576, f 577, f 578, f 579, f 580, f 581, f 582, f 583, f 584, f 585, f 586, f 587, f 588, f 589, f 590, f 591, f 592, f 593]
set_option maxRecDepth 100000 in
theorem lit594_eq (f : Nat → Value) : (List.range 594).map f = lit594 f := rfl
end Go.Proofs.YtehlmjecbljafaaGreatDoor
