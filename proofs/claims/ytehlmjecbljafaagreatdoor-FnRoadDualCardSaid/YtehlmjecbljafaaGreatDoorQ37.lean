/- The server's list: ReverseMatch. A script's answers: Lists, numbers, found, Count. -/
import Derived.Test.YtehlmjecbljafaaGreatDoorQ12
import Derived.Test.YtehlmjecbljafaaGreatDoorQ35
import Derived.Test.YtehlmjecbljafaaGreatDoorQ36
import Derived.LaidEqlPtr
namespace Go.Proofs.YtehlmjecbljafaaGreatDoor
open Go Go.RowKit
theorem built247 : Tryz.prog.built 247 [] = some #[.slice none 0 0, .slice none 0 0, .slice none 0 0] := by kernel_rfl
/-- A list's row while one reads. -/
def slRead (root : Nat) (cache : Value) (g m h i r sw c : Int) : Array Value :=
  #[.int .i32 0, .int .u32 0, .int .u32 0, .int .u32 0, .int .i32 1, .int .i32 0, .int .u64 g, .int .u64 m, .int .u64 h, .int .u64 i, .int .u64 r, .pointer (some ⟨root, 0, none⟩), cache, .int .i32 sw, .int .u32 c]
set_option maxRecDepth 100000 in
set_option maxHeartbeats 1600000 in
theorem empty194_any (w : World) : Calls Tryz.prog 194 #[] w fun e w' => e = .returned (.pointer (some ⟨w.heap.size, 0, none⟩)) ∧ w' = w.alloc (.cells #[.slice none 0 0, .slice none 0 0, .slice none 0 0] 247) := by
  go_enter Tryz.func194, Tryz.ntmps194
  go_wp2_with (refine wpList_boxZ 247 _ _ built247 rfl rfl rfl rfl (by rfl) ?_)
  go_ret
  exact ⟨rfl, rfl⟩
/-- A result in memory. -/
def ResAt (w : World) (B R : Nat) (l : List Nat) : Prop := ∃ ov, w.heap[R]? = some (.cells #[ov, .slice none 0 0, .slice none 0 0] 247 (0, 0)) ∧ Own w (R + 1) 1 ov l.length (l.map atBlk) ∧ B ≤ R
set_option maxRecDepth 100000 in
set_option maxHeartbeats 6400000 in
theorem reverse_any (b : Nat) (s : ByteArray) (cv : Value) (g m h i r sw c : Int) (T : STrie) (D : Nat) (all : List Nat) (F : Nat → Prop) (w : World) (hb : w.heap[b]? = some (.cells (slCells (T.aL []) cv g m h i r sw c) 229 (0, 0))) (hT : STrieOK T F w) (hL : STL T D all) (hF : ∀ k, F k → k < w.heap.size) (hFb : ¬ F b) (hP : PatP ((toks s).map bs)) (hs : s.size ≤ 100000) :
    Calls Tryz.prog 147 #[.pointer (some ⟨b, 0, none⟩), .string s] w fun e w' => ∃ R l, e = .returned (.pointer (some ⟨R, 0, none⟩)) ∧ ResAt w' w.heap.size R l ∧ FoundS T (RevQ [] ((toks s).map bs)) l ∧ w'.heap[b]? = some (.cells (slCells (T.aL []) cv g m h i r sw c) 229 (0, 0)) ∧ Only (· = b) w w' := by
  have hlb := (Array.getElem?_eq_some_iff.1 hb).1
  have HP := Lib.hid hP; clear hP
  have HL := Lib.hid hL; clear hL
  have HT := Lib.hid hT; clear hT
  go_enter Tryz.func147, Tryz.ntmps147
  go_wp2_with (refine wpList_zero3 180 zero32 32 _ _ z32b z32i z32s z32o rfl rfl rfl rfl rfl rfl (by rfl) (by rfl) ?_)
  have hown0 := own32 w
  have hb0 := (Below.refl w.heap.size w).alloc (Nat.le_refl _) (.cells zero32 180)
  go_loopw [6, 7, 8] (fun v f i wr => ∃ (k kf : Nat) (ss : List ByteArray), k ≤ s.size ∧ kf ≤ k ∧ i = .int .i64 k ∧ f = .int .i64 kf ∧ Hid (Done s kf k ss) ∧ Own wr w.heap.size 1 v ss.length (ss.map Value.string) ∧ Below w.heap.size w wr) (fun _ _ i _ => s.size - (intOf i).toNat)
  case atStart => exact ⟨0, 0, [], by omega, by omega, rfl, rfl, done_start s, hown0, hb0⟩
  case round =>
    obtain ⟨k, kf, ss, hk, hkf, rfl, rfl, HD, hown, hbel⟩ := hrel
    have hB := hbel.size
    have hssl := done_len HD.out hk
    by_cases hlt : k < s.size
    · by_cases hc : s[k] = 46
      · have hd2 := done_dot HD.out hlt hc
        have hcb : (((s[k]).toNat : Int) == 46) = true := by rw [hc]; rfl
        have HD2 := Lib.hid hd2; clear hd2 hc
        go_wp2_with (at_builtin; go_must (refine wpList_app1 et32 rfl _ _ rfl w.heap.size rfl hown [_] rfl rfl (by simp [Value.oneCell']) (by omega) hB ?_); intro v' w1 hown1 hgrow)
        go_roundw
        case rel => exact ⟨k+1, k+1, _, hlt, Nat.le_refl _, by go_num, by go_num, HD2.out, by simpa using hown1, bel_app hbel hgrow hown hB⟩
        case measure => simp [intOf]; omega
      · have hcb : (((s[k]).toNat : Int) == 46) = false := by
          rw [beq_eq_false_iff_ne]; intro e; exact hc (UInt8.toNat_inj.1 (show (s[k]).toNat = 46 by omega))
        have hd2 := done_no HD.out hlt hkf hc
        have HD2 := Lib.hid hd2; clear hd2 hc
        go_wp2
        go_roundw
        case rel => exact ⟨k+1, kf, ss, hlt, by omega, by go_num, rfl, HD2.out, hown, hbel⟩
        case measure => simp [intOf]; omega
    · obtain rfl : k = s.size := by omega
      have hend := done_end HD.out
      have HE := Lib.hid hend; clear hend
      go_wp2_with (first | (at_builtin; go_must (refine wpList_app1 et32 rfl _ _ rfl w.heap.size rfl hown [_] rfl rfl (by simp [Value.oneCell']) (by omega) hB ?_); intro v' w1 hown1 hgrow) | (refine wpList_boxZ 247 _ _ built247 rfl rfl rfl rfl (by rfl) ?_))
      have hbw := bel_app hbel hgrow hown hB
      have hzw := hbw.size
      have hb1 := (hbw.block b hlb).trans hb
      have hal := heap_alloc_new w1 (.cells #[.slice none 0 0, .slice none 0 0, .slice none 0 0] 247)
      have hba := (Below.refl w1.heap.size w1).alloc (Nat.le_refl _) (.cells #[.slice none 0 0, .slice none 0 0, .slice none 0 0] 247)
      have hza : (w1.alloc (.cells #[.slice none 0 0, .slice none 0 0, .slice none 0 0] 247)).heap.size = w1.heap.size + 1 := by simp
      have hown2 := hown1.keep hba
      have hbk := (hba.block b (by omega)).trans hb1
      have hbW := hbw.trans (hba.mono hzw)
      have hFo := hown1.lt
      generalize w1.alloc (.cells #[.slice none 0 0, .slice none 0 0, .slice none 0 0] 247) = wA at *
      have hrl := RwLone.rlock_open rwRLib b 0 0 _ _ wA ((cell_row (j := 0) hbk).trans (show _ = some (Value.int .i32 0) from rfl)) ((cell_row (j := 3) hbk).trans (show _ = some (Value.int .u32 0) from rfl)) ((cell_row (j := 4) hbk).trans (show _ = some (Value.int .i32 0) from rfl)) (frozen_row (j := 4) hbk) (by rw [wrap_up]; decide)
      have h4 : (wA.setCell ⟨b, 4, none⟩ (.int .i32 1)).heap[b]? = some (.cells (slRead (T.aL []) cv g m h i r sw c) 229 (0, 0)) := heap_setCell_same wA b 4 _ 229 (.int .i32 1) hbk
      have ho4 : Only (· = b) wA (wA.setCell ⟨b, 4, none⟩ (.int .i32 1)) := (Only.refl (· = b) wA).set (.inl rfl) _
      refine hrl.mono ?_
      rintro e w3 ⟨rfl, hw3⟩
      rw [wrap_up] at hw3
      simp only [Nat.zero_add] at hw3
      rw [← hw3] at h4 ho4
      have hT3 := HT.out.keep (w' := w3) fun x hx => (ho4.block x (by have := hF x hx; omega) (fun e => hFb (e ▸ hx))).trans (hbW.block x (hF x hx))
      have hz3 := ho4.size
      have hF3 : ∀ k, F k → k < w3.heap.size := fun k hk => by have := hF k hk; omega
      have hsl3 := (hown2.only ho4 (fun k hk e => by have := (hown1.lt k hk).1; omega)).sl
      have hlen : ss.length + 1 = (toks s).length := by
        have := congrArg List.length HE.out
        simpa using this
      have hts : ss.map Value.string ++ [Value.string (s.extract kf s.size)] = (toks s).map Value.string := by rw [← HE.out]; simp
      rw [hts, hlen] at hsl3
      clear hts hlen
      have hR3 := (ho4.block w1.heap.size (by omega) (by omega)).trans hal
      have r11 := (cell_row (j := 11) h4).trans (show _ = some (Value.pointer (some ⟨T.aL [], 0, none⟩)) from rfl)
      have hF9 : ∀ k, (F k ∨ v'.ownBlock = some k) → k < w3.heap.size := fun k hk => by
        rcases hk with hk | hk
        · exact hF3 k hk
        · have := (hFo k hk).2; omega
      have hR9 : ¬ (F w1.heap.size ∨ v'.ownBlock = some w1.heap.size) := by
        rintro (e | e)
        · have := hF _ e; omega
        · have := (hFo _ e).2; omega
      have hPz := toks_len s
      have hma := revLevel_any T D all w1.heap.size HL.out (toks s).length [] (toks s) v' (.pointer none) (fun k => F k ∨ v'.ownBlock = some k) (fun _ => False) w3 rfl hT3.root (hT3.wider fun k => .inl) hsl3 (fun b o n c e => .inr (by rw [e]; rfl)) (fun _ => rfl) (fun h => absurd rfl h) (fun q h => h.elim)
        ⟨[], ⟨List.nodup_nil, fun b => by simp⟩, ⟨_, hR3, Own.nil _ _ _, fun k hk => by cases hk⟩, Only.refl _ _⟩ hF9 hR9 (fun t ht => by
          have := HP.out.ne (bs t) (List.mem_map_of_mem ht)
          exact ⟨bs_pos this, by have := toks_mem ht; unfold maxLen; omega⟩) (fun k t hk ht => by
          have := HP.out.last k (by rw [List.getElem?_map, hk]; exact congrArg some ht)
          rwa [List.length_map] at this) (by omega)
      have HO4 := Lib.hid ho4
      have HFb := Lib.hid (fun k (h : v'.ownBlock = some k) => hFo k h)
      have HBW := Lib.hid hbW
      clear hT3 hF3 hsl3 hrl hw3 hF9 hR9 ho4 hown2 hown1 hbk hb1 hal hFo hba hbW
      go_wp2_with fail
      refine hma.mono ?_
      rintro e w5 ⟨rfl, ho5⟩
      have hbF : ¬ (F b ∨ v'.ownBlock = some b) := by
        rintro (e | e)
        · exact hFb e
        · have := (HFb.out b e).1; omega
      have h5 := (ho5.only.block b (Array.getElem?_eq_some_iff.1 h4).1 (fun e => by omega)).trans h4
      have hz5 := ho5.size
      obtain ⟨l, hfl, ⟨ov, k1, k2, k3⟩, k4⟩ := ho5
      obtain ⟨oa, oc, rfl, -⟩ := k2.form
      have c50 := (cell_row (j := 0) k1).trans (show _ = some (Value.slice oa l.length oc) from rfl)
      have c51 := (cell_row (j := 1) k1).trans (show _ = some (Value.slice none 0 0) from rfl)
      have HFL := Lib.hid hfl
      have K1 := Lib.hid k1
      have K2 := Lib.hid k2
      have K4 := Lib.hid k4
      clear hma hfl k1 k2 k3 k4
      have ofin : ∀ w6 : World, Below w5.heap.size w5 w6 → (w6.setCell ⟨b, 4, none⟩ (.int .i32 0)).heap[b]? = some (.cells (slCells (T.aL []) cv g m h i r sw c) 229 (0, 0)) ∧ Only (· = b) w (w6.setCell ⟨b, 4, none⟩ (.int .i32 0)) := fun w6 hb6 => by
        have h6 := (hb6.block b (Array.getElem?_eq_some_iff.1 h5).1).trans h5
        refine ⟨heap_setCell_same w6 b 4 _ 229 (.int .i32 0) h6, ?_⟩
        have o1 : Only (· = b) w wA := ⟨HBW.out.os, HBW.out.tape, HBW.out.output, HBW.out.size, fun k hk _ => HBW.out.block k hk⟩
        have o3 := o1.trans HO4.out fun k hk => .inl hk
        have o5 := o3.trans K4.out fun k hk => .inr (by omega)
        have o6 := o5.trans (Only.of (F := (· = b)) hb6) fun k hk => .inl hk
        exact o6.set (.inl rfl) _
      have OF := Lib.hid ofin; clear ofin
      by_cases hl0 : l = []
      · have e0 : ((l.length : Int) == 0) = true := by rw [hl0]; rfl
        have HL0 := Lib.hid hl0; clear hl0
        go_wp2_with fail
        refine (empty194_any w5).mono ?_
        rintro e w6 ⟨rfl, hw6⟩
        have hb6 : Below w5.heap.size w5 w6 := by rw [hw6]; exact (Below.refl _ w5).alloc (Nat.le_refl _) _
        have h6 := (hb6.block b (Array.getElem?_eq_some_iff.1 h5).1).trans h5
        have hn6 : w6.heap[w5.heap.size]? = some (.cells #[.slice none 0 0, .slice none 0 0, .slice none 0 0] 247 (0, 0)) := by rw [hw6]; exact heap_alloc_new _ _
        have hru := RwLone.runlock_held rwRLib b 0 1 _ _ w6 ((cell_row (j := 0) h6).trans (show _ = some (Value.int .i32 0) from rfl)) ((cell_row (j := 2) h6).trans (show _ = some (Value.int .u32 0) from rfl)) ((cell_row (j := 4) h6).trans (show _ = some (Value.int .i32 1) from rfl)) (frozen_row (j := 4) h6) (by rw [wrap_down]; decide)
        rw [wrap_down] at hru
        clear hw6
        go_wp2_with fail
        refine hru.mono ?_
        rintro e w7 ⟨rfl, hw7⟩
        have HW7 := Lib.hid hw7; clear hw7
        clear hru
        go_wp2
        go_ret
        have := OF.out w6 hb6
        rw [show w7 = w6.setCell ⟨b, 4, none⟩ (.int .i32 0) from HW7.out]
        refine ⟨w5.heap.size, [], rfl, ⟨_, (heap_setCell_other _ _ _ _ (by show w5.heap.size ≠ b; omega)).trans hn6, Own.nil _ _ _, by omega⟩, ?_, this⟩
        have := HFL.out.congr (Q' := RevQ [] ((toks s).map bs)) fun q b hb => by simp
        rw [HL0.out] at this
        exact this
      · have e0 : ((l.length : Int) == 0) = false := by
          rw [beq_eq_false_iff_ne]
          intro e
          exact hl0 (List.eq_nil_of_length_eq_zero (by omega))
        have HL0 := Lib.hid hl0; clear hl0
        have hru := RwLone.runlock_held rwRLib b 0 1 _ _ w5 ((cell_row (j := 0) h5).trans (show _ = some (Value.int .i32 0) from rfl)) ((cell_row (j := 2) h5).trans (show _ = some (Value.int .u32 0) from rfl)) ((cell_row (j := 4) h5).trans (show _ = some (Value.int .i32 1) from rfl)) (frozen_row (j := 4) h5) (by rw [wrap_down]; decide)
        rw [wrap_down] at hru
        go_wp2_with fail
        refine hru.mono ?_
        rintro e w7 ⟨rfl, hw7⟩
        have HW7 := Lib.hid hw7; clear hw7
        clear hru
        go_wp2
        go_ret
        have := OF.out w5 (Below.refl _ _)
        rw [show w7 = w5.setCell ⟨b, 4, none⟩ (.int .i32 0) from HW7.out]
        refine ⟨w1.heap.size, l, rfl, ⟨_, (heap_setCell_other _ _ _ _ (by show w1.heap.size ≠ b; omega)).trans K1.out, K2.out.kept fun k hk => heap_setCell_other _ _ _ _ (by have := (K2.out.lt k hk).1; show k ≠ b; omega), by omega⟩, ?_, this⟩
        exact HFL.out.congr (Q' := RevQ [] ((toks s).map bs)) fun q b hb => by simp
end Go.Proofs.YtehlmjecbljafaaGreatDoor
namespace Go.Proofs.YtehlmjecbljafaaGreatDoor
open Go Go.RowKit
set_option maxRecDepth 100000 in
set_option maxHeartbeats 800000 in
theorem lists_any (R : Nat) (ov : Value) (w : World) (h : w.heap[R]? = some (.cells #[ov, .slice none 0 0, .slice none 0 0] 247 (0, 0))) :
    Calls Tryz.prog 189 #[.pointer (some ⟨R, 0, none⟩)] w fun e w' => e = .returned (.tuple #[ov, .slice none 0 0]) ∧ Below w.heap.size w w' := by
  have c0 := (cell_row (j := 0) h).trans (show _ = some ov from rfl)
  have c1 := (cell_row (j := 1) h).trans (show _ = some (Value.slice none 0 0) from rfl)
  go_enter Tryz.func189, Tryz.ntmps189
  go_wp2
  go_quiet (fail)
  go_wp2
  go_ret2
  exact ⟨rfl, below_drewN (Below.refl _ _) nq⟩
theorem ptr231 {W : World} {a b : Nat} {ca cb : Array Value} {ta tb : TypeId} (ha : W.heap[a]? = some (.cells ca ta (0, 0))) (hb : W.heap[b]? = some (.cells cb tb (0, 0))) :
    (binOp .eql 231 (.pointer (some ⟨a, 0, none⟩)) (.pointer (some ⟨b, 0, none⟩))).run Tryz.prog W = .ok (.bool (decide (a = b))) W := by
  obtain ⟨j, hj, hjs⟩ := Option.map_eq_some_iff.1 info282
  by_cases e : a = b
  · subst e
    rw [run_eql_ptr_same (w := W) (hp := Tryz.underlying231) (hte := hj), decide_eq_true rfl]
  · rw [run_eql_ptr_other W (a := ⟨a, 0, none⟩) (b := ⟨b, 0, none⟩) Tryz.underlying231 hj (by rw [hjs]; decide) (fun h => e (by cases h; rfl)) ha hb, decide_eq_false e]
/-- The numbers of subscriptions. -/
def NumsOf (ids : List Int) (subs l : List Nat) (out : List Int) : Prop := out.length = l.length ∧ ∀ (j b : Nat), l[j]? = some b → ∃ (k : Nat) (x : Int), subs[k]? = some b ∧ ids[k]? = some x ∧ out[j]? = some x
set_option maxRecDepth 100000 in
set_option maxHeartbeats 3200000 in
theorem numbers_any (P b : Nat) (vi vs lv : Value) (ids : List Int) (subs l : List Nat) (w : World) (h : PlayAt w P b vi vs ids subs) (hl : Sl w 1 lv l.length (l.map atBlk)) (hsub : ∀ x ∈ l, x ∈ subs) (hrow : ∀ x ∈ subs, ∃ c t, w.heap[x]? = some (.cells c t (0, 0))) (hn : ids.length ≤ 1000000) (hln : l.length ≤ 1000000) :
    Calls Tryz.prog 190 #[.pointer (some ⟨P, 0, none⟩), lv] w fun e w' => ∃ u out, e = .returned u ∧ Own w' w.heap.size 1 u out.length (ints out) ∧ NumsOf ids subs l out ∧ Below w.heap.size w w' := by
  obtain ⟨ia, ic, hvi, -⟩ := h.own1.form
  obtain ⟨sa, sc, hvs, -⟩ := h.own2.form
  subst hvi hvs
  obtain ⟨la, lc, rfl⟩ := hl.form
  have HP := Lib.hid h; clear h
  have HLV := Lib.hid hl; clear hl
  have HSUB := Lib.hid hsub; clear hsub
  have HROW := Lib.hid hrow; clear hrow
  go_enter Tryz.func190, Tryz.ntmps190
  go_wp2
  go_loopw [5, 6] (fun o i wr => ∃ (j : Nat) (out : List Int), j ≤ l.length ∧ i = .int .i64 j ∧ Own wr w.heap.size 1 o j (ints out) ∧ out.length = j ∧ Hid (NumsOf ids subs (l.take j) out) ∧ Below w.heap.size w wr) (fun _ i _ => l.length - (intOf i).toNat)
  case atStart => exact ⟨0, [], Nat.zero_le _, rfl, Own.nil _ _ _, rfl, Lib.hid ⟨rfl, fun j b h => by simp at h⟩, Below.refl _ _⟩
  case round =>
    obtain ⟨j, out, hj, rfl, hown, hol, HN, hbel⟩ := hrel
    obtain ⟨oa, oc, rfl, -⟩ := hown.form
    have HOL := Lib.hid hol; clear hol
    have hB := hbel.size
    by_cases hlt : j < l.length
    · obtain ⟨x, hx⟩ : ∃ x, l[j]? = some x := ⟨_, List.getElem?_eq_getElem hlt⟩
      have HX := Lib.hid hx
      obtain ⟨wo, rfl⟩ : ∃ x : World, x = wr := ⟨_, rfl⟩
      have HOWN := Lib.hid hown
      go_wp2
      go_loopw [5, 7] (fun o i wr => ∃ k : Nat, k ≤ subs.length ∧ i = .int .i64 k ∧ o = .slice oa j oc ∧ Hid (x ∉ subs.take k) ∧ wr.heap = wo.heap ∧ Below w.heap.size w wr) (fun _ i _ => subs.length - (intOf i).toNat)
      case atStart => exact ⟨0, Nat.zero_le _, rfl, rfl, Lib.hid (by simp), rfl, hbel⟩
      case round =>
        obtain ⟨k, hk, rfl, rfl, HNX, hhp, hbk⟩ := hrel
        have HHP := Lib.hid hhp; clear hhp
        have hp := HP.out.keep hbk
        have hrowP := hp.row
        have HROWP := Lib.hid hrowP
        have c2 := (cell_row (j := 2) hrowP).trans (show _ = some (Value.slice sa subs.length sc) from rfl)
        have c1 := (cell_row (j := 1) hrowP).trans (show _ = some (Value.slice ia ids.length ic) from rfl)
        have HPK := Lib.hid hp
        have hlen := hp.len
        have HLEN := Lib.hid hlen
        have hownk := HOWN.out.kept (w' := wr) fun q _ => by rw [HHP.out]
        obtain ⟨lb, lo, hla, hlc⟩ := HLV.out.cell hbk (by simp; omega)
        have clx := hlc j (atBlk x) (by rw [List.getElem?_map, HX.out]; rfl)
        subst hla
        have hBk := hbk.size
        have hsn : subs.length ≤ 1000000 := by omega
        have hownd := hownk.keep (Below.refl wr.heap.size wr).drew
        have hBd : w.heap.size ≤ wr.drew.heap.size := hBk
        clear hrowP hp hlen hlc
        by_cases hkt : k < subs.length
        · obtain ⟨y, hy⟩ : ∃ y, subs[k]? = some y := ⟨_, List.getElem?_eq_getElem hkt⟩
          have HY := Lib.hid hy
          obtain ⟨sb, so, hsa, hsc⟩ := HPK.out.own2.sl.cell (Below.refl _ wr) (by simp; omega)
          have csy := hsc k (atBlk y) (by rw [List.getElem?_map, HY.out]; rfl)
          subst hsa
          obtain ⟨cx, tx, hxr⟩ := HROW.out x (HSUB.out x (List.mem_of_getElem? HX.out))
          obtain ⟨cy, ty, hyr⟩ := HROW.out y (List.mem_of_getElem? HY.out)
          have hxr := (hbk.block x (Array.getElem?_eq_some_iff.1 hxr).1).trans hxr
          have hyr := (hbk.block y (Array.getElem?_eq_some_iff.1 hyr).1).trans hyr
          have hcmp : (binOp .eql 231 (.pointer (some ⟨y, 0, none⟩)) (.pointer (some ⟨x, 0, none⟩))).run Tryz.prog wr.drew = .ok (.bool (decide (y = x))) wr.drew := ptr231 hyr hxr
          clear hsc hy hx hxr hyr hown
          go_wp2_with fail
          refine wp_region_L [0, 1, 2, 3, 4, 5, 6, 7, 8, 9, 10] (fun W' => W'.cell? ⟨P, 2, none⟩ = some (.slice (some ⟨sb, so, none⟩) subs.length sc) ∧ W'.cell? ⟨sb, so + k, none⟩ = some (atBlk y) ∧ W'.cell? ⟨lb, lo + j, none⟩ = some (atBlk x)) (by kernel_rfl) (by kernel_rfl) ⟨c2, csy, clx⟩ (fun ne => ?_)
          have S0 := fun z : SubC (fun W' => W'.cell? ⟨P, 2, none⟩ = some (.slice (some ⟨sb, so, none⟩) subs.length sc) ∧ W'.cell? ⟨sb, so + k, none⟩ = some (atBlk y) ∧ W'.cell? ⟨lb, lo + j, none⟩ = some (atBlk x)) => z.ok.1
          have S1 := fun z : SubC (fun W' => W'.cell? ⟨P, 2, none⟩ = some (.slice (some ⟨sb, so, none⟩) subs.length sc) ∧ W'.cell? ⟨sb, so + k, none⟩ = some (atBlk y) ∧ W'.cell? ⟨lb, lo + j, none⟩ = some (atBlk x)) => z.ok.2.1
          have S2 := fun z : SubC (fun W' => W'.cell? ⟨P, 2, none⟩ = some (.slice (some ⟨sb, so, none⟩) subs.length sc) ∧ W'.cell? ⟨sb, so + k, none⟩ = some (atBlk y) ∧ W'.cell? ⟨lb, lo + j, none⟩ = some (atBlk x)) => z.ok.2.2
          repeat (refine wpCL_q rfl rfl ?_; go_big_quiet_step (fail); refine wpQuiet_nil ?_)
          refine wpCL_n rfl rfl rfl rfl ?_
          go_simp
          repeat (refine wpCL_q rfl rfl ?_; go_big_quiet_step (fail); refine wpQuiet_nil ?_)
          refine wpCL_last ?_
          clear S0 S1 S2 ne
          by_cases hyx : y = x
          · rw [decide_eq_true hyx] at hcmp
            have hki : k < ids.length := by have := HLEN.out; omega
            obtain ⟨ib, io, z, rfl, Hz, cz, -⟩ := HPK.out.own1.sl.int (Below.refl _ _) hki
            have HYX := Lib.hid hyx; clear hyx
            go_wp2_with (at_builtin; go_must (refine wpList_app1 (W := wr.drew) (v := .slice oa j oc) (n := j) (xs := ints out) et33 rfl _ _ rfl w.heap.size (by rfl) hownd [_] rfl rfl (by simp [Value.oneCell']) (by omega) hBd ?_); intro v' w1 hown1 hgrow)
            have hbd2 := bel_app (w := w) (W := wr.drew) (below_drewN hbk 1) hgrow hownd hBd
            have HB2 := Lib.hid hbd2
            have HO2 := Lib.hid hown1
            clear hbd2 hown1 hgrow hownd hownk hcmp
            go_roundw
            case rel =>
              refine ⟨j + 1, out ++ [z], hlt, by go_num, ?_, ?_, Lib.hid ⟨?_, fun i c hi => ?_⟩, HB2.out⟩
              · have := HO2.out
                rw [show ints (out ++ [z]) = ints out ++ [.int .i64 z] by simp [ints]]
                exact this
              · rw [List.length_append, HOL.out]; rfl
              · rw [List.length_append, HOL.out, List.length_take]; show j + 1 = _; omega
              · rw [List.take_add_one, HX.out] at hi
                have htl : (l.take j).length = j := by rw [List.length_take]; omega
                by_cases hij : i < j
                · rw [List.getElem?_append_left (by omega)] at hi
                  obtain ⟨k', x', h1, h2, h3⟩ := HN.out.2 i c hi
                  exact ⟨k', x', h1, h2, by rw [List.getElem?_append_left (by have := HOL.out; omega)]; exact h3⟩
                · rw [List.getElem?_append_right (by omega), htl] at hi
                  have hi0 : i - j = 0 := by
                    rcases Nat.lt_or_ge (i - j) 1 with h | h
                    · omega
                    · rw [List.getElem?_eq_none (by simpa using h)] at hi; cases hi
                  rw [hi0] at hi
                  have hc : c = x := by simpa using hi.symm
                  subst hc
                  have hij2 : i = j := by omega
                  subst hij2
                  refine ⟨k, z, by rw [HY.out, HYX.out], Hz.out, ?_⟩
                  rw [List.getElem?_append_right (by have := HOL.out; omega), HOL.out, Nat.sub_self]; rfl
            case measure => simp [intOf]; omega
          · rw [decide_eq_false hyx] at hcmp
            have HYX := Lib.hid hyx; clear hyx
            go_wp2
            go_roundw
            case rel =>
              refine ⟨k + 1, hkt, by go_num, rfl, Lib.hid fun h => ?_, HHP.out, below_drewN hbk 1⟩
              rw [List.take_add_one, HY.out] at h
              rcases List.mem_append.1 h with h | h
              · exact HNX.out h
              · exact HYX.out (show x = y by simpa using h).symm
            case measure => simp [intOf]; omega
        · exfalso
          apply HNX.out
          rw [List.take_of_length_le (show subs.length ≤ k by omega)]
          exact HSUB.out x (List.mem_of_getElem? HX.out)
    · obtain rfl : j = l.length := by omega
      go_wp2
      go_ret
      refine ⟨_, out, rfl, (by rw [HOL.out]; exact hown), ?_, hbel⟩
      have := HN.out
      rwa [List.take_length] at this
set_option maxRecDepth 100000 in
set_option maxHeartbeats 3200000 in
theorem found_any (P b : Nat) (vi vs : Value) (ids : List Int) (subs l : List Nat) (B R : Nat) (w : World) (h : PlayAt w P b vi vs ids subs) (hR : ResAt w B R l) (hsub : ∀ x ∈ l, x ∈ subs) (hrow : ∀ x ∈ subs, ∃ c t, w.heap[x]? = some (.cells c t (0, 0))) (hn : ids.length ≤ 1000000) (hln : l.length ≤ 1000000) :
    Calls Tryz.prog 143 #[.pointer (some ⟨P, 0, none⟩), .pointer (some ⟨R, 0, none⟩)] w fun e w' => ∃ u out, e = .returned (.agg #[u, .slice none 0 0]) ∧ Own w' w.heap.size 1 u out.length (ints out) ∧ NumsOf ids subs l out ∧ Below w.heap.size w w' := by
  obtain ⟨ov, r1, r2, -⟩ := hR
  have HP := Lib.hid h; clear h
  have HSUB := Lib.hid hsub; clear hsub
  have HROW := Lib.hid hrow; clear hrow
  have hb0 := (Below.refl w.heap.size w).alloc (Nat.le_refl _) (.cells #[.slice none 0 0, .slice none 0 0] 59)
  have hz0 : (w.alloc (.cells #[.slice none 0 0, .slice none 0 0] 59)).heap.size = w.heap.size + 1 := by simp
  have hlR := (Array.getElem?_eq_some_iff.1 r1).1
  have hl1 := lists_any R ov (w.alloc (.cells #[.slice none 0 0, .slice none 0 0] 59)) ((hb0.block R hlR).trans r1)
  have HR2 := Lib.hid r2; clear r2
  go_enter Tryz.func143, Tryz.ntmps143
  go_wp2_with fail
  refine hl1.mono ?_
  rintro e w1 ⟨rfl, hb1⟩
  have hb2 := bel2 hb0 hb1
  have hrow1 : ∀ x ∈ subs, ∃ c t, w1.heap[x]? = some (.cells c t (0, 0)) := fun x hx => by
    obtain ⟨c, t, h⟩ := HROW.out x hx
    exact ⟨c, t, (hb2.block x (Array.getElem?_eq_some_iff.1 h).1).trans h⟩
  have hnum := numbers_any P b vi vs ov ids subs l w1 (HP.out.keep hb2) (HR2.out.keep hb2).sl HSUB.out hrow1 hn hln
  have HB2 := Lib.hid hb2
  have c4 := (hb1.block w.heap.size (by omega)).trans (heap_alloc_new w (.cells #[.slice none 0 0, .slice none 0 0] 59))
  clear hl1 hrow1 hb0 hb1 hb2
  go_wp2_with fail
  refine hnum.mono ?_
  rintro e w2 ⟨u, out, rfl, hou, hno, hb3⟩
  obtain ⟨ua, uc, rfl, -⟩ := hou.form
  have HOU := Lib.hid hou
  have HB3 := Lib.hid hb3
  have c42 := (hb3.block w.heap.size (Array.getElem?_eq_some_iff.1 c4).1).trans c4
  clear hnum hou hb3
  go_wp2
  go_loopw [8] (fun i wz => i = .int .i64 0 ∧ wz = w2.alloc (Obj.cells #[Value.slice ua out.length uc, Value.slice none 0 0] 59)) (fun _ _ => 0)
  case atStart => exact ⟨rfl, rfl⟩
  case round =>
    obtain ⟨rfl, rfl⟩ := hrel
    have hal := heap_alloc_new w2 (.cells #[Value.slice ua out.length uc, Value.slice none 0 0] 59)
    have hba := (Below.refl w2.heap.size w2).alloc (Nat.le_refl _) (.cells #[Value.slice ua out.length uc, Value.slice none 0 0] 59)
    have d0 := (cell_row (j := 0) hal).trans (show _ = some (Value.slice ua out.length uc) from rfl)
    have d1 := (cell_row (j := 1) hal).trans (show _ = some (Value.slice none 0 0) from rfl)
    have k4 := (hba.block w.heap.size (Array.getElem?_eq_some_iff.1 c42).1).trans c42
    have e0 := (cell_row (j := 0) k4).trans (show _ = some (Value.slice none 0 0) from rfl)
    have e1 := (cell_row (j := 1) k4).trans (show _ = some (Value.slice none 0 0) from rfl)
    have f0 := frozen_row (j := 0) k4
    have f1 := frozen_row (j := 1) k4
    go_wp2
    have s0 := heap_setCell_same _ w.heap.size 0 _ 59 (.slice ua out.length uc) k4
    have s1 := heap_setCell_same _ w.heap.size 1 _ 59 (.slice none 0 0) s0
    refine bodyPost_ret (results_cell_row rfl _ _ w.heap.size 59 _ (0, 0) _ rfl s1 Tryz.underlying59 rfl (by kernel_rfl)) rfl ?_
    have hz1 := HB2.out.size
    have hz2 := HB3.out.size
    refine ⟨_, out, rfl, ?_, hno, ?_⟩
    · refine Own.mono (base := w1.heap.size) ?_ (by omega)
      refine (HOU.out.keep hba).kept fun k hk => ?_
      have := (HOU.out.lt k hk).1
      have hne : k ≠ w.heap.size := by have := (Array.getElem?_eq_some_iff.1 c4).1; omega
      exact (heap_setCell_other _ _ _ _ (show k ≠ w.heap.size from hne)).trans (heap_setCell_other _ _ _ _ (show k ≠ w.heap.size from hne))
    · have o := (Only.of (F := (· = w.heap.size)) ((HB2.out.trans (HB3.out.mono hz1)).trans (hba.mono (by omega))))
      exact ((o.set (.inl rfl) _).set (.inl rfl) _).below (fun k hk => by omega) (by omega)
set_option maxRecDepth 100000 in
set_option maxHeartbeats 800000 in
theorem scount_any (b root : Nat) (cv : Value) (g m h i r sw c : Int) (w : World) (hbk : w.heap[b]? = some (.cells (slCells root cv g m h i r sw c) 229 (0, 0))) :
    Calls Tryz.prog 148 #[.pointer (some ⟨b, 0, none⟩)] w fun e w' => e = .returned (.int .u32 c) ∧ w'.heap[b]? = some (.cells (slCells root cv g m h i r sw c) 229 (0, 0)) ∧ Only (· = b) w w' := by
  have hrl := RwLone.rlock_open rwRLib b 0 0 _ _ w ((cell_row (j := 0) hbk).trans (show _ = some (Value.int .i32 0) from rfl)) ((cell_row (j := 3) hbk).trans (show _ = some (Value.int .u32 0) from rfl)) ((cell_row (j := 4) hbk).trans (show _ = some (Value.int .i32 0) from rfl)) (frozen_row (j := 4) hbk) (by rw [wrap_up]; decide)
  have h4 : (w.setCell ⟨b, 4, none⟩ (.int .i32 1)).heap[b]? = some (.cells (slRead root cv g m h i r sw c) 229 (0, 0)) := heap_setCell_same w b 4 _ 229 (.int .i32 1) hbk
  have ho4 : Only (· = b) w (w.setCell ⟨b, 4, none⟩ (.int .i32 1)) := (Only.refl (· = b) w).set (.inl rfl) _
  go_enter_defers Tryz.func148, Tryz.ntmps148
  go_wp2_with fail
  refine hrl.mono ?_
  rintro e w3 ⟨rfl, hw3⟩
  rw [wrap_up] at hw3
  simp only [Nat.zero_add] at hw3
  rw [← hw3] at h4 ho4
  have r14 := (cell_row (j := 14) h4).trans (show _ = some (Value.int .u32 c) from rfl)
  clear hrl hw3
  go_wp2
  refine leaves_cons (f := 113) (args := #[.pointer (some ⟨b, 0, none⟩)]) (by simp) (by simp [go_sem]) ?_
  refine (RwLone.runlock_deferred rwRLib b 0 1 _ _ .returning w3 ((cell_row (j := 0) h4).trans (show _ = some (Value.int .i32 0) from rfl)) ((cell_row (j := 2) h4).trans (show _ = some (Value.int .u32 0) from rfl)) ((cell_row (j := 4) h4).trans (show _ = some (Value.int .i32 1) from rfl)) (frozen_row (j := 4) h4) (by rw [wrap_down]; decide)).mono ?_
  rintro e u' w9 ⟨rfl, rfl, rfl⟩
  refine ⟨_, results_tmp rfl _ _ _, rfl, ?_, ?_⟩
  · rw [wrap_down]; exact heap_setCell_same w3 b 4 _ 229 (.int .i32 0) h4
  · exact ho4.set (.inl rfl) _
end Go.Proofs.YtehlmjecbljafaaGreatDoor
