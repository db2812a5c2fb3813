/- The laws' conditions on deeds: zzFits, deeds, Plain. who, last, find. grown, given what Tree comes to. The list of interest: ListMatch. Plain words: what becomes of a subject is a good subject, and the pattern that is made back matches it. The plain law of Dual: tree, list turned round and list alone tell the same numbers. Tree: the plain invariant. append of a whole slice in a chain. -/
import Derived.Test.YtehlmjecbljafaaGreatDoorQ8
import Derived.Test.YtehlmjecbljafaaGreatDoorQ11
import Derived.Test.YtehlmjecbljafaaGreatDoorQ14
import Derived.Test.YtehlmjecbljafaaGreatDoorQ30
import Derived.Test.YtehlmjecbljafaaGreatDoorQ36
import Derived.Test.YtehlmjecbljafaaGreatDoorQ39
namespace Go.Proofs.YtehlmjecbljafaaGreatDoor
open Go Go.RowKit
set_option maxRecDepth 100000 in
set_option maxHeartbeats 800000 in
theorem fits6_any (d : Deed) (w : World) : Calls Tryz.prog 58 #[.agg #[.int .i64 d.op, .string d.subj, .int .i64 d.val]] w (RBb True w) := by
  go_enter Tryz.func58, Tryz.ntmps58
  go_wp2
  all_goals go_ret
  all_goals first
    | exact RBb.no ((Below.refl _ _).alloc (Nat.le_refl _) _)
    | exact RBb.of (fun _ => trivial) ((Below.refl _ _).alloc (Nat.le_refl _) _)
set_option maxRecDepth 100000 in
set_option maxHeartbeats 800000 in
theorem fits5_any (v : Value) (ds : List Deed) (w : World) (hds : DeedsAt w v ds) (hn : ds.length ≤ 274877906944) : Calls Tryz.prog 20 #[v] w (RBb (ds.length ≤ 2147483647) w) := by
  obtain ⟨a, cap, rfl⟩ := Sl.form hds
  have HP := Lib.hid hds; clear hds
  go_enter Tryz.func20, Tryz.ntmps20
  go_wp2
  · go_ret
    exact RBb.no (Below.refl _ _)
  · have hlen : (ds.length : Int) ≤ 2147483647 := by assumption
    go_loopw [10] (fun i wr => ∃ k : Nat, k ≤ ds.length ∧ i = .int .i64 k ∧ Below w.heap.size w wr) (fun i _ => ds.length - (intOf i).toNat)
    case atStart => exact ⟨0, Nat.zero_le _, rfl, Below.refl _ _⟩
    case round =>
      obtain ⟨k, hk, rfl, hb⟩ := hrel
      by_cases hlt : k < ds.length
      · obtain ⟨b, o, d, rfl, Hp, c0, c1, c2⟩ := HP.out.at' hb hlt
        go_wp2_with fail
        refine (fits6_any d _).mono ?_
        rintro e w1 ⟨bb, rfl, hbb, hb1⟩
        have hb2 : Below w.heap.size w w1 := below_up (hb.alloc hb.size _) (by have := hb.size; simp; omega) hb1
        go_wp2
        · go_ret
          exact RBb.no hb2
        · go_roundw
          case rel => exact ⟨k + 1, hlt, by go_num, hb2⟩
          case measure => simp [intOf]; omega
      · go_wp2
        go_ret
        exact RBb.of (fun _ => by omega) hb
set_option maxRecDepth 100000 in
set_option maxHeartbeats 800000 in
theorem splain_any (s : ByteArray) (w : World) (hs : s.size ≤ 137438953472) : Calls Tryz.prog 60 #[.string s] w (RBb (FormedP (toks s) (toks s).length ∧ LitP (toks s) (toks s).length) w) := by
  go_enter Tryz.func60, Tryz.ntmps60
  go_wp2_with fail
  refine (svalid_any s _ hs).mono ?_
  rintro e w1 ⟨b, rfl, hb, hbel⟩
  cases b
  · go_wp2
    go_ret
    exact RBb.no hbel
  · have hc := Lib.hid (hb rfl); clear hb
    go_wp2_with fail
    refine (literal_any s _ hs).mono ?_
    rintro e w2 ⟨b, rfl, hb, hbel2⟩
    go_wp2
    go_ret
    exact RBb.of (fun h => ⟨hc.out, hb (by simpa using h)⟩) (bel2 hbel hbel2)
/-- What deeds tells of a deed. -/
def DeedP (d : Deed) : Prop := (d.op = 0 ∨ d.op = 1) ∧ d.subj.size ≤ 80 ∧ CleanP d.subj ∧ TameS (toks d.subj) (toks d.subj).length
set_option maxRecDepth 100000 in
set_option maxHeartbeats 3200000 in
theorem deeds_any (v : Value) (ds : List Deed) (w : World) (hds : DeedsAt w v ds) (hn : ds.length ≤ 2147483647) : Calls Tryz.prog 59 #[v] w (RBb (ds.length ≤ 40 ∧ ∀ d ∈ ds, DeedP d) w) := by
  obtain ⟨a, cap, rfl⟩ := Sl.form hds
  have HP := Lib.hid hds; clear hds
  go_enter Tryz.func59, Tryz.ntmps59
  by_cases h40 : (ds.length : Int) > 40
  · go_wp2
    go_ret
    exact RBb.no (Below.refl _ _)
  · go_wp2
    go_loopw [3] (fun i wr => ∃ k : Nat, k ≤ ds.length ∧ i = .int .i64 k ∧ Hid (∀ d ∈ ds.take k, DeedP d) ∧ Below w.heap.size w wr) (fun i _ => ds.length - (intOf i).toNat)
    case atStart => exact ⟨0, Nat.zero_le _, rfl, Lib.hid (fun d h => by simp at h), Below.refl _ _⟩
    case round =>
      obtain ⟨k, hk, rfl, HF, hb⟩ := hrel
      by_cases hlt : k < ds.length
      · obtain ⟨b, o, d, rfl, Hd, c0, c1, c2⟩ := HP.out.at' hb hlt
        by_cases h0 : d.op < 0
        · go_wp2
          go_ret
          exact RBb.no hb
        · by_cases h1 : d.op > 1
          · go_wp2
            go_ret
            exact RBb.no hb
          · by_cases h8 : (d.subj.size : Int) > 80
            · go_wp2
              go_ret
              exact RBb.no hb
            · go_wp2_with fail
              refine (clean_any d.subj _ (by omega)).mono ?_
              rintro e w1 ⟨bb, rfl, hbb, rfl⟩
              cases bb
              · go_wp2
                go_ret
                exact RBb.no hb
              · have HC := Lib.hid (hbb rfl); clear hbb
                go_wp2_with fail
                refine (tame_any d.subj _ (by omega) (fun t ht => by have := toks_mem ht; omega)).mono ?_
                rintro e w2 ⟨bb, rfl, hbb, hb2⟩
                have hb3 := bel2 hb hb2
                cases bb
                · go_wp2
                  go_ret
                  exact RBb.no hb3
                · have HT := Lib.hid (hbb rfl); clear hbb
                  go_wp2
                  go_roundw
                  case rel =>
                    refine ⟨k + 1, hlt, by go_num, Lib.hid fun x hx => ?_, hb3⟩
                    rw [List.take_add_one, Hd.out] at hx
                    rcases List.mem_append.1 hx with hx | hx
                    · exact HF.out x hx
                    · have : x = d := by simpa using hx
                      subst this
                      exact ⟨by omega, by omega, HC.out, HT.out⟩
                  case measure => simp [intOf] <;> omega
      · obtain rfl : k = ds.length := by omega
        go_wp2
        go_ret
        exact RBb.of (fun _ => ⟨by omega, fun d hd => HF.out d (by rw [List.take_length]; exact hd)⟩) hb
end Go.Proofs.YtehlmjecbljafaaGreatDoor
namespace Go.Proofs.YtehlmjecbljafaaGreatDoor
open Go Go.RowKit
set_option maxRecDepth 100000 in
set_option maxHeartbeats 1600000 in
theorem last_any (u : Value) (n : Nat) (rest : List Value) (c0 c1 : Value) (fa : Option Addr) (fn fc : Nat) (w : World) (hu : Sl w 4 u (n + 1) (rest ++ [c0, c1, .slice fa fn fc, .slice none 0 0])) (hr : rest.length = n * 4) (hn : n ≤ 1000) :
    Calls Tryz.prog 26 #[u] w fun e w' => e = .returned (.agg #[.slice fa fn fc, .slice none 0 0]) ∧ Below w.heap.size w w' := by
  obtain ⟨ua, uc, rfl⟩ := hu.form
  have hX := heap_alloc_new w (.cells #[.slice none 0 0, .slice none 0 0] 59)
  have hb0 := (Below.refl w.heap.size w).alloc (Nat.le_refl _) (.cells #[.slice none 0 0, .slice none 0 0] 59)
  obtain ⟨b, o, rfl, hc⟩ := Sl.cell hu hb0 (by rw [List.length_append]; simp)
  have d2 := hc (n * 4 + 2) (.slice fa fn fc) (by rw [List.getElem?_append_right (by omega), hr, show n * 4 + 2 - n * 4 = 2 by omega]; rfl)
  have d3 := hc (n * 4 + 3) (.slice none 0 0) (by rw [List.getElem?_append_right (by omega), hr, show n * 4 + 3 - n * 4 = 3 by omega]; rfl)
  rw [← Nat.add_assoc] at d2 d3
  have x0 := (cell_row (j := 0) hX).trans (show _ = some (Value.slice none 0 0) from rfl)
  have x1 := (cell_row (j := 1) hX).trans (show _ = some (Value.slice none 0 0) from rfl)
  have f0 := frozen_row (j := 0) hX
  have f1 := frozen_row (j := 1) hX
  have HX := Lib.hid hX
  have HB := Lib.hid hb0
  clear hX hb0 hc hr
  go_enter Tryz.func26, Tryz.ntmps26
  go_wp2
  refine bodyPost_ret (results_cell_row rfl _ _ w.heap.size 59 _ (0, 0) _ rfl (heap_alloc_new w _) Tryz.underlying59 rfl (by kernel_rfl)) rfl ?_
  exact ⟨rfl, (Below.refl _ w).alloc (Nat.le_refl _) _⟩
/-- The items of a spec's tree. -/
def itemC (e : ByteArray × Int) : List Value := [.string e.1, .int .i64 e.2]
def ItemsAt (w : World) (v : Value) (es : List (ByteArray × Int)) : Prop := Sl w 2 v es.length (es.flatMap itemC)
theorem ItemsAt.at' {w wr : World} {a : Option Addr} {n cap : Nat} {es : List (ByteArray × Int)} (h : ItemsAt w (.slice a n cap) es) (hb : Below w.heap.size w wr) {k : Nat} (hk : k < es.length) :
    ∃ b o d, a = some ⟨b, o, none⟩ ∧ Hid (es[k]? = some d) ∧ wr.cell? ⟨b, o + k * 2, none⟩ = some (.string d.1) ∧ wr.cell? ⟨b, o + k * 2 + 1, none⟩ = some (.int .i64 d.2) := by
  have hl := flat_len (f := itemC) (sz := 2) (fun _ => rfl) es
  obtain ⟨-, a', cap', e, -⟩ := id h
  cases e
  obtain ⟨b, o, rfl, hc⟩ := Sl.cell h hb (by rw [hl]; omega)
  have hp : es[k]? = some es[k] := List.getElem?_eq_getElem hk
  have hh : ∀ i, i < 2 → ∀ x, (itemC es[k])[i]? = some x → wr.cell? ⟨b, o + k * 2 + i, none⟩ = some x := by
    intro i hi x hx
    have := hc (k * 2 + i) x (by rw [flat_at (f := itemC) (sz := 2) (fun _ => rfl) es k i hi _ hp]; exact hx)
    rw [Nat.add_assoc]; exact this
  exact ⟨b, o, es[k], rfl, hp, hh 0 (by omega) _ rfl, hh 1 (by omega) _ rfl⟩
/-- What find answers. -/
def FindR (es : List (ByteArray × Int)) (s : ByteArray) (i : Int) : Prop := (i = -1 ∧ ∀ d ∈ es, d.1 ≠ s) ∨ ∃ (k : Nat) (x : Int), i = k ∧ es[k]? = some (s, x)
set_option maxRecDepth 100000 in
set_option maxHeartbeats 1600000 in
theorem find_any (u : Value) (es : List (ByteArray × Int)) (s : ByteArray) (w : World) (hu : ItemsAt w u es) (hn : es.length ≤ 1000) :
    Calls Tryz.prog 98 #[u, .string s] w fun e w' => ∃ i : Int, e = .returned (.int .i64 i) ∧ FindR es s i ∧ w' = w := by
  obtain ⟨ua, uc, rfl⟩ := Sl.form hu
  have HU := Lib.hid hu; clear hu
  go_enter Tryz.func98, Tryz.ntmps98
  go_wp2
  go_loop [5] (fun i => ∃ k : Nat, k ≤ es.length ∧ i = .int .i64 k ∧ Hid (∀ d ∈ es.take k, d.1 ≠ s)) (fun i => es.length - (intOf i).toNat)
  case atStart => exact ⟨0, Nat.zero_le _, rfl, Lib.hid (fun d h => by simp at h)⟩
  case round =>
    obtain ⟨k, hk, rfl, HF⟩ := hrel
    by_cases hlt : k < es.length
    · obtain ⟨b, o, d, rfl, Hd, c0, c1⟩ := HU.out.at' (Below.refl _ _) hlt
      by_cases hds : d.1 = s
      · have hcmp : (d.1.toList == s.toList) = true := by rw [hds]; simp
        have HDS := Lib.hid hds; clear hds
        go_wp2
        go_ret
        exact ⟨_, rfl, .inr ⟨k, d.2, rfl, by rw [Hd.out, ← HDS.out]⟩, rfl⟩
      · have hcmp : (d.1.toList == s.toList) = false := by
          rw [beq_eq_false_iff_ne]
          intro e
          apply hds
          rw [toList_bs, toList_bs] at e
          rw [← mk_bs d.1, ← mk_bs s, e]
        have HDS := Lib.hid hds; clear hds
        go_wp2
        go_round
        case rel =>
          refine ⟨k + 1, hlt, by go_num, Lib.hid fun x hx => ?_⟩
          rw [List.take_add_one, Hd.out] at hx
          rcases List.mem_append.1 hx with hx | hx
          · exact HF.out x hx
          · have : x = d := by simpa using hx
            rw [this]; exact HDS.out
        case measure => simp [intOf] <;> omega
    · obtain rfl : k = es.length := by omega
      go_wp2
      go_ret
      exact ⟨_, rfl, .inl ⟨rfl, fun d hd => HF.out d (by rw [List.take_length]; exact hd)⟩, rfl⟩
set_option maxRecDepth 100000 in
set_option maxHeartbeats 3200000 in
theorem who_any (u : Value) (l : List Int) (w : World) (hu : Sl w 1 u l.length (ints l)) (hn : l.length ≤ 1000) :
    Calls Tryz.prog 25 #[.agg #[u, .slice none 0 0]] w fun e w' => ∃ v m, e = .returned v ∧ Own w' w.heap.size 1 v m.length (ints m) ∧ m.Perm l ∧ SortTo m m.length ∧ Below w.heap.size w w' := by
  obtain ⟨ua, uc, rfl⟩ := hu.form
  have hX := heap_alloc_new w (.cells #[.slice ua l.length uc, .slice none 0 0] 59)
  have hb0 := (Below.refl w.heap.size w).alloc (Nat.le_refl _) (.cells #[.slice ua l.length uc, .slice none 0 0] 59)
  have hz0 : (w.alloc (.cells #[.slice ua l.length uc, .slice none 0 0] 59)).heap.size = w.heap.size + 1 := by simp
  have hu0 := Sl.keep hu hb0
  have ho1 := own_empty (w.alloc (.cells #[.slice ua l.length uc, .slice none 0 0] 59)) w.heap.size 1 3 hb0.size
  rw [hz0] at ho1
  have hb1 := hb0.alloc hb0.size (.cells #[] 3)
  have hb1' := (Below.refl _ (w.alloc (.cells #[.slice ua l.length uc, .slice none 0 0] 59))).alloc (Nat.le_refl _) (.cells #[] 3)
  have hu1 := Sl.keep hu hb1
  have hz1 := hb1.size
  have hX1 := (hb1'.block w.heap.size (by rw [hz0]; omega)).trans hX
  have x0 := (cell_row (j := 0) hX1).trans (show _ = some (Value.slice ua l.length uc) from rfl)
  have x1 := (cell_row (j := 1) hX1).trans (show _ = some (Value.slice none 0 0) from rfl)
  have hn2 : 0 + l.length ≤ 549755813888 := by omega
  have HX1 := Lib.hid hX1
  clear hX hb0 hu0 hb1' hX1
  go_enter Tryz.func25, Tryz.ntmps25
  go_wp2_with (at_builtin; refine wpList_appS (w := (w.alloc (.cells #[.slice ua l.length uc, .slice none 0 0] 59)).alloc (.cells #[] 3)) et33 rfl _ _ rfl w.heap.size (v := .slice (some ⟨w.heap.size + 1, 0, none⟩) 0 0) (n := 0) (xs := []) rfl ho1 (u := .slice ua l.length uc) (m := l.length) rfl hu1 (ints_one l) hn2 hz1 ?_; intro v1 w1 hown1 hgr1; have hbw := bel_app hb1 hgr1 ho1 hz1; have HGR := Lib.hid hgr1; clear hgr1; rw [Nat.zero_add, List.nil_append] at hown1)
  have hX2 := (HGR.out.block w.heap.size (Array.getElem?_eq_some_iff.1 HX1.out).1 (by
    intro e
    have := (ho1.lt w.heap.size (by first | exact e | exact e.symm)).1
    simp [Value.ownBlock] at e)).trans HX1.out
  have y1 := (cell_row (j := 1) hX2).trans (show _ = some (Value.slice none 0 0) from rfl)
  have hso := sorted_any v1 l w1 hown1.sl hn
  have HBW := Lib.hid hbw
  clear hown1 hbw hX2 hz0 hz1 hu1 hu hn2 hb1 ho1 x0 x1
  go_loopw [3, 4] (fun o i wr => o = v1 ∧ i = .int .i64 0 ∧ wr = w1) (fun _ _ _ => 0)
  case atStart => exact ⟨rfl, rfl, rfl⟩
  case round =>
    obtain ⟨rfl, rfl, rfl⟩ := hrel
    go_wp2_with fail
    refine hso.mono ?_
    rintro e w2 ⟨v, m, rfl, k1, k2, k3, k4⟩
    have K := Lib.hid (And.intro k1 (And.intro k2 (And.intro k3 k4)))
    clear hso k1 k2 k3 k4
    go_wp2
    go_ret
    exact ⟨v, m, rfl, K.out.1.mono HBW.out.size, K.out.2.1, K.out.2.2.1, bel2 HBW.out K.out.2.2.2⟩
end Go.Proofs.YtehlmjecbljafaaGreatDoor
namespace Go.Proofs.YtehlmjecbljafaaGreatDoor
open Go Go.RowKit
/-- What Tree comes to: n items; as many as deeds only if all deeds put, each another subject. -/
def TreeC (ds : List Deed) (w : World) (e : Ending) (w' : World) : Prop := ∃ a n c r, e = .returned (.tuple #[.slice a n c, r]) ∧ n ≤ ds.length ∧ (n = ds.length → (∀ d ∈ ds, d.op = 0) ∧ (ds.map Deed.subj).Nodup) ∧ Below w.heap.size w w'
/-- What grown comes to. -/
def GrownC (ds : List Deed) (w : World) (e : Ending) (w' : World) : Prop := ∃ a n c bl, e = .returned (.tuple #[.slice a n c, .bool bl]) ∧ (bl = true → n ≤ ds.length ∧ (n = ds.length → (∀ d ∈ ds, d.op = 0) ∧ (ds.map Deed.subj).Nodup) ∧ ds.length ≤ 40 ∧ ∀ d ∈ ds, DeedP d ∧ FormedP (toks d.subj) (toks d.subj).length ∧ LitP (toks d.subj) (toks d.subj).length) ∧ Below w.heap.size w w'
set_option maxRecDepth 100000 in
set_option maxHeartbeats 1600000 in
theorem grown_any (v : Value) (ds : List Deed) (w : World) (hds : DeedsAt w v ds) (hn : ds.length ≤ 2147483647) (hTree : ∀ w1, DeedsAt w1 v ds → ds.length ≤ 40 → Calls Tryz.prog 61 #[v] w1 (TreeC ds w1)) : Calls Tryz.prog 21 #[v] w (GrownC ds w) := by
  obtain ⟨a, cap, rfl⟩ := Sl.form hds
  have HP := Lib.hid hds; clear hds
  have HTR := Lib.hid hTree; clear hTree
  go_enter Tryz.func21, Tryz.ntmps21
  go_wp2_with fail
  refine (deeds_any _ ds w HP.out hn).mono ?_
  rintro e w1 ⟨bb, rfl, hbb, hb1⟩
  cases bb
  · go_wp2
    go_ret2
    exact ⟨_, _, _, false, rfl, (fun h => by cases h), hb1⟩
  · have HD := Lib.hid (hbb rfl); clear hbb
    go_wp2
    go_loopw [4] (fun i wr => ∃ k : Nat, k ≤ ds.length ∧ i = .int .i64 k ∧ Hid (∀ d ∈ ds.take k, FormedP (toks d.subj) (toks d.subj).length ∧ LitP (toks d.subj) (toks d.subj).length) ∧ Below w.heap.size w wr) (fun i _ => ds.length - (intOf i).toNat)
    case atStart => exact ⟨0, Nat.zero_le _, rfl, Lib.hid (fun d h => by simp at h), hb1⟩
    case round =>
      obtain ⟨k, hk, rfl, HF, hb⟩ := hrel
      have hd40 := HD.out.1
      by_cases hlt : k < ds.length
      · obtain ⟨b, o, d, rfl, Hd, c0, c1, c2⟩ := HP.out.at' hb hlt
        have hsz := (HD.out.2 d (List.mem_of_getElem? Hd.out)).2.1
        go_wp2_with fail
        refine (splain_any d.subj _ (by omega)).mono ?_
        rintro e w2 ⟨bb, rfl, hbb, hb2⟩
        have hb3 := bel2 hb hb2
        cases bb
        · go_wp2
          go_ret2
          exact ⟨_, _, _, false, rfl, (fun h => by cases h), hb3⟩
        · have HL := Lib.hid (hbb rfl); clear hbb
          go_wp2
          go_roundw
          case rel =>
            refine ⟨k + 1, hlt, by go_num, Lib.hid fun x hx => ?_, hb3⟩
            rw [List.take_add_one, Hd.out] at hx
            rcases List.mem_append.1 hx with hx | hx
            · exact HF.out x hx
            · have : x = d := by simpa using hx
              subst this
              exact HL.out
          case measure => simp [intOf] <;> omega
      · obtain rfl : k = ds.length := by omega
        have htr := HTR.out wr (Sl.keep HP.out hb) hd40
        go_wp2_with fail
        refine htr.mono ?_
        rintro e w2 ⟨ta, n, tc, r, rfl, h1, h2, h3⟩
        have H2 := Lib.hid (And.intro h1 h2)
        clear htr h1 h2
        go_wp2
        go_ret2
        exact ⟨_, n, _, true, rfl, (fun _ => ⟨H2.out.1, H2.out.2, HD.out.1, fun d hd => ⟨HD.out.2 d hd, HF.out d (by rw [List.take_length]; exact hd)⟩⟩), bel2 hb h3⟩
end Go.Proofs.YtehlmjecbljafaaGreatDoor
namespace Go.Proofs.YtehlmjecbljafaaGreatDoor
open Go Go.RowKit
set_option maxRecDepth 100000 in
set_option maxHeartbeats 1600000 in
theorem gmatchB_any (b Bo : Nat) (s : ByteArray) (bv : Value) (c : Int) (T : Trie) (F : Nat → Prop) (n : Nat) (w : World) (hb : w.heap[b]? = some (.cells (gslCells (T.aL []) c) 178 (0, 0))) (hT : TrieOK T F n w) (hF : ∀ k, F k → k < w.heap.size) (hFb : ¬ F b)
    (hbv : Sl w 1 bv s.size (u8s (bs s))) (hou0 : w.heap[Bo]? = some (.cells #[.slice none 0 0] 33 (0, 0))) (hB : ¬ F Bo) (hbB : b < Bo) (hct : numT T [] ((toks s).map bs) < 1000000)
    (hg : GoodS s) (hs : s.size ≤ 100000) :
    Calls Tryz.prog 63 #[.pointer (some ⟨b, 0, none⟩), bv, .func (.func 64) #[] #[.pointer (some ⟨Bo, 0, none⟩)]] w fun e w' => e = .returned (.tuple #[]) ∧ ∃ ov xs, w'.heap[Bo]? = some (.cells #[ov] 33 (0, 0)) ∧ Own w' (Bo + 1) 1 ov (numT T [] ((toks s).map bs)) xs ∧ Only (fun k => k = b ∨ Bo ≤ k) w w' := by
  have hm := gmatch_any b Bo s c T F n w hb hT hF hFb hou0 hB hbB hct hg hs
  obtain ⟨a, cap, rfl⟩ := hbv.form
  have hcv := conv_text hbv
  rw [mk_bs] at hcv
  clear hbv hb hT hF hFb hou0 hB hct hg
  go_enter Tryz.func63, Tryz.ntmps63
  go_wp2_with fail
  refine hm.mono ?_
  rintro e w1 ⟨rfl, h⟩
  have H := Lib.hid h; clear h hm
  go_wp2
  go_end0
  exact ⟨rfl, H.out⟩
set_option maxRecDepth 100000 in
set_option maxHeartbeats 1600000 in
theorem listMatch_any (v : Value) (ds : List Deed) (s : ByteArray) (w : World) (hd : DeedsAt w v ds) (hop : ∀ d ∈ ds, d.op = 0 ∧ d.subj.size ≤ 100000 ∧ PatP (pathOf d) ∧ (Lit.int .i64 d.val).wf = true) (hn : ds.length ≤ 1000) (hg : GoodS s) (hs : s.size ≤ 100000)
    (hct : ∀ T : Trie, (∀ q, T.N q ↔ q = [] ∨ ∃ d ∈ ds, q <+: pathOf d) → (∀ q, 0 < T.V q ↔ ∃ d ∈ ds, q = pathOf d) → (∀ q, T.V q ≤ ds.length) → numT T [] ((toks s).map bs) < 1000000) :
    Calls Tryz.prog 24 #[v, .string s, .bool true] w fun e w' => ∃ (T : Trie) (u : Value) (xs : List Value), e = .returned u ∧ (∀ q, T.N q ↔ q = [] ∨ ∃ d ∈ ds, q <+: pathOf d) ∧ (∀ q, 0 < T.V q ↔ ∃ d ∈ ds, q = pathOf d) ∧ (∀ q, T.V q ≤ ds.length) ∧ Own w' w.heap.size 1 u (numT T [] ((toks s).map bs)) xs ∧ Below w.heap.size w w' := by
  have hl := list_any v ds w hd hop hn
  have HG := Lib.hid hg; clear hg
  have HC := Lib.hid hct; clear hct
  have hcv := fun (w : World) (s : ByteArray) => conv_bytes w s
  have hmf : ∀ (fn : Fn) (first cap : Array Value) (w : World), (Instr.makeFunc fn first cap).run Tryz.prog w = .ok (.func fn first cap) w := fun _ _ _ _ => rfl
  clear hop hd
  go_enter Tryz.func24, Tryz.ntmps24
  go_wp2_with fail
  refine hl.mono ?_
  rintro e w1 ⟨b, u, xs, T, F, n, rfl, hb, hL, -, -, -⟩
  have HL := Lib.hid hL; clear hL hl
  have hTN : ∀ q, T.N q ↔ q = [] ∨ ∃ d ∈ ds, q <+: pathOf d := fun q => by rw [HL.out.N q, List.take_length]
  have hTV : ∀ q, 0 < T.V q ↔ ∃ d ∈ ds, q = pathOf d := fun q => by rw [HL.out.V q, List.take_length]
  have HTT := Lib.hid (And.intro hTN hTV); clear hTN hTV
  have ha := heap_alloc_new w1 (.cells #[.slice none 0 0] 33)
  have hba := (Below.refl w1.heap.size w1).alloc (Nat.le_refl _) (.cells #[.slice none 0 0] 33)
  have hbW := bytesWorld_below (w1.alloc (.cells #[.slice none 0 0] 33)) s
  have hz : (w1.alloc (.cells #[.slice none 0 0] 33)).heap.size = w1.heap.size + 1 := by simp
  have hlb := (Array.getElem?_eq_some_iff.1 HL.out.head).1
  have hbb := hba.trans (hbW.mono (by omega))
  have hm := gmatchB_any b w1.heap.size s (.slice (some ⟨(w1.alloc (.cells #[.slice none 0 0] 33)).heap.size, 0, none⟩) s.size (grownCap (w1.alloc (.cells #[.slice none 0 0] 33)) s.size 0 5)) _ T F n (Lib.bytesWorld (w1.alloc (.cells #[.slice none 0 0] 33)) 5 s) ((hbb.block _ hlb).trans HL.out.head) (HL.out.ok.keep fun x hx => hbb.block x (HL.out.range x hx).2) (fun x hx => by have := (HL.out.range x hx).2; have := hbb.size; omega) HL.out.nb
    ((bytesWorld_at _ s).sl (by rw [bs_len]) (grownCap_ge _ _ _ _) (grownCap_le_maxLen _ _ _ _ (by unfold maxLen; omega))) ((hbW.block _ (by omega)).trans ha) (fun h => by have := (HL.out.range _ h).2; omega) hlb (HC.out T HTT.out.1 HTT.out.2 HL.out.V1) HG.out hs
  rw [hz] at hm
  have HB := Lib.hid hbb
  clear ha hba hbW hz hbb
  go_wp2_with fail
  refine hm.mono ?_
  rintro e w2 ⟨rfl, ov, ys, k1, k2, k3⟩
  have c0 := (cell_row (j := 0) k1).trans (show _ = some ov from rfl)
  obtain ⟨oa, oc, rfl, -⟩ := k2.form
  have K2 := Lib.hid k2
  have K3 := Lib.hid k3
  have hB1 := HL.out.bel.size
  clear hm k1 k2 k3 hcv hmf
  go_wp2
  go_ret
  refine ⟨T, _, ys, rfl, HTT.out.1, HTT.out.2, HL.out.V1, K2.out.mono (by omega), ?_⟩
  exact HL.out.bel.trans ((HB.out.mono hB1).trans (K3.out.below (fun x hx => by omega) (by have := HB.out.size; omega)))
/-- One filter in the list: one answer, or none. -/
theorem numT_one (T : Trie) (P : Path) (hN : ∀ q, T.N q ↔ q = [] ∨ q <+: P) (hV : ∀ q, 0 < T.V q ↔ q = P) (h1 : ∀ q, T.V q ≤ 1) (h62 : ∀ k, P[k]? = some [62] → k + 1 = P.length) : ∀ (l p R : Path), P = p ++ R → R ≠ [] → l ≠ [] → (∀ t ∈ l, t ≠ [42] ∧ t ≠ [62]) → numT T p l = if matchT l R = true then 1 else 0
  | [], _, _, _, _, h, _ => absurd rfl h
  | t :: r, p, [], _, h, _, _ => absurd rfl h
  | t :: r, p, c :: R, hP, _, _, hl => by
    have hc62 : c = [62] → R = [] := fun e => by
      have := h62 p.length (by rw [hP, List.getElem?_append_right (Nat.le_refl _), Nat.sub_self, e]; rfl)
      rw [hP] at this
      cases R with
      | nil => rfl
      | cons _ _ => simp at this
    have hNx : ∀ x, T.N (p ++ [x]) ↔ x = c := fun x => by
      rw [hN, hP]
      constructor
      · rintro (h | h)
        · exact absurd h (snoc_ne _ _)
        · rw [List.prefix_append_right_inj] at h
          have := List.cons_prefix_cons.1 h
          exact this.1
      · rintro rfl
        right
        rw [List.prefix_append_right_inj]
        exact List.cons_prefix_cons.2 ⟨rfl, List.nil_prefix⟩
    have hVx : T.V (p ++ [c]) = if R = [] then 1 else 0 := by
      by_cases h : R = []
      · rw [if_pos h]
        have := (hV (p ++ [c])).2 (by rw [hP, h])
        have := h1 (p ++ [c]); omega
      · rw [if_neg h]
        have : ¬ 0 < T.V (p ++ [c]) := fun h2 => by
          have := (hV _).1 h2
          rw [hP] at this
          have := List.append_cancel_left this
          cases R with
          | nil => exact h rfl
          | cons _ _ => simp at this
        omega
    have hstep : (if r = [] then T.V (p ++ [c]) else numT T (p ++ [c]) r) = if matchT r R = true then 1 else 0 := by
      by_cases hr : r = []
      · subst hr
        rw [if_pos rfl, hVx]
        cases R <;> simp [matchT]
      · rw [if_neg hr]
        by_cases hR : R = []
        · subst hR
          obtain ⟨t', r', rfl⟩ := List.exists_cons_of_ne_nil hr
          have hno : ∀ x, ¬ T.N (p ++ [c] ++ [x]) := fun x h => by
            rcases (hN _).1 h with h | h
            · exact snoc_ne _ _ h
            · have := h.length_le; rw [hP] at this; simp at this
          rw [numT, if_neg (hno _), if_neg (hno _), if_neg (hno _)]
          simp [matchT]
        · exact numT_one T P hN hV h1 h62 r (p ++ [c]) R (by rw [hP]; simp) hR hr (fun x hx => hl x (List.mem_cons_of_mem _ hx))
    obtain ⟨t42, t62⟩ := hl t (List.mem_cons_self ..)
    have n62 : T.N (p ++ [[62]]) ↔ c = [62] := (hNx _).trans eq_comm
    have n42 : T.N (p ++ [[42]]) ↔ c = [42] := (hNx _).trans eq_comm
    have nt : T.N (p ++ [t]) ↔ c = t := (hNx _).trans eq_comm
    rw [numT]
    by_cases c62 : c = [62]
    · have hR := hc62 c62
      subst hR
      subst c62
      have x42 : ¬ T.N (p ++ [[42]]) := fun h => by have := n42.1 h; cases this
      have xt : ¬ T.N (p ++ [t]) := fun h => t62 (nt.1 h).symm
      rw [if_pos (n62.2 rfl), if_neg x42, if_neg xt, hVx]
      simp [matchT]
    · have x62 : ¬ T.N (p ++ [[62]]) := fun h => c62 (n62.1 h)
      have hmt : matchT (t :: r) (c :: R) = if c ≠ [42] ∧ c ≠ t then false else matchT r R := by rw [matchT, if_neg c62]
      rw [if_neg x62, hmt]
      by_cases c42 : c = [42]
      · subst c42
        have xt : ¬ T.N (p ++ [t]) := fun h => t42 (nt.1 h).symm
        rw [if_pos (n42.2 rfl), if_neg xt, hstep, if_neg (show ¬ (([42] : List UInt8) ≠ [42] ∧ [42] ≠ t) from fun h => h.1 rfl)]
        omega
      · have x42 : ¬ T.N (p ++ [[42]]) := fun h => c42 (n42.1 h)
        rw [if_neg x42]
        by_cases ct : c = t
        · subst ct
          rw [if_pos (nt.2 rfl), hstep, if_neg (show ¬ (c ≠ [42] ∧ c ≠ c) from fun h => h.2 rfl)]
          omega
        · have xt : ¬ T.N (p ++ [t]) := fun h => ct (nt.1 h)
          rw [if_neg xt, if_pos (show c ≠ [42] ∧ c ≠ t from ⟨c42, ct⟩)]
          rfl
end Go.Proofs.YtehlmjecbljafaaGreatDoor
namespace Go.Proofs.YtehlmjecbljafaaGreatDoor
open Go Go.RowKit
/-- What the conditions tell. -/
structure Cond (A src : ByteArray) (ps : List Part) : Prop where
  plain : PlainS A
  map : MapP src ps
  rev : RevP ps (wildsN ((toks src).map bs)) ps.length
  fits : ∀ p ∈ ps, p.word.size ≤ 2147483647
  hit : matchT ((toks A).map bs) ((toks src).map bs) = true
theorem formed_last {s : ByteArray} (h : FormedP (toks s) (toks s).length) (k : Nat) (hk : ((toks s).map bs)[k]? = some [62]) : k + 1 = ((toks s).map bs).length := by
  rw [List.getElem?_map] at hk
  cases ht : (toks s)[k]? with
  | none => rw [ht] at hk; cases hk
  | some t =>
    rw [ht] at hk
    have hk' : k < (toks s).length := (List.getElem?_eq_some_iff.1 ht).1
    have := (h k t hk' ht).2 (Option.some.inj hk)
    rw [List.length_map]; exact this
theorem toks_nodot {s t : ByteArray} (h : t ∈ toks s) : 46 ∉ bs t := by
  obtain ⟨u, hu, rfl⟩ := List.mem_map.1 h
  rw [bs_mk]; exact splitDot_nodot hu
theorem valid_pat {s : ByteArray} (h : ValidS s) : PatP ((toks s).map bs) := by
  refine ⟨fun t ht => ?_, fun t ht => ?_, formed_last h.formed, fun t ht => ?_, ?_⟩
  · obtain ⟨u, hu, rfl⟩ := List.mem_map.1 ht
    obtain ⟨j, hj, e⟩ := List.mem_iff_getElem.1 hu
    exact (h.formed j u hj (by rw [List.getElem?_eq_getElem hj, e])).1
  · obtain ⟨u, hu, rfl⟩ := List.mem_map.1 ht
    exact toks_nodot hu
  · obtain ⟨u, hu, rfl⟩ := List.mem_map.1 ht
    obtain ⟨j, hj, e⟩ := List.mem_iff_getElem.1 hu
    exact h.tame j u hj (by rw [List.getElem?_eq_getElem hj, e])
  · intro e
    have h1 := congrArg List.length e
    have h2 := toks_pos s
    rw [List.length_map, List.length_nil] at h1
    omega
end Go.Proofs.YtehlmjecbljafaaGreatDoor
namespace Go.Proofs.YtehlmjecbljafaaGreatDoor
open Go Go.RowKit
/-- What the law's conditions tell. -/
structure DualP (ds : List Deed) (f : ByteArray) : Prop where
  len : ds.length ≤ 25
  op : ∀ d ∈ ds, d.op = 0
  deed : ∀ d ∈ ds, DeedP d ∧ FormedP (toks d.subj) (toks d.subj).length ∧ LitP (toks d.subj) (toks d.subj).length
  nd : (ds.map Deed.subj).Nodup
  pat : ValidS f
theorem DualP.valid {ds : List Deed} {f : ByteArray} (h : DualP ds f) {d : Deed} (hd : d ∈ ds) : ValidS d.subj := ⟨(h.deed d hd).1.2.2.1, (h.deed d hd).2.1, (h.deed d hd).1.2.2.2⟩
theorem DualP.good {ds : List Deed} {f : ByteArray} (h : DualP ds f) {d : Deed} (hd : d ∈ ds) : GoodS d.subj :=
  ⟨fun _ _ ht => headOK (h.valid hd).formed (h.deed d hd).2.2 (h.valid hd).tame ht, fun c hc => ((h.valid hd).clean.2 c hc).1⟩
theorem DualP.ppat {ds : List Deed} {f : ByteArray} (h : DualP ds f) {d : Deed} (hd : d ∈ ds) : PatP (pathS d.subj) := valid_pat (h.valid hd)
theorem DualP.fpat {ds : List Deed} {f : ByteArray} (h : DualP ds f) : PatP (pathS f) := valid_pat h.pat
theorem DualP.lit {ds : List Deed} {f : ByteArray} (h : DualP ds f) {d : Deed} (hd : d ∈ ds) : ∀ t ∈ pathS d.subj, t ≠ [42] ∧ t ≠ [62] := fun t ht => by
  obtain ⟨u, hu, rfl⟩ := List.mem_map.1 ht
  obtain ⟨j, hj, e⟩ := List.mem_iff_getElem.1 hu
  exact (h.deed d hd).2.2 j u hj (by rw [List.getElem?_eq_getElem hj, e])
theorem bs_path (f : ByteArray) : bs f = joinD (pathS f) := by unfold pathS; rw [toks_bs, joinD_splitDot]
theorem DualP.wild {ds : List Deed} {f : ByteArray} (h : DualP ds f) : WildB (bs f) := by rw [bs_path]; exact h.fpat.wild
theorem DualP.parts {ds : List Deed} {f : ByteArray} (h : DualP ds f) : PartsB (gB [] (bs f)) := gB_parts _ _ _ (Nat.le_refl _) (fun c hc => by cases hc) h.wild.last
theorem gB_pos : ∀ (n : Nat) (l run : List UInt8), l.length ≤ n → (l ≠ [] ∨ run ≠ []) → 0 < (gB run l).length
  | _, [], run, _, h => by
    rw [gB, if_neg (h.resolve_left (fun e => e rfl))]; exact Nat.one_pos
  | 0, c :: l, _, hl, _ => by simp at hl
  | n + 1, c :: l, run, hl, _ => by
    rw [gB]
    split
    · simp
    · split
      · simp
      · split
        · simp
        · split
          · simp
          · exact gB_pos n l _ (by simpa using hl) (.inr (by simp))
theorem DualP.gpos {ds : List Deed} {f : ByteArray} (h : DualP ds f) : 0 < (gB [] (bs f)).length := gB_pos _ _ _ (Nat.le_refl _) (.inl h.wild.ne)
theorem bs_ne {s : ByteArray} (h : PatP (pathS s)) : bs s ≠ [] := by rw [bs_path]; exact h.wild.ne
theorem DualP.ok {ds : List Deed} {f : ByteArray} (h : DualP ds f) : DeedsOK ds :=
  ⟨by have := h.len; omega, fun d hd => ⟨fun h7 => ((h.valid hd).clean.2 127 h7).2 rfl, bs_ne (h.ppat hd), (h.deed d hd).1.2.1⟩⟩
theorem DualP.fine {ds : List Deed} {f : ByteArray} (h : DualP ds f) {d : Deed} (hd : d ∈ ds) : NoEnd (bs d.subj) := fun y e => by
  refine (h.ppat hd).ne [] ?_ rfl
  unfold pathS
  rw [toks_bs, e, show y ++ [46] = y ++ 46 :: [] from rfl, splitDot_app]
  exact List.mem_append_right _ (by simp [splitDot])
theorem treeM_puts : ∀ (n : Nat) (ds : List Deed) (l : List UInt8), ds.length = n → (∀ d ∈ ds, d.op = 0) → (∃ d ∈ ds, l = bs d.subj) → ∃ x, treeM ds l = some x
  | 0, ds, l, hn, _, ⟨d, hd, _⟩ => by rw [List.eq_nil_of_length_eq_zero hn] at hd; cases hd
  | n + 1, ds, l, hn, hop, hex => by
    obtain ⟨r, d, rfl⟩ : ∃ r d, ds = r ++ [d] := by
      have hne : ds ≠ [] := fun e => by rw [e] at hn; simp at hn
      exact ⟨ds.dropLast, ds.getLast hne, (List.dropLast_concat_getLast hne).symm⟩
    rw [treeM_snoc]
    by_cases he : l = bs d.subj
    · rw [if_pos he, if_pos (hop d (by simp))]; exact ⟨_, rfl⟩
    · rw [if_neg he]
      refine treeM_puts n r l (by simpa using hn) (fun x hx => hop x (by simp [hx])) ?_
      obtain ⟨x, hx, e⟩ := hex
      rcases List.mem_append.1 hx with hx | hx
      · exact ⟨x, hx, e⟩
      · rw [List.mem_singleton.1 hx] at e; exact absurd e he
/-- Does the pattern meet the i-th subject? -/
def hitB (ds : List Deed) (f : ByteArray) (j : Nat) : Bool := match (ds.map Deed.subj)[j]? with | some s => matchT (pathS s) (pathS f) | none => false
theorem hitB_at {ds : List Deed} {f : ByteArray} {k : Nat} {d : Deed} (h : ds[k]? = some d) : hitB ds f k = matchT (pathS d.subj) (pathS f) := by
  unfold hitB
  rw [List.getElem?_map, h]; rfl
theorem DualP.num {ds : List Deed} {f : ByteArray} (h : DualP ds f) {k : Nat} {d : Deed} (hk : ds[k]? = some d) {T : Trie} (hN : ∀ q, T.N q ↔ q = [] ∨ ∃ e ∈ [(⟨0, f, 0⟩ : Deed)], q <+: pathOf e) (hV : ∀ q, 0 < T.V q ↔ ∃ e ∈ [(⟨0, f, 0⟩ : Deed)], q = pathOf e) (h1 : ∀ q, T.V q ≤ [(⟨0, f, 0⟩ : Deed)].length) :
    numT T [] ((toks d.subj).map bs) = if hitB ds f k then 1 else 0 := by
  have hd := List.mem_of_getElem? hk
  rw [hitB_at hk]
  exact numT_one T (pathS f) (fun q => by rw [hN]; simp [pathOf, pathS]) (fun q => by rw [hV]; simp [pathOf, pathS]) h1 h.fpat.last (pathS d.subj) [] (pathS f) rfl h.fpat.some' (h.ppat hd).some' (h.lit hd)
/-- Among what the tree found: is the k-th subject? -/
theorem DualP.found {ds : List Deed} {f : ByteArray} (h : DualP ds f) {l : List Ent} (hl : FoundIn ds (bs f) l) {k : Nat} {d : Deed} (hk : ds[k]? = some d) : (∃ e ∈ l, e.1 = bs d.subj) ↔ hitB ds f k = true := by
  have hd := List.mem_of_getElem? hk
  have hm := okM_match (s := d.subj) h.fpat (h.ppat hd).ne
  rw [hitB_at hk, ← hm]
  constructor
  · rintro ⟨e, he, e1⟩
    rw [← e1]; exact ((hl.mem e).1 he).2
  · intro ho
    obtain ⟨x, hx⟩ := treeM_puts _ ds (bs d.subj) rfl h.op ⟨d, hd, rfl⟩
    exact ⟨(bs d.subj, x), (hl.mem _).2 ⟨hx, ho⟩, rfl⟩
/-- What the inner loop has gathered. -/
def metL (l : List Ent) (s : List UInt8) (i k : Nat) : List Int := if ∃ e ∈ l.take k, e.1 = s then [(i : Int)] else []
theorem metL_zero (l : List Ent) (s : List UInt8) (i : Nat) : metL l s i 0 = [] := by unfold metL; rw [if_neg (by simp)]
theorem metL_no {l : List Ent} {s : List UInt8} {i k : Nat} {e : Ent} (hk : l[k]? = some e) (he : e.1 ≠ s) : metL l s i (k + 1) = metL l s i k := by
  unfold metL
  congr 1
  rw [List.take_add_one, hk]
  simp [he]
theorem metL_yes {l : List Ent} {s : List UInt8} {i k : Nat} {e : Ent} (hn : (l.map (·.1)).Nodup) (hk : l[k]? = some e) (he : e.1 = s) : metL l s i k = [] ∧ metL l s i (k + 1) = [(i : Int)] := by
  unfold metL
  refine ⟨if_neg ?_, if_pos ⟨e, ?_, he⟩⟩
  · rintro ⟨x, hx, hxs⟩
    obtain ⟨j, hj, e2⟩ := List.mem_iff_getElem.1 hx
    rw [List.length_take] at hj
    rw [List.getElem_take] at e2
    obtain ⟨hk1, hk2⟩ := List.getElem?_eq_some_iff.1 hk
    have := List.pairwise_iff_getElem.1 hn j k (by rw [List.length_map]; omega) (by rw [List.length_map]; omega) (by omega)
    rw [List.getElem_map, List.getElem_map, e2, hk2, hxs, he] at this
    exact this rfl
  · rw [List.take_add_one, hk]; simp
theorem DualP.gather {ds : List Deed} {f : ByteArray} (h : DualP ds f) {l : List Ent} (hl : FoundIn ds (bs f) l) {k : Nat} {d : Deed} (hk : ds[k]? = some d) : hits (hitB ds f) k ++ metL l (bs d.subj) k l.length = hits (hitB ds f) (k + 1) := by
  rw [hits_succ]
  congr 1
  unfold metL
  have := h.found hl hk
  rw [List.take_length]
  by_cases hh : hitB ds f k = true
  · rw [if_pos (this.2 hh), if_pos hh]
  · rw [if_neg (fun e => hh (this.1 e)), if_neg hh]
theorem DualP.plain {ds : List Deed} {f : ByteArray} (h : DualP ds f) : PlainPs (ds.map Deed.subj) := fun s hs => by
  obtain ⟨d, hd, rfl⟩ := List.mem_map.1 hs
  exact ⟨(h.ppat hd).some', h.lit hd, by have := (h.deed d hd).1.2.1; omega⟩
/-- The steps of the script behind k deeds. -/
def putAt (ds : List Deed) (k : Nat) : List StepD := (ds.take k).zipIdx.map fun x => ⟨0, x.1.subj, x.2, ⟨#[]⟩⟩
theorem putAt_len {ds : List Deed} {k : Nat} (h : k ≤ ds.length) : (putAt ds k).length = k := by
  unfold putAt; rw [List.length_map, List.length_zipIdx, List.length_take]; omega
theorem putAt_succ {ds : List Deed} {k : Nat} {d : Deed} (h : ds[k]? = some d) : putAt ds (k + 1) = putAt ds k ++ [⟨0, d.subj, k, ⟨#[]⟩⟩] := by
  have hk := (List.getElem?_eq_some_iff.1 h).1
  unfold putAt
  rw [List.take_add_one, h, List.zipIdx_append, List.map_append, List.length_take, Nat.min_eq_left (by omega)]
  simp
theorem putAt_at {ds : List Deed} {n k : Nat} {d : Deed} (h : ds[k]? = some d) (hk : k < n) : (putAt ds n)[k]? = some ⟨0, d.subj, k, ⟨#[]⟩⟩ := by
  unfold putAt
  rw [List.getElem?_map, List.getElem?_zipIdx, List.getElem?_take, if_pos hk, h]
  simp
end Go.Proofs.YtehlmjecbljafaaGreatDoor
namespace Go.Proofs.YtehlmjecbljafaaGreatDoor
open Go Go.RowKit
/-- Items behind k deeds: as many only if all put, each another subject. -/
def TreeI (ds : List Deed) (k : Nat) (es : List (ByteArray × Int)) : Prop := es.length ≤ k ∧ (es.length = k → (∀ d ∈ ds.take k, d.op = 0) ∧ ((ds.take k).map Deed.subj).Nodup ∧ ∀ d ∈ ds.take k, ∃ e ∈ es, e.1 = d.subj)
theorem TreeI.start (ds : List Deed) : TreeI ds 0 [] := ⟨Nat.le_refl _, fun _ => by simp⟩
theorem TreeI.stay {ds : List Deed} {k : Nat} {es es' : List (ByteArray × Int)} (h : TreeI ds k es) (hl : es'.length ≤ es.length) : TreeI ds (k + 1) es' :=
  ⟨by have := h.1; omega, fun e => by have := h.1; omega⟩
theorem TreeI.put {ds : List Deed} {k : Nat} {es es' : List (ByteArray × Int)} {d : Deed} (h : TreeI ds k es) (hd : ds[k]? = some d) (h0 : d.op = 0) (hn : ∀ e ∈ es, e.1 ≠ d.subj) (hl : es'.length = es.length + 1) (hs : ∀ e ∈ es, e ∈ es') (hm : ∃ e ∈ es', e.1 = d.subj) : TreeI ds (k + 1) es' := by
  refine ⟨by have := h.1; omega, fun e => ?_⟩
  obtain ⟨a1, a2, a3⟩ := h.2 (by omega)
  have et : ds.take (k + 1) = ds.take k ++ [d] := by rw [List.take_add_one, hd]; rfl
  rw [et]
  refine ⟨fun x hx => ?_, ?_, fun x hx => ?_⟩
  · rcases List.mem_append.1 hx with hx | hx
    · exact a1 x hx
    · rw [List.mem_singleton.1 hx]; exact h0
  · rw [List.map_append]
    refine List.nodup_append.2 ⟨a2, by simp, fun x hx y hy e => ?_⟩
    obtain ⟨d', hd', rfl⟩ := List.mem_map.1 hx
    obtain ⟨e', he', hee⟩ := a3 d' hd'
    have hy' : y = d.subj := by simpa using hy
    exact hn e' he' (by rw [hee, e, hy'])
  · rcases List.mem_append.1 hx with hx | hx
    · obtain ⟨e', he', hee⟩ := a3 x hx
      exact ⟨e', hs e' he', hee⟩
    · rw [List.mem_singleton.1 hx]; exact hm
theorem TreeI.done {ds : List Deed} {es : List (ByteArray × Int)} (h : TreeI ds ds.length es) : es.length ≤ ds.length ∧ (es.length = ds.length → (∀ d ∈ ds, d.op = 0) ∧ (ds.map Deed.subj).Nodup) := by
  refine ⟨h.1, fun e => ?_⟩
  obtain ⟨a1, a2, -⟩ := h.2 e
  rw [List.take_length] at a1 a2
  exact ⟨a1, a2⟩
end Go.Proofs.YtehlmjecbljafaaGreatDoor
namespace Go.Proofs.YtehlmjecbljafaaGreatDoor
open Go Go.RowKit
/-- What append(v, u...) runs to. -/
theorem run_appS {P : Program} {T E sz bytes : Nat} {z : Value} {w : World} (et : ET P T E sz bytes z) (ty : TypeId) (base : Nat) {v : Value} {n : Nat} {xs : List Value} (hown : Own w base sz v n xs)
    {u : Value} {m : Nat} {news : List Value} (hsl : Sl w sz u m news) (h1 : ∀ u ∈ news, u.oneCell' = true) (hsm : n + m ≤ 549755813888) (hbase : base ≤ w.heap.size) :
    ∃ v' w', (Builtin.append_ #[T, T] ty #[v, u]).run P w = .ok v' w' ∧ Own w' base sz v' (n + m) (xs ++ news) ∧ w.grownBy w' v.ownBlock := by
  obtain ⟨hl, a', c, rfl, hmc, hcm, hc⟩ := hsl
  cases a' with
  | some ad =>
    obtain ⟨v', w', hr, k1, k2, -⟩ := run_app (P := P) w et ty base v n xs hown ad m c news hl (fun j u hu => by
      obtain ⟨b, off, e, hc2⟩ := hc (by have := (List.getElem?_eq_some_iff.1 hu).1; omega)
      cases e
      rw [add0]; exact hc2 j u hu) h1 hsm hbase
    exact ⟨v', w', hr, k1, k2⟩
  | none =>
    have hn0 : news.length = 0 := by
      rcases Nat.eq_zero_or_pos news.length with h | h
      · exact h
      · obtain ⟨b, off, e, -⟩ := hc h; cases e
    have hm0 : m = 0 := by
      have := et.pos
      rcases Nat.eq_zero_or_pos m with h | h
      · exact h
      · have := Nat.mul_pos h this; omega
    subst hm0
    have hn : news = [] := List.eq_nil_of_length_eq_zero hn0
    subst hn
    exact ⟨v, w, run_app_none (P := P) w et ty base c v n xs hown, by rw [List.append_nil]; exact hown, ⟨rfl, rfl, rfl, Nat.le_refl _, fun _ _ _ => rfl⟩⟩
end Go.Proofs.YtehlmjecbljafaaGreatDoor
