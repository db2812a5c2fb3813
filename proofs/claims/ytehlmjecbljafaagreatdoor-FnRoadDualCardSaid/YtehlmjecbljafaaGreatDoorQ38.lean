/- A script's steps: a put. A script's steps: a reverse match. -/
import Derived.Test.YtehlmjecbljafaaGreatDoorQ36
import Derived.Test.YtehlmjecbljafaaGreatDoorQ37
namespace Go.Proofs.YtehlmjecbljafaaGreatDoor
open Go Go.RowKit
def pathS (s : ByteArray) : Path := (toks s).map bs
/-- What a script has made: its numbers, its subscriptions, its subjects, its list's tree. -/
structure PlaySt (B0 P b : Nat) (vi vs : Value) (ids : List Int) (subs : List Nat) (ss : List ByteArray) (T : STrie) (F : Nat → Prop) (w : World) : Prop where
  play : PlayAt w P b vi vs ids subs
  row : w.heap[b]? = some (.cells (slCells (T.aL []) (.map none) subs.length 0 0 subs.length 0 0 subs.length) 229 (0, 0))
  ok : STrieOK T F w
  lt : ∀ k, F k → B0 ≤ k ∧ k < w.heap.size
  nb : ¬ F b
  bge : B0 ≤ b
  Pge : B0 ≤ P
  bP : ¬ PB P vi vs b
  pbF : ∀ k, PB P vi vs k → ¬ F k
  sub : ∀ a ∈ subs, ¬ F a ∧ a ≠ b ∧ ¬ PB P vi vs a ∧ B0 ≤ a ∧ ∃ c t, w.heap[a]? = some (.cells c t (0, 0))
  N : ∀ q, T.N q ↔ q = [] ∨ ∃ s ∈ ss, q <+: pathS s
  S : ∀ q a, a ∈ T.S q ↔ ∃ (j : Nat) (s : ByteArray), subs[j]? = some a ∧ ss[j]? = some s ∧ q = pathS s
  Snd : ∀ q, (T.S q).Nodup ∧ (T.S q).length ≤ subs.length
  nd : subs.Nodup
  len : ss.length = subs.length
set_option maxRecDepth 100000 in
set_option maxHeartbeats 3200000 in
theorem stepPut_any (B0 P b : Nat) (vi vs : Value) (ids : List Int) (subs : List Nat) (ss : List ByteArray) (T : STrie) (F : Nat → Prop) (s : ByteArray) (x : Int) (w : World) (h : PlaySt B0 P b vi vs ids subs ss T F w) (hx : x ∉ ids) (hs : s.size ≤ 100000) (hn : ids.length ≤ 100) (hP : PatP (pathS s)) :
    Calls Tryz.prog 103 #[.pointer (some ⟨P, 0, none⟩), .agg #[.int .i64 0, .string s, .string ⟨#[]⟩, .int .i64 x, .string ⟨#[]⟩, .slice none 0 0]] w fun e w' => e = .returned (.agg #[.int .i64 0, .int .i64 ((subs.length : Nat) + 1 : Nat), .slice none 0 0, .slice none 0 0]) ∧
      ∃ a vi' vs' T' F', PlaySt B0 P b vi' vs' (ids ++ [x]) (subs ++ [a]) (ss ++ [s]) T' F' w' ∧ Only (fun k => F k ∨ k = b ∨ PB P vi vs k) w w' ∧ (∀ k, F' k → F k ∨ w.heap.size ≤ k) ∧ (∀ k, PB P vi' vs' k → PB P vi vs k ∨ w.heap.size ≤ k) ∧ w.heap.size ≤ a := by
  have H := Lib.hid h; clear h
  have HX := Lib.hid hx; clear hx
  have HPP := Lib.hid hP; clear hP
  have hX0 := heap_alloc_new w (.cells #[.int .i64 0, .string s, .string ⟨#[]⟩, .int .i64 x, .string ⟨#[]⟩, .slice none 0 0] 55)
  have hb1 := (Below.refl w.heap.size w).alloc (Nat.le_refl _) (.cells #[.int .i64 0, .string s, .string ⟨#[]⟩, .int .i64 x, .string ⟨#[]⟩, .slice none 0 0] 55)
  have hz1 : (w.alloc (.cells #[.int .i64 0, .string s, .string ⟨#[]⟩, .int .i64 x, .string ⟨#[]⟩, .slice none 0 0] 55)).heap.size = w.heap.size + 1 := by simp
  go_enter Tryz.func103, Tryz.ntmps103
  go_wp2_with fail
  generalize w.alloc (.cells #[.int .i64 0, .string s, .string ⟨#[]⟩, .int .i64 x, .string ⟨#[]⟩, .slice none 0 0] 55) = wA at *
  have hA1 := heap_alloc_new wA (.cells #[.int .i64 0, .int .i64 0, .slice none 0 0, .slice none 0 0] 104)
  have hb2 := (Below.refl wA.heap.size wA).alloc (Nat.le_refl _) (.cells #[.int .i64 0, .int .i64 0, .slice none 0 0, .slice none 0 0] 104)
  have hz2 : (wA.alloc (.cells #[.int .i64 0, .int .i64 0, .slice none 0 0, .slice none 0 0] 104)).heap.size = wA.heap.size + 1 := by simp
  generalize wA.alloc (.cells #[.int .i64 0, .int .i64 0, .slice none 0 0, .slice none 0 0] 104) = wB at *
  have hB1 := heap_alloc_new wB (.cells #[.int .i64 0, .int .i64 0, .slice none 0 0, .slice none 0 0] 104)
  have hb3 := (Below.refl wB.heap.size wB).alloc (Nat.le_refl _) (.cells #[.int .i64 0, .int .i64 0, .slice none 0 0, .slice none 0 0] 104)
  have hz3 : (wB.alloc (.cells #[.int .i64 0, .int .i64 0, .slice none 0 0, .slice none 0 0] 104)).heap.size = wB.heap.size + 1 := by simp
  generalize wB.alloc (.cells #[.int .i64 0, .int .i64 0, .slice none 0 0, .slice none 0 0] 104) = wC at *
  have rX : wC.heap[w.heap.size]? = some (.cells #[.int .i64 0, .string s, .string ⟨#[]⟩, .int .i64 x, .string ⟨#[]⟩, .slice none 0 0] 55 (0, 0)) := (hb3.block _ (by omega)).trans ((hb2.block _ (by omega)).trans hX0)
  have rY : wC.heap[w.heap.size + 1]? = some (.cells #[.int .i64 0, .int .i64 0, .slice none 0 0, .slice none 0 0] 104 (0, 0)) := by
    rw [hz1] at hA1; exact (hb3.block _ (by omega)).trans hA1
  have rZ : wC.heap[w.heap.size + 1 + 1]? = some (.cells #[.int .i64 0, .int .i64 0, .slice none 0 0, .slice none 0 0] 104 (0, 0)) := by
    rw [hz2, hz1] at hB1; exact hB1
  have hbC : Below w.heap.size w wC := (hb1.trans (hb2.mono (by omega))).trans (hb3.mono (by omega))
  have hzC : wC.heap.size = w.heap.size + 3 := by omega
  have HBC := Lib.hid hbC
  have HZC := Lib.hid hzC
  clear hX0 hA1 hB1 hb1 hb2 hb3 hz1 hz2 hz3 hbC hzC
  have hpl := H.out.play.keep HBC.out
  have c0 := (cell_row (j := 0) hpl.row).trans (show _ = some (Value.pointer (some ⟨b, 0, none⟩)) from rfl)
  have x1 := (cell_row (j := 1) rX).trans (show _ = some (Value.string s) from rfl)
  have x2 := (cell_row (j := 2) rX).trans (show _ = some (Value.string ⟨#[]⟩) from rfl)
  have x3 := (cell_row (j := 3) rX).trans (show _ = some (Value.int .i64 x) from rfl)
  have RX := Lib.hid rX
  have RY := Lib.hid rY
  have RZ := Lib.hid rZ
  have HPL := Lib.hid hpl
  clear hpl rX rY rZ
  refine wp_region_L [0, 1, 2, 3, 4, 5, 6, 10] (fun W' => W'.cell? ⟨P, 0, none⟩ = some (.pointer (some ⟨b, 0, none⟩)) ∧ W'.cell? ⟨w.heap.size, 1, none⟩ = some (.string s) ∧ W'.cell? ⟨w.heap.size, 2, none⟩ = some (.string ⟨#[]⟩) ∧ W'.cell? ⟨w.heap.size, 3, none⟩ = some (.int .i64 x)) (by kernel_rfl) (by kernel_rfl) ⟨c0, x1, x2, x3⟩ (fun ne => ?_)
  have S0 := fun z : SubC (fun W' => W'.cell? ⟨P, 0, none⟩ = some (.pointer (some ⟨b, 0, none⟩)) ∧ W'.cell? ⟨w.heap.size, 1, none⟩ = some (.string s) ∧ W'.cell? ⟨w.heap.size, 2, none⟩ = some (.string ⟨#[]⟩) ∧ W'.cell? ⟨w.heap.size, 3, none⟩ = some (.int .i64 x)) => z.ok.1
  have S1 := fun z : SubC (fun W' => W'.cell? ⟨P, 0, none⟩ = some (.pointer (some ⟨b, 0, none⟩)) ∧ W'.cell? ⟨w.heap.size, 1, none⟩ = some (.string s) ∧ W'.cell? ⟨w.heap.size, 2, none⟩ = some (.string ⟨#[]⟩) ∧ W'.cell? ⟨w.heap.size, 3, none⟩ = some (.int .i64 x)) => z.ok.2.1
  have S2 := fun z : SubC (fun W' => W'.cell? ⟨P, 0, none⟩ = some (.pointer (some ⟨b, 0, none⟩)) ∧ W'.cell? ⟨w.heap.size, 1, none⟩ = some (.string s) ∧ W'.cell? ⟨w.heap.size, 2, none⟩ = some (.string ⟨#[]⟩) ∧ W'.cell? ⟨w.heap.size, 3, none⟩ = some (.int .i64 x)) => z.ok.2.2.1
  have S3 := fun z : SubC (fun W' => W'.cell? ⟨P, 0, none⟩ = some (.pointer (some ⟨b, 0, none⟩)) ∧ W'.cell? ⟨w.heap.size, 1, none⟩ = some (.string s) ∧ W'.cell? ⟨w.heap.size, 2, none⟩ = some (.string ⟨#[]⟩) ∧ W'.cell? ⟨w.heap.size, 3, none⟩ = some (.int .i64 x)) => z.ok.2.2.2
  repeat (refine wpCL_q rfl rfl ?_; go_big_quiet_step (fail); refine wpQuiet_nil ?_)
  refine wpCL_n rfl rfl rfl rfl ?_
  go_simp
  repeat (refine wpCL_q rfl rfl ?_; go_big_quiet_step (fail); refine wpQuiet_nil ?_)
  refine wpCL_ch rfl rfl (fun K hK => ?_)
  go_simp
  simp only [runsTo_enter]
  refine (playPut_any P b vi vs ids subs s x wC.drew (HPL.out.keep (Below.refl _ wC).drew) HX.out hs (by omega)).mono ?_
  rintro e w4 ⟨a, vi', vs', rfl, q1, q2, q3, q4, q5⟩
  have q3' : Only (PB P vi vs) wC w4 := ⟨q3.os, q3.tape, q3.output, q3.size, q3.block⟩
  have hPB : ∀ k, PB P vi vs k → k < w.heap.size := fun k hk => (H.out.play.lt hk).2
  have r4 : ∀ (k : Nat) (o : Obj), w.heap[k]? = some o → ¬ PB P vi vs k → w4.heap[k]? = some o := fun k o h hk => (q3'.block k (by have := (Array.getElem?_eq_some_iff.1 h).1; have := HZC.out; omega) hk).trans ((HBC.out.block k (Array.getElem?_eq_some_iff.1 h).1).trans h)
  have n4 : ∀ k, w.heap.size ≤ k → k < wC.heap.size → w4.heap[k]? = wC.heap[k]? := fun k h1 h2 => q3'.block k h2 fun e => by have := hPB k e; omega
  have hb4 := r4 b _ H.out.row H.out.bP
  have hT4 : STrieOK T F w4 := H.out.ok.keep fun k hk => (q3'.block k (by have := (H.out.lt k hk).2; have := HZC.out; omega) (fun e => H.out.pbF k e hk)).trans (HBC.out.block k (H.out.lt k hk).2)
  have hz4 := q3'.size
  have hP4 := (cell_row (j := 0) q2.row).trans (show _ = some (Value.pointer (some ⟨b, 0, none⟩)) from rfl)
  have hx4 := (n4 w.heap.size (Nat.le_refl _) (by have := HZC.out; omega)).trans RX.out
  have hy4 := (n4 (w.heap.size + 1) (by omega) (by have := HZC.out; omega)).trans RY.out
  have hz4r := (n4 (w.heap.size + 1 + 1) (by omega) (by have := HZC.out; omega)).trans RZ.out
  have hins := sInsert_any b a wC.heap.size s none subs.length 0 0 subs.length 0 0 subs.length T F w4 hb4 hT4 (fun q hq => by
      obtain ⟨y, hy⟩ := List.exists_mem_of_ne_nil _ hq
      obtain ⟨j, s', h1, h2, h3⟩ := (H.out.S q y).1 hy
      exact (H.out.N q).2 (.inr ⟨s', List.mem_of_getElem? h2, by rw [h3]; exact List.prefix_refl _⟩)) (fun k hk => by have := (H.out.lt k hk).2; have := HZC.out; omega) H.out.nb HPP.out hs q1 (fun k hk => by
      have := HZC.out
      rcases hk with hk | rfl
      · have := (H.out.lt k hk).2; omega
      · have := (Array.getElem?_eq_some_iff.1 H.out.row).1; omega) (fun h => by
      obtain ⟨j, s', h1, h2, h3⟩ := (H.out.S _ a).1 h
      obtain ⟨-, -, -, -, c, t, hr⟩ := H.out.sub a (List.mem_of_getElem? h1)
      have := (Array.getElem?_eq_some_iff.1 hr).1
      have := q1.1
      have hdz : wC.drew.heap.size = wC.heap.size := rfl
      have := HZC.out
      omega) (fun y hy => by
      obtain ⟨j, s', h1, h2, h3⟩ := (H.out.S _ y).1 hy
      obtain ⟨e1, -, e3, -, c, t, hr⟩ := H.out.sub y (List.mem_of_getElem? h1)
      exact ⟨e1, c, t, r4 y _ hr e3⟩) (by have := (H.out.Snd ((toks s).map bs)).2; have := H.out.play.len; omega) (fun k h => by cases h) (fun W hW _ => cache0_any b _ a s _ _ _ _ _ _ _ W hW)
      ⟨by omega, by have := H.out.play.len; omega⟩ ⟨by omega, by have := H.out.play.len; omega⟩ ⟨by omega, by have := H.out.play.len; omega⟩
  refine ⟨_, rfl, hK _ _ ⟨⟨w4, hP4, (cell_row (j := 1) hx4).trans rfl, (cell_row (j := 2) hx4).trans rfl, (cell_row (j := 3) hx4).trans rfl⟩, rfl⟩ ?_⟩
  have Q := Lib.hid (And.intro q1 (And.intro q2 (And.intro q3' (And.intro q4 q5))))
  have R4 := Lib.hid (And.intro r4 (And.intro n4 (And.intro hb4 (And.intro hx4 (And.intro hy4 hz4r)))))
  clear hK K q1 q2 q3 q3' q4 q5 r4 n4 hb4 hT4 hP4 hx4 hy4 hz4r
  go_simp
  refine wpCL_ch rfl rfl (fun K hK => ?_)
  go_simp
  simp only [runsTo_enter]
  refine hins.mono ?_
  rintro e w5 ⟨rfl, T', F', t1, t2, t3, t4, t5, t6, t7, t8⟩
  have r5 : ∀ (k : Nat) (o : Obj), w4.heap[k]? = some o → ¬ F k → k ≠ b → w5.heap[k]? = some o := fun k o h h1 h2 => (t6.block k (Array.getElem?_eq_some_iff.1 h).1 (by rintro (e | e); exact h1 e; exact h2 e)).trans h
  have hFw : ∀ k, w.heap.size ≤ k → ¬ F k ∧ k ≠ b := fun k hk => ⟨fun e => by have := (H.out.lt k e).2; omega, fun e => by have := (Array.getElem?_eq_some_iff.1 H.out.row).1; omega⟩
  have hp5 := Q.out.2.1.keepIf (w' := w5) fun k hk => t6.block k (Q.out.2.1.lt hk).2 (by
    have hbw := (Array.getElem?_eq_some_iff.1 H.out.row).1
    rcases Q.out.2.2.2.1 k hk with h | h
    · rintro (e | rfl)
      · exact H.out.pbF k h e
      · exact H.out.bP h
    · have hdz : wC.drew.heap.size = wC.heap.size := rfl
      have := HZC.out
      have := hFw k (by omega)
      rintro (e | e)
      · exact this.1 e
      · exact this.2 e)
  have hP5 := (cell_row (j := 0) hp5.row).trans (show _ = some (Value.pointer (some ⟨b, 0, none⟩)) from rfl)
  have hx5 := r5 _ _ R4.out.2.2.2.1 (hFw _ (Nat.le_refl _)).1 (hFw _ (Nat.le_refl _)).2
  have hy5 := r5 _ _ R4.out.2.2.2.2.1 (hFw _ (by omega)).1 (hFw _ (by omega)).2
  have hz5 := r5 _ _ R4.out.2.2.2.2.2 (hFw _ (by omega)).1 (hFw _ (by omega)).2
  refine ⟨_, rfl, hK _ _ ⟨⟨w5, hP5, (cell_row (j := 1) hx5).trans rfl, (cell_row (j := 2) hx5).trans rfl, (cell_row (j := 3) hx5).trans rfl⟩, rfl⟩ ?_⟩
  clear hK K hins
  go_simp
  refine wpCL_ch rfl rfl (fun K hK => ?_)
  go_simp
  simp only [runsTo_enter]
  refine (one_nil w5).mono ?_
  rintro e w6 ⟨rfl, rfl⟩
  refine ⟨_, rfl, hK _ _ ⟨⟨w5, hP5, (cell_row (j := 1) hx5).trans rfl, (cell_row (j := 2) hx5).trans rfl, (cell_row (j := 3) hx5).trans rfl⟩, rfl⟩ ?_⟩
  clear hK K
  go_simp
  repeat (refine wpCL_q rfl rfl ?_; go_big_quiet_step (fail); refine wpQuiet_nil ?_)
  refine wpCL_last ?_
  have z50 := (cell_row (j := 0) hz5).trans (show _ = some (Value.int .i64 0) from rfl)
  have zf0 := frozen_row (j := 0) hz5
  clear S0 S1 S2 S3 ne
  have hnX : ∀ k, k < w.heap.size → k ≠ w.heap.size + 1 + 1 := fun k hk => by omega
  have hPw := hPB P (.inl rfl)
  have hbw := (Array.getElem?_eq_some_iff.1 H.out.row).1
  have hP6 : (w5.setCell ⟨w.heap.size + 1 + 1, 0, none⟩ (.int .i64 0)).cell? ⟨P, 0, none⟩ = some (.pointer (some ⟨b, 0, none⟩)) := (World.cell?_of_block (heap_setCell_other _ _ _ _ (hnX P hPw))).trans hP5
  go_wp2_with fail
  have hz6 := heap_setCell_same w5 (w.heap.size + 1 + 1) 0 _ 104 (.int .i64 0) hz5
  have ho6 : ∀ k, k ≠ w.heap.size + 1 + 1 → (w5.setCell ⟨w.heap.size + 1 + 1, 0, none⟩ (.int .i64 0)).heap[k]? = w5.heap[k]? := fun k hk => heap_setCell_other _ _ _ _ hk
  have hsz6 : (w5.setCell ⟨w.heap.size + 1 + 1, 0, none⟩ (.int .i64 0)).heap.size = w5.heap.size := size_setCell ..
  have hou6 : Only (· = w.heap.size + 1 + 1) w5 (w5.setCell ⟨w.heap.size + 1 + 1, 0, none⟩ (.int .i64 0))  := (Only.refl (· = w.heap.size + 1 + 1) w5).set (.inl rfl) _
  generalize w5.setCell ⟨w.heap.size + 1 + 1, 0, none⟩ (.int .i64 0) = w6 at *
  have hb6 := (ho6 b (hnX b hbw)).trans t5
  refine (scount_any b _ _ _ _ _ _ _ _ _ w6 hb6).mono ?_
  rintro e w7 ⟨rfl, hb7, ho7⟩
  have hl6 : ∀ (k : Nat) (o : Obj), w6.heap[k]? = some o → k ≠ b → w7.heap[k]? = some o := fun k o h hk => (ho7.block k (Array.getElem?_eq_some_iff.1 h).1 hk).trans h
  have hz7 := hl6 _ _ hz6 (hFw _ (by omega)).2
  have hy7 := hl6 _ _ ((ho6 _ (by omega)).trans hy5) (hFw _ (by omega)).2
  have z71 := (cell_row (j := 1) hz7).trans (show _ = some (Value.int .i64 0) from rfl)
  have zf1 := frozen_row (j := 1) hz7
  have hz8 := heap_setCell_same w7 (w.heap.size + 1 + 1) 1 _ 104 (.int .i64 ((subs.length : Int) + 1)) hz7
  have hy8 := (show (w7.setCell ⟨w.heap.size + 1 + 1, 1, none⟩ (.int .i64 ((subs.length : Int) + 1))).heap[w.heap.size + 1]? = w7.heap[w.heap.size + 1]? from heap_setCell_other _ _ _ _ (by show w.heap.size + 1 ≠ w.heap.size + 1 + 1; omega)).trans hy7
  have hsl : subs.length ≤ 100 := by have := H.out.play.len; omega
  have z80 := (cell_row (j := 0) hz8).trans (show _ = some (Value.int .i64 0) from rfl)
  have z81 := (cell_row (j := 1) hz8).trans (show _ = some (Value.int .i64 ((subs.length : Int) + 1)) from rfl)
  have z82 := (cell_row (j := 2) hz8).trans (show _ = some (Value.slice none 0 0) from rfl)
  have z83 := (cell_row (j := 3) hz8).trans (show _ = some (Value.slice none 0 0) from rfl)
  have y80 := (cell_row (j := 0) hy8).trans (show _ = some (Value.int .i64 0) from rfl)
  have y81 := (cell_row (j := 1) hy8).trans (show _ = some (Value.int .i64 0) from rfl)
  have y82 := (cell_row (j := 2) hy8).trans (show _ = some (Value.slice none 0 0) from rfl)
  have y83 := (cell_row (j := 3) hy8).trans (show _ = some (Value.slice none 0 0) from rfl)
  have g0 := frozen_row (j := 0) hy8
  have g1 := frozen_row (j := 1) hy8
  have g2 := frozen_row (j := 2) hy8
  have g3 := frozen_row (j := 3) hy8
  go_wp2_with fail
  have s0 := heap_setCell_same _ (w.heap.size + 1) 0 _ 104 (.int .i64 0) hy8
  have s1 := heap_setCell_same _ (w.heap.size + 1) 1 _ 104 (.int .i64 ((subs.length : Int) + 1)) s0
  have s2 := heap_setCell_same _ (w.heap.size + 1) 2 _ 104 (.slice none 0 0) s1
  have s3 := heap_setCell_same _ (w.heap.size + 1) 3 _ 104 (.slice none 0 0) s2
  refine bodyPost_ret (results_cell_row rfl _ _ (w.heap.size + 1) 104 _ (0, 0) _ rfl s3 Tryz.underlying104 rfl (by kernel_rfl)) rfl ?_
  have ho8 : Only (fun k => k = w.heap.size + 1 ∨ k = w.heap.size + 1 + 1 ∨ k = b) w5 (((((w7.setCell ⟨w.heap.size + 1 + 1, 1, none⟩ (.int .i64 ((subs.length : Int) + 1))).setCell ⟨w.heap.size + 1, 0, none⟩ (.int .i64 0)).setCell ⟨w.heap.size + 1, 1, none⟩ (.int .i64 ((subs.length : Int) + 1))).setCell ⟨w.heap.size + 1, 2, none⟩ (.slice none 0 0)).setCell ⟨w.heap.size + 1, 3, none⟩ (.slice none 0 0)) := by
    have o1 := (hou6.mono (F' := fun k => k = w.heap.size + 1 ∨ k = w.heap.size + 1 + 1 ∨ k = b) fun k hk => .inr (.inl hk)).trans ho7 fun k hk => .inl (.inr (.inr hk))
    exact ((((o1.set (.inl (.inr (.inl rfl))) _).set (.inl (.inl rfl)) _).set (.inl (.inl rfl)) _).set (.inl (.inl rfl)) _).set (.inl (.inl rfl)) _
  have hrowF : ∀ (k : Nat) (o : Obj), w7.heap[k]? = some o → k ≠ w.heap.size + 1 → k ≠ w.heap.size + 1 + 1 → (((((w7.setCell ⟨w.heap.size + 1 + 1, 1, none⟩ (.int .i64 ((subs.length : Int) + 1))).setCell ⟨w.heap.size + 1, 0, none⟩ (.int .i64 0)).setCell ⟨w.heap.size + 1, 1, none⟩ (.int .i64 ((subs.length : Int) + 1))).setCell ⟨w.heap.size + 1, 2, none⟩ (.slice none 0 0)).setCell ⟨w.heap.size + 1, 3, none⟩ (.slice none 0 0)).heap[k]? = some o := fun k o h n1 n2 => by
    rw [heap_setCell_other _ _ _ _ (show k ≠ w.heap.size + 1 from n1), heap_setCell_other _ _ _ _ (show k ≠ w.heap.size + 1 from n1), heap_setCell_other _ _ _ _ (show k ≠ w.heap.size + 1 from n1), heap_setCell_other _ _ _ _ (show k ≠ w.heap.size + 1 from n1), heap_setCell_other _ _ _ _ (show k ≠ w.heap.size + 1 + 1 from n2)]
    exact h
  have hbF := hrowF b _ hb7 (by omega) (by omega)
  clear s0 s1 s2 s3 g0 g1 g2 g3 y80 y81 y82 y83 z80 z81 z82 z83 hz8 hy8 z71 zf1 hz7 hy7 hrowF hb7 hl6
  generalize (((((w7.setCell ⟨w.heap.size + 1 + 1, 1, none⟩ (.int .i64 ((subs.length : Int) + 1))).setCell ⟨w.heap.size + 1, 0, none⟩ (.int .i64 0)).setCell ⟨w.heap.size + 1, 1, none⟩ (.int .i64 ((subs.length : Int) + 1))).setCell ⟨w.heap.size + 1, 2, none⟩ (.slice none 0 0)).setCell ⟨w.heap.size + 1, 3, none⟩ (.slice none 0 0)) = wF at *
  obtain ⟨q1, q2, q3, q4, q5⟩ := Q.out
  obtain ⟨r4, -⟩ := R4.out
  have hdz : wC.drew.heap.size = wC.heap.size := rfl
  have hzC := HZC.out
  have hz5s := t6.size
  have hzFs := ho8.size
  have keep5 : ∀ (k : Nat) (o : Obj), w5.heap[k]? = some o → k ≠ w.heap.size + 1 → k ≠ w.heap.size + 1 + 1 → k ≠ b → wF.heap[k]? = some o := fun k o h n1 n2 n3 => (ho8.block k (Array.getElem?_eq_some_iff.1 h).1 (by rintro (e | e | e); exact n1 e; exact n2 e; exact n3 e)).trans h
  have hsubw : ∀ y ∈ subs, y < w.heap.size := fun y hy => by
    obtain ⟨-, -, -, -, c, t, hr⟩ := H.out.sub y hy
    exact (Array.getElem?_eq_some_iff.1 hr).1
  have ha0 := q1.1
  have ha1 := q1.lt
  have hnF' : ∀ k, k < w4.heap.size → ¬ F k → ¬ F' k := fun k h1 h2 h3 => by
    rcases t7 k h3 with h | h
    · exact h2 h
    · omega
  have haF := (hFw a (by omega)).1
  have hab := (hFw a (by omega)).2
  have hnew : ∀ q, a ∉ T.S q := fun q h => by
    obtain ⟨j, s', h1, -, -⟩ := (H.out.S q a).1 h
    have := hsubw a (List.mem_of_getElem? h1)
    omega
  refine ⟨by simp, a, vi', vs', T', F', ⟨?_, ?_, ?_, ?_, ?_, H.out.bge, H.out.Pge, ?_, ?_, ?_, ?_, ?_, ?_, ?_, ?_⟩, ?_⟩
  · refine hp5.keepIf fun k hk => ?_
    have hk5 := (hp5.lt hk).2
    refine ho8.block k hk5 ?_
    rcases q4 k hk with h | h
    · have := hPB k h
      rintro (e | e | rfl)
      · omega
      · omega
      · exact H.out.bP h
    · rintro (e | e | e) <;> omega
  · rw [t4, List.length_append]
    exact hbF
  · refine t1.keep fun k hk => ho8.block k (t8 k hk) ?_
    rcases t7 k hk with h | h
    · have := (H.out.lt k h).2
      rintro (e | e | rfl)
      · omega
      · omega
      · exact H.out.nb h
    · rintro (e | e | e) <;> omega
  · intro k hk
    have := t8 k hk
    refine ⟨?_, by omega⟩
    rcases t7 k hk with h | h
    · exact (H.out.lt k h).1
    · have := H.out.bge; omega
  · exact hnF' b (by omega) H.out.nb
  · intro h
    rcases q4 b h with h | h
    · exact H.out.bP h
    · omega
  · intro k hk
    have hk4 := (q2.lt hk).2
    refine hnF' k hk4 ?_
    rcases q4 k hk with h | h
    · exact H.out.pbF k h
    · exact (hFw k (by omega)).1
  · intro y hy
    rcases List.mem_append.1 hy with hy | hy
    · obtain ⟨e1, e2, e3, e4, c, t, hr⟩ := H.out.sub y hy
      have hyw := hsubw y hy
      refine ⟨hnF' y (by omega) e1, e2, fun h => ?_, e4, c, t, keep5 y _ (r5 y _ (r4 y _ hr e3) e1 e2) (by omega) (by omega) e2⟩
      rcases q4 y h with h | h
      · exact e3 h
      · omega
    · obtain rfl := List.mem_singleton.1 hy
      obtain ⟨-, g, cap, -, hr, -⟩ := id q1
      exact ⟨hnF' y ha1 haF, hab, q5, by have := H.out.bge; omega, _, _, keep5 y _ (r5 y _ hr haF hab) (by omega) (by omega) hab⟩
  · intro q
    rw [t2 q, H.out.N q, or_assoc]
    refine or_congr Iff.rfl ⟨?_, ?_⟩
    · rintro (⟨s', h1, h2⟩ | h)
      · exact ⟨s', List.mem_append_left _ h1, h2⟩
      · exact ⟨s, by simp, h⟩
    · rintro ⟨s', h1, h2⟩
      rcases List.mem_append.1 h1 with h1 | h1
      · exact .inl ⟨s', h1, h2⟩
      · obtain rfl := List.mem_singleton.1 h1
        exact .inr h2
  · intro q y
    have hl := H.out.len
    have hiff : y ∈ T'.S q ↔ y ∈ T.S q ∨ (q = pathS s ∧ y = a) := by
      rw [t3 q]
      by_cases e : q = (toks s).map bs
      · rw [if_pos e, List.mem_append, List.mem_singleton]
        exact or_congr Iff.rfl ⟨fun h => ⟨e, h⟩, fun h => h.2⟩
      · rw [if_neg e]
        exact ⟨.inl, fun h => h.elim id fun h => absurd h.1 e⟩
    rw [hiff, H.out.S q y]
    constructor
    · rintro (⟨j, s', h1, h2, h3⟩ | ⟨h1, rfl⟩)
      · have hj := (List.getElem?_eq_some_iff.1 h1).1
        exact ⟨j, s', by rw [List.getElem?_append_left hj]; exact h1, by rw [List.getElem?_append_left (by omega)]; exact h2, h3⟩
      · exact ⟨subs.length, s, by simp, by rw [← hl]; simp, h1⟩
    · rintro ⟨j, s', h1, h2, h3⟩
      by_cases hj : j < subs.length
      · rw [List.getElem?_append_left hj] at h1
        rw [List.getElem?_append_left (by omega)] at h2
        exact .inl ⟨j, s', h1, h2, h3⟩
      · have hj2 := (List.getElem?_eq_some_iff.1 h1).1
        rw [List.length_append, List.length_singleton] at hj2
        have hj3 : j = subs.length := by omega
        subst hj3
        rw [List.getElem?_append_right (Nat.le_refl _), Nat.sub_self] at h1
        rw [List.getElem?_append_right (by omega), hl, Nat.sub_self] at h2
        injection h1 with h1
        injection h2 with h2
        subst h1 h2
        exact .inr ⟨h3, rfl⟩
  · intro q
    rw [t3 q, List.length_append, List.length_singleton]
    obtain ⟨k1, k2⟩ := H.out.Snd q
    by_cases e : q = (toks s).map bs
    · rw [if_pos e]
      refine ⟨List.nodup_append.2 ⟨k1, by simp, fun y hy z hz e2 => ?_⟩, by rw [List.length_append, List.length_singleton]; omega⟩
      rw [List.mem_singleton.1 hz] at e2
      exact hnew q (e2 ▸ hy)
    · rw [if_neg e]; exact ⟨k1, by omega⟩
  · refine List.nodup_append.2 ⟨H.out.nd, by simp, fun y hy z hz e2 => ?_⟩
    rw [List.mem_singleton.1 hz] at e2
    have := hsubw y hy
    omega
  · rw [List.length_append, List.length_append, H.out.len]; rfl
  · have o1 : Only (fun k => F k ∨ k = b ∨ PB P vi vs k) w wC := Only.of HBC.out
    have o2 := o1.trans (show Only (PB P vi vs) wC w4 from ⟨q3.os, q3.tape, q3.output, q3.size, q3.block⟩) fun k hk => .inl (.inr (.inr hk))
    have o3 := o2.trans t6 fun k hk => .inl (by
      rcases hk with h | h
      · exact .inl h
      · exact .inr (.inl h))
    refine ⟨o3.trans ho8 fun k hk => ?_, fun k hk => ?_, fun k hk => ?_, by omega⟩
    · rcases hk with h | h | h
      · exact .inr (by omega)
      · exact .inr (by omega)
      · exact .inl (.inr (.inl h))
    · rcases t7 k hk with h | h
      · exact .inl h
      · exact .inr (by omega)
    · rcases q4 k hk with h | h
      · exact .inl h
      · exact .inr (by omega)
end Go.Proofs.YtehlmjecbljafaaGreatDoor
namespace Go.Proofs.YtehlmjecbljafaaGreatDoor
open Go Go.RowKit
theorem nd_inj {l : List Nat} (h : l.Nodup) {i j a : Nat} (h1 : l[i]? = some a) (h2 : l[j]? = some a) : i = j := by
  obtain ⟨hi, e1⟩ := List.getElem?_eq_some_iff.1 h1
  obtain ⟨hj, e2⟩ := List.getElem?_eq_some_iff.1 h2
  have hp := List.pairwise_iff_getElem.1 h
  rcases Nat.lt_trichotomy i j with hh | hh | hh
  · exact absurd (e1.trans e2.symm) (hp i j hi hj hh)
  · exact hh
  · exact absurd (e2.trans e1.symm) (hp j i hj hi hh)
/-- Subjects of plain tokens. -/
def PlainPs (ss : List ByteArray) : Prop := ∀ s ∈ ss, pathS s ≠ [] ∧ (∀ t ∈ pathS s, t ≠ [42] ∧ t ≠ [62]) ∧ s.size ≤ 100000
theorem PlaySt.stl {B0 P b : Nat} {vi vs : Value} {ids : List Int} {subs : List Nat} {ss : List ByteArray} {T : STrie} {F : Nat → Prop} {w : World} (h : PlaySt B0 P b vi vs ids subs ss T F w) (hl : PlainPs ss) (hn : subs.length ≤ 100) : STL T 100001 subs where
  lit p t hN := by
    rcases (h.N _).1 hN with e | ⟨s, hs, hp⟩
    · exact absurd e (snoc_ne _ _)
    · exact (hl s hs).2.1 t (hp.subset (by simp))
  mem q a ha := by
    obtain ⟨j, s, h1, h2, h3⟩ := (h.S q a).1 ha
    exact ⟨(h.N q).2 (.inr ⟨s, List.mem_of_getElem? h2, by rw [h3]; exact List.prefix_refl _⟩), by rw [h3]; exact (hl s (List.mem_of_getElem? h2)).1, List.mem_of_getElem? h1⟩
  nd q := (h.Snd q).1
  dis q q' a h1 h2 := by
    obtain ⟨j, s, a1, a2, a3⟩ := (h.S q a).1 h1
    obtain ⟨j', s', b1, b2, b3⟩ := (h.S q' a).1 h2
    have hj := (List.getElem?_eq_some_iff.1 a1).1
    have e : j = j' := nd_inj h.nd a1 b1
    subst e
    rw [a2] at b2
    injection b2 with b2
    rw [a3, b3, b2]
  deep q hN := by
    rcases (h.N _).1 hN with rfl | ⟨s, hs, hp⟩
    · exact Nat.zero_le _
    · have := hp.length_le
      have h2 := toks_len s
      have := (hl s hs).2.2
      unfold pathS at *
      rw [List.length_map] at *
      omega
  few := by omega
set_option maxRecDepth 100000 in
set_option maxHeartbeats 3200000 in
theorem stepRev_any (B0 P b : Nat) (vi vs : Value) (ids : List Int) (subs : List Nat) (ss : List ByteArray) (T : STrie) (F : Nat → Prop) (f : ByteArray) (w : World) (h : PlaySt B0 P b vi vs ids subs ss T F w) (hs : f.size ≤ 100000) (hn : ids.length ≤ 100) (hP : PatP (pathS f)) (hl : PlainPs ss) :
    Calls Tryz.prog 103 #[.pointer (some ⟨P, 0, none⟩), .agg #[.int .i64 5, .string ⟨#[]⟩, .string ⟨#[]⟩, .int .i64 0, .string f, .slice none 0 0]] w fun e w' => ∃ u out l, e = .returned (.agg #[.int .i64 0, .int .i64 (subs.length : Nat), u, .slice none 0 0]) ∧
      Own w' w.heap.size 1 u out.length (ints out) ∧ NumsOf ids subs l out ∧ l.Nodup ∧ (∀ a, a ∈ l ↔ ∃ (j : Nat) (s : ByteArray), subs[j]? = some a ∧ ss[j]? = some s ∧ matchT (pathS s) (pathS f) = true) ∧ Only (fun k => k = b) w w' := by
  have hsl : subs.length ≤ 100 := by have := h.play.len; omega
  have hstl := h.stl hl hsl
  have HSTL := Lib.hid hstl; clear hstl
  have H := Lib.hid h; clear h
  have HPP := Lib.hid hP; clear hP
  have hX0 := heap_alloc_new w (.cells #[.int .i64 5, .string ⟨#[]⟩, .string ⟨#[]⟩, .int .i64 0, .string f, .slice none 0 0] 55)
  have hb1 := (Below.refl w.heap.size w).alloc (Nat.le_refl _) (.cells #[.int .i64 5, .string ⟨#[]⟩, .string ⟨#[]⟩, .int .i64 0, .string f, .slice none 0 0] 55)
  have hz1 : (w.alloc (.cells #[.int .i64 5, .string ⟨#[]⟩, .string ⟨#[]⟩, .int .i64 0, .string f, .slice none 0 0] 55)).heap.size = w.heap.size + 1 := by simp
  go_enter Tryz.func103, Tryz.ntmps103
  go_wp2_with fail
  generalize w.alloc (.cells #[.int .i64 5, .string ⟨#[]⟩, .string ⟨#[]⟩, .int .i64 0, .string f, .slice none 0 0] 55) = wA at *
  have hA1 := heap_alloc_new wA (.cells #[.int .i64 0, .int .i64 0, .slice none 0 0, .slice none 0 0] 104)
  have hb2 := (Below.refl wA.heap.size wA).alloc (Nat.le_refl _) (.cells #[.int .i64 0, .int .i64 0, .slice none 0 0, .slice none 0 0] 104)
  have hz2 : (wA.alloc (.cells #[.int .i64 0, .int .i64 0, .slice none 0 0, .slice none 0 0] 104)).heap.size = wA.heap.size + 1 := by simp
  generalize wA.alloc (.cells #[.int .i64 0, .int .i64 0, .slice none 0 0, .slice none 0 0] 104) = wB at *
  have hB1 := heap_alloc_new wB (.cells #[.int .i64 0, .int .i64 0, .slice none 0 0, .slice none 0 0] 104)
  have hb3 := (Below.refl wB.heap.size wB).alloc (Nat.le_refl _) (.cells #[.int .i64 0, .int .i64 0, .slice none 0 0, .slice none 0 0] 104)
  have hz3 : (wB.alloc (.cells #[.int .i64 0, .int .i64 0, .slice none 0 0, .slice none 0 0] 104)).heap.size = wB.heap.size + 1 := by simp
  generalize wB.alloc (.cells #[.int .i64 0, .int .i64 0, .slice none 0 0, .slice none 0 0] 104) = wC at *
  have rX : wC.heap[w.heap.size]? = some (.cells #[.int .i64 5, .string ⟨#[]⟩, .string ⟨#[]⟩, .int .i64 0, .string f, .slice none 0 0] 55 (0, 0)) := (hb3.block _ (by omega)).trans ((hb2.block _ (by omega)).trans hX0)
  have rY : wC.heap[w.heap.size + 1]? = some (.cells #[.int .i64 0, .int .i64 0, .slice none 0 0, .slice none 0 0] 104 (0, 0)) := by
    rw [hz1] at hA1; exact (hb3.block _ (by omega)).trans hA1
  have rZ : wC.heap[w.heap.size + 1 + 1]? = some (.cells #[.int .i64 0, .int .i64 0, .slice none 0 0, .slice none 0 0] 104 (0, 0)) := by
    rw [hz2, hz1] at hB1; exact hB1
  have hbC : Below w.heap.size w wC := (hb1.trans (hb2.mono (by omega))).trans (hb3.mono (by omega))
  have hzC : wC.heap.size = w.heap.size + 3 := by omega
  have HBC := Lib.hid hbC
  have HZC := Lib.hid hzC
  clear hX0 hA1 hB1 hb1 hb2 hb3 hz1 hz2 hz3 hbC hzC
  have hpl := H.out.play.keep HBC.out
  have c0 := (cell_row (j := 0) hpl.row).trans (show _ = some (Value.pointer (some ⟨b, 0, none⟩)) from rfl)
  have x4 := (cell_row (j := 4) rX).trans (show _ = some (Value.string f) from rfl)
  have RX := Lib.hid rX
  have RY := Lib.hid rY
  have RZ := Lib.hid rZ
  have HPL := Lib.hid hpl
  clear hpl rX rY rZ
  refine wp_region_L [0, 1, 2, 3, 4, 5, 6, 9] (fun W' => W'.cell? ⟨P, 0, none⟩ = some (.pointer (some ⟨b, 0, none⟩)) ∧ W'.cell? ⟨w.heap.size, 4, none⟩ = some (.string f)) (by kernel_rfl) (by kernel_rfl) ⟨c0, x4⟩ (fun ne => ?_)
  have S0 := fun z : SubC (fun W' => W'.cell? ⟨P, 0, none⟩ = some (.pointer (some ⟨b, 0, none⟩)) ∧ W'.cell? ⟨w.heap.size, 4, none⟩ = some (.string f)) => z.ok.1
  have S1 := fun z : SubC (fun W' => W'.cell? ⟨P, 0, none⟩ = some (.pointer (some ⟨b, 0, none⟩)) ∧ W'.cell? ⟨w.heap.size, 4, none⟩ = some (.string f)) => z.ok.2
  repeat (refine wpCL_q rfl rfl ?_; go_big_quiet_step (fail); refine wpQuiet_nil ?_)
  refine wpCL_n rfl rfl rfl rfl ?_
  go_simp
  repeat (refine wpCL_q rfl rfl ?_; go_big_quiet_step (fail); refine wpQuiet_nil ?_)
  refine wpCL_ch rfl rfl (fun K hK => ?_)
  go_simp
  simp only [runsTo_enter]
  have hbw := (Array.getElem?_eq_some_iff.1 H.out.row).1
  have hrb : wC.drew.heap[b]? = _ := (HBC.out.block b hbw).trans H.out.row
  have hTd : STrieOK T F wC.drew := H.out.ok.keep fun k hk => HBC.out.block k (H.out.lt k hk).2
  refine (reverse_any b f (.map none) subs.length 0 0 subs.length 0 0 subs.length T 100001 subs F wC.drew hrb hTd HSTL.out (fun k hk => by have := (H.out.lt k hk).2; have := HZC.out; show k < wC.heap.size; omega) H.out.nb HPP.out hs).mono ?_
  rintro e w4 ⟨R, l, rfl, q1, q2, q3, q4⟩
  have q4' : Only (· = b) wC w4 := ⟨q4.os, q4.tape, q4.output, q4.size, q4.block⟩
  have hz4 := q4'.size
  have r4 : ∀ (k : Nat) (o : Obj), wC.heap[k]? = some o → k ≠ b → w4.heap[k]? = some o := fun k o h hk => (q4'.block k (Array.getElem?_eq_some_iff.1 h).1 hk).trans h
  have hp4 : PlayAt w4 P b vi vs ids subs := HPL.out.keepIf fun k hk => q4'.block k (HPL.out.lt hk).2 (fun e => H.out.bP (e ▸ hk))
  have hP4 := (cell_row (j := 0) hp4.row).trans (show _ = some (Value.pointer (some ⟨b, 0, none⟩)) from rfl)
  have hx4 := r4 _ _ RX.out (by omega)
  have hy4 := r4 _ _ RY.out (by omega)
  have hz4r := r4 _ _ RZ.out (by omega)
  have hmem : ∀ a, a ∈ l ↔ ∃ (j : Nat) (s : ByteArray), subs[j]? = some a ∧ ss[j]? = some s ∧ matchT (pathS s) (pathS f) = true := fun a => by
    rw [q2.2 a]
    constructor
    · rintro ⟨q, ⟨r, h1, h2⟩, h3⟩
      obtain ⟨j, s, a1, a2, a3⟩ := (H.out.S q a).1 h3
      rw [List.nil_append] at h1
      exact ⟨j, s, a1, a2, by rw [← a3, h1]; exact h2⟩
    · rintro ⟨j, s, a1, a2, a3⟩
      exact ⟨pathS s, ⟨pathS s, by simp, a3⟩, (H.out.S _ a).2 ⟨j, s, a1, a2, rfl⟩⟩
  have hsubl : ∀ y ∈ l, y ∈ subs := fun y hy => by obtain ⟨j, s, a1, -⟩ := (hmem y).1 hy; exact List.mem_of_getElem? a1
  have hrows : ∀ y ∈ subs, ∃ c t, w4.heap[y]? = some (.cells c t (0, 0)) := fun y hy => by
    obtain ⟨-, e2, -, -, c, t, hr⟩ := H.out.sub y hy
    exact ⟨c, t, r4 y _ ((HBC.out.block y (Array.getElem?_eq_some_iff.1 hr).1).trans hr) e2⟩
  have hll : l.length ≤ 1000000 := by have := nd_sub q2.1 hsubl; omega
  have hfo := found_any P b vi vs ids subs l _ R w4 hp4 q1 hsubl hrows (by omega) hll
  refine ⟨_, rfl, hK _ _ ⟨⟨w4, hP4, (cell_row (j := 4) hx4).trans rfl⟩, rfl⟩ ?_⟩
  have Q := Lib.hid (And.intro q2.1 (And.intro hmem (And.intro q3 (And.intro q4' (And.intro hx4 (And.intro hy4 hz4r))))))
  clear hK K q1 q2 q3 q4 q4' r4 hP4 hx4 hy4 hz4r hmem hsubl hrows hll
  go_simp
  refine wpCL_ch rfl rfl (fun K hK => ?_)
  go_simp
  simp only [runsTo_enter]
  refine hfo.mono ?_
  rintro e w5 ⟨u, out, rfl, k1, k2, k3⟩
  obtain ⟨ua, uc, rfl, -⟩ := k1.form
  have r5 : ∀ (k : Nat) (o : Obj), w4.heap[k]? = some o → w5.heap[k]? = some o := fun k o h => (k3.block k (Array.getElem?_eq_some_iff.1 h).1).trans h
  have hp5 := hp4.keep k3
  have hP5 := (cell_row (j := 0) hp5.row).trans (show _ = some (Value.pointer (some ⟨b, 0, none⟩)) from rfl)
  have hb5 := r5 _ _ Q.out.2.2.1
  have hx5 := r5 _ _ Q.out.2.2.2.2.1
  have hy5 := r5 _ _ Q.out.2.2.2.2.2.1
  have hz5 := r5 _ _ Q.out.2.2.2.2.2.2
  refine ⟨_, rfl, hK _ _ ⟨⟨w5, hP5, (cell_row (j := 4) hx5).trans rfl⟩, rfl⟩ ?_⟩
  clear hK K hfo
  go_simp
  repeat (refine wpCL_q rfl rfl ?_; go_big_quiet_step (fail); refine wpQuiet_nil ?_)
  refine wpCL_last ?_
  have z52 := (cell_row (j := 2) hz5).trans (show _ = some (Value.slice none 0 0) from rfl)
  have z53 := (cell_row (j := 3) hz5).trans (show _ = some (Value.slice none 0 0) from rfl)
  have zf2 := frozen_row (j := 2) hz5
  have zf3 := frozen_row (j := 3) hz5
  clear S0 S1 ne
  have hz6 := heap_setCell_same _ (w.heap.size + 1 + 1) 3 _ 104 (.slice none 0 0) (heap_setCell_same w5 (w.heap.size + 1 + 1) 2 _ 104 (.slice ua out.length uc) hz5)
  have ho6 : ∀ k, k ≠ w.heap.size + 1 + 1 → ((w5.setCell ⟨w.heap.size + 1 + 1, 2, none⟩ (.slice ua out.length uc)).setCell ⟨w.heap.size + 1 + 1, 3, none⟩ (.slice none 0 0)).heap[k]? = w5.heap[k]? := fun k hk => (heap_setCell_other _ _ _ _ hk).trans (heap_setCell_other _ _ _ _ hk)
  have hou6 : Only (· = w.heap.size + 1 + 1) w5 ((w5.setCell ⟨w.heap.size + 1 + 1, 2, none⟩ (.slice ua out.length uc)).setCell ⟨w.heap.size + 1 + 1, 3, none⟩ (.slice none 0 0)) := ((Only.refl (· = w.heap.size + 1 + 1) w5).set (.inl rfl) _).set (.inl rfl) _
  have hPw := (H.out.play.lt (.inl rfl)).2
  have hP6 := (World.cell?_of_block (a := ⟨P, 0, none⟩) (ho6 P (by omega))).trans hP5
  go_wp2_with fail
  generalize (w5.setCell ⟨w.heap.size + 1 + 1, 2, none⟩ (.slice ua out.length uc)).setCell ⟨w.heap.size + 1 + 1, 3, none⟩ (.slice none 0 0) = w6 at *
  have hb6 := (ho6 b (by omega)).trans hb5
  refine (scount_any b _ _ _ _ _ _ _ _ _ w6 hb6).mono ?_
  rintro e w7 ⟨rfl, hb7, ho7⟩
  have hl6 : ∀ (k : Nat) (o : Obj), w6.heap[k]? = some o → k ≠ b → w7.heap[k]? = some o := fun k o h hk => (ho7.block k (Array.getElem?_eq_some_iff.1 h).1 hk).trans h
  have hz7 := hl6 _ _ hz6 (by omega)
  have hy7 := hl6 _ _ ((ho6 _ (by omega)).trans hy5) (by omega)
  have z71 := (cell_row (j := 1) hz7).trans (show _ = some (Value.int .i64 0) from rfl)
  have zf1 := frozen_row (j := 1) hz7
  have hz8 := heap_setCell_same w7 (w.heap.size + 1 + 1) 1 _ 104 (.int .i64 (subs.length : Int)) hz7
  have hy8 := (show (w7.setCell ⟨w.heap.size + 1 + 1, 1, none⟩ (.int .i64 (subs.length : Int))).heap[w.heap.size + 1]? = w7.heap[w.heap.size + 1]? from heap_setCell_other _ _ _ _ (by show w.heap.size + 1 ≠ w.heap.size + 1 + 1; omega)).trans hy7
  have z80 := (cell_row (j := 0) hz8).trans (show _ = some (Value.int .i64 0) from rfl)
  have z81 := (cell_row (j := 1) hz8).trans (show _ = some (Value.int .i64 (subs.length : Int)) from rfl)
  have z82 := (cell_row (j := 2) hz8).trans (show _ = some (Value.slice ua out.length uc) from rfl)
  have z83 := (cell_row (j := 3) hz8).trans (show _ = some (Value.slice none 0 0) from rfl)
  have y80 := (cell_row (j := 0) hy8).trans (show _ = some (Value.int .i64 0) from rfl)
  have y81 := (cell_row (j := 1) hy8).trans (show _ = some (Value.int .i64 0) from rfl)
  have y82 := (cell_row (j := 2) hy8).trans (show _ = some (Value.slice none 0 0) from rfl)
  have y83 := (cell_row (j := 3) hy8).trans (show _ = some (Value.slice none 0 0) from rfl)
  have g0 := frozen_row (j := 0) hy8
  have g1 := frozen_row (j := 1) hy8
  have g2 := frozen_row (j := 2) hy8
  have g3 := frozen_row (j := 3) hy8
  have hk1 := k1.lt
  have K1 := Lib.hid k1
  have K2 := Lib.hid k2
  have K3 := Lib.hid k3
  clear k1 k2 k3
  go_wp2_with fail
  have s0 := heap_setCell_same _ (w.heap.size + 1) 0 _ 104 (.int .i64 0) hy8
  have s1 := heap_setCell_same _ (w.heap.size + 1) 1 _ 104 (.int .i64 (subs.length : Int)) s0
  have s2 := heap_setCell_same _ (w.heap.size + 1) 2 _ 104 (.slice ua out.length uc) s1
  have s3 := heap_setCell_same _ (w.heap.size + 1) 3 _ 104 (.slice none 0 0) s2
  refine bodyPost_ret (results_cell_row rfl _ _ (w.heap.size + 1) 104 _ (0, 0) _ rfl s3 Tryz.underlying104 rfl (by kernel_rfl)) rfl ?_
  have o5 : Only (fun k => k = w.heap.size + 1 ∨ k = w.heap.size + 1 + 1 ∨ k = b) w5 w7 := (hou6.mono fun k hk => .inr (.inl hk)).trans ho7 fun k hk => .inl (.inr (.inr hk))
  have o8 := ((((o5.set (i := 1) (.inl (.inr (.inl rfl))) (.int .i64 (subs.length : Int))).set (i := 0) (.inl (.inl rfl)) (.int .i64 0)).set (i := 1) (.inl (.inl rfl)) (.int .i64 (subs.length : Int))).set (i := 2) (.inl (.inl rfl)) (.slice ua out.length uc)).set (i := 3) (.inl (.inl rfl)) (.slice none 0 0)
  have hz4' := Q.out.2.2.2.1.size
  have hzC := HZC.out
  refine ⟨.slice ua out.length uc, out, l, by simp, ?_, K2.out, Q.out.1, Q.out.2.1, ?_⟩
  · refine (K1.out.only o8 fun k hk => ?_).mono (by omega)
    have := (hk1 k hk).1
    rintro (e | e | e) <;> omega
  · have o1 : Only (fun k => k = b) w wC := Only.of HBC.out
    have o2 := o1.trans Q.out.2.2.2.1 fun k hk => .inl hk
    have o3 := o2.trans (Only.of (F := fun k => k = b) K3.out) fun k hk => .inl hk
    exact o3.trans o8 fun k hk => by
      rcases hk with h | h | h
      · exact .inr (by omega)
      · exact .inr (by omega)
      · exact .inl h
end Go.Proofs.YtehlmjecbljafaaGreatDoor
