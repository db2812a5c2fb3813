/- A script's steps: a put. A script's steps: a reverse match. A script: puts and a reverse match. append of a whole slice; the laws' small functions on lists of numbers and steps. Sorted: an insertion sort of numbers. who, last, find. grown, given what Tree comes to. Tree: the plain invariant. append of a whole slice in a chain. -/
import Derived.Test.YtehlmjecbljafaaGreatDoorR11
import Derived.Test.YtehlmjecbljafaaGreatDoorR29
import Derived.Test.YtehlmjecbljafaaGreatDoorR32
import Derived.BigRegion
namespace Go.Proofs.YtehlmjecbljafaaGreatDoor
open Go Go.RowKit
def pathS (s : ByteArray) : Path := (toks s).map bs
/-- What a script has made: its numbers, its subscriptions, its subjects, its list's tree. -/
structure PlaySt (B0 P b : Nat) (vi vs : Value) (ids : List Int) (subs : List Nat) (ss : List ByteArray) (T : STrie) (F : Nat → Prop) (w : World) : Prop where
 play : PlayAt w P b vi vs ids subs
 row : w.heap[b]? = some (.cells (slCells (T.aL []) (.map none) subs.length 0 0 subs.length 0 0 subs.length) 229 (0, 0))
 ok : STrieOK T F w
 lt : ∀ k, F k → B0 ≤ k ∧ k < w.heap.size
 nb : ¬ F b
 bge : B0 ≤ b
 Pge : B0 ≤ P
 bP : ¬ PB P vi vs b
 pbF : ∀ k, PB P vi vs k → ¬ F k
 sub : ∀ a ∈ subs, ¬ F a ∧ a ≠ b ∧ ¬ PB P vi vs a ∧ B0 ≤ a ∧ ∃ c t, w.heap[a]? = some (.cells c t (0, 0))
 N : ∀ q, T.N q ↔ q = [] ∨ ∃ s ∈ ss, q <+: pathS s
 S : ∀ q a, a ∈ T.S q ↔ ∃ (j : Nat) (s : ByteArray), subs[j]? = some a ∧ ss[j]? = some s ∧ q = pathS s
 Snd : ∀ q, (T.S q).Nodup ∧ (T.S q).length ≤ subs.length
 nd : subs.Nodup
 len : ss.length = subs.length
set_option maxRecDepth 100000 in
set_option maxHeartbeats 3200000 in
theorem stepPut_any (B0 P b : Nat) (vi vs : Value) (ids : List Int) (subs : List Nat) (ss : List ByteArray) (T : STrie) (F : Nat → Prop) (s : ByteArray) (x : Int) (w : World) (h : PlaySt B0 P b vi vs ids subs ss T F w) (hx : x ∉ ids) (hs : s.size ≤ 100000) (hn : ids.length ≤ 100) (hP : PatP (pathS s)) :
  Calls Tryz.prog 103 #[.pointer (some ⟨P, 0, none⟩), .agg #[.int .i64 0, .string s, .string ⟨#[]⟩, .int .i64 x, .string ⟨#[]⟩, .slice none 0 0]] w fun e w' => e = .returned (.agg #[.int .i64 0, .int .i64 ((subs.length : Nat) + 1 : Nat), .slice none 0 0, .slice none 0 0]) ∧
   ∃ a vi' vs' T' F', PlaySt B0 P b vi' vs' (ids ++ [x]) (subs ++ [a]) (ss ++ [s]) T' F' w' ∧ Only (fun k => F k ∨ k = b ∨ PB P vi vs k) w w' ∧ (∀ k, F' k → F k ∨ w.heap.size ≤ k) ∧ (∀ k, PB P vi' vs' k → PB P vi vs k ∨ w.heap.size ≤ k) ∧ w.heap.size ≤ a := by
 have H := Lib.hid h; clear h
 have HX := Lib.hid hx; clear hx
 have HPP := Lib.hid hP; clear hP
 have hX0 := heap_alloc_new w (.cells #[.int .i64 0, .string s, .string ⟨#[]⟩, .int .i64 x, .string ⟨#[]⟩, .slice none 0 0] 55)
 have hb1 := (Below.refl w.heap.size w).alloc (Nat.le_refl _) (.cells #[.int .i64 0, .string s, .string ⟨#[]⟩, .int .i64 x, .string ⟨#[]⟩, .slice none 0 0] 55)
 have hz1 : (w.alloc (.cells #[.int .i64 0, .string s, .string ⟨#[]⟩, .int .i64 x, .string ⟨#[]⟩, .slice none 0 0] 55)).heap.size = w.heap.size + 1 := by simp
 go_enter Tryz.func103, Tryz.ntmps103
 go_wp2_with fail
 generalize w.alloc (.cells #[.int .i64 0, .string s, .string ⟨#[]⟩, .int .i64 x, .string ⟨#[]⟩, .slice none 0 0] 55) = wA at *
 have hA1 := heap_alloc_new wA (.cells #[.int .i64 0, .int .i64 0, .slice none 0 0, .slice none 0 0] 104)
 have hb2 := (Below.refl wA.heap.size wA).alloc (Nat.le_refl _) (.cells #[.int .i64 0, .int .i64 0, .slice none 0 0, .slice none 0 0] 104)
 have hz2 : (wA.alloc (.cells #[.int .i64 0, .int .i64 0, .slice none 0 0, .slice none 0 0] 104)).heap.size = wA.heap.size + 1 := by simp
 generalize wA.alloc (.cells #[.int .i64 0, .int .i64 0, .slice none 0 0, .slice none 0 0] 104) = wB at *
 have hB1 := heap_alloc_new wB (.cells #[.int .i64 0, .int .i64 0, .slice none 0 0, .slice none 0 0] 104)
 have hb3 := (Below.refl wB.heap.size wB).alloc (Nat.le_refl _) (.cells #[.int .i64 0, .int .i64 0, .slice none 0 0, .slice none 0 0] 104)
 have hz3 : (wB.alloc (.cells #[.int .i64 0, .int .i64 0, .slice none 0 0, .slice none 0 0] 104)).heap.size = wB.heap.size + 1 := by simp
 generalize wB.alloc (.cells #[.int .i64 0, .int .i64 0, .slice none 0 0, .slice none 0 0] 104) = wC at *
 have rX : wC.heap[w.heap.size]? = some (.cells #[.int .i64 0, .string s, .string ⟨#[]⟩, .int .i64 x, .string ⟨#[]⟩, .slice none 0 0] 55 (0, 0)) := (hb3.block _ (by omega)).trans ((hb2.block _ (by omega)).trans hX0)
 have rY : wC.heap[w.heap.size + 1]? = some (.cells #[.int .i64 0, .int .i64 0, .slice none 0 0, .slice none 0 0] 104 (0, 0)) := by
  rw [hz1] at hA1; exact (hb3.block _ (by omega)).trans hA1
 have rZ : wC.heap[w.heap.size + 1 + 1]? = some (.cells #[.int .i64 0, .int .i64 0, .slice none 0 0, .slice none 0 0] 104 (0, 0)) := by
  rw [hz2, hz1] at hB1; exact hB1
 have hbC : Below w.heap.size w wC := (hb1.trans (hb2.mono (by omega))).trans (hb3.mono (by omega))
 have hzC : wC.heap.size = w.heap.size + 3 := by omega
 have HBC := Lib.hid hbC
 have HZC := Lib.hid hzC
 clear hX0 hA1 hB1 hb1 hb2 hb3 hz1 hz2 hz3 hbC hzC
 have hpl := H.out.play.keep HBC.out
 have c0 := (cell_row (j := 0) hpl.row).trans (show _ = some (Value.pointer (some ⟨b, 0, none⟩)) from rfl)
 have x1 := (cell_row (j := 1) rX).trans (show _ = some (Value.string s) from rfl)
 have x2 := (cell_row (j := 2) rX).trans (show _ = some (Value.string ⟨#[]⟩) from rfl)
 have x3 := (cell_row (j := 3) rX).trans (show _ = some (Value.int .i64 x) from rfl)
 have RX := Lib.hid rX
 have RY := Lib.hid rY
 have RZ := Lib.hid rZ
 have HPL := Lib.hid hpl
 clear hpl rX rY rZ
 refine wp_region_L [0, 1, 2, 3, 4, 5, 6, 10] (fun W' => W'.cell? ⟨P, 0, none⟩ = some (.pointer (some ⟨b, 0, none⟩)) ∧ W'.cell? ⟨w.heap.size, 1, none⟩ = some (.string s) ∧ W'.cell? ⟨w.heap.size, 2, none⟩ = some (.string ⟨#[]⟩) ∧ W'.cell? ⟨w.heap.size, 3, none⟩ = some (.int .i64 x)) (by kernel_rfl) (by kernel_rfl) ⟨c0, x1, x2, x3⟩ (fun ne => ?_)
 have S0 := fun z : SubC (fun W' => W'.cell? ⟨P, 0, none⟩ = some (.pointer (some ⟨b, 0, none⟩)) ∧ W'.cell? ⟨w.heap.size, 1, none⟩ = some (.string s) ∧ W'.cell? ⟨w.heap.size, 2, none⟩ = some (.string ⟨#[]⟩) ∧ W'.cell? ⟨w.heap.size, 3, none⟩ = some (.int .i64 x)) => z.ok.1
 have S1 := fun z : SubC (fun W' => W'.cell? ⟨P, 0, none⟩ = some (.pointer (some ⟨b, 0, none⟩)) ∧ W'.cell? ⟨w.heap.size, 1, none⟩ = some (.string s) ∧ W'.cell? ⟨w.heap.size, 2, none⟩ = some (.string ⟨#[]⟩) ∧ W'.cell? ⟨w.heap.size, 3, none⟩ = some (.int .i64 x)) => z.ok.2.1
 have S2 := fun z : SubC (fun W' => W'.cell? ⟨P, 0, none⟩ = some (.pointer (some ⟨b, 0, none⟩)) ∧ W'.cell? ⟨w.heap.size, 1, none⟩ = some (.string s) ∧ W'.cell? ⟨w.heap.size, 2, none⟩ = some (.string ⟨#[]⟩) ∧ W'.cell? ⟨w.heap.size, 3, none⟩ = some (.int .i64 x)) => z.ok.2.2.1
 have S3 := fun z : SubC (fun W' => W'.cell? ⟨P, 0, none⟩ = some (.pointer (some ⟨b, 0, none⟩)) ∧ W'.cell? ⟨w.heap.size, 1, none⟩ = some (.string s) ∧ W'.cell? ⟨w.heap.size, 2, none⟩ = some (.string ⟨#[]⟩) ∧ W'.cell? ⟨w.heap.size, 3, none⟩ = some (.int .i64 x)) => z.ok.2.2.2
 repeat (refine wpCL_q rfl rfl ?_; go_big_quiet_step (fail); refine wpQuiet_nil ?_)
 refine wpCL_n rfl rfl rfl rfl ?_
 go_simp
 repeat (refine wpCL_q rfl rfl ?_; go_big_quiet_step (fail); refine wpQuiet_nil ?_)
 refine wpCL_ch rfl rfl (fun K hK => ?_)
 go_simp
 simp only [runsTo_enter]
 refine (playPut_any P b vi vs ids subs s x wC.drew (HPL.out.keep (Below.refl _ wC).drew) HX.out hs (by omega)).mono ?_
 rintro e w4 ⟨a, vi', vs', rfl, q1, q2, q3, q4, q5⟩
 have q3' : Only (PB P vi vs) wC w4 := ⟨q3.os, q3.tape, q3.output, q3.size, q3.block⟩
 have hPB : ∀ k, PB P vi vs k → k < w.heap.size := fun k hk => (H.out.play.lt hk).2
 have r4 : ∀ (k : Nat) (o : Obj), w.heap[k]? = some o → ¬ PB P vi vs k → w4.heap[k]? = some o := fun k o h hk => (q3'.block k (by have := (Array.getElem?_eq_some_iff.1 h).1; have := HZC.out; omega) hk).trans ((HBC.out.block k (Array.getElem?_eq_some_iff.1 h).1).trans h)
 have n4 : ∀ k, w.heap.size ≤ k → k < wC.heap.size → w4.heap[k]? = wC.heap[k]? := fun k h1 h2 => q3'.block k h2 fun e => by have := hPB k e; omega
 have hb4 := r4 b _ H.out.row H.out.bP
 have hT4 : STrieOK T F w4 := H.out.ok.keep fun k hk => (q3'.block k (by have := (H.out.lt k hk).2; have := HZC.out; omega) (fun e => H.out.pbF k e hk)).trans (HBC.out.block k (H.out.lt k hk).2)
 have hz4 := q3'.size
 have hP4 := (cell_row (j := 0) q2.row).trans (show _ = some (Value.pointer (some ⟨b, 0, none⟩)) from rfl)
 have hx4 := (n4 w.heap.size (Nat.le_refl _) (by have := HZC.out; omega)).trans RX.out
 have hy4 := (n4 (w.heap.size + 1) (by omega) (by have := HZC.out; omega)).trans RY.out
 have hz4r := (n4 (w.heap.size + 1 + 1) (by omega) (by have := HZC.out; omega)).trans RZ.out
 have hins := sInsert_any b a wC.heap.size s none subs.length 0 0 subs.length 0 0 subs.length T F w4 hb4 hT4 (fun q hq => by
   obtain ⟨y, hy⟩ := List.exists_mem_of_ne_nil _ hq
   obtain ⟨j, s', h1, h2, h3⟩ := (H.out.S q y).1 hy
   exact (H.out.N q).2 (.inr ⟨s', List.mem_of_getElem? h2, by rw [h3]; exact List.prefix_refl _⟩)) (fun k hk => by have := (H.out.lt k hk).2; have := HZC.out; omega) H.out.nb HPP.out hs q1 (fun k hk => by
   have := HZC.out
   rcases hk with hk | rfl
   ·have := (H.out.lt k hk).2; omega
   ·have := (Array.getElem?_eq_some_iff.1 H.out.row).1; omega) (fun h => by
   obtain ⟨j, s', h1, h2, h3⟩ := (H.out.S _ a).1 h
   obtain ⟨-, -, -, -, c, t, hr⟩ := H.out.sub a (List.mem_of_getElem? h1)
   have := (Array.getElem?_eq_some_iff.1 hr).1
   have := q1.1
   have hdz : wC.drew.heap.size = wC.heap.size := rfl
   have := HZC.out
   omega) (fun y hy => by
   obtain ⟨j, s', h1, h2, h3⟩ := (H.out.S _ y).1 hy
   obtain ⟨e1, -, e3, -, c, t, hr⟩ := H.out.sub y (List.mem_of_getElem? h1)
   exact ⟨e1, c, t, r4 y _ hr e3⟩) (by have := (H.out.Snd ((toks s).map bs)).2; have := H.out.play.len; omega) (fun k h => by cases h) (fun W hW _ => cache0_any b _ a s _ _ _ _ _ _ _ W hW)
   ⟨by omega, by have := H.out.play.len; omega⟩ ⟨by omega, by have := H.out.play.len; omega⟩ ⟨by omega, by have := H.out.play.len; omega⟩
 refine ⟨_, rfl, hK _ _ ⟨⟨w4, hP4, (cell_row (j := 1) hx4).trans rfl, (cell_row (j := 2) hx4).trans rfl, (cell_row (j := 3) hx4).trans rfl⟩, rfl⟩ ?_⟩
 have Q := Lib.hid (And.intro q1 (And.intro q2 (And.intro q3' (And.intro q4 q5))))
 have R4 := Lib.hid (And.intro r4 (And.intro n4 (And.intro hb4 (And.intro hx4 (And.intro hy4 hz4r)))))
 clear hK K q1 q2 q3 q3' q4 q5 r4 n4 hb4 hT4 hP4 hx4 hy4 hz4r
 go_simp
 refine wpCL_ch rfl rfl (fun K hK => ?_)
 go_simp
 simp only [runsTo_enter]
 refine hins.mono ?_
 rintro e w5 ⟨rfl, T', F', t1, t2, t3, t4, t5, t6, t7, t8⟩
 have r5 : ∀ (k : Nat) (o : Obj), w4.heap[k]? = some o → ¬ F k → k ≠ b → w5.heap[k]? = some o := fun k o h h1 h2 => (t6.block k (Array.getElem?_eq_some_iff.1 h).1 (by rintro (e | e); exact h1 e; exact h2 e)).trans h
 have hFw : ∀ k, w.heap.size ≤ k → ¬ F k ∧ k ≠ b := fun k hk => ⟨fun e => by have := (H.out.lt k e).2; omega, fun e => by have := (Array.getElem?_eq_some_iff.1 H.out.row).1; omega⟩
 have hp5 := Q.out.2.1.keepIf (w' := w5) fun k hk => t6.block k (Q.out.2.1.lt hk).2 (by
  have hbw := (Array.getElem?_eq_some_iff.1 H.out.row).1
  rcases Q.out.2.2.2.1 k hk with h | h
  ·rintro (e | rfl)
   ·exact H.out.pbF k h e
   ·exact H.out.bP h
  ·have hdz : wC.drew.heap.size = wC.heap.size := rfl
   have := HZC.out
   have := hFw k (by omega)
   rintro (e | e)
   ·exact this.1 e
   ·exact this.2 e)
 have hP5 := (cell_row (j := 0) hp5.row).trans (show _ = some (Value.pointer (some ⟨b, 0, none⟩)) from rfl)
 have hx5 := r5 _ _ R4.out.2.2.2.1 (hFw _ (Nat.le_refl _)).1 (hFw _ (Nat.le_refl _)).2
 have hy5 := r5 _ _ R4.out.2.2.2.2.1 (hFw _ (by omega)).1 (hFw _ (by omega)).2
 have hz5 := r5 _ _ R4.out.2.2.2.2.2 (hFw _ (by omega)).1 (hFw _ (by omega)).2
 refine ⟨_, rfl, hK _ _ ⟨⟨w5, hP5, (cell_row (j := 1) hx5).trans rfl, (cell_row (j := 2) hx5).trans rfl, (cell_row (j := 3) hx5).trans rfl⟩, rfl⟩ ?_⟩
 clear hK K hins
 go_simp
 refine wpCL_ch rfl rfl (fun K hK => ?_)
 go_simp
 simp only [runsTo_enter]
 refine (one_nil w5).mono ?_
 rintro e w6 ⟨rfl, rfl⟩
 refine ⟨_, rfl, hK _ _ ⟨⟨w5, hP5, (cell_row (j := 1) hx5).trans rfl, (cell_row (j := 2) hx5).trans rfl, (cell_row (j := 3) hx5).trans rfl⟩, rfl⟩ ?_⟩
 clear hK K
 go_simp
 repeat (refine wpCL_q rfl rfl ?_; go_big_quiet_step (fail); refine wpQuiet_nil ?_)
 refine wpCL_last ?_
 have z50 := (cell_row (j := 0) hz5).trans (show _ = some (Value.int .i64 0) from rfl)
 have zf0 := frozen_row (j := 0) hz5
 clear S0 S1 S2 S3 ne
 have hnX : ∀ k, k < w.heap.size → k ≠ w.heap.size + 1 + 1 := fun k hk => by omega
 have hPw := hPB P (.inl rfl)
 have hbw := (Array.getElem?_eq_some_iff.1 H.out.row).1
 have hP6 : (w5.setCell ⟨w.heap.size + 1 + 1, 0, none⟩ (.int .i64 0)).cell? ⟨P, 0, none⟩ = some (.pointer (some ⟨b, 0, none⟩)) := (World.cell?_of_block (heap_setCell_other _ _ _ _ (hnX P hPw))).trans hP5
 go_wp2_with fail
 have hz6 := heap_setCell_same w5 (w.heap.size + 1 + 1) 0 _ 104 (.int .i64 0) hz5
 have ho6 : ∀ k, k ≠ w.heap.size + 1 + 1 → (w5.setCell ⟨w.heap.size + 1 + 1, 0, none⟩ (.int .i64 0)).heap[k]? = w5.heap[k]? := fun k hk => heap_setCell_other _ _ _ _ hk
 have hsz6 : (w5.setCell ⟨w.heap.size + 1 + 1, 0, none⟩ (.int .i64 0)).heap.size = w5.heap.size := size_setCell ..
 have hou6 : Only (· = w.heap.size + 1 + 1) w5 (w5.setCell ⟨w.heap.size + 1 + 1, 0, none⟩ (.int .i64 0))  := (Only.refl (· = w.heap.size + 1 + 1) w5).set (.inl rfl) _
 generalize w5.setCell ⟨w.heap.size + 1 + 1, 0, none⟩ (.int .i64 0) = w6 at *
 have hb6 := (ho6 b (hnX b hbw)).trans t5
 refine (scount_any b _ _ _ _ _ _ _ _ _ w6 hb6).mono ?_
 rintro e w7 ⟨rfl, hb7, ho7⟩
 have hl6 : ∀ (k : Nat) (o : Obj), w6.heap[k]? = some o → k ≠ b → w7.heap[k]? = some o := fun k o h hk => (ho7.block k (Array.getElem?_eq_some_iff.1 h).1 hk).trans h
 have hz7 := hl6 _ _ hz6 (hFw _ (by omega)).2
 have hy7 := hl6 _ _ ((ho6 _ (by omega)).trans hy5) (hFw _ (by omega)).2
 have z71 := (cell_row (j := 1) hz7).trans (show _ = some (Value.int .i64 0) from rfl)
 have zf1 := frozen_row (j := 1) hz7
 have hz8 := heap_setCell_same w7 (w.heap.size + 1 + 1) 1 _ 104 (.int .i64 ((subs.length : Int) + 1)) hz7
 have hy8 := (show (w7.setCell ⟨w.heap.size + 1 + 1, 1, none⟩ (.int .i64 ((subs.length : Int) + 1))).heap[w.heap.size + 1]? = w7.heap[w.heap.size + 1]? from heap_setCell_other _ _ _ _ (by show w.heap.size + 1 ≠ w.heap.size + 1 + 1; omega)).trans hy7
 have hsl : subs.length ≤ 100 := by have := H.out.play.len; omega
 have z80 := (cell_row (j := 0) hz8).trans (show _ = some (Value.int .i64 0) from rfl)
 have z81 := (cell_row (j := 1) hz8).trans (show _ = some (Value.int .i64 ((subs.length : Int) + 1)) from rfl)
 have z82 := (cell_row (j := 2) hz8).trans (show _ = some (Value.slice none 0 0) from rfl)
 have z83 := (cell_row (j := 3) hz8).trans (show _ = some (Value.slice none 0 0) from rfl)
 have y80 := (cell_row (j := 0) hy8).trans (show _ = some (Value.int .i64 0) from rfl)
 have y81 := (cell_row (j := 1) hy8).trans (show _ = some (Value.int .i64 0) from rfl)
 have y82 := (cell_row (j := 2) hy8).trans (show _ = some (Value.slice none 0 0) from rfl)
 have y83 := (cell_row (j := 3) hy8).trans (show _ = some (Value.slice none 0 0) from rfl)
 have g0 := frozen_row (j := 0) hy8
 have g1 := frozen_row (j := 1) hy8
 have g2 := frozen_row (j := 2) hy8
 have g3 := frozen_row (j := 3) hy8
 go_wp2_with fail
 have s0 := heap_setCell_same _ (w.heap.size + 1) 0 _ 104 (.int .i64 0) hy8
 have s1 := heap_setCell_same _ (w.heap.size + 1) 1 _ 104 (.int .i64 ((subs.length : Int) + 1)) s0
 have s2 := heap_setCell_same _ (w.heap.size + 1) 2 _ 104 (.slice none 0 0) s1
 have s3 := heap_setCell_same _ (w.heap.size + 1) 3 _ 104 (.slice none 0 0) s2
 refine bodyPost_ret (results_cell_row rfl _ _ (w.heap.size + 1) 104 _ (0, 0) _ rfl s3 Tryz.underlying104 rfl (by kernel_rfl)) rfl ?_
 have ho8 : Only (fun k => k = w.heap.size + 1 ∨ k = w.heap.size + 1 + 1 ∨ k = b) w5 (((((w7.setCell ⟨w.heap.size + 1 + 1, 1, none⟩ (.int .i64 ((subs.length : Int) + 1))).setCell ⟨w.heap.size + 1, 0, none⟩ (.int .i64 0)).setCell ⟨w.heap.size + 1, 1, none⟩ (.int .i64 ((subs.length : Int) + 1))).setCell ⟨w.heap.size + 1, 2, none⟩ (.slice none 0 0)).setCell ⟨w.heap.size + 1, 3, none⟩ (.slice none 0 0)) := by
  have o1 := (hou6.mono (F' := fun k => k = w.heap.size + 1 ∨ k = w.heap.size + 1 + 1 ∨ k = b) fun k hk => .inr (.inl hk)).trans ho7 fun k hk => .inl (.inr (.inr hk))
  exact ((((o1.set (.inl (.inr (.inl rfl))) _).set (.inl (.inl rfl)) _).set (.inl (.inl rfl)) _).set (.inl (.inl rfl)) _).set (.inl (.inl rfl)) _
 have hrowF : ∀ (k : Nat) (o : Obj), w7.heap[k]? = some o → k ≠ w.heap.size + 1 → k ≠ w.heap.size + 1 + 1 → (((((w7.setCell ⟨w.heap.size + 1 + 1, 1, none⟩ (.int .i64 ((subs.length : Int) + 1))).setCell ⟨w.heap.size + 1, 0, none⟩ (.int .i64 0)).setCell ⟨w.heap.size + 1, 1, none⟩ (.int .i64 ((subs.length : Int) + 1))).setCell ⟨w.heap.size + 1, 2, none⟩ (.slice none 0 0)).setCell ⟨w.heap.size + 1, 3, none⟩ (.slice none 0 0)).heap[k]? = some o := fun k o h n1 n2 => by
  rw [heap_setCell_other _ _ _ _ (show k ≠ w.heap.size + 1 from n1), heap_setCell_other _ _ _ _ (show k ≠ w.heap.size + 1 from n1), heap_setCell_other _ _ _ _ (show k ≠ w.heap.size + 1 from n1), heap_setCell_other _ _ _ _ (show k ≠ w.heap.size + 1 from n1), heap_setCell_other _ _ _ _ (show k ≠ w.heap.size + 1 + 1 from n2)]
  exact h
 have hbF := hrowF b _ hb7 (by omega) (by omega)
 clear s0 s1 s2 s3 g0 g1 g2 g3 y80 y81 y82 y83 z80 z81 z82 z83 hz8 hy8 z71 zf1 hz7 hy7 hrowF hb7 hl6
 generalize (((((w7.setCell ⟨w.heap.size + 1 + 1, 1, none⟩ (.int .i64 ((subs.length : Int) + 1))).setCell ⟨w.heap.size + 1, 0, none⟩ (.int .i64 0)).setCell ⟨w.heap.size + 1, 1, none⟩ (.int .i64 ((subs.length : Int) + 1))).setCell ⟨w.heap.size + 1, 2, none⟩ (.slice none 0 0)).setCell ⟨w.heap.size + 1, 3, none⟩ (.slice none 0 0)) = wF at *
 obtain ⟨q1, q2, q3, q4, q5⟩ := Q.out
 obtain ⟨r4, -⟩ := R4.out
 have hdz : wC.drew.heap.size = wC.heap.size := rfl
 have hzC := HZC.out
 have hz5s := t6.size
 have hzFs := ho8.size
 have keep5 : ∀ (k : Nat) (o : Obj), w5.heap[k]? = some o → k ≠ w.heap.size + 1 → k ≠ w.heap.size + 1 + 1 → k ≠ b → wF.heap[k]? = some o := fun k o h n1 n2 n3 => (ho8.block k (Array.getElem?_eq_some_iff.1 h).1 (by rintro (e | e | e); exact n1 e; exact n2 e; exact n3 e)).trans h
 have hsubw : ∀ y ∈ subs, y < w.heap.size := fun y hy => by
  obtain ⟨-, -, -, -, c, t, hr⟩ := H.out.sub y hy
  exact (Array.getElem?_eq_some_iff.1 hr).1
 have ha0 := q1.1
 have ha1 := q1.lt
 have hnF' : ∀ k, k < w4.heap.size → ¬ F k → ¬ F' k := fun k h1 h2 h3 => by
  rcases t7 k h3 with h | h
  ·exact h2 h
  ·omega
 have haF := (hFw a (by omega)).1
 have hab := (hFw a (by omega)).2
 have hnew : ∀ q, a ∉ T.S q := fun q h => by
  obtain ⟨j, s', h1, -, -⟩ := (H.out.S q a).1 h
  have := hsubw a (List.mem_of_getElem? h1)
  omega
 refine ⟨by simp, a, vi', vs', T', F', ⟨?_, ?_, ?_, ?_, ?_, H.out.bge, H.out.Pge, ?_, ?_, ?_, ?_, ?_, ?_, ?_, ?_⟩, ?_⟩
 ·refine hp5.keepIf fun k hk => ?_
  have hk5 := (hp5.lt hk).2
  refine ho8.block k hk5 ?_
  rcases q4 k hk with h | h
  ·have := hPB k h
   rintro (e | e | rfl)
   ·omega
   ·omega
   ·exact H.out.bP h
  ·rintro (e | e | e) <;> omega
 ·rw [t4, List.length_append]
  exact hbF
 ·refine t1.keep fun k hk => ho8.block k (t8 k hk) ?_
  rcases t7 k hk with h | h
  ·have := (H.out.lt k h).2
   rintro (e | e | rfl)
   ·omega
   ·omega
   ·exact H.out.nb h
  ·rintro (e | e | e) <;> omega
 ·intro k hk
  have := t8 k hk
  refine ⟨?_, by omega⟩
  rcases t7 k hk with h | h
  ·exact (H.out.lt k h).1
  ·have := H.out.bge; omega
 ·exact hnF' b (by omega) H.out.nb
 ·intro h
  rcases q4 b h with h | h
  ·exact H.out.bP h
  ·omega
 ·intro k hk
  have hk4 := (q2.lt hk).2
  refine hnF' k hk4 ?_
  rcases q4 k hk with h | h
  ·exact H.out.pbF k h
  ·exact (hFw k (by omega)).1
 ·intro y hy
  rcases List.mem_append.1 hy with hy | hy
  ·obtain ⟨e1, e2, e3, e4, c, t, hr⟩ := H.out.sub y hy
   have hyw := hsubw y hy
   refine ⟨hnF' y (by omega) e1, e2, fun h => ?_, e4, c, t, keep5 y _ (r5 y _ (r4 y _ hr e3) e1 e2) (by omega) (by omega) e2⟩
   rcases q4 y h with h | h
   ·exact e3 h
   ·omega
  ·obtain rfl := List.mem_singleton.1 hy
   obtain ⟨-, g, cap, -, hr, -⟩ := id q1
   exact ⟨hnF' y ha1 haF, hab, q5, by have := H.out.bge; omega, _, _, keep5 y _ (r5 y _ hr haF hab) (by omega) (by omega) hab⟩
 ·intro q
  rw [t2 q, H.out.N q, or_assoc]
  refine or_congr Iff.rfl ⟨?_, ?_⟩
  ·rintro (⟨s', h1, h2⟩ | h)
   ·exact ⟨s', List.mem_append_left _ h1, h2⟩
   ·exact ⟨s, by simp, h⟩
  ·rintro ⟨s', h1, h2⟩
   rcases List.mem_append.1 h1 with h1 | h1
   ·exact .inl ⟨s', h1, h2⟩
   ·obtain rfl := List.mem_singleton.1 h1
    exact .inr h2
 ·intro q y
  have hl := H.out.len
  have hiff : y ∈ T'.S q ↔ y ∈ T.S q ∨ (q = pathS s ∧ y = a) := by
   rw [t3 q]
   by_cases e : q = (toks s).map bs
   ·rw [if_pos e, List.mem_append, List.mem_singleton]
    exact or_congr Iff.rfl ⟨fun h => ⟨e, h⟩, fun h => h.2⟩
   ·rw [if_neg e]
    exact ⟨.inl, fun h => h.elim id fun h => absurd h.1 e⟩
  rw [hiff, H.out.S q y]
  constructor
  ·rintro (⟨j, s', h1, h2, h3⟩ | ⟨h1, rfl⟩)
   ·have hj := (List.getElem?_eq_some_iff.1 h1).1
    exact ⟨j, s', by rw [List.getElem?_append_left hj]; exact h1, by rw [List.getElem?_append_left (by omega)]; exact h2, h3⟩
   ·exact ⟨subs.length, s, by simp, by rw [← hl]; simp, h1⟩
  ·rintro ⟨j, s', h1, h2, h3⟩
   by_cases hj : j < subs.length
   ·rw [List.getElem?_append_left hj] at h1
    rw [List.getElem?_append_left (by omega)] at h2
    exact .inl ⟨j, s', h1, h2, h3⟩
   ·have hj2 := (List.getElem?_eq_some_iff.1 h1).1
    rw [List.length_append, List.length_singleton] at hj2
    have hj3 : j = subs.length := by omega
    subst hj3
    rw [List.getElem?_append_right (Nat.le_refl _), Nat.sub_self] at h1
    rw [List.getElem?_append_right (by omega), hl, Nat.sub_self] at h2
    injection h1 with h1
    injection h2 with h2
    subst h1 h2
    exact .inr ⟨h3, rfl⟩
 ·intro q
  rw [t3 q, List.length_append, List.length_singleton]
  obtain ⟨k1, k2⟩ := H.out.Snd q
  by_cases e : q = (toks s).map bs
  ·rw [if_pos e]
   refine ⟨List.nodup_append.2 ⟨k1, by simp, fun y hy z hz e2 => ?_⟩, by rw [List.length_append, List.length_singleton]; omega⟩
   rw [List.mem_singleton.1 hz] at e2
   exact hnew q (e2 ▸ hy)
  ·rw [if_neg e]; exact ⟨k1, by omega⟩
 ·refine List.nodup_append.2 ⟨H.out.nd, by simp, fun y hy z hz e2 => ?_⟩
  rw [List.mem_singleton.1 hz] at e2
  have := hsubw y hy
  omega
 ·rw [List.length_append, List.length_append, H.out.len]; rfl
 ·have o1 : Only (fun k => F k ∨ k = b ∨ PB P vi vs k) w wC := Only.of HBC.out
  have o2 := o1.trans (show Only (PB P vi vs) wC w4 from ⟨q3.os, q3.tape, q3.output, q3.size, q3.block⟩) fun k hk => .inl (.inr (.inr hk))
  have o3 := o2.trans t6 fun k hk => .inl (by
   rcases hk with h | h
   ·exact .inl h
   ·exact .inr (.inl h))
  refine ⟨o3.trans ho8 fun k hk => ?_, fun k hk => ?_, fun k hk => ?_, by omega⟩
  ·rcases hk with h | h | h
   ·exact .inr (by omega)
   ·exact .inr (by omega)
   ·exact .inl (.inr (.inl h))
  ·rcases t7 k hk with h | h
   ·exact .inl h
   ·exact .inr (by omega)
  ·rcases q4 k hk with h | h
   ·exact .inl h
   ·exact .inr (by omega)
end Go.Proofs.YtehlmjecbljafaaGreatDoor
namespace Go.Proofs.YtehlmjecbljafaaGreatDoor
open Go Go.RowKit
end Go.Proofs.YtehlmjecbljafaaGreatDoor
namespace Go.Proofs.YtehlmjecbljafaaGreatDoor
open Go Go.RowKit
open Classical in
/-- An empty server's tree. -/
noncomputable def strie0 (l m : Nat) : STrie := { N := fun q => q = [], aL := fun _ => l, aM := fun _ => m, aN := fun _ => 0, aS := fun _ => m + 1, S := fun _ => [] }
theorem strie0_ok {l m : Nat} {F : Nat → Prop} {w : World} (hL : w.heap[l]? = some (.cells #[.map (some m), .pointer none, .pointer none] 279 (0, 0))) (hM : MapE w m []) (fl : F l) (fm : F m) : STrieOK (strie0 l m) F w := by
 have hp : ∀ (p : Path) (t : List UInt8), (strie0 l m).ptr (p ++ [t]) = .pointer none := fun p t => STrie.ptr_no (fun h => snoc_ne p t h)
 refine ⟨rfl, fun p t h => absurd h (snoc_ne p t), fun p _ => by rw [hp, hp]; exact hL, fun p _ => ⟨[], hM, fun x v => ⟨(fun h => by cases h), fun ⟨t, _, _, _, h, _⟩ => absurd h (snoc_ne p t)⟩⟩, fun p t h => absurd h (snoc_ne p t), fun p t h => absurd h (snoc_ne p t), fun p q h1 h2 _ => ?_, fun p q h1 h2 _ => ?_, fun p q h1 _ h3 => absurd h1 h3, fun p q _ h2 h3 => absurd h2 h3, fun p _ => fl, fun p _ => fm, fun p t h => absurd h (snoc_ne p t), fun p t h => absurd h (snoc_ne p t)⟩
 ·have h1 : p = [] := h1
  have h2 : q = [] := h2
  rw [h1, h2]
 ·have h1 : p = [] := h1
  have h2 : q = [] := h2
  rw [h1, h2]
theorem PlaySt.keepIf {B0 P b : Nat} {vi vs : Value} {ids : List Int} {subs : List Nat} {ss : List ByteArray} {T : STrie} {F : Nat → Prop} {w w' : World} (h : PlaySt B0 P b vi vs ids subs ss T F w) (hk : ∀ q, (F q ∨ q = b ∨ PB P vi vs q ∨ q ∈ subs) → w'.heap[q]? = w.heap[q]?) (hz : w.heap.size ≤ w'.heap.size) : PlaySt B0 P b vi vs ids subs ss T F w' :=
 { h with
  play := h.play.keepIf fun k e => hk k (.inr (.inr (.inl e)))
  row := (hk b (.inr (.inl rfl))).trans h.row
  ok := h.ok.keep fun k e => hk k (.inl e)
  lt := fun k e => by have := h.lt k e; omega
  sub := fun a ha => by
   obtain ⟨e1, e2, e3, e4, c, t, hr⟩ := h.sub a ha
   exact ⟨e1, e2, e3, e4, c, t, (hk a (.inr (.inr (.inr ha)))).trans hr⟩ }
theorem nd_injI {l : List Int} (h : l.Nodup) {i j : Nat} {a : Int} (h1 : l[i]? = some a) (h2 : l[j]? = some a) : i = j := by
 obtain ⟨hi, e1⟩ := List.getElem?_eq_some_iff.1 h1
 obtain ⟨hj, e2⟩ := List.getElem?_eq_some_iff.1 h2
 have hp := List.pairwise_iff_getElem.1 h
 rcases Nat.lt_trichotomy i j with hh | hh | hh
 ·exact absurd (e1.trans e2.symm) (hp i j hi hj hh)
 ·exact hh
 ·exact absurd (e2.trans e1.symm) (hp j i hj hi hh)
/-- A step of a script. -/
structure StepD where
 op : Int
 subj : ByteArray
 id : Int
 arg : ByteArray
def StepD.cells (d : StepD) : List Value := [.int .i64 d.op, .string d.subj, .string ⟨#[]⟩, .int .i64 d.id, .string d.arg, .slice none 0 0]
def StepsAt (w : World) (v : Value) (ds : List StepD) : Prop := Sl w 6 v ds.length (ds.flatMap StepD.cells)
theorem StepsAt.at' {w wr : World} {a : Option Addr} {n cap : Nat} {ds : List StepD} (h : StepsAt w (.slice a n cap) ds) (hb : Below w.heap.size w wr) {k : Nat} (hk : k < ds.length) {d : StepD} (hd : ds[k]? = some d) :
  ∃ b o, a = some ⟨b, o, none⟩ ∧ wr.cell? ⟨b, o + k * 6, none⟩ = some (.int .i64 d.op) ∧ wr.cell? ⟨b, o + k * 6 + 1, none⟩ = some (.string d.subj) ∧
   wr.cell? ⟨b, o + k * 6 + 2, none⟩ = some (.string ⟨#[]⟩) ∧ wr.cell? ⟨b, o + k * 6 + 3, none⟩ = some (.int .i64 d.id) ∧ wr.cell? ⟨b, o + k * 6 + 4, none⟩ = some (.string d.arg) ∧ wr.cell? ⟨b, o + k * 6 + 5, none⟩ = some (.slice none 0 0) := by
 have hl := flat_len (f := StepD.cells) (sz := 6) (fun _ => rfl) ds
 obtain ⟨-, a', cap', e, -⟩ := id h
 cases e
 obtain ⟨b, o, rfl, hc⟩ := Sl.cell h hb (by rw [hl]; omega)
 have hh : ∀ i, i < 6 → ∀ x, (StepD.cells d)[i]? = some x → wr.cell? ⟨b, o + k * 6 + i, none⟩ = some x := by
  intro i hi x hx
  have := hc (k * 6 + i) x (by rw [flat_at (f := StepD.cells) (sz := 6) (fun _ => rfl) ds k i hi _ hd]; exact hx)
  rw [Nat.add_assoc]; exact this
 exact ⟨b, o, rfl, hh 0 (by omega) _ rfl, hh 1 (by omega) _ rfl, hh 2 (by omega) _ rfl, hh 3 (by omega) _ rfl, hh 4 (by omega) _ rfl, hh 5 (by omega) _ rfl⟩
theorem et61 : ET Tryz.prog 61 104 4 64 (.agg #[.int .i64 0, .int .i64 0, .slice none 0 0, .slice none 0 0]) := ⟨Tryz.underlying61, by kernel_rfl, rfl, by decide, by decide⟩
end Go.Proofs.YtehlmjecbljafaaGreatDoor
namespace Go.Proofs.YtehlmjecbljafaaGreatDoor
open Go Go.RowKit
theorem run_app_none {P : Program} (w : World) {T E sz bytes : Nat} {z : Value} (et : ET P T E sz bytes z) (ty : TypeId) (base c : Nat) (v : Value) (n : Nat) (xs : List Value) (hown : Own w base sz v n xs) :
  (Builtin.append_ #[T, T] ty #[v, .slice none 0 c]).run P w = .ok v w := by
 obtain ⟨i, hi, hz, rfl, rfl⟩ := info_parts et.inf
 rcases hown.2 with ⟨rfl, rfl⟩ | ⟨g, cap, cur, t, rfl, hbg, hg, hnc, hcm, hcs, htake⟩
 ·simp [Builtin.append_, run_underlying et.un, sizeOf, typeInfo, hi, Builtin.lenOf, Builtin.firstCells]
 ·simp [Builtin.append_, run_underlying et.un, sizeOf, typeInfo, hi, Builtin.lenOf, Builtin.firstCells, hnc, storeCells]
/-- append(v, u...). -/
theorem wpList_appS {P : Program} {ops : Array Oper} {rest : List Oper} {o : Oper} {a : Act} {Q : Exit → Act → World → Prop} {w : World} {T E sz bytes : Nat} {z : Value} (et : ET P T E sz bytes z) (hgd : o.guard = none) (s x : Operand)
  (ho : o.op = .call { callee := .builtin .append, args := #[s, x], argTypes := #[T, T] })
  (base : Nat) {v : Value} {n : Nat} {xs : List Value} (hs : a.eval s = v) (hown : Own w base sz v n xs)
  {u : Value} {m : Nat} {news : List Value} (hx : a.eval x = u) (hsl : Sl w sz u m news) (h1 : ∀ u ∈ news, u.oneCell' = true)
  (hsm : n + m ≤ 549755813888) (hbase : base ≤ w.heap.size)
  (h : ∀ v' w', Own w' base sz v' (n + m) (xs ++ news) → w.grownBy w' v.ownBlock → wpList P ops Q rest (a.put o.dst v') w') : wpList P ops Q (o :: rest) a w := by
 obtain ⟨hl, a', c, rfl, hmc, hcm, hc⟩ := hsl
 cases a' with
 | some ad =>
  refine wpList_app et hgd s x ho base hs hown ad m c news hx hl (fun j u hu => ?_) h1 hsm hbase fun v' w' k1 k2 _ => h v' w' k1 k2
  obtain ⟨b, off, e, hc2⟩ := hc (by have := (List.getElem?_eq_some_iff.1 hu).1; omega)
  cases e
  rw [add0]; exact hc2 j u hu
 | none =>
  have hn0 : news.length = 0 := by
   rcases Nat.eq_zero_or_pos news.length with h | h
   ·exact h
   ·obtain ⟨b, off, e, -⟩ := hc h; cases e
  have hm0 : m = 0 := by
   have := et.pos
   rcases Nat.eq_zero_or_pos m with h | h
   ·exact h
   ·have := Nat.mul_pos h this; omega
  subst hm0
  have hn : news = [] := List.eq_nil_of_length_eq_zero hn0
  subst hn
  refine wpList_plain hgd fun K hK => ?_
  have hr := run_app_none (P := P) w et o.type base c v n xs hown
  unfold Oper.wp execOp
  simp only [ho, resolve, invoke, builtin, Sem.run_bind, Sem.run_pure, Result.andThen_ok, List.map_toArray, List.map_cons, List.map_nil, hs, hx, hr]
  exact hK _ _ (h v w (by rw [List.append_nil]; exact hown) ⟨rfl, rfl, rfl, Nat.le_refl _, fun _ _ _ => rfl⟩)
/-- An empty row made for a literal. -/
theorem own_empty (w : World) (B sz : Nat) (E : TypeId) (hB : B ≤ w.heap.size) : Own (w.alloc (.cells #[] E)) B sz (.slice (some ⟨w.heap.size, 0, none⟩) 0 0) 0 [] :=
 ⟨by simp, .inr ⟨w.heap.size, 0, #[], E, rfl, hB, heap_alloc_new w _, Nat.le_refl _, by unfold maxLen; omega, by simp, by simp⟩⟩
theorem et50 : ET Tryz.prog 50 55 6 88 (.agg #[.int .i64 0, .string ⟨#[]⟩, .string ⟨#[]⟩, .int .i64 0, .string ⟨#[]⟩, .slice none 0 0]) := ⟨Tryz.underlying50, by kernel_rfl, rfl, by decide, by decide⟩
end Go.Proofs.YtehlmjecbljafaaGreatDoor
namespace Go.Proofs.YtehlmjecbljafaaGreatDoor
open Go Go.RowKit
end Go.Proofs.YtehlmjecbljafaaGreatDoor
namespace Go.Proofs.YtehlmjecbljafaaGreatDoor
open Go Go.RowKit
/-- The items of a spec's tree. -/
def itemC (e : ByteArray × Int) : List Value := [.string e.1, .int .i64 e.2]
def ItemsAt (w : World) (v : Value) (es : List (ByteArray × Int)) : Prop := Sl w 2 v es.length (es.flatMap itemC)
theorem ItemsAt.at' {w wr : World} {a : Option Addr} {n cap : Nat} {es : List (ByteArray × Int)} (h : ItemsAt w (.slice a n cap) es) (hb : Below w.heap.size w wr) {k : Nat} (hk : k < es.length) :
  ∃ b o d, a = some ⟨b, o, none⟩ ∧ Hid (es[k]? = some d) ∧ wr.cell? ⟨b, o + k * 2, none⟩ = some (.string d.1) ∧ wr.cell? ⟨b, o + k * 2 + 1, none⟩ = some (.int .i64 d.2) := by
 have hl := flat_len (f := itemC) (sz := 2) (fun _ => rfl) es
 obtain ⟨-, a', cap', e, -⟩ := id h
 cases e
 obtain ⟨b, o, rfl, hc⟩ := Sl.cell h hb (by rw [hl]; omega)
 have hp : es[k]? = some es[k] := List.getElem?_eq_getElem hk
 have hh : ∀ i, i < 2 → ∀ x, (itemC es[k])[i]? = some x → wr.cell? ⟨b, o + k * 2 + i, none⟩ = some x := by
  intro i hi x hx
  have := hc (k * 2 + i) x (by rw [flat_at (f := itemC) (sz := 2) (fun _ => rfl) es k i hi _ hp]; exact hx)
  rw [Nat.add_assoc]; exact this
 exact ⟨b, o, es[k], rfl, hp, hh 0 (by omega) _ rfl, hh 1 (by omega) _ rfl⟩
/-- What find answers. -/
def FindR (es : List (ByteArray × Int)) (s : ByteArray) (i : Int) : Prop := (i = -1 ∧ ∀ d ∈ es, d.1 ≠ s) ∨ ∃ (k : Nat) (x : Int), i = k ∧ es[k]? = some (s, x)
set_option maxRecDepth 100000 in
set_option maxHeartbeats 1600000 in
theorem find_any (u : Value) (es : List (ByteArray × Int)) (s : ByteArray) (w : World) (hu : ItemsAt w u es) (hn : es.length ≤ 1000) :
  Calls Tryz.prog 98 #[u, .string s] w fun e w' => ∃ i : Int, e = .returned (.int .i64 i) ∧ FindR es s i ∧ w' = w := by
 obtain ⟨ua, uc, rfl⟩ := Sl.form hu
 have HU := Lib.hid hu; clear hu
 go_enter Tryz.func98, Tryz.ntmps98
 go_wp2
 go_loop [5] (fun i => ∃ k : Nat, k ≤ es.length ∧ i = .int .i64 k ∧ Hid (∀ d ∈ es.take k, d.1 ≠ s)) (fun i => es.length - (intOf i).toNat)
 case atStart => exact ⟨0, Nat.zero_le _, rfl, Lib.hid (fun d h => by simp at h)⟩
 case round =>
  obtain ⟨k, hk, rfl, HF⟩ := hrel
  by_cases hlt : k < es.length
  ·obtain ⟨b, o, d, rfl, Hd, c0, c1⟩ := HU.out.at' (Below.refl _ _) hlt
   by_cases hds : d.1 = s
   ·have hcmp : (d.1.toList == s.toList) = true := by rw [hds]; simp
    have HDS := Lib.hid hds; clear hds
    go_wp2
    go_ret
    exact ⟨_, rfl, .inr ⟨k, d.2, rfl, by rw [Hd.out, ← HDS.out]⟩, rfl⟩
   ·have hcmp : (d.1.toList == s.toList) = false := by
     rw [beq_eq_false_iff_ne]
     intro e
     apply hds
     rw [toList_bs, toList_bs] at e
     rw [← mk_bs d.1, ← mk_bs s, e]
    have HDS := Lib.hid hds; clear hds
    go_wp2
    go_round
    case rel =>
     refine ⟨k + 1, hlt, by go_num, Lib.hid fun x hx => ?_⟩
     rw [List.take_add_one, Hd.out] at hx
     rcases List.mem_append.1 hx with hx | hx
     ·exact HF.out x hx
     ·have : x = d := by simpa using hx
      rw [this]; exact HDS.out
    case measure => simp [intOf] <;> omega
  ·obtain rfl : k = es.length := by omega
   go_wp2
   go_ret
   exact ⟨_, rfl, .inl ⟨rfl, fun d hd => HF.out d (by rw [List.take_length]; exact hd)⟩, rfl⟩
end Go.Proofs.YtehlmjecbljafaaGreatDoor
namespace Go.Proofs.YtehlmjecbljafaaGreatDoor
open Go Go.RowKit
/-- What Tree comes to: n items; as many as deeds only if all deeds put, each another subject. -/
def TreeC (ds : List Deed) (w : World) (e : Ending) (w' : World) : Prop := ∃ a n c r, e = .returned (.tuple #[.slice a n c, r]) ∧ n ≤ ds.length ∧ (n = ds.length → (∀ d ∈ ds, d.op = 0) ∧ (ds.map Deed.subj).Nodup) ∧ Below w.heap.size w w'
/-- What grown comes to. -/
def GrownC (ds : List Deed) (w : World) (e : Ending) (w' : World) : Prop := ∃ a n c bl, e = .returned (.tuple #[.slice a n c, .bool bl]) ∧ (bl = true → n ≤ ds.length ∧ (n = ds.length → (∀ d ∈ ds, d.op = 0) ∧ (ds.map Deed.subj).Nodup) ∧ ds.length ≤ 40 ∧ ∀ d ∈ ds, DeedP d ∧ FormedP (toks d.subj) (toks d.subj).length ∧ LitP (toks d.subj) (toks d.subj).length) ∧ Below w.heap.size w w'
set_option maxRecDepth 100000 in
set_option maxHeartbeats 1600000 in
theorem grown_any (v : Value) (ds : List Deed) (w : World) (hds : DeedsAt w v ds) (hn : ds.length ≤ 2147483647) (hTree : ∀ w1, DeedsAt w1 v ds → ds.length ≤ 40 → Calls Tryz.prog 61 #[v] w1 (TreeC ds w1)) : Calls Tryz.prog 21 #[v] w (GrownC ds w) := by
 obtain ⟨a, cap, rfl⟩ := Sl.form hds
 have HP := Lib.hid hds; clear hds
 have HTR := Lib.hid hTree; clear hTree
 go_enter Tryz.func21, Tryz.ntmps21
 go_wp2_with fail
 refine (deeds_any _ ds w HP.out hn).mono ?_
 rintro e w1 ⟨bb, rfl, hbb, hb1⟩
 cases bb
 ·go_wp2
  go_ret2
  exact ⟨_, _, _, false, rfl, (fun h => by cases h), hb1⟩
 ·have HD := Lib.hid (hbb rfl); clear hbb
  go_wp2
  go_loopw [4] (fun i wr => ∃ k : Nat, k ≤ ds.length ∧ i = .int .i64 k ∧ Hid (∀ d ∈ ds.take k, FormedP (toks d.subj) (toks d.subj).length ∧ LitP (toks d.subj) (toks d.subj).length) ∧ Below w.heap.size w wr) (fun i _ => ds.length - (intOf i).toNat)
  case atStart => exact ⟨0, Nat.zero_le _, rfl, Lib.hid (fun d h => by simp at h), hb1⟩
  case round =>
   obtain ⟨k, hk, rfl, HF, hb⟩ := hrel
   have hd40 := HD.out.1
   by_cases hlt : k < ds.length
   ·obtain ⟨b, o, d, rfl, Hd, c0, c1, c2⟩ := HP.out.at' hb hlt
    have hsz := (HD.out.2 d (List.mem_of_getElem? Hd.out)).2.1
    go_wp2_with fail
    refine (splain_any d.subj _ (by omega)).mono ?_
    rintro e w2 ⟨bb, rfl, hbb, hb2⟩
    have hb3 := bel2 hb hb2
    cases bb
    ·go_wp2
     go_ret2
     exact ⟨_, _, _, false, rfl, (fun h => by cases h), hb3⟩
    ·have HL := Lib.hid (hbb rfl); clear hbb
     go_wp2
     go_roundw
     case rel =>
      refine ⟨k + 1, hlt, by go_num, Lib.hid fun x hx => ?_, hb3⟩
      rw [List.take_add_one, Hd.out] at hx
      rcases List.mem_append.1 hx with hx | hx
      ·exact HF.out x hx
      ·have : x = d := by simpa using hx
       subst this
       exact HL.out
     case measure => simp [intOf] <;> omega
   ·obtain rfl : k = ds.length := by omega
    have htr := HTR.out wr (Sl.keep HP.out hb) hd40
    go_wp2_with fail
    refine htr.mono ?_
    rintro e w2 ⟨ta, n, tc, r, rfl, h1, h2, h3⟩
    have H2 := Lib.hid (And.intro h1 h2)
    clear htr h1 h2
    go_wp2
    go_ret2
    exact ⟨_, n, _, true, rfl, (fun _ => ⟨H2.out.1, H2.out.2, HD.out.1, fun d hd => ⟨HD.out.2 d hd, HF.out d (by rw [List.take_length]; exact hd)⟩⟩), bel2 hb h3⟩
end Go.Proofs.YtehlmjecbljafaaGreatDoor
namespace Go.Proofs.YtehlmjecbljafaaGreatDoor
open Go Go.RowKit
/-- Items behind k deeds: as many only if all put, each another subject. -/
def TreeI (ds : List Deed) (k : Nat) (es : List (ByteArray × Int)) : Prop := es.length ≤ k ∧ (es.length = k → (∀ d ∈ ds.take k, d.op = 0) ∧ ((ds.take k).map Deed.subj).Nodup ∧ ∀ d ∈ ds.take k, ∃ e ∈ es, e.1 = d.subj)
theorem TreeI.start (ds : List Deed) : TreeI ds 0 [] := ⟨Nat.le_refl _, fun _ => by simp⟩
theorem TreeI.stay {ds : List Deed} {k : Nat} {es es' : List (ByteArray × Int)} (h : TreeI ds k es) (hl : es'.length ≤ es.length) : TreeI ds (k + 1) es' :=
 ⟨by have := h.1; omega, fun e => by have := h.1; omega⟩
theorem TreeI.put {ds : List Deed} {k : Nat} {es es' : List (ByteArray × Int)} {d : Deed} (h : TreeI ds k es) (hd : ds[k]? = some d) (h0 : d.op = 0) (hn : ∀ e ∈ es, e.1 ≠ d.subj) (hl : es'.length = es.length + 1) (hs : ∀ e ∈ es, e ∈ es') (hm : ∃ e ∈ es', e.1 = d.subj) : TreeI ds (k + 1) es' := by
 refine ⟨by have := h.1; omega, fun e => ?_⟩
 obtain ⟨a1, a2, a3⟩ := h.2 (by omega)
 have et : ds.take (k + 1) = ds.take k ++ [d] := by rw [List.take_add_one, hd]; rfl
 rw [et]
 refine ⟨fun x hx => ?_, ?_, fun x hx => ?_⟩
 ·rcases List.mem_append.1 hx with hx | hx
  ·exact a1 x hx
  ·rw [List.mem_singleton.1 hx]; exact h0
 ·rw [List.map_append]
  refine List.nodup_append.2 ⟨a2, by simp, fun x hx y hy e => ?_⟩
  obtain ⟨d', hd', rfl⟩ := List.mem_map.1 hx
  obtain ⟨e', he', hee⟩ := a3 d' hd'
  have hy' : y = d.subj := by simpa using hy
  exact hn e' he' (by rw [hee, e, hy'])
 ·rcases List.mem_append.1 hx with hx | hx
  ·obtain ⟨e', he', hee⟩ := a3 x hx
   exact ⟨e', hs e' he', hee⟩
  ·rw [List.mem_singleton.1 hx]; exact hm
theorem TreeI.done {ds : List Deed} {es : List (ByteArray × Int)} (h : TreeI ds ds.length es) : es.length ≤ ds.length ∧ (es.length = ds.length → (∀ d ∈ ds, d.op = 0) ∧ (ds.map Deed.subj).Nodup) := by
 refine ⟨h.1, fun e => ?_⟩
 obtain ⟨a1, a2, -⟩ := h.2 e
 rw [List.take_length] at a1 a2
 exact ⟨a1, a2⟩
end Go.Proofs.YtehlmjecbljafaaGreatDoor
namespace Go.Proofs.YtehlmjecbljafaaGreatDoor
open Go Go.RowKit
/-- What append(v, u...) runs to. -/
theorem run_appS {P : Program} {T E sz bytes : Nat} {z : Value} {w : World} (et : ET P T E sz bytes z) (ty : TypeId) (base : Nat) {v : Value} {n : Nat} {xs : List Value} (hown : Own w base sz v n xs)
  {u : Value} {m : Nat} {news : List Value} (hsl : Sl w sz u m news) (h1 : ∀ u ∈ news, u.oneCell' = true) (hsm : n + m ≤ 549755813888) (hbase : base ≤ w.heap.size) :
  ∃ v' w', (Builtin.append_ #[T, T] ty #[v, u]).run P w = .ok v' w' ∧ Own w' base sz v' (n + m) (xs ++ news) ∧ w.grownBy w' v.ownBlock := by
 obtain ⟨hl, a', c, rfl, hmc, hcm, hc⟩ := hsl
 cases a' with
 | some ad =>
  obtain ⟨v', w', hr, k1, k2, -⟩ := run_app (P := P) w et ty base v n xs hown ad m c news hl (fun j u hu => by
   obtain ⟨b, off, e, hc2⟩ := hc (by have := (List.getElem?_eq_some_iff.1 hu).1; omega)
   cases e
   rw [add0]; exact hc2 j u hu) h1 hsm hbase
  exact ⟨v', w', hr, k1, k2⟩
 | none =>
  have hn0 : news.length = 0 := by
   rcases Nat.eq_zero_or_pos news.length with h | h
   ·exact h
   ·obtain ⟨b, off, e, -⟩ := hc h; cases e
  have hm0 : m = 0 := by
   have := et.pos
   rcases Nat.eq_zero_or_pos m with h | h
   ·exact h
   ·have := Nat.mul_pos h this; omega
  subst hm0
  have hn : news = [] := List.eq_nil_of_length_eq_zero hn0
  subst hn
  exact ⟨v, w, run_app_none (P := P) w et ty base c v n xs hown, by rw [List.append_nil]; exact hown, ⟨rfl, rfl, rfl, Nat.le_refl _, fun _ _ _ => rfl⟩⟩
end Go.Proofs.YtehlmjecbljafaaGreatDoor
