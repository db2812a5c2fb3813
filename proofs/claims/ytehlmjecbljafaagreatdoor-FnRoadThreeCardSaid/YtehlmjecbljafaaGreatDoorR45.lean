/- The server's list with a cache: a put, step by step. Printed by mkkw.py out of Gb. A script of puts, with a cache or without. -/
import Derived.Test.YtehlmjecbljafaaGreatDoorR33
import Derived.Test.YtehlmjecbljafaaGreatDoorR44
namespace Go.Proofs.YtehlmjecbljafaaGreatDoor
open Go Go.RowKit
/-- What a script has made: its numbers, its subscriptions, its subjects, its list's tree. -/
structure PlayC (B0 P b : Nat) (vi vs : Value) (ids : List Int) (subs : List Nat) (ss : List ByteArray) (T : STrie) (F : Nat → Prop) (cm : Option Nat) (w : World) : Prop where
 play : PlayAt w P b vi vs ids subs
 row : w.heap[b]? = some (.cells (slCells (T.aL []) (.map cm) subs.length 0 0 subs.length 0 0 subs.length) 229 (0, 0))
 ok : STrieOK T F w
 lt : ∀ k, F k → B0 ≤ k ∧ k < w.heap.size
 nb : ¬ F b
 bge : B0 ≤ b
 Pge : B0 ≤ P
 bP : ¬ PB P vi vs b
 pbF : ∀ k, PB P vi vs k → ¬ F k
 sub : ∀ a ∈ subs, ¬ F a ∧ a ≠ b ∧ ¬ PB P vi vs a ∧ B0 ≤ a ∧ ∃ c t, w.heap[a]? = some (.cells c t (0, 0))
 N : ∀ q, T.N q ↔ q = [] ∨ ∃ s ∈ ss, q <+: pathS s
 S : ∀ q a, a ∈ T.S q ↔ ∃ (j : Nat) (s : ByteArray), subs[j]? = some a ∧ ss[j]? = some s ∧ q = pathS s
 Snd : ∀ q, (T.S q).Nodup ∧ (T.S q).length ≤ subs.length
 nd : subs.Nodup
 len : ss.length = subs.length
 cmk : ∀ k, cm = some k → MapE w k [] ∧ ¬ F k ∧ k ≠ b ∧ ¬ PB P vi vs k ∧ B0 ≤ k
set_option maxRecDepth 100000 in
set_option maxHeartbeats 3200000 in
theorem stepPutC_any (B0 P b : Nat) (vi vs : Value) (ids : List Int) (subs : List Nat) (ss : List ByteArray) (T : STrie) (F : Nat → Prop) (cm : Option Nat) (s : ByteArray) (x : Int) (w : World) (h : PlayC B0 P b vi vs ids subs ss T F cm w) (hx : x ∉ ids) (hs : s.size ≤ 100000) (hn : ids.length ≤ 100) (hP : PatP (pathS s)) :
  Calls Tryz.prog 103 #[.pointer (some ⟨P, 0, none⟩), .agg #[.int .i64 0, .string s, .string ⟨#[]⟩, .int .i64 x, .string ⟨#[]⟩, .slice none 0 0]] w fun e w' => e = .returned (.agg #[.int .i64 0, .int .i64 ((subs.length : Nat) + 1 : Nat), .slice none 0 0, .slice none 0 0]) ∧
   ∃ a vi' vs' T' F', PlayC B0 P b vi' vs' (ids ++ [x]) (subs ++ [a]) (ss ++ [s]) T' F' cm w' ∧ Only (fun k => F k ∨ k = b ∨ PB P vi vs k) w w' ∧ (∀ k, F' k → F k ∨ w.heap.size ≤ k) ∧ (∀ k, PB P vi' vs' k → PB P vi vs k ∨ w.heap.size ≤ k) ∧ w.heap.size ≤ a := by
 have H := Lib.hid h; clear h
 have HX := Lib.hid hx; clear hx
 have HPP := Lib.hid hP; clear hP
 have hX0 := heap_alloc_new w (.cells #[.int .i64 0, .string s, .string ⟨#[]⟩, .int .i64 x, .string ⟨#[]⟩, .slice none 0 0] 55)
 have hb1 := (Below.refl w.heap.size w).alloc (Nat.le_refl _) (.cells #[.int .i64 0, .string s, .string ⟨#[]⟩, .int .i64 x, .string ⟨#[]⟩, .slice none 0 0] 55)
 have hz1 : (w.alloc (.cells #[.int .i64 0, .string s, .string ⟨#[]⟩, .int .i64 x, .string ⟨#[]⟩, .slice none 0 0] 55)).heap.size = w.heap.size + 1 := by simp
 go_enter Tryz.func103, Tryz.ntmps103
 go_wp2_with fail
 generalize w.alloc (.cells #[.int .i64 0, .string s, .string ⟨#[]⟩, .int .i64 x, .string ⟨#[]⟩, .slice none 0 0] 55) = wA at *
 have hA1 := heap_alloc_new wA (.cells #[.int .i64 0, .int .i64 0, .slice none 0 0, .slice none 0 0] 104)
 have hb2 := (Below.refl wA.heap.size wA).alloc (Nat.le_refl _) (.cells #[.int .i64 0, .int .i64 0, .slice none 0 0, .slice none 0 0] 104)
 have hz2 : (wA.alloc (.cells #[.int .i64 0, .int .i64 0, .slice none 0 0, .slice none 0 0] 104)).heap.size = wA.heap.size + 1 := by simp
 generalize wA.alloc (.cells #[.int .i64 0, .int .i64 0, .slice none 0 0, .slice none 0 0] 104) = wB at *
 have hB1 := heap_alloc_new wB (.cells #[.int .i64 0, .int .i64 0, .slice none 0 0, .slice none 0 0] 104)
 have hb3 := (Below.refl wB.heap.size wB).alloc (Nat.le_refl _) (.cells #[.int .i64 0, .int .i64 0, .slice none 0 0, .slice none 0 0] 104)
 have hz3 : (wB.alloc (.cells #[.int .i64 0, .int .i64 0, .slice none 0 0, .slice none 0 0] 104)).heap.size = wB.heap.size + 1 := by simp
 generalize wB.alloc (.cells #[.int .i64 0, .int .i64 0, .slice none 0 0, .slice none 0 0] 104) = wC at *
 have rX : wC.heap[w.heap.size]? = some (.cells #[.int .i64 0, .string s, .string ⟨#[]⟩, .int .i64 x, .string ⟨#[]⟩, .slice none 0 0] 55 (0, 0)) := (hb3.block _ (by omega)).trans ((hb2.block _ (by omega)).trans hX0)
 have rY : wC.heap[w.heap.size + 1]? = some (.cells #[.int .i64 0, .int .i64 0, .slice none 0 0, .slice none 0 0] 104 (0, 0)) := by
  rw [hz1] at hA1; exact (hb3.block _ (by omega)).trans hA1
 have rZ : wC.heap[w.heap.size + 1 + 1]? = some (.cells #[.int .i64 0, .int .i64 0, .slice none 0 0, .slice none 0 0] 104 (0, 0)) := by
  rw [hz2, hz1] at hB1; exact hB1
 have hbC : Below w.heap.size w wC := (hb1.trans (hb2.mono (by omega))).trans (hb3.mono (by omega))
 have hzC : wC.heap.size = w.heap.size + 3 := by omega
 have HBC := Lib.hid hbC
 have HZC := Lib.hid hzC
 clear hX0 hA1 hB1 hb1 hb2 hb3 hz1 hz2 hz3 hbC hzC
 have hpl := H.out.play.keep HBC.out
 have c0 := (cell_row (j := 0) hpl.row).trans (show _ = some (Value.pointer (some ⟨b, 0, none⟩)) from rfl)
 have x1 := (cell_row (j := 1) rX).trans (show _ = some (Value.string s) from rfl)
 have x2 := (cell_row (j := 2) rX).trans (show _ = some (Value.string ⟨#[]⟩) from rfl)
 have x3 := (cell_row (j := 3) rX).trans (show _ = some (Value.int .i64 x) from rfl)
 have RX := Lib.hid rX
 have RY := Lib.hid rY
 have RZ := Lib.hid rZ
 have HPL := Lib.hid hpl
 clear hpl rX rY rZ
 refine wp_region_L [0, 1, 2, 3, 4, 5, 6, 10] (fun W' => W'.cell? ⟨P, 0, none⟩ = some (.pointer (some ⟨b, 0, none⟩)) ∧ W'.cell? ⟨w.heap.size, 1, none⟩ = some (.string s) ∧ W'.cell? ⟨w.heap.size, 2, none⟩ = some (.string ⟨#[]⟩) ∧ W'.cell? ⟨w.heap.size, 3, none⟩ = some (.int .i64 x)) (by kernel_rfl) (by kernel_rfl) ⟨c0, x1, x2, x3⟩ (fun ne => ?_)
 have S0 := fun z : SubC (fun W' => W'.cell? ⟨P, 0, none⟩ = some (.pointer (some ⟨b, 0, none⟩)) ∧ W'.cell? ⟨w.heap.size, 1, none⟩ = some (.string s) ∧ W'.cell? ⟨w.heap.size, 2, none⟩ = some (.string ⟨#[]⟩) ∧ W'.cell? ⟨w.heap.size, 3, none⟩ = some (.int .i64 x)) => z.ok.1
 have S1 := fun z : SubC (fun W' => W'.cell? ⟨P, 0, none⟩ = some (.pointer (some ⟨b, 0, none⟩)) ∧ W'.cell? ⟨w.heap.size, 1, none⟩ = some (.string s) ∧ W'.cell? ⟨w.heap.size, 2, none⟩ = some (.string ⟨#[]⟩) ∧ W'.cell? ⟨w.heap.size, 3, none⟩ = some (.int .i64 x)) => z.ok.2.1
 have S2 := fun z : SubC (fun W' => W'.cell? ⟨P, 0, none⟩ = some (.pointer (some ⟨b, 0, none⟩)) ∧ W'.cell? ⟨w.heap.size, 1, none⟩ = some (.string s) ∧ W'.cell? ⟨w.heap.size, 2, none⟩ = some (.string ⟨#[]⟩) ∧ W'.cell? ⟨w.heap.size, 3, none⟩ = some (.int .i64 x)) => z.ok.2.2.1
 have S3 := fun z : SubC (fun W' => W'.cell? ⟨P, 0, none⟩ = some (.pointer (some ⟨b, 0, none⟩)) ∧ W'.cell? ⟨w.heap.size, 1, none⟩ = some (.string s) ∧ W'.cell? ⟨w.heap.size, 2, none⟩ = some (.string ⟨#[]⟩) ∧ W'.cell? ⟨w.heap.size, 3, none⟩ = some (.int .i64 x)) => z.ok.2.2.2
 repeat (refine wpCL_q rfl rfl ?_; go_big_quiet_step (fail); refine wpQuiet_nil ?_)
 refine wpCL_n rfl rfl rfl rfl ?_
 go_simp
 repeat (refine wpCL_q rfl rfl ?_; go_big_quiet_step (fail); refine wpQuiet_nil ?_)
 refine wpCL_ch rfl rfl (fun K hK => ?_)
 go_simp
 simp only [runsTo_enter]
 refine (playPut_any P b vi vs ids subs s x wC.drew (HPL.out.keep (Below.refl _ wC).drew) HX.out hs (by omega)).mono ?_
 rintro e w4 ⟨a, vi', vs', rfl, q1, q2, q3, q4, q5⟩
 have q3' : Only (PB P vi vs) wC w4 := ⟨q3.os, q3.tape, q3.output, q3.size, q3.block⟩
 have hPB : ∀ k, PB P vi vs k → k < w.heap.size := fun k hk => (H.out.play.lt hk).2
 have r4 : ∀ (k : Nat) (o : Obj), w.heap[k]? = some o → ¬ PB P vi vs k → w4.heap[k]? = some o := fun k o h hk => (q3'.block k (by have := (Array.getElem?_eq_some_iff.1 h).1; have := HZC.out; omega) hk).trans ((HBC.out.block k (Array.getElem?_eq_some_iff.1 h).1).trans h)
 have n4 : ∀ k, w.heap.size ≤ k → k < wC.heap.size → w4.heap[k]? = wC.heap[k]? := fun k h1 h2 => q3'.block k h2 fun e => by have := hPB k e; omega
 have hb4 := r4 b _ H.out.row H.out.bP
 have hT4 : STrieOK T F w4 := H.out.ok.keep fun k hk => (q3'.block k (by have := (H.out.lt k hk).2; have := HZC.out; omega) (fun e => H.out.pbF k e hk)).trans (HBC.out.block k (H.out.lt k hk).2)
 have hz4 := q3'.size
 have hP4 := (cell_row (j := 0) q2.row).trans (show _ = some (Value.pointer (some ⟨b, 0, none⟩)) from rfl)
 have hx4 := (n4 w.heap.size (Nat.le_refl _) (by have := HZC.out; omega)).trans RX.out
 have hy4 := (n4 (w.heap.size + 1) (by omega) (by have := HZC.out; omega)).trans RY.out
 have hz4r := (n4 (w.heap.size + 1 + 1) (by omega) (by have := HZC.out; omega)).trans RZ.out
 have hcm4 : ∀ k, cm = some k → MapE w4 k [] := fun k hk => by
  obtain ⟨m1, m2, m3, m4, m5⟩ := H.out.cmk k hk
  exact (m1.keep (HBC.out.block k m1.lt)).keep (q3'.block k (by have := m1.lt; have := HZC.out; omega) m4)
 have HCM4 := Lib.hid hcm4
 have hins := sInsert_any b a wC.heap.size s cm subs.length 0 0 subs.length 0 0 subs.length T F w4 hb4 hT4 (fun q hq => by
   obtain ⟨y, hy⟩ := List.exists_mem_of_ne_nil _ hq
   obtain ⟨j, s', h1, h2, h3⟩ := (H.out.S q y).1 hy
   exact (H.out.N q).2 (.inr ⟨s', List.mem_of_getElem? h2, by rw [h3]; exact List.prefix_refl _⟩)) (fun k hk => by have := (H.out.lt k hk).2; have := HZC.out; omega) H.out.nb HPP.out hs q1 (fun k hk => by
   have := HZC.out
   rcases hk with hk | rfl
   ·have := (H.out.lt k hk).2; omega
   ·have := (Array.getElem?_eq_some_iff.1 H.out.row).1; omega) (fun h => by
   obtain ⟨j, s', h1, h2, h3⟩ := (H.out.S _ a).1 h
   obtain ⟨-, -, -, -, c, t, hr⟩ := H.out.sub a (List.mem_of_getElem? h1)
   have := (Array.getElem?_eq_some_iff.1 hr).1
   have := q1.1
   have hdz : wC.drew.heap.size = wC.heap.size := rfl
   have := HZC.out
   omega) (fun y hy => by
   obtain ⟨j, s', h1, h2, h3⟩ := (H.out.S _ y).1 hy
   obtain ⟨e1, -, e3, -, c, t, hr⟩ := H.out.sub y (List.mem_of_getElem? h1)
   exact ⟨e1, c, t, r4 y _ hr e3⟩) (by have := (H.out.Snd ((toks s).map bs)).2; have := H.out.play.len; omega) (fun k hk => ⟨(H.out.cmk k hk).2.1, (H.out.cmk k hk).2.2.1, (hcm4 k hk).lt⟩) (fun W hW hWk => cacheE_any b _ a s cm _ _ _ _ _ _ _ W hW (fun k hk => (hcm4 k hk).keep (hWk k hk)) (by omega))
   ⟨by omega, by have := H.out.play.len; omega⟩ ⟨by omega, by have := H.out.play.len; omega⟩ ⟨by omega, by have := H.out.play.len; omega⟩
 refine ⟨_, rfl, hK _ _ ⟨⟨w4, hP4, (cell_row (j := 1) hx4).trans rfl, (cell_row (j := 2) hx4).trans rfl, (cell_row (j := 3) hx4).trans rfl⟩, rfl⟩ ?_⟩
 have Q := Lib.hid (And.intro q1 (And.intro q2 (And.intro q3' (And.intro q4 q5))))
 have R4 := Lib.hid (And.intro r4 (And.intro n4 (And.intro hb4 (And.intro hx4 (And.intro hy4 hz4r)))))
 clear hK K q1 q2 q3 q3' q4 q5 r4 n4 hb4 hT4 hP4 hx4 hy4 hz4r hcm4
 go_simp
 refine wpCL_ch rfl rfl (fun K hK => ?_)
 go_simp
 simp only [runsTo_enter]
 refine hins.mono ?_
 rintro e w5 ⟨rfl, T', F', t1, t2, t3, t4, t5, t6, t7, t8⟩
 have r5 : ∀ (k : Nat) (o : Obj), w4.heap[k]? = some o → ¬ F k → k ≠ b → w5.heap[k]? = some o := fun k o h h1 h2 => (t6.block k (Array.getElem?_eq_some_iff.1 h).1 (by rintro (e | e); exact h1 e; exact h2 e)).trans h
 have hFw : ∀ k, w.heap.size ≤ k → ¬ F k ∧ k ≠ b := fun k hk => ⟨fun e => by have := (H.out.lt k e).2; omega, fun e => by have := (Array.getElem?_eq_some_iff.1 H.out.row).1; omega⟩
 have hp5 := Q.out.2.1.keepIf (w' := w5) fun k hk => t6.block k (Q.out.2.1.lt hk).2 (by
  have hbw := (Array.getElem?_eq_some_iff.1 H.out.row).1
  rcases Q.out.2.2.2.1 k hk with h | h
  ·rintro (e | rfl)
   ·exact H.out.pbF k h e
   ·exact H.out.bP h
  ·have hdz : wC.drew.heap.size = wC.heap.size := rfl
   have := HZC.out
   have := hFw k (by omega)
   rintro (e | e)
   ·exact this.1 e
   ·exact this.2 e)
 have hP5 := (cell_row (j := 0) hp5.row).trans (show _ = some (Value.pointer (some ⟨b, 0, none⟩)) from rfl)
 have hx5 := r5 _ _ R4.out.2.2.2.1 (hFw _ (Nat.le_refl _)).1 (hFw _ (Nat.le_refl _)).2
 have hy5 := r5 _ _ R4.out.2.2.2.2.1 (hFw _ (by omega)).1 (hFw _ (by omega)).2
 have hz5 := r5 _ _ R4.out.2.2.2.2.2 (hFw _ (by omega)).1 (hFw _ (by omega)).2
 refine ⟨_, rfl, hK _ _ ⟨⟨w5, hP5, (cell_row (j := 1) hx5).trans rfl, (cell_row (j := 2) hx5).trans rfl, (cell_row (j := 3) hx5).trans rfl⟩, rfl⟩ ?_⟩
 clear hK K hins
 go_simp
 refine wpCL_ch rfl rfl (fun K hK => ?_)
 go_simp
 simp only [runsTo_enter]
 refine (one_nil w5).mono ?_
 rintro e w6 ⟨rfl, rfl⟩
 refine ⟨_, rfl, hK _ _ ⟨⟨w5, hP5, (cell_row (j := 1) hx5).trans rfl, (cell_row (j := 2) hx5).trans rfl, (cell_row (j := 3) hx5).trans rfl⟩, rfl⟩ ?_⟩
 clear hK K
 go_simp
 repeat (refine wpCL_q rfl rfl ?_; go_big_quiet_step (fail); refine wpQuiet_nil ?_)
 refine wpCL_last ?_
 have z50 := (cell_row (j := 0) hz5).trans (show _ = some (Value.int .i64 0) from rfl)
 have zf0 := frozen_row (j := 0) hz5
 clear S0 S1 S2 S3 ne
 have hnX : ∀ k, k < w.heap.size → k ≠ w.heap.size + 1 + 1 := fun k hk => by omega
 have hPw := hPB P (.inl rfl)
 have hbw := (Array.getElem?_eq_some_iff.1 H.out.row).1
 have hP6 : (w5.setCell ⟨w.heap.size + 1 + 1, 0, none⟩ (.int .i64 0)).cell? ⟨P, 0, none⟩ = some (.pointer (some ⟨b, 0, none⟩)) := (World.cell?_of_block (heap_setCell_other _ _ _ _ (hnX P hPw))).trans hP5
 go_wp2_with fail
 have hz6 := heap_setCell_same w5 (w.heap.size + 1 + 1) 0 _ 104 (.int .i64 0) hz5
 have ho6 : ∀ k, k ≠ w.heap.size + 1 + 1 → (w5.setCell ⟨w.heap.size + 1 + 1, 0, none⟩ (.int .i64 0)).heap[k]? = w5.heap[k]? := fun k hk => heap_setCell_other _ _ _ _ hk
 have hsz6 : (w5.setCell ⟨w.heap.size + 1 + 1, 0, none⟩ (.int .i64 0)).heap.size = w5.heap.size := size_setCell ..
 have hou6 : Only (· = w.heap.size + 1 + 1) w5 (w5.setCell ⟨w.heap.size + 1 + 1, 0, none⟩ (.int .i64 0))  := (Only.refl (· = w.heap.size + 1 + 1) w5).set (.inl rfl) _
 generalize w5.setCell ⟨w.heap.size + 1 + 1, 0, none⟩ (.int .i64 0) = w6 at *
 have hb6 := (ho6 b (hnX b hbw)).trans t5
 refine (scount_any b _ _ _ _ _ _ _ _ _ w6 hb6).mono ?_
 rintro e w7 ⟨rfl, hb7, ho7⟩
 have hl6 : ∀ (k : Nat) (o : Obj), w6.heap[k]? = some o → k ≠ b → w7.heap[k]? = some o := fun k o h hk => (ho7.block k (Array.getElem?_eq_some_iff.1 h).1 hk).trans h
 have hz7 := hl6 _ _ hz6 (hFw _ (by omega)).2
 have hy7 := hl6 _ _ ((ho6 _ (by omega)).trans hy5) (hFw _ (by omega)).2
 have z71 := (cell_row (j := 1) hz7).trans (show _ = some (Value.int .i64 0) from rfl)
 have zf1 := frozen_row (j := 1) hz7
 have hz8 := heap_setCell_same w7 (w.heap.size + 1 + 1) 1 _ 104 (.int .i64 ((subs.length : Int) + 1)) hz7
 have hy8 := (show (w7.setCell ⟨w.heap.size + 1 + 1, 1, none⟩ (.int .i64 ((subs.length : Int) + 1))).heap[w.heap.size + 1]? = w7.heap[w.heap.size + 1]? from heap_setCell_other _ _ _ _ (by show w.heap.size + 1 ≠ w.heap.size + 1 + 1; omega)).trans hy7
 have hsl : subs.length ≤ 100 := by have := H.out.play.len; omega
 have z80 := (cell_row (j := 0) hz8).trans (show _ = some (Value.int .i64 0) from rfl)
 have z81 := (cell_row (j := 1) hz8).trans (show _ = some (Value.int .i64 ((subs.length : Int) + 1)) from rfl)
 have z82 := (cell_row (j := 2) hz8).trans (show _ = some (Value.slice none 0 0) from rfl)
 have z83 := (cell_row (j := 3) hz8).trans (show _ = some (Value.slice none 0 0) from rfl)
 have y80 := (cell_row (j := 0) hy8).trans (show _ = some (Value.int .i64 0) from rfl)
 have y81 := (cell_row (j := 1) hy8).trans (show _ = some (Value.int .i64 0) from rfl)
 have y82 := (cell_row (j := 2) hy8).trans (show _ = some (Value.slice none 0 0) from rfl)
 have y83 := (cell_row (j := 3) hy8).trans (show _ = some (Value.slice none 0 0) from rfl)
 have g0 := frozen_row (j := 0) hy8
 have g1 := frozen_row (j := 1) hy8
 have g2 := frozen_row (j := 2) hy8
 have g3 := frozen_row (j := 3) hy8
 go_wp2_with fail
 have s0 := heap_setCell_same _ (w.heap.size + 1) 0 _ 104 (.int .i64 0) hy8
 have s1 := heap_setCell_same _ (w.heap.size + 1) 1 _ 104 (.int .i64 ((subs.length : Int) + 1)) s0
 have s2 := heap_setCell_same _ (w.heap.size + 1) 2 _ 104 (.slice none 0 0) s1
 have s3 := heap_setCell_same _ (w.heap.size + 1) 3 _ 104 (.slice none 0 0) s2
 refine bodyPost_ret (results_cell_row rfl _ _ (w.heap.size + 1) 104 _ (0, 0) _ rfl s3 Tryz.underlying104 rfl (by kernel_rfl)) rfl ?_
 have ho8 : Only (fun k => k = w.heap.size + 1 ∨ k = w.heap.size + 1 + 1 ∨ k = b) w5 (((((w7.setCell ⟨w.heap.size + 1 + 1, 1, none⟩ (.int .i64 ((subs.length : Int) + 1))).setCell ⟨w.heap.size + 1, 0, none⟩ (.int .i64 0)).setCell ⟨w.heap.size + 1, 1, none⟩ (.int .i64 ((subs.length : Int) + 1))).setCell ⟨w.heap.size + 1, 2, none⟩ (.slice none 0 0)).setCell ⟨w.heap.size + 1, 3, none⟩ (.slice none 0 0)) := by
  have o1 := (hou6.mono (F' := fun k => k = w.heap.size + 1 ∨ k = w.heap.size + 1 + 1 ∨ k = b) fun k hk => .inr (.inl hk)).trans ho7 fun k hk => .inl (.inr (.inr hk))
  exact ((((o1.set (.inl (.inr (.inl rfl))) _).set (.inl (.inl rfl)) _).set (.inl (.inl rfl)) _).set (.inl (.inl rfl)) _).set (.inl (.inl rfl)) _
 have hrowF : ∀ (k : Nat) (o : Obj), w7.heap[k]? = some o → k ≠ w.heap.size + 1 → k ≠ w.heap.size + 1 + 1 → (((((w7.setCell ⟨w.heap.size + 1 + 1, 1, none⟩ (.int .i64 ((subs.length : Int) + 1))).setCell ⟨w.heap.size + 1, 0, none⟩ (.int .i64 0)).setCell ⟨w.heap.size + 1, 1, none⟩ (.int .i64 ((subs.length : Int) + 1))).setCell ⟨w.heap.size + 1, 2, none⟩ (.slice none 0 0)).setCell ⟨w.heap.size + 1, 3, none⟩ (.slice none 0 0)).heap[k]? = some o := fun k o h n1 n2 => by
  rw [heap_setCell_other _ _ _ _ (show k ≠ w.heap.size + 1 from n1), heap_setCell_other _ _ _ _ (show k ≠ w.heap.size + 1 from n1), heap_setCell_other _ _ _ _ (show k ≠ w.heap.size + 1 from n1), heap_setCell_other _ _ _ _ (show k ≠ w.heap.size + 1 from n1), heap_setCell_other _ _ _ _ (show k ≠ w.heap.size + 1 + 1 from n2)]
  exact h
 have hbF := hrowF b _ hb7 (by omega) (by omega)
 clear s0 s1 s2 s3 g0 g1 g2 g3 y80 y81 y82 y83 z80 z81 z82 z83 hz8 hy8 z71 zf1 hz7 hy7 hrowF hb7 hl6
 generalize (((((w7.setCell ⟨w.heap.size + 1 + 1, 1, none⟩ (.int .i64 ((subs.length : Int) + 1))).setCell ⟨w.heap.size + 1, 0, none⟩ (.int .i64 0)).setCell ⟨w.heap.size + 1, 1, none⟩ (.int .i64 ((subs.length : Int) + 1))).setCell ⟨w.heap.size + 1, 2, none⟩ (.slice none 0 0)).setCell ⟨w.heap.size + 1, 3, none⟩ (.slice none 0 0)) = wF at *
 obtain ⟨q1, q2, q3, q4, q5⟩ := Q.out
 obtain ⟨r4, -⟩ := R4.out
 have hdz : wC.drew.heap.size = wC.heap.size := rfl
 have hzC := HZC.out
 have hz5s := t6.size
 have hzFs := ho8.size
 have keep5 : ∀ (k : Nat) (o : Obj), w5.heap[k]? = some o → k ≠ w.heap.size + 1 → k ≠ w.heap.size + 1 + 1 → k ≠ b → wF.heap[k]? = some o := fun k o h n1 n2 n3 => (ho8.block k (Array.getElem?_eq_some_iff.1 h).1 (by rintro (e | e | e); exact n1 e; exact n2 e; exact n3 e)).trans h
 have hsubw : ∀ y ∈ subs, y < w.heap.size := fun y hy => by
  obtain ⟨-, -, -, -, c, t, hr⟩ := H.out.sub y hy
  exact (Array.getElem?_eq_some_iff.1 hr).1
 have ha0 := q1.1
 have ha1 := q1.lt
 have hnF' : ∀ k, k < w4.heap.size → ¬ F k → ¬ F' k := fun k h1 h2 h3 => by
  rcases t7 k h3 with h | h
  ·exact h2 h
  ·omega
 have haF := (hFw a (by omega)).1
 have hab := (hFw a (by omega)).2
 have hnew : ∀ q, a ∉ T.S q := fun q h => by
  obtain ⟨j, s', h1, -, -⟩ := (H.out.S q a).1 h
  have := hsubw a (List.mem_of_getElem? h1)
  omega
 refine ⟨by simp, a, vi', vs', T', F', ⟨?_, ?_, ?_, ?_, ?_, H.out.bge, H.out.Pge, ?_, ?_, ?_, ?_, ?_, ?_, ?_, ?_, ?_⟩, ?_⟩
 ·refine hp5.keepIf fun k hk => ?_
  have hk5 := (hp5.lt hk).2
  refine ho8.block k hk5 ?_
  rcases q4 k hk with h | h
  ·have := hPB k h
   rintro (e | e | rfl)
   ·omega
   ·omega
   ·exact H.out.bP h
  ·rintro (e | e | e) <;> omega
 ·rw [t4, List.length_append]
  exact hbF
 ·refine t1.keep fun k hk => ho8.block k (t8 k hk) ?_
  rcases t7 k hk with h | h
  ·have := (H.out.lt k h).2
   rintro (e | e | rfl)
   ·omega
   ·omega
   ·exact H.out.nb h
  ·rintro (e | e | e) <;> omega
 ·intro k hk
  have := t8 k hk
  refine ⟨?_, by omega⟩
  rcases t7 k hk with h | h
  ·exact (H.out.lt k h).1
  ·have := H.out.bge; omega
 ·exact hnF' b (by omega) H.out.nb
 ·intro h
  rcases q4 b h with h | h
  ·exact H.out.bP h
  ·omega
 ·intro k hk
  have hk4 := (q2.lt hk).2
  refine hnF' k hk4 ?_
  rcases q4 k hk with h | h
  ·exact H.out.pbF k h
  ·exact (hFw k (by omega)).1
 ·intro y hy
  rcases List.mem_append.1 hy with hy | hy
  ·obtain ⟨e1, e2, e3, e4, c, t, hr⟩ := H.out.sub y hy
   have hyw := hsubw y hy
   refine ⟨hnF' y (by omega) e1, e2, fun h => ?_, e4, c, t, keep5 y _ (r5 y _ (r4 y _ hr e3) e1 e2) (by omega) (by omega) e2⟩
   rcases q4 y h with h | h
   ·exact e3 h
   ·omega
  ·obtain rfl := List.mem_singleton.1 hy
   obtain ⟨-, g, cap, -, hr, -⟩ := id q1
   exact ⟨hnF' y ha1 haF, hab, q5, by have := H.out.bge; omega, _, _, keep5 y _ (r5 y _ hr haF hab) (by omega) (by omega) hab⟩
 ·intro q
  rw [t2 q, H.out.N q, or_assoc]
  refine or_congr Iff.rfl ⟨?_, ?_⟩
  ·rintro (⟨s', h1, h2⟩ | h)
   ·exact ⟨s', List.mem_append_left _ h1, h2⟩
   ·exact ⟨s, by simp, h⟩
  ·rintro ⟨s', h1, h2⟩
   rcases List.mem_append.1 h1 with h1 | h1
   ·exact .inl ⟨s', h1, h2⟩
   ·obtain rfl := List.mem_singleton.1 h1
    exact .inr h2
 ·intro q y
  have hl := H.out.len
  have hiff : y ∈ T'.S q ↔ y ∈ T.S q ∨ (q = pathS s ∧ y = a) := by
   rw [t3 q]
   by_cases e : q = (toks s).map bs
   ·rw [if_pos e, List.mem_append, List.mem_singleton]
    exact or_congr Iff.rfl ⟨fun h => ⟨e, h⟩, fun h => h.2⟩
   ·rw [if_neg e]
    exact ⟨.inl, fun h => h.elim id fun h => absurd h.1 e⟩
  rw [hiff, H.out.S q y]
  constructor
  ·rintro (⟨j, s', h1, h2, h3⟩ | ⟨h1, rfl⟩)
   ·have hj := (List.getElem?_eq_some_iff.1 h1).1
    exact ⟨j, s', by rw [List.getElem?_append_left hj]; exact h1, by rw [List.getElem?_append_left (by omega)]; exact h2, h3⟩
   ·exact ⟨subs.length, s, by simp, by rw [← hl]; simp, h1⟩
  ·rintro ⟨j, s', h1, h2, h3⟩
   by_cases hj : j < subs.length
   ·rw [List.getElem?_append_left hj] at h1
    rw [List.getElem?_append_left (by omega)] at h2
    exact .inl ⟨j, s', h1, h2, h3⟩
   ·have hj2 := (List.getElem?_eq_some_iff.1 h1).1
    rw [List.length_append, List.length_singleton] at hj2
    have hj3 : j = subs.length := by omega
    subst hj3
    rw [List.getElem?_append_right (Nat.le_refl _), Nat.sub_self] at h1
    rw [List.getElem?_append_right (by omega), hl, Nat.sub_self] at h2
    injection h1 with h1
    injection h2 with h2
    subst h1 h2
    exact .inr ⟨h3, rfl⟩
 ·intro q
  rw [t3 q, List.length_append, List.length_singleton]
  obtain ⟨k1, k2⟩ := H.out.Snd q
  by_cases e : q = (toks s).map bs
  ·rw [if_pos e]
   refine ⟨List.nodup_append.2 ⟨k1, by simp, fun y hy z hz e2 => ?_⟩, by rw [List.length_append, List.length_singleton]; omega⟩
   rw [List.mem_singleton.1 hz] at e2
   exact hnew q (e2 ▸ hy)
  ·rw [if_neg e]; exact ⟨k1, by omega⟩
 ·refine List.nodup_append.2 ⟨H.out.nd, by simp, fun y hy z hz e2 => ?_⟩
  rw [List.mem_singleton.1 hz] at e2
  have := hsubw y hy
  omega
 ·rw [List.length_append, List.length_append, H.out.len]; rfl
 ·intro k hk
  obtain ⟨m1, m2, m3, m4, m5⟩ := H.out.cmk k hk
  have hkw := m1.lt
  have hk4 : k < w4.heap.size := (HCM4.out k hk).lt
  refine ⟨((HCM4.out k hk).keep (t6.block k hk4 (by rintro (e | e); exact m2 e; exact m3 e))).keep (ho8.block k (by omega) (by rintro (e | e | e); omega; omega; exact m3 e)), hnF' k hk4 m2, m3, fun h => ?_, m5⟩
  rcases q4 k h with h | h
  ·exact m4 h
  ·omega
 ·have o1 : Only (fun k => F k ∨ k = b ∨ PB P vi vs k) w wC := Only.of HBC.out
  have o2 := o1.trans (show Only (PB P vi vs) wC w4 from ⟨q3.os, q3.tape, q3.output, q3.size, q3.block⟩) fun k hk => .inl (.inr (.inr hk))
  have o3 := o2.trans t6 fun k hk => .inl (by
   rcases hk with h | h
   ·exact .inl h
   ·exact .inr (.inl h))
  refine ⟨o3.trans ho8 fun k hk => ?_, fun k hk => ?_, fun k hk => ?_, by omega⟩
  ·rcases hk with h | h | h
   ·exact .inr (by omega)
   ·exact .inr (by omega)
   ·exact .inl (.inr (.inl h))
  ·rcases t7 k hk with h | h
   ·exact .inl h
   ·exact .inr (by omega)
  ·rcases q4 k hk with h | h
   ·exact .inl h
   ·exact .inr (by omega)
end Go.Proofs.YtehlmjecbljafaaGreatDoor
namespace Go.Proofs.YtehlmjecbljafaaGreatDoor
open Go Go.RowKit
theorem PlayC.keepIf {B0 P b : Nat} {vi vs : Value} {ids : List Int} {subs : List Nat} {ss : List ByteArray} {T : STrie} {F : Nat → Prop} {cm : Option Nat} {w w' : World} (h : PlayC B0 P b vi vs ids subs ss T F cm w) (hk : ∀ q, (F q ∨ q = b ∨ PB P vi vs q ∨ q ∈ subs ∨ cm = some q) → w'.heap[q]? = w.heap[q]?) (hz : w.heap.size ≤ w'.heap.size) : PlayC B0 P b vi vs ids subs ss T F cm w' :=
 { h with
  play := h.play.keepIf fun k e => hk k (.inr (.inr (.inl e)))
  row := (hk b (.inr (.inl rfl))).trans h.row
  ok := h.ok.keep fun k e => hk k (.inl e)
  lt := fun k e => by have := h.lt k e; omega
  sub := fun a ha => by
   obtain ⟨e1, e2, e3, e4, c, t, hr⟩ := h.sub a ha
   exact ⟨e1, e2, e3, e4, c, t, (hk a (.inr (.inr (.inr (.inl ha))))).trans hr⟩
  cmk := fun k e => by
   obtain ⟨m1, m2⟩ := h.cmk k e
   exact ⟨m1.keep (hk k (.inr (.inr (.inr (.inr e))))), m2⟩ }
/-- The blocks of a script. -/
def CB (P b : Nat) (vi vs : Value) (subs : List Nat) (F : Nat → Prop) (cm : Option Nat) (q : Nat) : Prop := F q ∨ q = b ∨ PB P vi vs q ∨ q ∈ subs ∨ cm = some q
theorem PlayC.ltB {B0 P b : Nat} {vi vs : Value} {ids : List Int} {subs : List Nat} {ss : List ByteArray} {T : STrie} {F : Nat → Prop} {cm : Option Nat} {w : World} (h : PlayC B0 P b vi vs ids subs ss T F cm w) {q : Nat} (hq : CB P b vi vs subs F cm q) : q < w.heap.size := by
 rcases hq with h' | h' | h' | h' | h'
 ·exact (h.lt q h').2
 ·rw [h']; exact (Array.getElem?_eq_some_iff.1 h.row).1
 ·exact (h.play.lt h').2
 ·obtain ⟨-, -, -, -, c, t, hr⟩ := h.sub q h'
  exact (Array.getElem?_eq_some_iff.1 hr).1
 ·exact (h.cmk q h').1.lt
/-- Where a script stands behind k puts. -/
def MidC (xs : List Int) (ss : List ByteArray) (P b : Nat) (cm : Option Nat) (w : World) (k : Nat) (o : Value) (wr : World) : Prop :=
 ∃ vi vs subs T F rest, PlayC w.heap.size P b vi vs (xs.take k) subs (ss.take k) T F cm wr ∧ Own wr w.heap.size 4 o k rest ∧ (∀ q, o.ownBlock = some q → ¬ CB P b vi vs subs F cm q) ∧ Below w.heap.size w wr
set_option maxRecDepth 100000 in
set_option maxHeartbeats 6400000 in
theorem playedC_any (cache : Bool) (xs : List Int) (ss : List ByteArray) (v : Value) (ds : List StepD) (w : World) (hv : StepsAt w v ds) (hds : ds.length = ss.length) (hput : ∀ (k : Nat) (s : ByteArray) (x : Int), ss[k]? = some s → xs[k]? = some x → ds[k]? = some ⟨0, s, x, ⟨#[]⟩⟩)
  (hxs : xs.length = ss.length) (hnd : xs.Nodup) (hss : ∀ s ∈ ss, s.size ≤ 100000) (hpp : ∀ s ∈ ss, PatP (pathS s)) (hn : ss.length ≤ 40) :
  Calls Tryz.prog 68 #[.bool cache, v] w fun e w' => ∃ P b u vi vs subs T F cm, e = .returned (.tuple #[.pointer (some ⟨P, 0, none⟩), u]) ∧ PlayC w.heap.size P b vi vs xs subs ss T F cm w' ∧ Below w.heap.size w w' := by
 obtain ⟨va, vc, rfl⟩ := Sl.form hv
 have HV := Lib.hid hv; clear hv
 have HPUT := Lib.hid hput; clear hput
 have HXS := Lib.hid hxs; clear hxs
 have HND := Lib.hid hnd; clear hnd
 have HDS := Lib.hid hds
 go_enter Tryz.func68, Tryz.ntmps68
 go_wp2_with fail
 refine (sNew_any cache w).mono ?_
 rintro e w1 ⟨b, l, m, cm, rfl, hrow, hlev, hmap, -, -, hcm, hb1, hl1, hm1, hbel⟩
 have hz1 := hbel.size
 have hPr := heap_alloc_new w1 (.cells #[.pointer (some ⟨b, 0, none⟩), .slice none 0 0, .slice none 0 0] 118)
 have hba := (Below.refl w1.heap.size w1).alloc (Nat.le_refl _) (.cells #[.pointer (some ⟨b, 0, none⟩), .slice none 0 0, .slice none 0 0] 118)
 have hza : (w1.alloc (.cells #[.pointer (some ⟨b, 0, none⟩), .slice none 0 0, .slice none 0 0] 118)).heap.size = w1.heap.size + 1 := by simp
 have hlb := (Array.getElem?_eq_some_iff.1 hrow).1
 have hll := (Array.getElem?_eq_some_iff.1 hlev).1
 have hlm := hmap.lt
 have hmid : MidC xs ss w1.heap.size b cm w 0 (.slice none 0 0) (w1.alloc (.cells #[.pointer (some ⟨b, 0, none⟩), .slice none 0 0, .slice none 0 0] 118)) := by
  refine ⟨.slice none 0 0, .slice none 0 0, [], strie0 l m, (fun k => k = l ∨ k = m), [], ⟨⟨hPr, Own.nil _ _ _, Own.nil _ _ _, (fun k h => by cases h), rfl⟩, (hba.block b hlb).trans hrow, strie0_ok ((hba.block l hll).trans hlev) (hmap.keep (hba.block m hlm)) (.inl rfl) (.inr rfl), fun k hk => ?_, ?_, hb1, hz1, ?_, fun k hk => ?_, (fun a h => by cases h), fun q => by simp [strie0], fun q a => by simp [strie0], fun q => ⟨List.nodup_nil, Nat.le_refl _⟩, List.nodup_nil, rfl, fun k hk => ?_⟩, Own.nil _ _ _, (fun q h => by cases h), hbel.trans (hba.mono hz1)⟩
  ·rcases hk with rfl | rfl <;> constructor <;> omega
  ·rintro (h | h)
   ·subst h; rw [hrow] at hlev; injection hlev with h; injection h with h1 h2; cases h2
   ·subst h; obtain ⟨es, c, hh, -⟩ := hmap; rw [hrow] at hh; cases hh
  ·rintro (h | h | h)
   ·omega
   ·cases h
   ·cases h
  ·rcases hk with h | h | h
   ·rintro (e | e) <;> omega
   ·cases h
   ·cases h
  ·obtain ⟨k1, k2, k3, k4, k5⟩ := hcm k hk
   have hkl := k1.lt
   refine ⟨k1.keep (hba.block k hkl), ?_, k5, ?_, k2⟩
   ·rintro (e | e)
    ·exact k4 e
    ·exact k3 e
   ·rintro (h | h | h)
    ·omega
    ·cases h
    ·cases h
 have HM0 := Lib.hid hmid
 generalize hPP : w1.heap.size = P at *
 clear hrow hlev hmap hbel hmid hPr hba hcm
 go_wp2
 go_loopw [7, 8] (fun o i wr => ∃ k : Nat, i = .int .i64 k ∧ k ≤ ss.length ∧ MidC xs ss P b cm w k o wr) (fun _ i _ => ss.length - (intOf i).toNat)
 case atStart => exact ⟨0, rfl, Nat.zero_le _, HM0.out⟩
 case round =>
  obtain ⟨k, rfl, hk, hM⟩ := hrel
  obtain ⟨vi, vs, subs, T, F, rest, hS, hown, hsep, hb⟩ := hM
  have hlk : subs.length = k := by have := hS.len; rw [List.length_take] at this; omega
  have hidl : (xs.take k).length ≤ 100 := by rw [List.length_take]; omega
  have HLK := Lib.hid hlk; clear hlk
  have HS := Lib.hid hS
  have hB := hb.size
  obtain ⟨oa, oc, rfl, -⟩ := hown.form
  have HOWN := Lib.hid hown
  have HSEP := Lib.hid hsep
  have HB := Lib.hid hb
  clear hown hsep
  by_cases hlt : k < ss.length
  ·have hkd : k < ds.length := by have := HDS.out; omega
   obtain ⟨s, hs⟩ : ∃ s, ss[k]? = some s := ⟨_, List.getElem?_eq_getElem hlt⟩
   obtain ⟨x, hx⟩ : ∃ x, xs[k]? = some x := ⟨_, List.getElem?_eq_getElem (by have := HXS.out; omega)⟩
   obtain ⟨gb, go, rfl, c0, c1, c2, c3, c4, c5⟩ := HV.out.at' hb hkd (HPUT.out k s x hs hx)
   have hxn : x ∉ xs.take k := fun h => by
    obtain ⟨j, hj, e⟩ := List.mem_iff_getElem.1 h
    rw [List.length_take] at hj
    have h1 : xs[j]? = some x := by rw [List.getElem?_eq_getElem (by omega)]; rw [List.getElem_take] at e; rw [e]
    have := nd_injI HND.out h1 hx
    omega
   have hsm := List.mem_of_getElem? hs
   have hput := stepPutC_any w.heap.size P b vi vs _ subs _ T F cm s x wr hS hxn (hss s hsm) hidl (hpp s hsm)
   have HSX := Lib.hid (And.intro hs hx)
   clear hs hx hxn hsm hS
   go_wp2_with fail
   refine hput.mono ?_
   rintro e w2 ⟨rfl, a, vi', vs', T', F', hS2, ho2, hF2, hP2, ha2⟩
   have hown2 : Own w2 w.heap.size 4 (.slice oa k oc) k rest := HOWN.out.only ho2 fun q hq h => HSEP.out q hq (by rcases h with h | h | h; exact .inl h; exact .inr (.inl h); exact .inr (.inr (.inl h)))
   have hsep2 : ∀ q, (Value.slice oa k oc).ownBlock = some q → ¬ CB P b vi' vs' (subs ++ [a]) F' cm q := fun q hq h => by
    have hqw := (HOWN.out.lt q hq).2
    have hs0 := HSEP.out q hq
    rcases h with h | h | h | h | h
    ·rcases hF2 q h with h | h
     ·exact hs0 (.inl h)
     ·omega
    ·exact hs0 (.inr (.inl h))
    ·rcases hP2 q h with h | h
     ·exact hs0 (.inr (.inr (.inl h)))
     ·omega
    ·rcases List.mem_append.1 h with h | h
     ·exact hs0 (.inr (.inr (.inr (.inl h))))
     ·have := List.mem_singleton.1 h; omega
    ·exact hs0 (.inr (.inr (.inr (.inr h))))
   have hlt2 : ∀ q, CB P b vi' vs' (subs ++ [a]) F' cm q → q < w2.heap.size := fun q h => hS2.ltB h
   have hbw2 : Below w.heap.size w w2 := HB.out.trans (ho2.below (fun q h => by
    rcases h with h | h | h
    ·exact (HS.out.lt q h).1
    ·rw [h]; exact HS.out.bge
    ·have := (HS.out.play.lt h).1; have := HS.out.Pge; omega) hB)
   have hB2 := hbw2.size
   have HS2 := Lib.hid hS2
   have HBW := Lib.hid hbw2
   clear hS2 ho2 hF2 hP2 ha2 hbw2 hput
   have hk4 : k < 549755813888 := by omega
   go_wp2_with (at_builtin; go_must (refine wpList_appX (W := w2) et61 rfl _ _ rfl w.heap.size (CB P b vi' vs' (subs ++ [a]) F' cm) (v := .slice oa k oc) (n := k) (xs := rest) (by rfl) hown2 hsep2 hlt2 [.int .i64 0, .int .i64 ((subs.length + 1 : Nat) : Int), .slice none 0 0, .slice none 0 0] (by rfl) rfl (by simp [Value.oneCell']) hk4 hB2 ?_); intro v' w5 hown5 hF5 honly5)
   go_roundw
   case rel =>
    refine ⟨k + 1, by go_num, hlt, vi', vs', subs ++ [a], T', F', _, ?_, hown5, hF5, ?_⟩
    ·rw [List.take_add_one, List.take_add_one, HSX.out.1, HSX.out.2]
     exact HS2.out.keepIf (fun q hq => honly5.block q (hlt2 q hq) fun e => hsep2 q e hq) honly5.size
    ·exact HBW.out.trans (honly5.below (fun q hq => (hown2.lt q hq).1) hB2)
   case measure => simp [intOf] <;> omega
  ·obtain rfl : k = ss.length := by omega
   have etx : xs.take ss.length = xs := List.take_of_length_le (by have := HXS.out; omega)
   have ets : ss.take ss.length = ss := List.take_of_length_le (Nat.le_refl _)
   have hS' := HS.out
   rw [etx, ets] at hS'
   have HS' := Lib.hid hS'
   clear hS' hS
   go_wp2
   go_ret2
   exact ⟨P, b, _, vi, vs, subs, T, F, cm, rfl, HS'.out, HB.out⟩
end Go.Proofs.YtehlmjecbljafaaGreatDoor
