/- awakeSublist. -/
import Derived.Test.YtehlmjecbljafaaGreatDoorR47
namespace Go.Proofs.YtehlmjecbljafaaGreatDoor
open Go Go.RowKit
theorem toks_AB : toks sAB = [⟨#[97]⟩, ⟨#[98]⟩] := by rfl
theorem good_AB : GoodS sAB where
 heads k t h := by
  rw [toks_AB] at h
  match k, h with
  | 0, h => injection h with h; subst h; exact ⟨by decide, by decide, by decide⟩
  | 1, h => injection h with h; subst h; exact ⟨by decide, by decide, by decide⟩
  | k + 2, h => simp at h
 clean c h := by
  have : c = 97 ∨ c = 46 ∨ c = 98 := by
   have e : bs sAB = [97, 46, 98] := by rfl
   rw [e] at h
   simpa using h
  rcases this with rfl | rfl | rfl <;> decide
set_option maxRecDepth 100000 in
set_option maxHeartbeats 1600000 in
theorem awakeSublist_any (w : World) : Calls Tryz.prog 23 #[] w fun e w' => e = .returned (.bool true) ∧ Below w.heap.size w w' := by
 have hown : Own (w.alloc (.cells #[.int .i64 0, .string sAS, .string ⟨#[]⟩, .int .i64 3, .string ⟨#[]⟩, .slice none 0 0, .int .i64 2, .string ⟨#[]⟩, .string ⟨#[]⟩, .int .i64 0, .string sAB, .slice none 0 0] 55)) w.heap.size 6 (.slice (some ⟨w.heap.size, 0, none⟩) 2 2) 2 (([⟨0, sAS, 3, ⟨#[]⟩⟩, ⟨2, ⟨#[]⟩, 0, sAB⟩] : List StepD).flatMap StepD.cells) :=
  ⟨rfl, .inr ⟨w.heap.size, 2, _, 55, rfl, Nat.le_refl _, heap_alloc_new w _, Nat.le_refl _, by decide, by decide, rfl⟩⟩
 have hb0 := (Below.refl w.heap.size w).alloc (Nat.le_refl _) (.cells #[.int .i64 0, .string sAS, .string ⟨#[]⟩, .int .i64 3, .string ⟨#[]⟩, .slice none 0 0, .int .i64 2, .string ⟨#[]⟩, .string ⟨#[]⟩, .int .i64 0, .string sAB, .slice none 0 0] 55)
 have hp := slPlayM_any [3] [sAS] sAB _ [⟨0, sAS, 3, ⟨#[]⟩⟩, ⟨2, ⟨#[]⟩, 0, sAB⟩] _ hown.sl rfl (fun k s x h1 h2 => by
  match k, h1, h2 with
  | 0, h1, h2 => injection h1 with h1; injection h2 with h2; subst h1 h2; rfl
  | k + 1, h1, h2 => simp at h1) rfl rfl (by simp) sAS rfl path_AS (by decide) (fun s hs => by
  rw [List.mem_singleton] at hs
  subst hs
  show PatP ((toks sAS).map bs)
  rw [path_AS]; exact pat_AS) (by decide) good_AB ⟨#[97]⟩ ⟨#[98]⟩ toks_AB rfl rfl (by decide)
 have HB0 := Lib.hid hb0
 clear hown hb0
 go_enter Tryz.func23, Tryz.ntmps23
 go_wp2_with fail
 refine hp.mono ?_
 rintro e w2 ⟨u, rfl, uf, out, l, subs, e1, e2, e3, e4, e5, e6, ⟨e7, e8⟩, e9⟩
 have hout : out = [3] := by
  obtain ⟨a, rfl⟩ := List.length_eq_one_iff.1 e6
  have hl : l = [a] := by
   cases l with
   | nil => simp at e8
   | cons x l =>
    have hx : x = a := List.mem_singleton.1 (e7 x (List.mem_cons_self ..))
    cases l with
    | nil => rw [hx]
    | cons y l =>
     have hy : y = a := List.mem_singleton.1 (e7 y (by simp))
     subst hx hy
     exact absurd (List.mem_cons_self ..) (List.nodup_cons.1 e4).1
  subst hl
  obtain ⟨k, x, h1, h2, h3⟩ := e3.2 0 a rfl
  have hk : k = 0 := by
   match k, h1 with
   | 0, _ => rfl
   | k + 1, h1 => simp at h1
  subst hk
  injection h2 with h2
  subst h2
  obtain ⟨y, hy⟩ := List.length_eq_one_iff.1 e3.1
  rw [hy] at h3 ⊢
  injection h3 with h3
  rw [h3]
 subst hout
 replace e1 : Own w2 (w.alloc (.cells #[.int .i64 0, .string sAS, .string ⟨#[]⟩, .int .i64 3, .string ⟨#[]⟩, .slice none 0 0, .int .i64 2, .string ⟨#[]⟩, .string ⟨#[]⟩, .int .i64 0, .string sAB, .slice none 0 0] 55)).heap.size 4 u 2 (repl 1 ++ [.int .i64 0, .int .i64 1, uf, .slice none 0 0]) := e1
 replace e2 : Own w2 (w.alloc (.cells #[.int .i64 0, .string sAS, .string ⟨#[]⟩, .int .i64 3, .string ⟨#[]⟩, .slice none 0 0, .int .i64 2, .string ⟨#[]⟩, .string ⟨#[]⟩, .int .i64 0, .string sAB, .slice none 0 0] 55)).heap.size 1 uf 1 (ints [3]) := e2
 obtain ⟨ua, uc, rfl, -⟩ := e1.form
 obtain ⟨fa, fc, rfl, -⟩ := e2.form
 obtain ⟨ub, uo, rfl, hc⟩ := e1.sl.cell (Below.refl _ w2) (by rw [e1.1]; decide)
 obtain ⟨fb, fo, rfl, hf⟩ := e2.sl.cell (Below.refl _ w2) (by decide)
 have d1 := hc 1 (.int .i64 1) rfl
 have d6 := hc 6 (.slice (some ⟨fb, fo, none⟩) 1 fc) rfl
 have f0 : w2.cell? ⟨fb, fo, none⟩ = some (.int .i64 3) := hf 0 (.int .i64 3) rfl
 have HB := Lib.hid e9
 clear hc hf e1 e2 e3 e4 e5 e6 e7 e8 e9 hp
 go_wp2
 go_ret
 exact ⟨rfl, HB0.out.trans (HB.out.mono HB0.out.size)⟩
end Go.Proofs.YtehlmjecbljafaaGreatDoor
