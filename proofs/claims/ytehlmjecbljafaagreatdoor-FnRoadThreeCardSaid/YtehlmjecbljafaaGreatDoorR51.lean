/- The law FnRoadThree, of whatever arguments. The arguments that came in, as the walk wants them. The deeds that came in, as the walk wants them. The deeds that came in, with what is known of their values. -/
import Derived.Test.YtehlmjecbljafaaGreatDoorR6
import Derived.Test.YtehlmjecbljafaaGreatDoorR7
import Derived.Test.YtehlmjecbljafaaGreatDoorR49
import Derived.Test.YtehlmjecbljafaaGreatDoorR50
import Derived.Deep.Slices
import Derived.ChangeSlices
import Derived.ChangeArms
import Derived.ChangeSame
import Derived.SizedLaws
namespace Go.Proofs.YtehlmjecbljafaaGreatDoor
open Go Go.RowKit
set_option maxRecDepth 100000 in
set_option maxHeartbeats 800000 in
theorem fits5_big (v : Value) (ds : List Deed) (w : World) (hds : DeedsAt w v ds) (hn : 2147483647 < ds.length) : Calls Tryz.prog 20 #[v] w fun e w' => e = .returned (.bool false) ∧ w' = w := by
 obtain ⟨a, cap, rfl⟩ := Sl.form hds
 have hl := Sl.len hds
 have hn' : (ds.length : Int) > 2147483647 := by omega
 clear hds
 go_enter Tryz.func20, Tryz.ntmps20
 go_wp2
 go_ret
 exact ⟨rfl, rfl⟩
set_option maxRecDepth 100000 in
set_option maxHeartbeats 800000 in
theorem three_all (cache : Bool) (v v2 : Value) (ds list : List Deed) (w : World) (hds : DeedsAt w v ds) (hds2 : DeedsAt w v2 list) (hwf : ∀ d ∈ list, (Lit.int .i64 d.val).wf = true) :
  Calls Tryz.prog 5 #[.bool cache, v, v2] w fun e w' => e = .returned (.bool true) ∧ Below w.heap.size w w' := by
 by_cases hn : ds.length ≤ 274877906944
 ·by_cases hn2 : list.length ≤ 274877906944
  ·exact three_any cache v v2 ds list w hds hn hds2 hn2 hwf fun w1 h1 h2 => specTree_any v ds w1 h1 h2
  ·have hf := fits5_any v ds w hds hn
   have HP2 := Lib.hid hds2
   clear hds hds2 hwf
   go_enter Tryz.func5, Tryz.ntmps5
   go_wp2_with fail
   refine hf.mono ?_
   rintro e w1 ⟨bb, rfl, -, hb1⟩
   clear hf
   cases bb
   ·go_wp2
    go_ret
    exact ⟨rfl, hb1⟩
   ·have hf2 := fits5_big v2 list w1 (Sl.keep HP2.out hb1) (by omega)
    go_wp2_with fail
    refine hf2.mono ?_
    rintro e w2 ⟨rfl, rfl⟩
    clear hf2
    go_wp2
    go_ret
    exact ⟨rfl, hb1⟩
 ·have hf := fits5_big v ds w hds (by omega)
  clear hds hds2 hwf
  go_enter Tryz.func5, Tryz.ntmps5
  go_wp2_with fail
  refine hf.mono ?_
  rintro e w1 ⟨rfl, rfl⟩
  clear hf
  go_wp2
  go_ret
  exact ⟨rfl, Below.refl _ _⟩
end Go.Proofs.YtehlmjecbljafaaGreatDoor
namespace Go.Proofs.YtehlmjecbljafaaGreatDoor
open Go Go.RowKit Go.ChangeShapes Go.WideShapes Go.Deep
instance : Inhabited Part := ⟨⟨0, ⟨#[]⟩, 0, 0, none, 0, []⟩⟩
theorem cells3 : Tryz.prog.cellsOf 3 = 1 := by kernel_rfl
theorem cells9 : Tryz.prog.cellsOf 9 = 1 := by kernel_rfl
theorem addP (a : Addr) (i : Nat) (h : a.spot = none) : a.add i = ⟨a.block, a.off + i, none⟩ := by
 obtain ⟨b, o, s⟩ := a
 simp only at h
 subst h
 exact add0 b o i
section
variable {H : Type} {enc : TypeId × Value → H} {W : World} {sp : Nat → Bool} {held : Bool}
end
end Go.Proofs.YtehlmjecbljafaaGreatDoor
namespace Go.Proofs.YtehlmjecbljafaaGreatDoor
open Go Go.RowKit Go.ChangeShapes Go.WideShapes Go.Deep
instance : Inhabited Deed := ⟨⟨0, ⟨#[]⟩, 0⟩⟩
theorem cells39 : Tryz.prog.cellsOf 39 = 3 := by kernel_rfl
section
variable {H : Type} {enc : TypeId × Value → H} {W : World} {sp : Nat → Bool} {held : Bool}
end
end Go.Proofs.YtehlmjecbljafaaGreatDoor
namespace Go.Proofs.YtehlmjecbljafaaGreatDoor
open Go Go.RowKit Go.ChangeShapes Go.WideShapes Go.Deep
section
variable {H : Type} {enc : TypeId × Value → H} {W : World} {sp : Nat → Bool} {held : Bool}
set_option maxRecDepth 100000 in
theorem deed_in2 {n : Nat} {cs : List Value} {y : DataW H × List MemPlace} (h : DataW.trod enc Tryz.prog W 0 sp held n 39 cs = some y) : ∃ d : Deed, cs = d.cells ∧ (Lit.int .i64 d.val).wf = true := by
 obtain ⟨xs, k, hk, hxy, hcl, hxl, hf⟩ := DataW.trod_struct Tryz.underlying39 h
 rw [cells39] at hcl
 match xs, hxl, cs, hcl with
 | [y0, y1, y2], _, [v0, v1, v2], _ =>
  have g0 := hf 0 _ rfl
  have g1 := hf 1 _ rfl
  have g2 := hf 2 _ rfl
  simp [cells3, cells9] at g0 g1 g2
  obtain ⟨k0, e0, -, -⟩ := DataW.trod_int Tryz.underlying3 g0
  obtain ⟨s1, e1, -, -⟩ := DataW.trod_string Tryz.underlying9 g1
  obtain ⟨k2, e2, -, wk⟩ := DataW.trod_int Tryz.underlying3 g2
  simp at e0 e1 e2
  subst e0 e1 e2
  exact ⟨⟨k0, s1, k2⟩, rfl, wk⟩
theorem deeds_in2 {fuel : Nat} {v : Value} {x : DataW H × List MemPlace} (h : DataW.trod enc Tryz.prog W 0 sp held fuel 40 [v] = some x) : ∃ ds, DeedsAt W v ds ∧ ds.length ≤ maxLen ∧ ∀ d ∈ ds, (Lit.int .i64 d.val).wf = true := by
 rcases open_slice Tryz.underlying40 h with ⟨hcs, -⟩ | ⟨a, len, cap, m, n, D, Pl, hcs, -, hl, hm, hmm, hxd, hx⟩
 ·simp at hcs
  subst hcs
  exact ⟨[], ⟨rfl, _, _, rfl, Nat.le_refl _, by decide, fun h => absurd h (by decide)⟩, by simp, fun d h => by cases h⟩
 ·simp at hcs
  subst hcs
  have hlm : len ≤ m := by rw [hmm]; split <;> omega
  have each : ∀ i, i < len → ∃ d : Deed, (Lit.int .i64 d.val).wf = true ∧ ∀ j x, j < 3 → d.cells[j]? = some x → W.cell? (a.add (i * 3 + j)) = some x := fun i hi => by
   obtain ⟨cs', h1, h2⟩ := hx i (by omega)
   obtain ⟨d, rfl, hwf⟩ := deed_in2 h2
   rw [cells39] at h1
   obtain ⟨-, -, hcell⟩ := World.cells?_some h1
   refine ⟨d, hwf, fun j x hj hxj => ?_⟩
   have := hcell j hj
   rw [add_add] at this
   rw [this]
   simpa using hxj
  obtain ⟨q, hq⟩ := choose_lt each
  have hps : ∀ i, i < len → ((List.range len).map q)[i]? = some (q i) := fun i hi => by simp [hi]
  refine ⟨(List.range len).map q, ⟨by rw [flat_len (f := Deed.cells) (sz := 3) (fun _ => rfl)], some a, cap, by simp, by simpa using hl, hm, fun h0 => ?_⟩, by simp; omega, fun d hd => ?_⟩
  rotate_left
  ·obtain ⟨i, hi, rfl⟩ := List.mem_map.1 hd
   exact (hq i (List.mem_range.1 hi)).1
  have hlen0 : 0 < len := by
   rw [flat_len (f := Deed.cells) (sz := 3) (fun _ => rfl)] at h0
   simp at h0; omega
  have hspot : a.spot = none := by
   have := (hq 0 hlen0).2 0 _ (by omega) rfl
   simpa [Addr.add] using World.cell?_spot this
  refine ⟨a.block, a.off, by obtain ⟨b, o, s⟩ := a; simp only at hspot; subst hspot; rfl, fun j x hj => ?_⟩
  have hjl := (List.getElem?_eq_some_iff.1 hj).1
  rw [flat_len (f := Deed.cells) (sz := 3) (fun _ => rfl)] at hjl
  simp only [List.length_map, List.length_range] at hjl
  have hi : j / 3 < len := by omega
  have hr : j % 3 < 3 := Nat.mod_lt _ (by omega)
  have hfa := flat_at (f := Deed.cells) (sz := 3) (fun _ => rfl) ((List.range len).map q) (j / 3) (j % 3) hr _ (hps _ hi)
  have hjj : j / 3 * 3 + j % 3 = j := by omega
  rw [hjj, hj] at hfa
  have := (hq _ hi).2 _ x hr hfa.symm
  rw [hjj, addP a j hspot] at this
  exact this
end
end Go.Proofs.YtehlmjecbljafaaGreatDoor
