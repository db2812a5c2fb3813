/- The arguments that came in, as the walk wants them. The law FnRoadMapped, of whatever arguments. The law FnRoadMapped: its row and its card. Whatever the input, the call returns true, and the input reads as it did. -/
import Derived.Test.YtehlmjecbljafaaGreatDoorM3
import Derived.Test.YtehlmjecbljafaaGreatDoorM25
import Derived.Deep.Slices
import Derived.ChangeSlices
import Derived.ChangeArms
import Derived.ChangeSame
import Derived.SizedLaws
import Derived.Test.YtehlmjecbljafaaGreatDoorCards
import Derived.Test.YtehlmjecbljafaaGreatDoorTie
import Derived.WalkKit
import Derived.ProofKit
import Derived.OpenShut
import Derived.Deep.DeepHandedRow
namespace Go.Proofs.YtehlmjecbljafaaGreatDoor
open Go Go.RowKit Go.ChangeShapes Go.WideShapes Go.Deep
instance : Inhabited Part := ⟨⟨0, ⟨#[]⟩, 0, 0, none, 0, []⟩⟩
theorem cells70 : Tryz.prog.cellsOf 70 = 5 := by kernel_rfl
theorem cells3 : Tryz.prog.cellsOf 3 = 1 := by kernel_rfl
theorem cells9 : Tryz.prog.cellsOf 9 = 1 := by kernel_rfl
theorem cells33 : Tryz.prog.cellsOf 33 = 1 := by kernel_rfl
theorem addP (a : Addr) (i : Nat) (h : a.spot = none) : a.add i = ⟨a.block, a.off + i, none⟩ := by
  obtain ⟨b, o, s⟩ := a
  simp only at h
  subst h
  exact add0 b o i
section
variable {H : Type} {enc : TypeId × Value → H} {W : World} {sp : Nat → Bool} {held : Bool}
theorem ints_in {fuel : Nat} {v : Value} {x : DataW H × List MemPlace} (h : DataW.trod enc Tryz.prog W 0 sp held fuel 33 [v] = some x) : ∃ a c l, v = .slice a l.length c ∧ Sl W 1 (.slice a l.length c) l.length (ints l) := by
  rcases open_ints Tryz.underlying33 Tryz.underlying3 cells3 h with ⟨hcs, -⟩ | ⟨a, len, cap, zs, hcs, -, hl, hm, hz, -, hc, -⟩
  · simp at hcs
    exact ⟨none, 0, [], hcs, rfl, _, _, rfl, Nat.le_refl _, by decide, fun h => absurd h (by decide)⟩
  · simp at hcs
    have hlz : len ≤ zs.length := by rw [hz]; split <;> omega
    have hle : (zs.take len).length = len := by rw [List.length_take]; omega
    refine ⟨some a, cap, zs.take len, by rw [hle]; exact hcs, ?_⟩
    rw [hle]
    refine ⟨by simp [ints]; omega, _, _, rfl, hl, hm, fun h0 => ?_⟩
    have hlen0 : 0 < len := by simp [ints] at h0; omega
    have hspot : a.spot = none := by simpa [Addr.add] using World.cell?_spot (hc 0 (by omega))
    refine ⟨a.block, a.off, by obtain ⟨b, o, s⟩ := a; simp only at hspot; subst hspot; rfl, fun j x hx => ?_⟩
    unfold ints at hx
    rw [List.getElem?_map] at hx
    cases hj : (zs.take len)[j]? with
    | none => rw [hj] at hx; cases hx
    | some y =>
      rw [hj] at hx
      cases hx
      have hjl : j < len := by have := (List.getElem?_eq_some_iff.1 hj).1; omega
      rw [List.getElem?_take_of_lt hjl] at hj
      have := hc j (by omega)
      rw [addP a j hspot] at this
      rw [this]
      simp [List.getD, hj]
set_option maxRecDepth 100000 in
theorem part_in {n : Nat} {cs : List Value} {y : DataW H × List MemPlace} (h : DataW.trod enc Tryz.prog W 0 sp held n 70 cs = some y) : ∃ p : Part, cs = p.cells ∧ Sl W 1 (.slice p.aa p.ats.length p.ca) p.ats.length (ints p.ats) ∧ p.word.size ∈ y.1.weights Tryz.prog 70 := by
  obtain ⟨xs, k, hk, hxy, hcl, hxl, hf⟩ := DataW.trod_struct Tryz.underlying70 h
  rw [cells70] at hcl
  match xs, hxl, cs, hcl with
  | [y0, y1, y2, y3, y4], _, [v0, v1, v2, v3, v4], _ =>
    have g0 := hf 0 _ rfl
    have g1 := hf 1 _ rfl
    have g2 := hf 2 _ rfl
    have g3 := hf 3 _ rfl
    have g4 := hf 4 _ rfl
    simp [cells3, cells9, cells33] at g0 g1 g2 g3 g4
    obtain ⟨k0, e0, -, -⟩ := DataW.trod_int Tryz.underlying3 g0
    obtain ⟨s1, e1, hy1, -⟩ := DataW.trod_string Tryz.underlying9 g1
    obtain ⟨k2, e2, -, -⟩ := DataW.trod_int Tryz.underlying3 g2
    obtain ⟨k3, e3, -, -⟩ := DataW.trod_int Tryz.underlying3 g3
    obtain ⟨a, c, l, e4, hsl⟩ := ints_in g4
    simp at e0 e1 e2 e3
    subst e0 e1 e2 e3 e4
    refine ⟨⟨k0, s1, k2, k3, a, c, l⟩, rfl, hsl, ?_⟩
    rw [hxy]
    simp only [DataW.weights, Tryz.underlying70]
    refine DataW.weights_mem_each (j := 1) (t := 9) (d := y1.1) rfl rfl _ ?_
    rw [hy1]
    simp only [DataW.weights, List.mem_singleton]
    rfl
theorem weightsAll_in {e : TypeId} : ∀ {l : List (DataW H)} {d : DataW H}, d ∈ l → ∀ n ∈ d.weights Tryz.prog e, n ∈ DataW.weightsAll Tryz.prog e l
  | [], d, h, _, _ => by cases h
  | x :: r, d, h, n, hn => by
    simp only [DataW.weightsAll, List.mem_append]
    rcases List.mem_cons.1 h with rfl | h
    · exact .inl hn
    · exact .inr (weightsAll_in h n hn)
theorem parts_in {fuel : Nat} {v : Value} {x : DataW H × List MemPlace} (h : DataW.trod enc Tryz.prog W 0 sp held fuel 22 [v] = some x) (hwt : ∀ n ∈ x.1.weights Tryz.prog 22, n ≤ 140737488351232) : ∃ ps, PartsAt W v ps ∧ ps.length ≤ maxLen := by
  rcases open_slice Tryz.underlying22 h with ⟨hcs, -⟩ | ⟨a, len, cap, m, n, D, Pl, hcs, -, hl, hm, hmm, hxd, hx⟩
  · simp at hcs
    subst hcs
    exact ⟨[], ⟨⟨rfl, _, _, rfl, Nat.le_refl _, by decide, fun h => absurd h (by decide)⟩, fun p hp => by cases hp⟩, by simp⟩
  · simp at hcs
    subst hcs
    have hlm : len ≤ m := by rw [hmm]; split <;> omega
    have each : ∀ i, i < len → ∃ p : Part, p.okIn W ∧ ∀ j x, j < 5 → p.cells[j]? = some x → W.cell? (a.add (i * 5 + j)) = some x := fun i hi => by
      obtain ⟨cs', h1, h2⟩ := hx i (by omega)
      obtain ⟨p, rfl, hp1, hp2⟩ := part_in h2
      have hp : p.okIn W := by
        refine ⟨hp1, hwt _ ?_⟩
        rw [hxd]
        simp only [DataW.weights, Tryz.underlying22, List.mem_cons, List.mem_append]
        exact .inr (.inl (weightsAll_in (List.mem_map_of_mem (List.mem_range.2 hi)) _ hp2))
      rw [cells70] at h1
      obtain ⟨-, -, hcell⟩ := World.cells?_some h1
      refine ⟨p, hp, fun j x hj hxj => ?_⟩
      have := hcell j hj
      rw [add_add] at this
      rw [this]
      simpa using hxj
    obtain ⟨q, hq⟩ := choose_lt each
    have hps : ∀ i, i < len → ((List.range len).map q)[i]? = some (q i) := fun i hi => by simp [hi]
    refine ⟨(List.range len).map q, ⟨⟨by rw [flat_len (f := Part.cells) (sz := 5) (fun _ => rfl)], some a, cap, by simp, by simpa using hl, hm, fun h0 => ?_⟩, fun p hp => ?_⟩, by simp; omega⟩
    · have hlen0 : 0 < len := by
        rw [flat_len (f := Part.cells) (sz := 5) (fun _ => rfl)] at h0
        simp at h0; omega
      have hspot : a.spot = none := by
        have := (hq 0 hlen0).2 0 _ (by omega) rfl
        simpa [Addr.add] using World.cell?_spot this
      refine ⟨a.block, a.off, by obtain ⟨b, o, s⟩ := a; simp only at hspot; subst hspot; rfl, fun j x hj => ?_⟩
      have hjl := (List.getElem?_eq_some_iff.1 hj).1
      rw [flat_len (f := Part.cells) (sz := 5) (fun _ => rfl)] at hjl
      simp only [List.length_map, List.length_range] at hjl
      have hi : j / 5 < len := by omega
      have hr : j % 5 < 5 := Nat.mod_lt _ (by omega)
      have hfa := flat_at (f := Part.cells) (sz := 5) (fun _ => rfl) ((List.range len).map q) (j / 5) (j % 5) hr _ (hps _ hi)
      have hjj : j / 5 * 5 + j % 5 = j := by omega
      rw [hjj, hj] at hfa
      have := (hq _ hi).2 _ x hr hfa.symm
      rw [hjj, addP a j hspot] at this
      exact this
    · obtain ⟨i, hi, rfl⟩ := List.mem_map.1 hp
      exact (hq i (List.mem_range.1 hi)).1
end
end Go.Proofs.YtehlmjecbljafaaGreatDoor
namespace Go.Proofs.YtehlmjecbljafaaGreatDoor
open Go Go.RowKit
set_option maxRecDepth 100000 in
set_option maxHeartbeats 800000 in
theorem fits10_big (v : Value) (ps : List Part) (w : World) (hps : PartsAt w v ps) (hn : 2147483647 < ps.length) : Calls Tryz.prog 6 #[v] w fun e w' => e = .returned (.bool false) ∧ w' = w := by
  obtain ⟨a, cap, rfl⟩ := hps.1.form
  have hl := hps.1.len
  have hn' : (ps.length : Int) > 2147483647 := by omega
  clear hps
  go_enter Tryz.func6, Tryz.ntmps6
  go_wp2
  go_ret
  exact ⟨rfl, rfl⟩
set_option maxRecDepth 100000 in
set_option maxHeartbeats 800000 in
theorem mapped_all (s A : ByteArray) (v : Value) (ps : List Part) (w : World) (hps : PartsAt w v ps) (hs : s.size ≤ maxLen) (hA : A.size ≤ maxLen) :
    Calls Tryz.prog 3 #[.string s, v, .string A] w fun e w' => e = .returned (.bool true) ∧ Below w.heap.size w w' := by
  by_cases hn : ps.length ≤ 274877906944
  · exact mapped_any s A v ps w hps hn hs hA
  · have hf := fits10_big v ps w hps (by omega)
    clear hps
    by_cases hs1 : s.size ≤ 2147483647
    · have hs1' : ¬ ((s.size : Int) > 2147483647) := by omega
      go_enter Tryz.func3, Tryz.ntmps3
      go_wp2_with fail
      refine hf.mono ?_
      rintro e w1 ⟨rfl, rfl⟩
      go_wp2
      go_ret
      exact ⟨rfl, Below.refl _ _⟩
    · have hs1' : (s.size : Int) > 2147483647 := by omega
      go_enter Tryz.func3, Tryz.ntmps3
      go_wp2
      go_ret
      exact ⟨rfl, Below.refl _ _⟩
end Go.Proofs.YtehlmjecbljafaaGreatDoor
namespace Go.Proofs.YtehlmjecbljafaaGreatDoor
open Go Go.ChangeShapes Go.WideShapes Go.ChangeAt Go.RowKit
theorem ownK : ownKnob Tryz.prog.godebug = none := by kernel_rfl
theorem laidOutK : laidOutB Tryz.prog = true := by kernel_rfl
noncomputable def lowK : Nat := (World.holding Tryz.prog default ⟨#[], #[], []⟩).heap.size
/-- A world for the witness: the settled one, the variables holding what their initialisers lay. -/
noncomputable def laidWorld (os : Os) : World :=
  let w0 := World.holding Tryz.prog os ⟨#[.cells #[.string ⟨#[105, 110, 118, 97, 108, 105, 100, 32, 115, 117, 98, 106, 101, 99, 116]⟩] 390, .cells #[.string ⟨#[110, 111, 32, 109, 97, 116, 99, 104, 105, 110, 103, 32, 116, 114, 97, 110, 115, 102, 111, 114, 109, 115, 32, 97, 118, 97, 105, 108, 97, 98, 108, 101]⟩] 390, .cells #[.string ⟨#[103, 115, 108, 58, 32, 105, 110, 118, 97, 108, 105, 100, 32, 115, 117, 98, 106, 101, 99, 116]⟩] 390, .cells #[.string ⟨#[103, 115, 108, 58, 32, 110, 111, 32, 109, 97, 116, 99, 104, 101, 115, 32, 102, 111, 117, 110, 100]⟩] 390], #[], []⟩
  { w0 with heap := (((((((w0.heap.modify 0 fun
      | .cells _ t frozen => .cells #[.iface 366 (.pointer (some ⟨lowK + 0, 0, none⟩))] t frozen
      | o => o).modify 1 fun
      | .cells _ t frozen => .cells #[.iface 366 (.pointer (some ⟨lowK + 1, 0, none⟩))] t frozen
      | o => o).modify 2 fun
      | .cells _ t frozen => .cells #[.iface 366 (.pointer (some ⟨lowK + 2, 0, none⟩))] t frozen
      | o => o).modify 3 fun
      | .cells _ t frozen => .cells #[.iface 366 (.pointer (some ⟨lowK + 3, 0, none⟩))] t frozen
      | o => o).modify 7 fun
      | .cells _ t frozen => .cells #[.int .u64 1, .int .u64 10, .int .u64 100, .int .u64 1000, .int .u64 10000, .int .u64 100000, .int .u64 1000000, .int .u64 10000000, .int .u64 100000000, .int .u64 1000000000, .int .u64 10000000000, .int .u64 100000000000, .int .u64 1000000000000, .int .u64 10000000000000, .int .u64 100000000000000, .int .u64 1000000000000000, .int .u64 10000000000000000, .int .u64 100000000000000000, .int .u64 1000000000000000000, .int .u64 10000000000000000000] t frozen
      | o => o).modify 8 fun
      | .cells _ t frozen => .cells #[.int .u8 0, .int .u8 1, .int .u8 28, .int .u8 2, .int .u8 29, .int .u8 14, .int .u8 24, .int .u8 3, .int .u8 30, .int .u8 22, .int .u8 20, .int .u8 15, .int .u8 25, .int .u8 17, .int .u8 4, .int .u8 8, .int .u8 31, .int .u8 27, .int .u8 13, .int .u8 23, .int .u8 21, .int .u8 19, .int .u8 16, .int .u8 7, .int .u8 26, .int .u8 12, .int .u8 18, .int .u8 6, .int .u8 11, .int .u8 5, .int .u8 10, .int .u8 9] t frozen
      | o => o).modify 9 fun
      | .cells _ t frozen => .cells #[.int .u8 0, .int .u8 1, .int .u8 56, .int .u8 2, .int .u8 57, .int .u8 49, .int .u8 28, .int .u8 3, .int .u8 61, .int .u8 58, .int .u8 42, .int .u8 50, .int .u8 38, .int .u8 29, .int .u8 17, .int .u8 4, .int .u8 62, .int .u8 47, .int .u8 59, .int .u8 36, .int .u8 45, .int .u8 43, .int .u8 51, .int .u8 22, .int .u8 53, .int .u8 39, .int .u8 33, .int .u8 30, .int .u8 24, .int .u8 18, .int .u8 12, .int .u8 5, .int .u8 63, .int .u8 55, .int .u8 48, .int .u8 27, .int .u8 60, .int .u8 41, .int .u8 37, .int .u8 16, .int .u8 46, .int .u8 35, .int .u8 44, .int .u8 21, .int .u8 52, .int .u8 32, .int .u8 23, .int .u8 11, .int .u8 54, .int .u8 26, .int .u8 40, .int .u8 15, .int .u8 34, .int .u8 20, .int .u8 31, .int .u8 10, .int .u8 25, .int .u8 14, .int .u8 19, .int .u8 9, .int .u8 13, .int .u8 8, .int .u8 7, .int .u8 6] t frozen
      | o => o) }
set_option maxRecDepth 100000 in
theorem laid_met (os : Os) (args : Array Value) : laidMet Tryz.prog Rows.fnRoadMappedRow.laid ((laidWorld os).forCall (fun _ _ => 0) ⟨#[], args, []⟩).memory :=
  laidMet_of_run' 8 (by kernel_rfl) (by kernel_rfl)
end Go.Proofs.YtehlmjecbljafaaGreatDoor
