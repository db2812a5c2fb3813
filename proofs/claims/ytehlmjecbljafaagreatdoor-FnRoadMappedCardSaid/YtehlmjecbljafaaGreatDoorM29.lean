/- The law FnRoadMapped holds: whatever the input (source, parts, subject), the call returns true, and the input reads as it did. No condition but the row's own. -/
import Derived.Test.YtehlmjecbljafaaGreatDoorM26
import Derived.Test.YtehlmjecbljafaaGreatDoorM28
namespace Go.Proofs.YtehlmjecbljafaaGreatDoor
open Go Go.ChangeShapes Go.WideShapes Go.ChangeAt Go.RowKit
theorem reads (os : Os) {H : Type} (enc : TypeId × Value → H) : ∃ places, DataW.whole enc Tryz.prog ((laidWorld os).forCall (fun _ _ => 0) ⟨#[], #[.string ⟨#[]⟩, .slice none 0 0, .string ⟨#[]⟩], []⟩).memory Tryz.f3.params.toList Rows.fnRoadMappedSpec.vars false #[Value.string ⟨#[]⟩, Value.slice none 0 0, Value.string ⟨#[]⟩].toList 8 = some ([.lit (.string []), .nil, .lit (.string [])], [], places) :=
  ⟨[], by kernel_rfl⟩
set_option maxRecDepth 100000 in
set_option maxHeartbeats 2000000 in
theorem lifted (os : Os) (started : os.Started) (H : Type) (enc : TypeId × Value → H) (F : Stop.Interp) :
    ReturnsInHanded {} Tryz.checked os 3 .any ((OpenSpec.ofChange Rows.fnRoadMappedSpec).preRow enc Tryz.prog Tryz.f3 Rows.fnRoadMappedRow.domain false Rows.fnRoadMappedRow.laid) (((OpenSpec.ofChange Rows.fnRoadMappedSpec).at F).post enc Tryz.prog Tryz.f3 false true false false) := by
  obtain ⟨places, hx⟩ := reads os enc
  refine returnsInHanded_of_row (C := Tryz.checked) (s := OpenSpec.ofChange Rows.fnRoadMappedSpec) ownK started (by kernel_rfl) Tryz.func3
    (witness_row_at (enc := enc) (C := Tryz.checked) false (laidWorld os) #[.string ⟨#[]⟩, .slice none 0 0, .string ⟨#[]⟩] rfl (by kernel_rfl) (by kernel_rfl) (by kernel_rfl)
      (OpenSpec.preRow_of_cond 8 hx (by kernel_rfl) (fun k hk => by cases hk) (by kernel_rfl) (laid_met os _))) ?_
  intro W base args ds gs before hval0 hW _ _ hsz0 _ _ _
  have hsz : (DataW.weightsEach Tryz.prog (Tryz.f3.params.toList ++ (OpenSpec.ofChange Rows.fnRoadMappedSpec).bare.plain.varTypes Tryz.prog) (ds ++ gs)).all (· ≤ reachBytes) = true := hsz0
  clear hsz0
  have hval : ∀ (j : Nat) t v, Tryz.f3.params[j]? = some t → args[j]? = some v → Value.okWide Tryz.prog W .any base t v := hval0
  clear hval0
  have hW' := hW
  obtain ⟨p, q, hA0, hV0, rfl, _, _⟩ := hW
  have hA : DataW.TrodAll enc Tryz.prog W 0 (fun _ => true) true Tryz.f3.params.toList args.toList ds p := hA0
  rw [Tryz.params3] at hA hsz hval
  obtain ⟨v0, v1, v2, d0, d1, d2, p0, p1, p2, rfl, rfl, rfl, h0, h1, h2⟩ := trodAll_three hA
  obtain ⟨rfl, rfl⟩ := trodVars_none hV0
  have h0k := h0
  have h1k := h1
  have h2k := h2
  obtain ⟨fuel0, hf0⟩ := h0
  obtain ⟨fuel1, hf1⟩ := h1
  obtain ⟨fuel2, hf2⟩ := h2
  clear hA0 hV0 hA
  try simp only [List.append_nil] at hW'
  replace hsz : (DataW.weightsEach Tryz.prog [9, 22, 9] [d0, d1, d2]).all (· ≤ reachBytes) = true := hsz
  have hlt : ∀ x ∈ p0 ++ p1 ++ p2, x.block < W.heap.size := fun x hx => by simpa using hW'.lt x (by simpa using hx)
  obtain ⟨va, vl, vc, rfl⟩ := okWide_slice Tryz.underlying22 (hval 1 22 v1 rfl rfl)
  obtain ⟨s, rfl, hs0⟩ := Go.ChangeMaps.open_string Tryz.underlying9 (hval 0 9 v0 rfl rfl) h0k
  obtain ⟨A, rfl, hA0⟩ := Go.ChangeMaps.open_string Tryz.underlying9 (hval 2 9 v2 rfl rfl) h2k
  obtain ⟨s', e0, -, hs⟩ := DataW.trod_string Tryz.underlying9 hf0
  obtain ⟨A', e2, -, hAs⟩ := DataW.trod_string Tryz.underlying9 hf2
  obtain rfl : s = s' := by simpa [Value.cells] using e0
  obtain rfl : A = A' := by simpa [Value.cells] using e2
  obtain ⟨ps, hps, -⟩ := parts_in hf1 (fun n hn => by
    have h3 := List.all_eq_true.1 hsz n (DataW.weights_mem_each (j := 1) (t := 22) (d := d1) rfl rfl n hn)
    have h4 : n ≤ reachBytes := by simpa using h3
    have h5 : reachBytes ≤ 140737488351232 := by decide
    omega)
  refine (mapped_all s A _ ps W hps hs hAs).mono ?_
  rintro e W' ⟨rfl, bel⟩
  have e1 : ((OpenSpec.ofChange Rows.fnRoadMappedSpec).at F).fn H ([d0, d1, d2] ++ []) = { results := [.lit (.bool true)], args := [d0, d1, d2] } := rfl
  refine ⟨_, rfl, _, _, _, [], p0 ++ p1 ++ p2, [], hW', ?_, ?_, ?_, bel.frame _, fun h => by cases h⟩
  · rw [e1]; exact trodAll_mk1 ⟨1, by kernel_rfl⟩
  · rw [e1, List.append_assoc]
    exact trodAll_mk3 (Below.trod laidOutK (by kernel_rfl) (of_decide_eq_true (by kernel_rfl)) h0k bel (fun x hx => hlt x (by simp [hx]))) (Below.trod laidOutK (by kernel_rfl) (of_decide_eq_true (by kernel_rfl)) h1k bel (fun x hx => hlt x (by simp [hx]))) (Below.trod laidOutK (by kernel_rfl) (of_decide_eq_true (by kernel_rfl)) h2k bel (fun x hx => hlt x (by simp [hx])))
  · rw [e1]; rfl
theorem saidMapped : Rows.FnRoadMappedSaid :=
  OpenClaim.holds_of_cond 3 Tryz.f3 rfl rfl rfl rfl rfl rfl rfl ⟨rfl, rfl, rfl, rfl, rfl⟩ rfl rfl rfl rfl rfl fnameMapped Tryz.func3 joinedMapped instMapped wrapMapped
    (fun os started H enc _ F => by rw [OpenClaim.pre_eq_preRow]; exact lifted os started H enc F)
/-- No parameter wants a stand-in; the program's own looks. -/
theorem plainMapped (f : FuncId) (fn : Func) (hf : Tryz.pinned.checked.prog.funcNamed "pub-tokenroad/laws.FnRoadMapped" = some f) (hfn : Tryz.pinned.checked.prog.funcs[f]? = some fn) :
    true = Tryz.pinned.checked.prog.looks [] ∧ ∀ (j : Nat) t, fn.params[j]? = some t → Tryz.pinned.checked.prog.wantsStandIn t = false := by
  obtain rfl : f = 3 := Option.some.inj ((show Tryz.prog.funcNamed "pub-tokenroad/laws.FnRoadMapped" = some 3 by kernel_rfl).symm.trans hf) |>.symm
  obtain rfl : fn = Tryz.f3 := (Option.some.inj (Tryz.func3.symm.trans hfn)).symm
  refine ⟨by kernel_rfl, fun j t ht => ?_⟩
  rw [Tryz.params3] at ht
  match j with
  | 0 => cases ht; exact (show Tryz.prog.wantsStandIn 9 = false by kernel_rfl)
  | 1 => cases ht; exact (show Tryz.prog.wantsStandIn 22 = false by kernel_rfl)
  | 2 => cases ht; exact (show Tryz.prog.wantsStandIn 9 = false by kernel_rfl)
  | j + 3 => simp at ht
/-- THE CARD. -/
theorem cardMapped : Rows.FnRoadMappedCardSaid :=
  Claim7.holds_tied_plain_at .later [] _ _ _ _ saidMapped (fun _ h => by cases h) (by kernel_rfl) (fun _ h => by cases h) fnRoadMapped_row_tie rfl ⟨rfl, rfl⟩ (by kernel_rfl) rfl plainMapped (by kernel_rfl)
#print axioms cardMapped
end Go.Proofs.YtehlmjecbljafaaGreatDoor
