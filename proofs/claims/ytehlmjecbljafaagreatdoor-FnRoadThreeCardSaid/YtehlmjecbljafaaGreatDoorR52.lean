/- The law FnRoadThree holds: whatever the input (cache, l, list), the call returns true, and the input reads as it did. No condition but the row's own. -/
import Derived.Test.YtehlmjecbljafaaGreatDoorR1
import Derived.Test.YtehlmjecbljafaaGreatDoorR3
import Derived.Test.YtehlmjecbljafaaGreatDoorR51
namespace Go.Proofs.YtehlmjecbljafaaGreatDoor
open Go Go.ChangeShapes Go.WideShapes Go.ChangeAt Go.RowKit
theorem reads (os : Os) {H : Type} (enc : TypeId × Value → H) : ∃ places, DataW.whole enc Tryz.prog ((laidWorld os).forCall (fun _ _ => 0) ⟨#[], #[.bool false, .slice none 0 0, .slice none 0 0], []⟩).memory Tryz.f5.params.toList Rows.fnRoadThreeSpec.vars false #[Value.bool false, Value.slice none 0 0, Value.slice none 0 0].toList 8 = some ([.lit (.bool false), .nil, .nil], [], places) :=
 ⟨[], by kernel_rfl⟩
set_option maxRecDepth 100000 in
set_option maxHeartbeats 2000000 in
theorem lifted (os : Os) (started : os.Started) (H : Type) (enc : TypeId × Value → H) (F : Stop.Interp) :
  ReturnsInHanded {} Tryz.checked os 5 .any ((OpenSpec.ofChange Rows.fnRoadThreeSpec).preRow enc Tryz.prog Tryz.f5 Rows.fnRoadThreeRow.domain false Rows.fnRoadThreeRow.laid) (((OpenSpec.ofChange Rows.fnRoadThreeSpec).at F).post enc Tryz.prog Tryz.f5 false true false false) := by
 obtain ⟨places, hx⟩ := reads os enc
 refine returnsInHanded_of_row (C := Tryz.checked) (s := OpenSpec.ofChange Rows.fnRoadThreeSpec) ownK started (by kernel_rfl) Tryz.func5
  (witness_row_at (enc := enc) (C := Tryz.checked) false (laidWorld os) #[.bool false, .slice none 0 0, .slice none 0 0] rfl (by kernel_rfl) (by kernel_rfl) (by kernel_rfl)
   (OpenSpec.preRow_of_cond 8 hx (by kernel_rfl) (fun k hk => by cases hk) (by kernel_rfl) (laid_met os _))) ?_
 intro W base args ds gs before hval0 hW _ _ hsz0 _ _ _
 clear hsz0
 have hval : ∀ (j : Nat) t v, Tryz.f5.params[j]? = some t → args[j]? = some v → Value.okWide Tryz.prog W .any base t v := hval0
 clear hval0
 have hW' := hW
 obtain ⟨p, q, hA0, hV0, rfl, _, _⟩ := hW
 have hA : DataW.TrodAll enc Tryz.prog W 0 (fun _ => true) true Tryz.f5.params.toList args.toList ds p := hA0
 rw [Tryz.params5] at hA hval
 obtain ⟨v0, v1, v2, d0, d1, d2, p0, p1, p2, rfl, rfl, rfl, h0, h1, h2⟩ := trodAll_three hA
 obtain ⟨rfl, rfl⟩ := trodVars_none hV0
 have h0k := h0
 have h1k := h1
 have h2k := h2
 obtain ⟨fuel1, hf1⟩ := h1
 obtain ⟨fuel2, hf2⟩ := h2
 clear hA0 hV0 hA
 try simp only [List.append_nil] at hW'
 have hlt : ∀ x ∈ p0 ++ p1 ++ p2, x.block < W.heap.size := fun x hx => by simpa using hW'.lt x (by simpa using hx)
 obtain ⟨cache, rfl⟩ := okWide_bool Tryz.underlying4 (hval 0 4 v0 rfl rfl)
 obtain ⟨va, vl, vc, rfl⟩ := okWide_slice Tryz.underlying40 (hval 1 40 v1 rfl rfl)
 obtain ⟨vd, vm, ve, rfl⟩ := okWide_slice Tryz.underlying40 (hval 2 40 v2 rfl rfl)
 obtain ⟨l, hl, -, -⟩ := deeds_in2 hf1
 obtain ⟨list, hl2, -, hwf⟩ := deeds_in2 hf2
 refine (three_all cache _ _ l list W hl hl2 hwf).mono ?_
 rintro e W' ⟨rfl, bel⟩
 have e1 : ((OpenSpec.ofChange Rows.fnRoadThreeSpec).at F).fn H ([d0, d1, d2] ++ []) = { results := [.lit (.bool true)], args := [d0, d1, d2] } := rfl
 refine ⟨_, rfl, _, _, _, [], p0 ++ p1 ++ p2, [], hW', ?_, ?_, ?_, bel.frame _, fun h => by cases h⟩
 ·rw [e1]; exact trodAll_mk1 ⟨1, by kernel_rfl⟩
 ·rw [e1, List.append_assoc]
  exact trodAll_mk3 (Below.trod laidOutK (by kernel_rfl) (of_decide_eq_true (by kernel_rfl)) h0k bel (fun x hx => hlt x (by simp [hx]))) (Below.trod laidOutK (by kernel_rfl) (of_decide_eq_true (by kernel_rfl)) h1k bel (fun x hx => hlt x (by simp [hx]))) (Below.trod laidOutK (by kernel_rfl) (of_decide_eq_true (by kernel_rfl)) h2k bel (fun x hx => hlt x (by simp [hx])))
 ·rw [e1]; rfl
theorem saidThree : Rows.FnRoadThreeSaid :=
 OpenClaim.holds_of_cond 5 Tryz.f5 rfl rfl rfl rfl rfl rfl rfl ⟨rfl, rfl, rfl, rfl, rfl⟩ rfl rfl rfl rfl rfl fnameThree Tryz.func5 joinedThree instThree wrapThree
  (fun os started H enc _ F => by rw [OpenClaim.pre_eq_preRow]; exact lifted os started H enc F)
/-- No parameter wants a stand-in; the program's own looks. -/
theorem plainThree (f : FuncId) (fn : Func) (hf : Tryz.pinned.checked.prog.funcNamed "pub-tokenroad/laws.FnRoadThree" = some f) (hfn : Tryz.pinned.checked.prog.funcs[f]? = some fn) :
  true = Tryz.pinned.checked.prog.looks [] ∧ ∀ (j : Nat) t, fn.params[j]? = some t → Tryz.pinned.checked.prog.wantsStandIn t = false := by
 obtain rfl : f = 5 := Option.some.inj ((show Tryz.prog.funcNamed "pub-tokenroad/laws.FnRoadThree" = some 5 by kernel_rfl).symm.trans hf) |>.symm
 obtain rfl : fn = Tryz.f5 := (Option.some.inj (Tryz.func5.symm.trans hfn)).symm
 refine ⟨by kernel_rfl, fun j t ht => ?_⟩
 rw [Tryz.params5] at ht
 match j with
 | 0 => cases ht; exact (show Tryz.prog.wantsStandIn 4 = false by kernel_rfl)
 | 1 => cases ht; exact (show Tryz.prog.wantsStandIn 40 = false by kernel_rfl)
 | 2 => cases ht; exact (show Tryz.prog.wantsStandIn 40 = false by kernel_rfl)
 | j + 3 => simp at ht
/-- THE CARD. -/
theorem cardThree : Rows.FnRoadThreeCardSaid :=
 Claim7.holds_tied_plain_at .later [] _ _ _ _ saidThree (fun _ h => by cases h) (by kernel_rfl) (fun _ h => by cases h) fnRoadThree_row_tie rfl ⟨rfl, rfl⟩ (by kernel_rfl) rfl plainThree (by kernel_rfl)
#print axioms cardThree
end Go.Proofs.YtehlmjecbljafaaGreatDoor
