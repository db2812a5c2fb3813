/- The law FnRoadDual holds: whatever the input (l, pattern), the call returns true, and the input reads as it did. No condition but the row's own. -/
import Derived.Test.YtehlmjecbljafaaGreatDoorQ1
import Derived.Test.YtehlmjecbljafaaGreatDoorQ3
import Derived.Test.YtehlmjecbljafaaGreatDoorQ45
namespace Go.Proofs.YtehlmjecbljafaaGreatDoor
open Go Go.ChangeShapes Go.WideShapes Go.ChangeAt Go.RowKit
theorem reads (os : Os) {H : Type} (enc : TypeId × Value → H) : ∃ places, DataW.whole enc Tryz.prog ((laidWorld os).forCall (fun _ _ => 0) ⟨#[], #[.slice none 0 0, .string ⟨#[]⟩], []⟩).memory Tryz.f4.params.toList Rows.fnRoadDualSpec.vars false #[Value.slice none 0 0, Value.string ⟨#[]⟩].toList 8 = some ([.nil, .lit (.string [])], [], places) :=
  ⟨[], by kernel_rfl⟩
set_option maxRecDepth 100000 in
set_option maxHeartbeats 2000000 in
theorem lifted (os : Os) (started : os.Started) (H : Type) (enc : TypeId × Value → H) (F : Stop.Interp) :
    ReturnsInHanded {} Tryz.checked os 4 .any ((OpenSpec.ofChange Rows.fnRoadDualSpec).preRow enc Tryz.prog Tryz.f4 Rows.fnRoadDualRow.domain false Rows.fnRoadDualRow.laid) (((OpenSpec.ofChange Rows.fnRoadDualSpec).at F).post enc Tryz.prog Tryz.f4 false true false false) := by
  obtain ⟨places, hx⟩ := reads os enc
  refine returnsInHanded_of_row (C := Tryz.checked) (s := OpenSpec.ofChange Rows.fnRoadDualSpec) ownK started (by kernel_rfl) Tryz.func4
    (witness_row_at (enc := enc) (C := Tryz.checked) false (laidWorld os) #[.slice none 0 0, .string ⟨#[]⟩] rfl (by kernel_rfl) (by kernel_rfl) (by kernel_rfl)
      (OpenSpec.preRow_of_cond 8 hx (by kernel_rfl) (fun k hk => by cases hk) (by kernel_rfl) (laid_met os _))) ?_
  intro W base args ds gs before hval0 hW _ _ hsz0 _ _ _
  clear hsz0
  have hval : ∀ (j : Nat) t v, Tryz.f4.params[j]? = some t → args[j]? = some v → Value.okWide Tryz.prog W .any base t v := hval0
  clear hval0
  have hW' := hW
  obtain ⟨p, q, hA0, hV0, rfl, _, _⟩ := hW
  have hA : DataW.TrodAll enc Tryz.prog W 0 (fun _ => true) true Tryz.f4.params.toList args.toList ds p := hA0
  rw [Tryz.params4] at hA hval
  obtain ⟨v0, v1, d0, d1, p0, p1, rfl, rfl, rfl, h0, h1⟩ := trodAll_two hA
  obtain ⟨rfl, rfl⟩ := trodVars_none hV0
  have h0k := h0
  have h1k := h1
  obtain ⟨fuel0, hf0⟩ := h0
  obtain ⟨fuel1, hf1⟩ := h1
  clear hA0 hV0 hA
  try simp only [List.append_nil] at hW'
  have hlt : ∀ x ∈ p0 ++ p1, x.block < W.heap.size := fun x hx => by simpa using hW'.lt x (by simpa using hx)
  obtain ⟨va, vl, vc, rfl⟩ := okWide_slice Tryz.underlying40 (hval 0 40 v0 rfl rfl)
  obtain ⟨s, rfl, hs0⟩ := Go.ChangeMaps.open_string Tryz.underlying9 (hval 1 9 v1 rfl rfl) h1k
  obtain ⟨l, hl, hlm⟩ := deeds_in hf0
  refine (dual_all _ l s W hl).mono ?_
  rintro e W' ⟨rfl, bel⟩
  have e1 : ((OpenSpec.ofChange Rows.fnRoadDualSpec).at F).fn H ([d0, d1] ++ []) = { results := [.lit (.bool true)], args := [d0, d1] } := rfl
  refine ⟨_, rfl, _, _, _, [], p0 ++ p1, [], hW', ?_, ?_, ?_, bel.frame _, fun h => by cases h⟩
  · rw [e1]; exact trodAll_mk1 ⟨1, by kernel_rfl⟩
  · rw [e1]
    exact trodAll_mk2 (Below.trod laidOutK (by kernel_rfl) (of_decide_eq_true (by kernel_rfl)) h0k bel (fun x hx => hlt x (by simp [hx]))) (Below.trod laidOutK (by kernel_rfl) (of_decide_eq_true (by kernel_rfl)) h1k bel (fun x hx => hlt x (by simp [hx])))
  · rw [e1]; rfl
theorem saidDual : Rows.FnRoadDualSaid :=
  OpenClaim.holds_of_cond 4 Tryz.f4 rfl rfl rfl rfl rfl rfl rfl ⟨rfl, rfl, rfl, rfl, rfl⟩ rfl rfl rfl rfl rfl fnameDual Tryz.func4 joinedDual instDual wrapDual
    (fun os started H enc _ F => by rw [OpenClaim.pre_eq_preRow]; exact lifted os started H enc F)
/-- No parameter wants a stand-in; the program's own looks. -/
theorem plainDual (f : FuncId) (fn : Func) (hf : Tryz.pinned.checked.prog.funcNamed "pub-tokenroad/laws.FnRoadDual" = some f) (hfn : Tryz.pinned.checked.prog.funcs[f]? = some fn) :
    true = Tryz.pinned.checked.prog.looks [] ∧ ∀ (j : Nat) t, fn.params[j]? = some t → Tryz.pinned.checked.prog.wantsStandIn t = false := by
  obtain rfl : f = 4 := Option.some.inj ((show Tryz.prog.funcNamed "pub-tokenroad/laws.FnRoadDual" = some 4 by kernel_rfl).symm.trans hf) |>.symm
  obtain rfl : fn = Tryz.f4 := (Option.some.inj (Tryz.func4.symm.trans hfn)).symm
  refine ⟨by kernel_rfl, fun j t ht => ?_⟩
  rw [Tryz.params4] at ht
  match j with
  | 0 => cases ht; exact (show Tryz.prog.wantsStandIn 40 = false by kernel_rfl)
  | 1 => cases ht; exact (show Tryz.prog.wantsStandIn 9 = false by kernel_rfl)
  | j + 2 => simp at ht
/-- THE CARD. -/
theorem cardDual : Rows.FnRoadDualCardSaid :=
  Claim7.holds_tied_plain_at .later [] _ _ _ _ saidDual (fun _ h => by cases h) (by kernel_rfl) (fun _ h => by cases h) fnRoadDual_row_tie rfl ⟨rfl, rfl⟩ (by kernel_rfl) rfl plainDual (by kernel_rfl)
#print axioms cardDual
end Go.Proofs.YtehlmjecbljafaaGreatDoor
