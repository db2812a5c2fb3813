/- How a drawn region that writes is walked by the walks that stand. A drawn region's check of a pointer. What the plain functions on subjects come to: Tokens, Formed, Spaced, clean, tame, Literal, Wilds, Rest, letters, Places, Join. -/
import Derived.Test.YtehlmjecbljafaaGreatDoorQ4
import Derived.Test.YtehlmjecbljafaaGreatDoorQ5
import Derived.BigQuiet
import Derived.Deep.QuietTactic
namespace Go.Proofs.YtehlmjecbljafaaGreatDoor
open Go Go.RowKit
/-- Operations that hand back a value, whatever the world. -/
def opV (o : Oper) : Bool := match o.op with
  | .move _ | .assign _ | .load .. | .binOp .. | .unOp .. | .convert .. | .slice .. | .fieldAddr .. | .field .. | .indexAddr .. | .index .. => true
  | _ => false
/-- Operations that hand back a value or nothing. -/
def opU (o : Oper) : Bool := opV o || match o.op with
  | .alloc _ | .box .. | .build .. | .buildSlice .. | .store .. | .makeSlice .. | .makeInterface .. | .makeFunc .. => true
  | _ => false
theorem then_value {α : Type} {P : Program} {s : Sem α} {f : α → Next} {n : Next} {w w' : World} (h : (do pure (f (← s)) : Sem Next).run P w = .ok n w') : ∃ v, n = f v := by
  simp only [Sem.run_bind] at h
  cases hs : s.run P w with
  | ok v w1 => rw [hs] at h; simp only [Result.andThen_ok, Sem.run_pure] at h; cases h; exact ⟨v, rfl⟩
  | halt x w1 => rw [hs] at h; simp [Result.andThen] at h
theorem opV_ok {P : Program} {ρ : Operand → Value} {o : Oper} (ho : opV o = true) {n : Next} {w w' : World} (h : (execOp ρ o).run P w = .ok n w') : ∃ v, n = .value v := by
  unfold opV at ho
  unfold execOp at h
  split at ho <;> rename_i heq <;> simp only [heq] at h
  all_goals first
    | exact then_value h
    | (simp only [Sem.run_pure] at h; cases h; exact ⟨_, rfl⟩)
    | cases ho
theorem opU_ok {P : Program} {ρ : Operand → Value} {o : Oper} (ho : opU o = true) {n : Next} {w w' : World} (h : (execOp ρ o).run P w = .ok n w') : (∃ v, n = .value v) ∨ n = .skip := by
  unfold opU at ho
  rw [Bool.or_eq_true] at ho
  rcases ho with ho | ho
  · exact .inl (opV_ok ho h)
  · unfold execOp at h
    split at ho <;> rename_i heq <;> simp only [heq] at h
    all_goals first
      | exact .inl (then_value h)
      | (obtain ⟨-, hv⟩ := then_value (f := fun _ : Unit => Next.skip) h; exact .inr hv)
      | cases ho
section
variable {P : Program} {ops : Array Oper} {Q : Exit → Act → World → Prop} {C : World → Prop} {rd : Nat → Bool} {i j : Nat} {rest : List Nat} {o : Oper} {a : Act} {w : World}
theorem wpC_q (ho : ops[i]? = some o) (hr : rd i = true) (hv : opV o = true) (h : wpQuiet P ops C (fun a' => wpC P ops rd C Q (j :: rest) a' w) [o] a) : wpC P ops rd C Q (i :: j :: rest) a w := by
  refine wpC_rd ho hr fun K hK => ?_
  simp only [wpQuiet] at h
  split
  · rename_i hw
    rw [if_pos hw] at h
    obtain ⟨v, h1, h2⟩ := h
    refine ⟨v, fun w' hw' => ?_, hK _ h2⟩
    have := h1 w' hw'
    unfold Oper.quietAt at this
    cases hr : (execOp a.eval o).run P w' with
    | ok n w'' =>
      obtain ⟨u, rfl⟩ := opV_ok hv hr
      rw [hr] at this
      simp only [Oper.quietUpon] at this
      obtain ⟨rfl, rfl⟩ := this
      rfl
    | halt x w'' => rw [hr] at this; simp [Oper.quietUpon] at this
  · rename_i hw
    rw [if_neg hw] at h
    exact hK _ h
theorem wpC_w (ho : ops[i]? = some o) (hr : rd i = false) (hv : opU o = true) (h : wpList P ops (fun x a' w' => x = Exit.normal ∧ C w' ∧ wpC P ops rd C Q (j :: rest) a' w') [o] a w) : wpC P ops rd C Q (i :: j :: rest) a w := by
  simp only [wpC, ho, hr]
  rw [if_neg (by simp)]
  unfold chainOp
  simp only [wpList] at h
  split
  · rename_i hw
    rw [if_pos hw] at h
    rcases h with h | ⟨-, h⟩
    · unfold Oper.wp at h
      cases hr : (execOp a.eval o).run P w with
      | ok n w'' =>
        rw [hr] at h
        rcases opU_ok hv hr with ⟨u, rfl⟩ | rfl
        · exact h.2
        · exact h.2
      | halt x w'' =>
        rw [hr] at h
        cases x <;> simp [Oper.upon] at h
    · simp [LetsOut] at h
  · rename_i hw
    rw [if_neg hw] at h
    exact h.2
end
/-- i is among rs. -/
def inL (rs : List Nat) (i : Nat) : Bool := rs.contains i
/-- The same walk, with what is left of the region written out. -/
def wpCL (P : Program) (l : List Oper) (rd : Nat → Bool) (C : World → Prop) (Q : Exit → Act → World → Prop) (i : Nat) (l' : List Oper) (a : Act) (w : World) : Prop :=
  l.drop i = l' → wpC P l.toArray rd C Q (List.range' i l'.length) a w
section
variable {P : Program} {l : List Oper} {Q : Exit → Act → World → Prop} {C : World → Prop} {rd : Nat → Bool} {i : Nat} {rest : List Oper} {o o2 : Oper} {a : Act} {w : World}
theorem drop_at (h : l.drop i = o :: rest) : l.toArray[i]? = some o ∧ l.drop (i + 1) = rest := by
  have h1 : l[i]? = some o := by
    have := congrArg (·[0]?) h
    simpa using this
  refine ⟨by simpa using h1, ?_⟩
  have := congrArg List.tail h
  simpa [List.tail_drop] using this
theorem quiet_mono {ops : Array Oper} {K K' : Act → Prop} (h : ∀ a, K a → K' a) (hh : wpQuiet P ops C K [o] a) : wpQuiet P ops C K' [o] a := by
  simp only [wpQuiet] at *
  split
  · rename_i hw; rw [if_pos hw] at hh
    obtain ⟨v, h1, h2⟩ := hh
    exact ⟨v, h1, h _ h2⟩
  · rename_i hw; rw [if_neg hw] at hh; exact h _ hh
theorem wpCL_q (hr : rd i = true) (hv : opV o = true) (h : wpQuiet P l.toArray C (fun a' => wpCL P l rd C Q (i + 1) (o2 :: rest) a' w) [o] a) : wpCL P l rd C Q i (o :: o2 :: rest) a w := fun hd => by
  obtain ⟨h1, h2⟩ := drop_at hd
  simp only [List.length_cons, List.range'_succ]
  refine wpC_q h1 hr hv (quiet_mono (fun a' ha => ?_) h)
  simpa [List.range'_succ] using ha h2
theorem wpCL_w (hr : rd i = false) (hv : opU o = true) (h : wpList P l.toArray (fun x a' w' => x = Exit.normal ∧ C w' ∧ wpCL P l rd C Q (i + 1) (o2 :: rest) a' w') [o] a w) : wpCL P l rd C Q i (o :: o2 :: rest) a w := fun hd => by
  obtain ⟨h1, h2⟩ := drop_at hd
  simp only [List.length_cons, List.range'_succ]
  refine wpC_w h1 hr hv ?_
  simpa [wpCL, h2, List.range'_succ] using h
theorem wpCL_ch (hr : rd i = false) (hw : Region.wanted o (yielded l.toArray a.tmps) = true)
    (h : ∀ K : Value → World → Prop, (∀ v w', C w' → wpCL P l rd C Q (i + 1) (o2 :: rest) (a.put o.dst v) w' → K v w') → runsTo P K ((execOp a.eval o).run P w)) : wpCL P l rd C Q i (o :: o2 :: rest) a w := fun hd => by
  obtain ⟨h1, h2⟩ := drop_at hd
  simp only [List.length_cons, List.range'_succ]
  refine wpC_ch h1 hr hw fun K hK => h K fun v w' hC h3 => hK v w' hC ?_
  simpa [List.range'_succ] using h3 h2
theorem wpCL_last (h : wpList P l.toArray Q [o] a w) : wpCL P l rd C Q i [o] a w := fun hd => by
  obtain ⟨h1, h2⟩ := drop_at hd
  exact wpC_last h1 h
theorem wp_region_L {id : Nat} (rs : List Nat) (S : World → Prop) (hm : P.follows .mixedOrders = true) (hB : chainB l.toArray (inL rs) = true) (hS : S w.drew)
    (h : Nonempty (SubC S) → wpCL P l (inL rs) (fun w' => ∃ x : SubC S, w' = x.val) Q 0 l a w.drew) : (Code.region id l.toArray true).wp P Q a w :=
  wp_region_S rs S hm hB hS fun ne => by
    have := h ne rfl
    rwa [← List.range_eq_range'] at this
theorem cell_alloc {w : World} {a : Addr} {v : Value} (o : Obj) (h : w.cell? a = some v) : (w.alloc o).cell? a = some v := cell_bel h ((Below.refl _ _).alloc (Nat.le_refl _) o)
theorem Holds.cell {w : World} {B b i : Nat} {H : List (Nat × Obj)} {cs : Array Value} {t : TypeId} {v : Value} (h : Holds w B H) (hm : (b, .cells cs t (0, 0)) ∈ H) (hi : cs[i]? = some v) : w.cell? ⟨b, i, none⟩ = some v := by
  rw [cell_row (h.at' _ hm).2]; exact hi
theorem rows_back {W : World} {B : Nat} {x : Nat × Obj} {A H T : List (Nat × Obj)} (h : Holds W B (H ++ (x :: (A ++ T)))) : Holds W B (x :: (A ++ (H ++ T))) :=
  h.perm (((List.Perm.cons x (List.perm_append_comm_assoc A H T)).trans List.perm_middle.symm)).symm
theorem wp_any {c : Code} (F : World → Prop) (hF : F w) (h : ∀ W, F W → c.wp P Q a W) : c.wp P Q a w := h _ hF
end
end Go.Proofs.YtehlmjecbljafaaGreatDoor
namespace Go.Proofs.YtehlmjecbljafaaGreatDoor
open Go Go.RowKit
theorem wpCL_n {P : Program} {l : List Oper} {Q : Exit → Act → World → Prop} {C : World → Prop} {rd : Nat → Bool} {i : Nat} {rest : List Oper} {o o2 : Oper} {a : Act} {w : World} {x : Operand} {ad : Addr}
    (hop : o.op = .nilCheck x) (hx : a.eval x = .pointer (some ad)) (hr : rd i = true) (hw : Region.wanted o (yielded l.toArray a.tmps) = true)
    (h : wpCL P l rd C Q (i + 1) (o2 :: rest) (a.put o.dst (.pointer (some ad))) w) : wpCL P l rd C Q i (o :: o2 :: rest) a w := fun hd => by
  obtain ⟨h1, h2⟩ := drop_at hd
  simp only [List.length_cons, List.range'_succ]
  refine wpC_rd h1 hr fun K hK => ?_
  rw [if_pos hw]
  refine ⟨_, fun w' _ => ?_, hK _ (by simpa [List.range'_succ] using h h2)⟩
  unfold execOp
  simp [hop, hx]
end Go.Proofs.YtehlmjecbljafaaGreatDoor
namespace Go.Proofs.YtehlmjecbljafaaGreatDoor
open Go Go.RowKit
set_option maxRecDepth 100000 in
set_option maxHeartbeats 400000 in
theorem toks_any (s : ByteArray) (w : World) (hs : s.size ≤ 274877906944) :
    Calls Tryz.prog 42 #[.string s] w fun e w' => ∃ v, e = .returned v ∧ Own w' w.heap.size 1 v (toks s).length ((toks s).map Value.string) ∧ Below w.heap.size w w' := by
  go_enter Tryz.func42, Tryz.ntmps42
  go_wp2
  go_loopw [3, 4, 5] (fun v f i wr => ∃ (k kf : Nat) (ss : List ByteArray), k ≤ s.size ∧ kf ≤ k ∧ i = .int .i64 k ∧ f = .int .i64 kf ∧ Hid (Done s kf k ss) ∧ Own wr w.heap.size 1 v ss.length (ss.map Value.string) ∧ Below w.heap.size w wr) (fun _ _ i _ => s.size - (intOf i).toNat)
  case atStart => exact ⟨0, 0, [], by omega, by omega, rfl, rfl, done_start s, Own.nil _ _ _, Below.refl _ _⟩
  case round =>
    obtain ⟨k, kf, ss, hk, hkf, rfl, rfl, HD, hown, hbel⟩ := hrel
    have hB := hbel.size
    have hssl := done_len HD.out hk
    by_cases hlt : k < s.size
    · go_wp2_with (at_builtin; go_must (refine wpList_app1 et32 rfl _ _ rfl w.heap.size rfl hown [_] rfl rfl (by simp [Value.oneCell']) (by omega) hB ?_); intro v' w1 hown1 hgrow)
      · have hc : s[k] = 46 := byt ‹_› rfl
        go_roundw
        case rel => exact ⟨k+1, k+1, _, hlt, Nat.le_refl _, by go_num, by go_num, done_dot HD.out hlt hc, by simpa using hown1, bel_app hbel hgrow hown hB⟩
        case measure => simp [intOf]; omega
      · have hc : s[k] ≠ 46 := byf ‹_› rfl
        go_roundw
        case rel => exact ⟨k+1, kf, ss, hlt, by omega, by go_num, rfl, done_no HD.out hlt hkf hc, hown, hbel⟩
        case measure => simp [intOf]; omega
    · obtain rfl : k = s.size := by omega
      go_wp2_with (at_builtin; go_must (refine wpList_app1 et32 rfl _ _ rfl w.heap.size rfl hown [_] rfl rfl (by simp [Value.oneCell']) (by omega) hB ?_); intro v' w1 hown1 hgrow)
      go_ret
      refine ⟨_, rfl, ?_, bel_app hbel hgrow hown hB⟩
      rw [← done_end HD.out]
      simpa using hown1
set_option maxRecDepth 100000 in
set_option maxHeartbeats 400000 in
theorem formed_any (v : Value) (ss : List ByteArray) (w : World) (hsl : Sl w 1 v ss.length (ss.map Value.string)) (hn : ss.length ≤ 274877906944) :
    Calls Tryz.prog 99 #[v] w (RB (FormedP ss ss.length) w) := by
  obtain ⟨-, a, cap, rfl, h2, h3, h4⟩ := hsl
  have H4 := Lib.hid h4; clear h4
  go_enter Tryz.func99, Tryz.ntmps99
  go_wp2
  go_loop [3] (fun i => ∃ k : Nat, k ≤ ss.length ∧ i = .int .i64 k ∧ Hid (FormedP ss k)) (fun i => ss.length - (intOf i).toNat)
  case atStart => exact ⟨0, Nat.zero_le _, rfl, fun j t h => absurd h (by omega)⟩
  case round =>
    obtain ⟨k, hk, rfl, HF⟩ := hrel
    by_cases hlt : k < ss.length
    · obtain ⟨b, o, t, rfl, Ht, hc⟩ := slAt H4.out hlt
      go_wp2
      all_goals first
        | (go_ret; exact RB.no)
        | (go_round
           case rel => exact ⟨k + 1, hlt, by go_num, formed_step HF.out Ht.out (by rw [← toList_bs]; assumption) (by rw [← toList_bs]; intro e; first | omega | contradiction)⟩
           case measure => simp [intOf]; omega)
    · obtain rfl : k = ss.length := by omega
      go_wp2
      go_ret
      exact RB.of fun _ => HF.out
end Go.Proofs.YtehlmjecbljafaaGreatDoor
