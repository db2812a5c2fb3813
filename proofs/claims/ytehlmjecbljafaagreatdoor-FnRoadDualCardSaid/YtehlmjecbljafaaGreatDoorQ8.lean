/- What the conditions of a mapping come to: valid, plain, Match, zzFits, Known, Reversible. What the conditions of a mapping come to: Known, Reversible. What Sound comes to, and mapping. What the texts of a mapping come to: Digits, kind, text, Dest. A mapping's plan: PlanOf. A mapping turned round: back. Plain words on what a mapping makes of a subject. Plain words: a filter is cut into parts at its wildcards, and a matching text runs through them. -/
import Derived.Test.YtehlmjecbljafaaGreatDoorQ4
import Derived.Test.YtehlmjecbljafaaGreatDoorQ5
import Derived.Test.YtehlmjecbljafaaGreatDoorQ6
import Derived.Test.YtehlmjecbljafaaGreatDoorQ7
namespace Go.Proofs.YtehlmjecbljafaaGreatDoor
open Go Go.RowKit
set_option maxRecDepth 100000 in
set_option maxHeartbeats 800000 in
theorem svalid_any (s : ByteArray) (w : World) (hs : s.size ≤ 137438953472) : Calls Tryz.prog 62 #[.string s] w (RBb (FormedP (toks s) (toks s).length) w) := by
  have hl := toks_len s
  go_enter Tryz.func62, Tryz.ntmps62
  go_wp2_with fail
  refine (toks_any s _ (by omega)).mono ?_
  rintro e w1 ⟨v, rfl, hown, hbel⟩
  have hsl := Lib.hid hown.sl; clear hown
  go_wp2_with fail
  refine (formed_any v _ _ hsl.out (by omega)).mono ?_
  rintro e w' ⟨b, rfl, hb, rfl⟩
  cases b
  · go_wp2
    go_ret
    exact RBb.no hbel
  · have Hb := Lib.hid (hb rfl); clear hb
    go_wp2_with (go_at_call 100; go_must (refine (spaced_any s _ (by omega)).mono ?_); rintro e w' ⟨b, rfl, -, rfl⟩)
    go_ret
    exact RBb.of (fun _ => Hb.out) hbel
set_option maxRecDepth 100000 in
set_option maxHeartbeats 800000 in
theorem valid_any (s : ByteArray) (w : World) (hs : s.size ≤ 137438953472) : Calls Tryz.prog 22 #[.string s] w (RBb (ValidS s) w) := by
  go_enter Tryz.func22, Tryz.ntmps22
  go_wp2_with fail
  refine (clean_any s _ (by omega)).mono ?_
  rintro e w' ⟨b, rfl, hb, rfl⟩
  cases b
  · go_wp2
    go_ret
    exact RBb.no (Below.refl _ _)
  · have hc := Lib.hid (hb rfl); clear hb
    go_wp2_with fail
    refine (svalid_any s _ hs).mono ?_
    rintro e w1 ⟨b, rfl, hb, hbel⟩
    cases b
    · go_wp2
      go_ret
      exact RBb.no hbel
    · have hf := Lib.hid (hb rfl); clear hb
      go_wp2_with fail
      refine (tame_any s _ hs (fun t ht => Nat.le_trans (toks_mem ht) hs)).mono ?_
      rintro e w2 ⟨b, rfl, hb, hbel2⟩
      go_wp2
      go_ret
      exact RBb.of (fun h => ⟨hc.out, hf.out, hb (by simpa using h)⟩) (bel2 hbel hbel2)
end Go.Proofs.YtehlmjecbljafaaGreatDoor
namespace Go.Proofs.YtehlmjecbljafaaGreatDoor
open Go Go.RowKit
end Go.Proofs.YtehlmjecbljafaaGreatDoor
namespace Go.Proofs.YtehlmjecbljafaaGreatDoor
open Go Go.RowKit
def restB (s : ByteArray) : Bool := (splitDot (bs s)).getLast? == some [62]
def SoundP (s : ByteArray) (ps : List Part) : Prop := FormedP (toks s) (toks s).length ∧ ∀ p, ps[ps.length - 1]? = some p → (restB s = true ↔ p.kind = 11)
structure MapP (s : ByteArray) (ps : List Part) : Prop where
  clean : CleanP s
  tame : TameS (toks s) (toks s).length
  few : ps.length ≤ 10
  some' : 0 < ps.length
  known : KnownN ps ps.length
  sound : SoundP s ps
end Go.Proofs.YtehlmjecbljafaaGreatDoor
namespace Go.Proofs.YtehlmjecbljafaaGreatDoor
open Go Go.RowKit
def chB (x : Int) : UInt8 := UInt8.ofNat x.toNat
def dig (n : Nat) : UInt8 := chB (48 + (n : Int) % 10)
def digitsL (n : Nat) : List UInt8 := if n < 10 then [dig n] else [dig (n / 10), dig n]
def kindN (k : Int) : Int := if k = 1 ∨ k = 2 then 1 else 0
def textL (kind : Int) (word : ByteArray) (n : Nat) : List UInt8 :=
  if kind = 0 then bs word else if kind = 11 then [62] else if kind = 1 then 36 :: digitsL n else [123, 123, 119, 105, 108, 100, 99, 97, 114, 100, 40] ++ digitsL n ++ [41, 125, 125]
/-- A part of a mapping that can be turned round. -/
structure PartOK (wn : Nat) (p : Part) : Prop where
  kind : (p.kind = 0 ∨ p.kind = 11) ∨ (p.kind = 1 ∨ p.kind = 2)
  n0 : 0 ≤ p.n
  n1 : p.n ≤ 99
  wild : p.kind = 1 ∨ p.kind = 2 → 1 ≤ p.n ∧ p.n ≤ wn
  word : p.word.size ≤ 2147483647
def textP (p : Part) : List UInt8 := textL p.kind p.word p.n.toNat
def texts (ps : List Part) : List (List UInt8) := ps.map textP
end Go.Proofs.YtehlmjecbljafaaGreatDoor
namespace Go.Proofs.YtehlmjecbljafaaGreatDoor
open Go Go.RowKit
def isWild (p : Part) : Prop := p.kind = 1 ∨ p.kind = 2
/-- The place that a part reads, as it lies in a list of blocks. -/
def PlAt (H : List (Nat × Obj)) (pl : List Nat) (p : Part) (v : Value) : Prop :=
  (¬ isWild p ∧ v = .slice none 0 0) ∨ (isWild p ∧ ∃ x : Nat, ∃ H1, RowIn 1 v 1 [Value.int .i64 x] H1 ∧ H1 ⊆ H ∧ pl[(p.n - 1).toNat]? = some x)
theorem PlAt.mono {H H' : List (Nat × Obj)} {pl : List Nat} {p : Part} {v : Value} (h : PlAt H pl p v) (hs : H ⊆ H') : PlAt H' pl p v := by
  rcases h with h | ⟨h, x, H1, h1, h2, h3⟩
  · exact .inl h
  · exact .inr ⟨h, x, H1, h1, fun _ hm => hs (h2 hm), h3⟩
def PlAts (H : List (Nat × Obj)) (pl : List Nat) (ps : List Part) (vs : List Value) (k : Nat) : Prop := vs.length = k ∧ ∀ (j : Nat) (p : Part) (v : Value), ps[j]? = some p → vs[j]? = some v → PlAt H pl p v
theorem PlAts.step {H H' : List (Nat × Obj)} {pl : List Nat} {ps : List Part} {vs : List Value} {k : Nat} {p : Part} {v : Value} (h : PlAts H pl ps vs k) (hp : ps[k]? = some p) (hv : PlAt H' pl p v) (hs : H ⊆ H') : PlAts H' pl ps (vs ++ [v]) (k + 1) := by
  refine ⟨by simp [h.1], fun j q u hq hu => ?_⟩
  by_cases e : j < vs.length
  · rw [List.getElem?_append_left e] at hu
    exact (h.2 j q u hq hu).mono hs
  · have e2 : j = vs.length := by
      have := (List.getElem?_eq_some_iff.1 hu).1
      simp at this; omega
    subst e2
    rw [h.1, hp] at hq; cases hq
    simp at hu; subst hu
    exact hv
theorem RowIn.form {sz n : Nat} {v : Value} {xs : List Value} {H : List (Nat × Obj)} (h : RowIn sz v n xs H) : ∃ a c, v = .slice a n c := by
  rcases h.2 with ⟨rfl, rfl, -⟩ | ⟨g, cap, cur, t, rfl, -⟩
  · exact ⟨_, _, rfl⟩
  · exact ⟨_, _, rfl⟩
def planCells (s D : ByteArray) (sv dv kv pv nv tv : Value) : Obj := .cells #[.string s, .string D, sv, dv, kv, pv, nv, tv] 36 (0, 0)
theorem size_setCell (w : World) (a : Addr) (v : Value) : (w.setCell a v).heap.size = w.heap.size := by simp [World.setCell]
structure Rw where
  v : Value
  n : Nat
  xs : List Value
/-- The plan while it is made. -/
def TSt (W : World) (B xb : Nat) (s D : ByteArray) (sv dv : Value) (k p n t : Rw) (Hr : List (Nat × Obj)) : Prop :=
  ∃ Hk Hp Hn Ht, Holds W B ((xb, planCells s D sv dv k.v p.v n.v t.v) :: (Hk ++ (Hp ++ (Hn ++ (Ht ++ Hr))))) ∧ RowIn 1 k.v k.n k.xs Hk ∧ RowIn 1 p.v p.n p.xs Hp ∧ RowIn 1 n.v n.n n.xs Hn ∧ RowIn 1 t.v t.n t.xs Ht
section
variable {W : World} {B xb : Nat} {s D : ByteArray} {sv dv : Value} {k p n t : Rw} {Hr : List (Nat × Obj)}
theorem TSt.head (h : TSt W B xb s D sv dv k p n t Hr) : W.heap[xb]? = some (planCells s D sv dv k.v p.v n.v t.v) := by
  obtain ⟨Hk, Hp, Hn, Ht, hh, -⟩ := h; exact hh.head
theorem TSt.mem (h : TSt W B xb s D sv dv k p n t Hr) {q : Nat × Obj} (hq : q ∈ Hr) : W.heap[q.1]? = some q.2 := by
  obtain ⟨Hk, Hp, Hn, Ht, hh, -⟩ := h; exact (hh.at' q (by simp [hq])).2
theorem TSt.keep {W' : World} (h : TSt W B xb s D sv dv k p n t Hr) (hb : Below W.heap.size W W') : TSt W' B xb s D sv dv k p n t Hr := by
  obtain ⟨Hk, Hp, Hn, Ht, hh, r⟩ := h; exact ⟨Hk, Hp, Hn, Ht, hh.keep hb, r⟩
theorem TSt.row (h : TSt W B xb s D sv dv k p n t Hr) : ∃ R, Holds W B ([] ++ R) ∧ ∀ w' H', Holds w' B (H' ++ R) → TSt w' B xb s D sv dv k p n t (H' ++ Hr) := by
  obtain ⟨Hk, Hp, Hn, Ht, hh, r⟩ := h
  refine ⟨_, hh, fun w' H' h' => ⟨Hk, Hp, Hn, Ht, ?_, r⟩⟩
  have := rows_back (A := Hk ++ (Hp ++ (Hn ++ Ht))) (T := Hr) (by simpa only [List.append_assoc] using h')
  simpa only [List.append_assoc] using this
end
/-- The place that a part reads. -/
def PlRd (w : World) (pl : List Nat) (p : Part) (v : Value) : Prop :=
  (¬ isWild p ∧ v = .slice none 0 0) ∨ (isWild p ∧ ∃ x : Nat, Sl w 1 v 1 [Value.int .i64 x] ∧ pl[(p.n - 1).toNat]? = some x)
/-- A mapping's plan, in memory. -/
structure PlanIs (w : World) (v : Value) (s D : ByteArray) (ps : List Part) (pl : List Nat) : Prop where
  is : ∃ sv dv kv pv nv tv pvs xs, v = .agg #[.string s, .string D, sv, dv, kv, pv, nv, tv] ∧ Sl w 1 sv (toks s).length ((toks s).map Value.string) ∧ Sl w 1 dv (toks D).length ((toks D).map Value.string) ∧
    Sl w 1 kv ps.length (ints (ps.map fun p => kindN p.kind)) ∧ Sl w 1 pv ps.length pvs ∧ Sl w 1 nv ps.length (ints (ps.map fun p => p.m)) ∧ Sl w 1 tv ps.length xs ∧
    pvs.length = ps.length ∧ ∀ (j : Nat) (p : Part) (u : Value), ps[j]? = some p → pvs[j]? = some u → PlRd w pl p u
theorem PlanIs.of {wr wf : World} {B b : Nat} {s D : ByteArray} {ps : List Part} {pl : List Nat} {sv dv : Value} {kv pv nv tv : Value} {pvs xs : List Value} {Hr : List (Nat × Obj)}
    (h : TSt wr B B s D sv dv ⟨kv, ps.length, ints ((ps.take ps.length).map fun p => kindN p.kind)⟩ ⟨pv, ps.length, pvs⟩ ⟨nv, ps.length, ints ((ps.take ps.length).map fun p => p.m)⟩ ⟨tv, ps.length, xs⟩ Hr)
    (hpl : PlAts Hr pl ps pvs ps.length) (hs : Own wr (b + 1) 1 sv (toks s).length ((toks s).map Value.string)) (hd : Own wr (b + 1) 1 dv (toks D).length ((toks D).map Value.string)) (hB : b < B)
    (hk : ∀ k, k ≠ b → wf.heap[k]? = wr.heap[k]?) : PlanIs wf (.agg #[.string s, .string D, sv, dv, kv, pv, nv, tv]) s D ps pl := by
  obtain ⟨Hk, Hp, Hn, Ht, hh, r1, r2, r3, r4⟩ := h
  have hh' := hh.keepIf (w' := wf) fun p hp => hk _ (by have := (hh.at' p hp).1; omega)
  have mine : ∀ {v : Value} {n : Nat} {ys : List Value} {H : List (Nat × Obj)}, RowIn 1 v n ys H → (∀ p ∈ H, p ∈ (B, planCells s D sv dv kv pv nv tv) :: (Hk ++ (Hp ++ (Hn ++ (Ht ++ Hr))))) → Sl wf 1 v n ys := by
    intro v n ys H r hm
    refine r.sl (B := B) ⟨?_, fun p hp => hh'.at' p (hm p hp)⟩
    rcases r.2 with ⟨-, -, rfl⟩ | ⟨g, cap, cur, t, -, rfl, -⟩ <;> simp
  have others : ∀ {v : Value} {n : Nat} {ys : List Value}, Own wr (b + 1) 1 v n ys → Sl wf 1 v n ys := fun h => (h.kept fun k hk' => hk _ (by have := (h.lt k hk').1; omega)).sl
  refine ⟨sv, dv, kv, pv, nv, tv, pvs, xs, rfl, others hs, others hd, ?_, mine r2 (fun p hp => by simp [hp]), ?_, mine r4 (fun p hp => by simp [hp]), hpl.1, fun j p u hp hu => ?_⟩
  · have := mine r1 (fun p hp => by simp [hp]); rwa [List.take_length] at this
  · have := mine r3 (fun p hp => by simp [hp]); rwa [List.take_length] at this
  · rcases hpl.2 j p u hp hu with h | ⟨h1, x, H1, h2, h3, h4⟩
    · exact .inl h
    · exact .inr ⟨h1, x, mine h2 (fun q hq => by simp [h3 hq]), h4⟩
end Go.Proofs.YtehlmjecbljafaaGreatDoor
namespace Go.Proofs.YtehlmjecbljafaaGreatDoor
open Go Go.RowKit
theorem IntRow.kb {w w' : World} {b n : Nat} (h : IntRow w b n) (hb : Below (b + 1) w w') : IntRow w' b n := by
  obtain ⟨us, h1, h2⟩ := h
  exact ⟨us, h1, by rw [hb.block b (by omega)]; exact h2⟩
end Go.Proofs.YtehlmjecbljafaaGreatDoor
namespace Go.Proofs.YtehlmjecbljafaaGreatDoor
open Go Go.RowKit
/-- Tokens, each with a dot behind it. -/
def dots (l : List (List UInt8)) : List UInt8 := l.flatMap fun t => t ++ [46]
theorem joinD_dots : ∀ (l r : List (List UInt8)), r ≠ [] → joinD (l ++ r) = dots l ++ joinD r
  | [], r, _ => by simp [dots]
  | t :: l, r, h => by
    have ih := joinD_dots l r h
    have hne : ∃ x xs, l ++ r = x :: xs := by
      cases l with
      | nil => cases r with
        | nil => exact absurd rfl h
        | cons y ys => exact ⟨_, _, rfl⟩
      | cons y ys => exact ⟨_, _, rfl⟩
    obtain ⟨x, xs, e⟩ := hne
    rw [List.cons_append, e]
    simp only [joinD]
    rw [← e, ih]
    simp [dots]
theorem joinD_one (t : List UInt8) : joinD [t] = t := rfl
theorem dots_snoc (l : List (List UInt8)) (t : List UInt8) : dots (l ++ [t]) = dots l ++ t ++ [46] := by simp [dots]
theorem dots_len (l : List (List UInt8)) : (dots l).length = sumL l := by
  induction l with
  | nil => simp [dots, sumL]
  | cons t r ih =>
    simp only [dots, List.flatMap_cons, List.length_append, List.length_cons, List.length_nil, sumL, List.foldr_cons] at ih ⊢
    omega
theorem splitDot_none : ∀ t : List UInt8, 46 ∉ t → splitDot t = [t]
  | [], _ => rfl
  | c :: r, h => by
    have hc : c ≠ 46 := fun e => h (by simp [e])
    have ih := splitDot_none r (fun hm => h (by simp [hm]))
    unfold splitDot
    rw [if_neg hc, ih]
theorem splitDot_dot : ∀ (t r : List UInt8), 46 ∉ t → splitDot (t ++ 46 :: r) = t :: splitDot r
  | [], r, _ => by
    rw [List.nil_append]
    conv => lhs; unfold splitDot
    rw [if_pos rfl]
  | c :: t, r, h => by
    have hc : c ≠ 46 := fun e => h (by simp [e])
    have ih := splitDot_dot t r (fun hm => h (by simp [hm]))
    rw [List.cons_append]
    conv => lhs; unfold splitDot
    rw [if_neg hc, ih]
theorem map_mk_bs (l : List (List UInt8)) : (l.map mk).map bs = l := by
  rw [List.map_map]
  conv => rhs; rw [← List.map_id l]
  apply List.map_congr_left
  intro t _
  exact bs_mk t
theorem splitDot_nodot {l t : List UInt8} (h : t ∈ splitDot l) : 46 ∉ t := by
  induction l generalizing t with
  | nil => simp [splitDot] at h; subst h; simp
  | cons c r ih =>
    unfold splitDot at h
    split at h
    · rcases List.mem_cons.1 h with rfl | h
      · simp
      · exact ih h
    · rename_i hc
      split at h
      · rename_i u us e
        rcases List.mem_cons.1 h with rfl | h
        · have := ih (t := u) (by rw [e]; simp)
          simp only [List.mem_cons, not_or]
          exact ⟨fun e => hc e.symm, this⟩
        · exact ih (t := t) (by rw [e]; simp [h])
      · simp at h; subst h; simp only [List.mem_cons, List.not_mem_nil, or_false]; exact fun e => hc e.symm
/-- What a part must be for a mapping that can be turned round. -/
def PartsOK (wn : Nat) (ps : List Part) : Prop := (∀ p ∈ ps, PartOK wn p) ∧ KnownN ps ps.length ∧ 0 < ps.length ∧ ps.length ≤ 10
theorem PartsOK.letters {wn : Nat} {ps : List Part} (h : PartsOK wn ps) {p : Part} (hp : p ∈ ps) (hk : p.kind = 0) : LettersP p.word := by
  obtain ⟨j, hj, e⟩ := List.mem_iff_getElem.1 hp
  exact (h.2.1 j p hj (by rw [List.getElem?_eq_getElem hj, e])).1 hk
theorem PartsOK.last {wn : Nat} {ps : List Part} (h : PartsOK wn ps) {j : Nat} {p : Part} (hp : ps[j]? = some p) (hk : p.kind = 11) : j + 1 = ps.length :=
  (h.2.1 j p (List.getElem?_eq_some_iff.1 hp).1 hp).2.1 hk
/-- What becomes of a part, and of all. -/
def outP (T : List ByteArray) (pl : List Nat) (p : Part) : List UInt8 := if p.kind = 0 then bs p.word else bs ((T[(pl[(p.n - 1).toNat]?).getD 0]?).getD ⟨#[]⟩)
def outT (T : List ByteArray) (pl : List Nat) (m : Nat) (ps : List Part) : List (List UInt8) := ps.flatMap fun p => if p.kind = 11 then (T.drop (m - 1)).map bs else [outP T pl p]
theorem outT_plain {T : List ByteArray} {pl : List Nat} {m : Nat} : ∀ {ps : List Part}, (∀ p ∈ ps, p.kind ≠ 11) → outT T pl m ps = ps.map (outP T pl)
  | [], _ => rfl
  | p :: r, h => by
    have ih := outT_plain (T := T) (pl := pl) (m := m) (ps := r) fun q hq => h q (by simp [hq])
    unfold outT at *
    rw [List.flatMap_cons, if_neg (h p (by simp)), ih]
    rfl
theorem outT_snoc {T : List ByteArray} {pl : List Nat} {m : Nat} {ps : List Part} {p : Part} (h : ∀ q ∈ ps, q.kind ≠ 11) (hp : p.kind = 11) : outT T pl m (ps ++ [p]) = ps.map (outP T pl) ++ (T.drop (m - 1)).map bs := by
  have := outT_plain (T := T) (pl := pl) (m := m) h
  unfold outT at *
  rw [List.flatMap_append, this]
  simp [hp]
/-- What is written behind k parts. -/
def OutSt (T : List ByteArray) (pl : List Nat) (ps : List Part) (k : Nat) (l : List UInt8) : Prop :=
  (∀ q ∈ ps.take k, q.kind ≠ 11) ∧ l = if k < ps.length then dots ((ps.take k).map (outP T pl)) else joinD (ps.map (outP T pl))
theorem outP_len {T : List ByteArray} {pl : List Nat} {p : Part} (hw : p.word.size ≤ 137438953472) (hT : sumL (T.map bs) ≤ 137438953472) : (outP T pl p).length ≤ 137438953472 := by
  unfold outP
  split
  · rw [bs_len]; exact hw
  · cases h : T[(pl[(p.n - 1).toNat]?).getD 0]? with
    | none => simp [bs]
    | some t =>
      have := sumL_mem (List.mem_map_of_mem (f := bs) (List.mem_of_getElem? h))
      simp only [Option.getD_some]
      omega
theorem sumL_le {l : List (List UInt8)} {n : Nat} (h : ∀ t ∈ l, t.length ≤ n) : sumL l ≤ l.length * (n + 1) := by
  induction l with
  | nil => simp [sumL]
  | cons t r ih =>
    have h1 := ih fun t ht => h t (by simp [ht])
    have h2 := h t (by simp)
    simp only [sumL, List.foldr_cons, List.length_cons] at h1 ⊢
    rw [Nat.succ_mul]; omega
theorem OutSt.len {T : List ByteArray} {pl : List Nat} {ps : List Part} {k : Nat} {l : List UInt8} (h : OutSt T pl ps k l) (hk : k < ps.length) (hw : ∀ p ∈ ps, p.word.size ≤ 137438953472) (hT : sumL (T.map bs) ≤ 137438953472) (hn : ps.length ≤ 10) : l.length ≤ 3298534883328 := by
  rw [h.2, if_pos hk, dots_len]
  refine Nat.le_trans (sumL_le (n := 137438953472) fun t ht => ?_) ?_
  · obtain ⟨p, hp, rfl⟩ := List.mem_map.1 ht
    exact outP_len (hw p (List.mem_of_mem_take hp)) hT
  · rw [List.length_map, List.length_take]
    have : min k ps.length ≤ 10 := by omega
    have := Nat.mul_le_mul_right 137438953473 this
    omega
theorem OutSt.step {T : List ByteArray} {pl : List Nat} {ps : List Part} {k : Nat} {l : List UInt8} {p : Part} (h : OutSt T pl ps k l) (hp : ps[k]? = some p) (h11 : p.kind ≠ 11) :
    (k + 1 < ps.length → OutSt T pl ps (k + 1) (l ++ outP T pl p ++ [46])) ∧ (¬ k + 1 < ps.length → OutSt T pl ps (k + 1) (l ++ outP T pl p)) := by
  have hk : k < ps.length := (List.getElem?_eq_some_iff.1 hp).1
  have e : ps.take (k + 1) = ps.take k ++ [p] := by rw [List.take_add_one, hp]; rfl
  have h1 : ∀ q ∈ ps.take (k + 1), q.kind ≠ 11 := by
    intro q hq
    rw [e] at hq
    rcases List.mem_append.1 hq with hq | hq
    · exact h.1 q hq
    · rw [List.mem_singleton] at hq; subst hq; exact h11
  have h2 := h.2
  rw [if_pos hk] at h2
  refine ⟨fun hl => ⟨h1, ?_⟩, fun hl => ⟨h1, ?_⟩⟩
  · rw [if_pos hl, e, List.map_append, List.map_cons, List.map_nil, dots_snoc, h2]
  · rw [if_neg hl]
    have e2 : ps = ps.take k ++ [p] := by
      rw [← e, List.take_of_length_le (by omega)]
    conv => rhs; rw [e2]
    rw [List.map_append, List.map_cons, List.map_nil, joinD_dots _ _ (by simp), joinD_one, h2]
/-- The words of the last '>' . -/
theorem OutSt.last {T : List ByteArray} {pl : List Nat} {m : Nat} {ps : List Part} {k : Nat} {l : List UInt8} {p : Part} (h : OutSt T pl ps k l) (hp : ps[k]? = some p) (h11 : p.kind = 11) (hk : k + 1 = ps.length) :
    l = dots ((ps.take k).map (outP T pl)) ∧ outT T pl m ps = (ps.take k).map (outP T pl) ++ (T.drop (m - 1)).map bs := by
  have h2 := h.2
  rw [if_pos (by omega)] at h2
  refine ⟨h2, ?_⟩
  have e : ps = ps.take k ++ [p] := by
    have : ps.take (k + 1) = ps.take k ++ [p] := by rw [List.take_add_one, hp]; rfl
    rw [← this, List.take_of_length_le (by omega)]
  conv => lhs; rw [e]
  exact outT_snoc h.1 h11
theorem OutSt.all {T : List ByteArray} {pl : List Nat} {m : Nat} {ps : List Part} {l : List UInt8} (h : OutSt T pl ps ps.length l) : l = joinD (outT T pl m ps) ∧ ∀ p ∈ ps, p.kind ≠ 11 := by
  have h1 := h.1
  rw [List.take_length] at h1
  refine ⟨?_, h1⟩
  rw [h.2, if_neg (by omega), outT_plain h1]
theorem toks_pos (s : ByteArray) : 0 < (toks s).length := by
  unfold toks; rw [List.length_map]; exact List.length_pos_iff.2 (splitDot_ne _)
/-- What is written behind the front F and the tokens from place m to place j. -/
def RestSt (F : List (List UInt8)) (T : List ByteArray) (m j : Nat) (l : List UInt8) : Prop :=
  l = if j < T.length then dots (F ++ ((T.drop m).map bs).take (j - m)) else joinD (F ++ (T.drop m).map bs)
theorem RestSt.start {F : List (List UInt8)} {T : List ByteArray} {m : Nat} {l : List UInt8} (h : l = dots F) (hm : m < T.length) : RestSt F T m m l := by
  unfold RestSt; rw [if_pos hm, h]; simp
theorem RestSt.all {F : List (List UInt8)} {T : List ByteArray} {m : Nat} {l : List UInt8} (h : RestSt F T m T.length l) : l = joinD (F ++ (T.drop m).map bs) := by
  unfold RestSt at h; rwa [if_neg (by omega)] at h
theorem RestSt.step {F : List (List UInt8)} {T : List ByteArray} {m j : Nat} {l : List UInt8} {u : ByteArray} (h : RestSt F T m j l) (hu : T[j]? = some u) (hm : m ≤ j) :
    (j + 1 < T.length → RestSt F T m (j + 1) (l ++ bs u ++ [46])) ∧ (¬ j + 1 < T.length → RestSt F T m (j + 1) (l ++ bs u)) := by
  have hj : j < T.length := (List.getElem?_eq_some_iff.1 hu).1
  unfold RestSt at h ⊢
  rw [if_pos hj] at h
  have e : ((T.drop m).map bs).take (j + 1 - m) = ((T.drop m).map bs).take (j - m) ++ [bs u] := by
    rw [show j + 1 - m = (j - m) + 1 by omega, List.take_add_one]
    congr 1
    rw [List.getElem?_map, List.getElem?_drop, show m + (j - m) = j by omega, hu]; rfl
  refine ⟨fun hl => ?_, fun hl => ?_⟩
  · rw [if_pos hl, e, ← List.append_assoc, dots_snoc, h]
  · rw [if_neg hl]
    have e2 : (T.drop m).map bs = ((T.drop m).map bs).take (j - m) ++ [bs u] := by
      rw [← e, List.take_of_length_le (by simp; omega)]
    conv => rhs; rw [e2]
    rw [← List.append_assoc, joinD_dots _ _ (by simp), joinD_one, h]
theorem sumL_append (a b : List (List UInt8)) : sumL (a ++ b) = sumL a + sumL b := by
  induction a with
  | nil => simp [sumL]
  | cons t r ih => simp only [List.cons_append, sumL, List.foldr_cons] at ih ⊢; omega
theorem sumL_drop (l : List (List UInt8)) (k : Nat) : sumL (l.drop k) ≤ sumL l := by
  have := sumL_append (l.take k) (l.drop k)
  rw [List.take_append_drop] at this
  omega
theorem RestSt.len {T : List ByteArray} {pl : List Nat} {ps : List Part} {k m j : Nat} {l : List UInt8} (h : RestSt ((ps.take k).map (outP T pl)) T m j l) (hw : ∀ q ∈ ps.take k, (outP T pl q).length ≤ 137438953472) (hT : sumL (T.map bs) ≤ 137438953472) (hn : ps.length ≤ 10) (hj : j < T.length) : l.length ≤ 3298534883328 := by
  unfold RestSt at h
  rw [if_pos hj] at h
  rw [h, dots_len, sumL_append]
  have h1 : sumL ((ps.take k).map (outP T pl)) ≤ 10 * 137438953473 := by
    refine Nat.le_trans (sumL_le (n := 137438953472) fun t ht => ?_) ?_
    · obtain ⟨p, hp, rfl⟩ := List.mem_map.1 ht
      exact hw p hp
    · rw [List.length_map, List.length_take]
      exact Nat.mul_le_mul_right _ (by omega)
  have h2 := sumL_take ((T.drop m).map bs) (j - m)
  have h3 : sumL ((T.drop m).map bs) ≤ sumL (T.map bs) := by rw [List.map_drop]; exact sumL_drop _ _
  omega
end Go.Proofs.YtehlmjecbljafaaGreatDoor
namespace Go.Proofs.YtehlmjecbljafaaGreatDoor
open Go Go.RowKit
/-- What a pattern's tokens must be. -/
structure PatP (P : List (List UInt8)) : Prop where
  ne : ∀ t ∈ P, t ≠ []
  nodot : ∀ t ∈ P, 46 ∉ t
  last : ∀ k : Nat, P[k]? = some [62] → k + 1 = P.length
  tame : ∀ t ∈ P, TameT t
  some' : P ≠ []
/-- The parts of a filter: run is what stands since the last wildcard. -/
def gB (run : List UInt8) : List UInt8 → List (List UInt8)
  | [] => if run = [] then [] else [run]
  | c :: r =>
    if c = 46 ∧ r.head? = some 42 then (run ++ [46]) :: [42] :: gB [] (r.drop 2)
    else if c = 46 ∧ r.head? = some 62 then [run ++ [46], [62]]
    else if c = 42 then [42] :: gB [] (r.drop 1)
    else if c = 62 then [[62]]
    else gB (run ++ [c]) r
termination_by l => l.length
decreasing_by all_goals (simp only [List.length_drop, List.length_cons]; omega)
theorem gB_lit : ∀ (q run r : List UInt8), (∀ c ∈ q, c ≠ 46 ∧ c ≠ 42 ∧ c ≠ 62) → gB run (q ++ r) = gB (run ++ q) r
  | [], run, r, _ => by simp
  | c :: q, run, r, h => by
    obtain ⟨h1, h2, h3⟩ := h c (by simp)
    rw [List.cons_append, gB, if_neg (fun h => h1 h.1), if_neg (fun h => h1 h.1), if_neg h2, if_neg h3, gB_lit q _ r fun x hx => h x (by simp [hx])]
    rw [List.append_assoc]; rfl
/-- Wildcards stand alone between points; no token is empty. -/
structure WildB (f : List UInt8) : Prop where
  alone : ∀ (i : Nat) (c : UInt8), f[i]? = some c → c = 42 ∨ c = 62 → (i = 0 ∨ f[i - 1]? = some 46) ∧ (f.length = i + 1 ∨ f[i + 1]? = some 46)
  last : ∀ i : Nat, f[i]? = some 62 → i + 1 = f.length
  dot : ∀ i : Nat, f[i]? = some 46 → ∃ c, f[i + 1]? = some c ∧ c ≠ 46
  first : f[0]? ≠ some 46
  ne : f ≠ []
def isWildT (t : List UInt8) : Prop := t = [42] ∨ t = [62]
theorem PatP.lit {P : List (List UInt8)} (h : PatP P) {t : List UInt8} (ht : t ∈ P) (hw : ¬ isWildT t) : ∀ c ∈ t, c ≠ 46 ∧ c ≠ 42 ∧ c ≠ 62 := by
  intro c hc
  refine ⟨fun e => h.nodot t ht (e ▸ hc), ?_⟩
  rcases h.tame t ht with h1 | h1
  · have hne := h.ne t ht
    cases t with
    | nil => cases hc
    | cons a r =>
      cases r with
      | cons b r => simp at h1
      | nil =>
        rw [List.mem_singleton] at hc
        subst hc
        exact ⟨fun e => hw (.inl (by rw [e])), fun e => hw (.inr (by rw [e]))⟩
  · exact h1 c hc
theorem PatP.tail {q : List UInt8} {P : List (List UInt8)} (h : PatP (q :: P)) (hP : P ≠ []) : PatP P :=
  ⟨fun t ht => h.ne t (by simp [ht]), fun t ht => h.nodot t (by simp [ht]), fun k hk => by
    have := h.last (k + 1) (by simpa using hk)
    simpa using this, fun t ht => h.tame t (by simp [ht]), hP⟩
theorem joinD_head {q : List UInt8} (hq : q ≠ []) (P : List (List UInt8)) : ∃ c r, q = c :: r ∧ (joinD (q :: P)).head? = some c := by
  cases q with
  | nil => exact absurd rfl hq
  | cons c r => exact ⟨c, r, rfl, by cases P <;> rfl⟩
theorem joinD_cons (q : List UInt8) {P : List (List UInt8)} (h : P ≠ []) : joinD (q :: P) = q ++ 46 :: joinD P := by
  cases P with
  | nil => exact absurd rfl h
  | cons t r => rfl
theorem PatP.wild {P : List (List UInt8)} (h : PatP P) : WildB (joinD P) := by
  induction P with
  | nil => exact absurd rfl h.some'
  | cons q P ih =>
    have hq := h.ne q (by simp)
    have hql : 0 < q.length := List.length_pos_iff.2 hq
    have hnd := h.nodot q (by simp)
    by_cases hP : P = []
    · subst hP
      rw [joinD_one]
      have hw : ∀ (i : Nat) (c : UInt8), q[i]? = some c → c = 42 ∨ c = 62 → q.length = 1 ∧ i = 0 := by
        intro i c hc hw
        have hi := (List.getElem?_eq_some_iff.1 hc).1
        rcases h.tame q (by simp) with h1 | h1
        · omega
        · have := h1 c (List.mem_of_getElem? hc); rcases hw with e | e
          · exact absurd e this.1
          · exact absurd e this.2
      refine ⟨fun i c hc hcw => ?_, fun i hi => ?_, fun i hi => absurd (List.mem_of_getElem? hi) hnd, fun h0 => absurd (List.mem_of_getElem? h0) hnd, hq⟩
      · obtain ⟨h1, h2⟩ := hw i c hc hcw; exact ⟨.inl h2, .inl (by omega)⟩
      · obtain ⟨h1, h2⟩ := hw i 62 hi (.inr rfl); omega
    · have hW := ih (h.tail hP)
      rw [joinD_cons q hP]
      have hJ : 0 < (joinD P).length := List.length_pos_iff.2 hW.ne
      have hlo : ∀ i : Nat, i < q.length → (q ++ 46 :: joinD P)[i]? = q[i]? := fun i hi => List.getElem?_append_left hi
      have hmid : (q ++ 46 :: joinD P)[q.length]? = some 46 := by rw [List.getElem?_append_right (Nat.le_refl _), Nat.sub_self]; rfl
      have hhi : ∀ i : Nat, (q ++ 46 :: joinD P)[q.length + 1 + i]? = (joinD P)[i]? := fun i => by
        rw [List.getElem?_append_right (by omega), show q.length + 1 + i - q.length = i + 1 by omega]; rfl
      have hlen : (q ++ 46 :: joinD P).length = q.length + 1 + (joinD P).length := by simp; omega
      refine ⟨fun i c hc hcw => ?_, fun i hi => ?_, fun i hi => ?_, ?_, by simp⟩
      · rcases Nat.lt_trichotomy i q.length with hi | hi | hi
        · rw [hlo i hi] at hc
          rcases h.tame q (by simp) with h1 | h1
          · have : i = 0 := by omega
            have : q.length = 1 := by omega
            exact ⟨.inl (by omega), .inr (by rw [show i + 1 = q.length by omega]; exact hmid)⟩
          · have := h1 c (List.mem_of_getElem? hc); rcases hcw with e | e
            · exact absurd e this.1
            · exact absurd e this.2
        · subst hi; rw [hmid] at hc; cases hc; rcases hcw with e | e <;> cases e
        · obtain ⟨j, rfl⟩ : ∃ j, i = q.length + 1 + j := ⟨i - (q.length + 1), by omega⟩
          rw [hhi] at hc
          obtain ⟨h1, h2⟩ := hW.alone j c hc hcw
          constructor
          · right
            rcases h1 with rfl | h1
            · rw [show q.length + 1 + 0 - 1 = q.length by omega]; exact hmid
            · by_cases hj : j = 0
              · subst hj; rw [show q.length + 1 + 0 - 1 = q.length by omega]; exact hmid
              · rw [show q.length + 1 + j - 1 = q.length + 1 + (j - 1) by omega, hhi]; exact h1
          · rcases h2 with h2 | h2
            · left; omega
            · right; rw [show q.length + 1 + j + 1 = q.length + 1 + (j + 1) by omega, hhi]; exact h2
      · rcases Nat.lt_trichotomy i q.length with h' | h' | h'
        · rw [hlo i h'] at hi
          exfalso
          rcases h.tame q (by simp) with h1 | h1
          · have hq1 : q = [62] := by
              cases q with
              | nil => cases hql
              | cons a r =>
                cases r with
                | cons b r => simp at h1
                | nil =>
                  have : i = 0 := by simp at h'; omega
                  subst this
                  simp at hi
                  rw [hi]
            have := h.last 0 (by rw [hq1]; rfl)
            simp only [List.length_cons] at this
            exact hP (List.eq_nil_of_length_eq_zero (by omega))
          · exact (h1 62 (List.mem_of_getElem? hi)).2 rfl
        · subst h'; rw [hmid] at hi; cases hi
        · obtain ⟨j, rfl⟩ : ∃ j, i = q.length + 1 + j := ⟨i - (q.length + 1), by omega⟩
          rw [hhi] at hi
          have := hW.last j hi
          omega
      · rcases Nat.lt_trichotomy i q.length with h' | h' | h'
        · rw [hlo i h'] at hi; exact absurd (List.mem_of_getElem? hi) hnd
        · subst h'
          have h0 : (joinD P)[0]? = some (joinD P)[0] := List.getElem?_eq_getElem hJ
          exact ⟨_, by rw [show q.length + 1 = q.length + 1 + 0 by omega, hhi]; exact h0, fun e => hW.first (by rw [h0, e])⟩
        · obtain ⟨j, rfl⟩ : ∃ j, i = q.length + 1 + j := ⟨i - (q.length + 1), by omega⟩
          rw [hhi] at hi
          obtain ⟨c, hc, hne⟩ := hW.dot j hi
          exact ⟨c, by rw [show q.length + 1 + j + 1 = q.length + 1 + (j + 1) by omega, hhi]; exact hc, hne⟩
      · rw [hlo 0 hql]
        intro e; exact hnd (List.mem_of_getElem? e)
theorem dropWhile_dot {t r : List UInt8} (h : 46 ∉ t) : ((t ++ 46 :: r).dropWhile (· ≠ 46)).drop 1 = r := by
  induction t with
  | nil => simp
  | cons a t ih =>
    have ha : a ≠ 46 := fun e => h (by simp [e])
    rw [List.cons_append, List.dropWhile_cons_of_pos (by simpa using ha)]
    exact ih fun hm => h (by simp [hm])
theorem ne_wild_of_dot {l : List UInt8} (h : 46 ∈ l) : l ≠ [42] ∧ l ≠ [62] := by
  constructor <;> rintro rfl <;> simp at h
theorem joinD_ne0 {t : List UInt8} {r : List (List UInt8)} (h : t ≠ []) : joinD (t :: r) ≠ [] := by
  cases r with
  | nil => exact h
  | cons u r => simp [joinD]
theorem joinD_neT {Tk : List (List UInt8)} (h : ∀ u ∈ Tk, u ≠ [] ∧ 46 ∉ u) (h0 : Tk ≠ []) : joinD Tk ≠ [] := by
  cases Tk with
  | nil => exact absurd rfl h0
  | cons t r => exact joinD_ne0 (h t (by simp)).1
end Go.Proofs.YtehlmjecbljafaaGreatDoor
