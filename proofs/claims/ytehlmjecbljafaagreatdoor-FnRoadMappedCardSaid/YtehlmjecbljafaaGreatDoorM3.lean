/- Words on slices of structs: elements of several cells; the parts of a mapping. What the conditions of a mapping come to: valid, plain, Match, zzFits, Known, Reversible. -/
import Derived.Test.YtehlmjecbljafaaGreatDoorM1
import Derived.Test.YtehlmjecbljafaaGreatDoorM2
import Derived.Deep.OwnRows
namespace Go.Proofs.YtehlmjecbljafaaGreatDoor
open Go Go.RowKit
theorem flat_at {α : Type} {f : α → List Value} {sz : Nat} (hf : ∀ x, (f x).length = sz) (l : List α) : ∀ (k i : Nat), i < sz → ∀ x, l[k]? = some x → (l.flatMap f)[k * sz + i]? = (f x)[i]? := by
  induction l with
  | nil => intro k i _ x h; simp at h
  | cons y r ih =>
    intro k i hi x h
    cases k with
    | zero =>
      simp at h; subst h
      rw [List.flatMap_cons, Nat.zero_mul, Nat.zero_add, List.getElem?_append_left (by rw [hf]; exact hi)]
    | succ k =>
      rw [List.flatMap_cons, List.getElem?_append_right (by rw [hf, Nat.succ_mul]; omega), hf, show (k + 1) * sz + i - sz = k * sz + i by rw [Nat.succ_mul]; omega]
      exact ih k i hi x (by simpa using h)
theorem flat_len {α : Type} {f : α → List Value} {sz : Nat} (hf : ∀ x, (f x).length = sz) (l : List α) : (l.flatMap f).length = l.length * sz := by
  induction l with
  | nil => simp
  | cons y r ih => rw [List.flatMap_cons, List.length_append, hf, ih, List.length_cons, Nat.succ_mul]; omega

/-- A part of a mapping's destination as it lies in memory. -/
structure Part where
  kind : Int
  word : ByteArray
  n : Int
  m : Int
  aa : Option Addr
  ca : Nat
  ats : List Int
def Part.cells (p : Part) : List Value := [.int .i64 p.kind, .string p.word, .int .i64 p.n, .int .i64 p.m, .slice p.aa p.ats.length p.ca]
def ints (l : List Int) : List Value := l.map fun n => Value.int .i64 n
def Part.okIn (w : World) (p : Part) : Prop := Sl w 1 (.slice p.aa p.ats.length p.ca) p.ats.length (ints p.ats) ∧ p.word.size ≤ 140737488351232
theorem Part.okIn.keep {w w' : World} {p : Part} (h : p.okIn w) (hb : Below w.heap.size w w') : p.okIn w' := ⟨h.1.keep hb, h.2⟩
/-- A slice of parts that is read. -/
def PartsAt (w : World) (v : Value) (ps : List Part) : Prop := Sl w 5 v ps.length (ps.flatMap Part.cells) ∧ ∀ p ∈ ps, p.okIn w
theorem PartsAt.keep {w w' : World} {v : Value} {ps : List Part} (h : PartsAt w v ps) (hb : Below w.heap.size w w') : PartsAt w' v ps := ⟨h.1.keep hb, fun p hp => ⟨(h.2 p hp).1.keep hb, (h.2 p hp).2⟩⟩
theorem PartsAt.at' {w wr : World} {a : Option Addr} {n cap : Nat} {ps : List Part} (h : PartsAt w (.slice a n cap) ps) (hb : Below w.heap.size w wr) {k : Nat} (hk : k < ps.length) :
    ∃ b o p, a = some ⟨b, o, none⟩ ∧ Hid (ps[k]? = some p) ∧ wr.cell? ⟨b, o + k * 5, none⟩ = some (.int .i64 p.kind) ∧ wr.cell? ⟨b, o + k * 5 + 1, none⟩ = some (.string p.word) ∧
      wr.cell? ⟨b, o + k * 5 + 2, none⟩ = some (.int .i64 p.n) ∧ wr.cell? ⟨b, o + k * 5 + 3, none⟩ = some (.int .i64 p.m) ∧ wr.cell? ⟨b, o + k * 5 + 4, none⟩ = some (.slice p.aa p.ats.length p.ca) ∧ p.okIn wr := by
  have hok := (h.keep hb).2
  obtain ⟨h1, -⟩ := h
  have hl := flat_len (f := Part.cells) (sz := 5) (fun _ => rfl) ps
  obtain ⟨-, a', cap', e, -⟩ := id h1
  cases e
  obtain ⟨b, o, rfl, hc⟩ := h1.cell hb (by rw [hl]; omega)
  have hp : ps[k]? = some ps[k] := List.getElem?_eq_getElem hk
  have hh : ∀ i, i < 5 → ∀ x, (Part.cells ps[k])[i]? = some x → wr.cell? ⟨b, o + k * 5 + i, none⟩ = some x := by
    intro i hi x hx
    have := hc (k * 5 + i) x (by rw [flat_at (f := Part.cells) (sz := 5) (fun _ => rfl) ps k i hi _ hp]; exact hx)
    rw [Nat.add_assoc]; exact this
  exact ⟨b, o, ps[k], rfl, hp, hh 0 (by omega) _ rfl, hh 1 (by omega) _ rfl, hh 2 (by omega) _ rfl, hh 3 (by omega) _ rfl, hh 4 (by omega) _ rfl, hok _ (List.getElem_mem hk)⟩

theorem Sl.int {w wr : World} {n cap : Nat} {a : Option Addr} {l : List Int} (h : Sl w 1 (.slice a n cap) n (ints l)) (hb : Below w.heap.size w wr) {k : Nat} (hk : k < l.length) :
    ∃ b o t, a = some ⟨b, o, none⟩ ∧ Hid (l[k]? = some t) ∧ wr.cell? ⟨b, o + k, none⟩ = some (.int .i64 t) ∧ b < wr.heap.size := by
  obtain ⟨b, o, rfl, hc⟩ := h.cell hb (by simp [ints]; omega)
  have := hc k (.int .i64 l[k]) (by simp [ints, List.getElem?_eq_getElem hk])
  exact ⟨b, o, l[k], rfl, List.getElem?_eq_getElem hk, this, World.block_lt_of_cell? _ _ this⟩

/-- What Known tells of a part at a place. -/
def KnownAt (ps : List Part) (j : Nat) (p : Part) : Prop := (p.kind = 0 → LettersP p.word) ∧ (p.kind = 11 → j + 1 = ps.length) ∧ 0 ≤ p.n ∧ p.n ≤ 99 ∧ 0 ≤ p.m ∧ p.m ≤ 99 ∧ 0 ≤ p.kind ∧ p.kind ≤ 11
def KnownN (ps : List Part) (n : Nat) : Prop := ∀ j p, j < n → ps[j]? = some p → KnownAt ps j p
theorem known_step {ps : List Part} {k : Nat} {p : Part} (h : KnownN ps k) (hp : ps[k]? = some p) (h1 : KnownAt ps k p) : KnownN ps (k+1) := by
  intro j q hj hq
  by_cases e : j = k
  · subst e; rw [hp] at hq; cases hq; exact h1
  · exact h j q (by omega) hq

theorem splitDot_mem {l t : List UInt8} (h : t ∈ splitDot l) : t.length ≤ l.length := by
  induction l generalizing t with
  | nil => simp [splitDot] at h; subst h; simp
  | cons c r ih =>
    unfold splitDot at h
    split at h
    · rcases List.mem_cons.1 h with rfl | h
      · simp
      · have := ih h; simp; omega
    · split at h
      · rename_i u us e
        rcases List.mem_cons.1 h with rfl | h
        · have := ih (t := u) (by rw [e]; simp); simp; omega
        · have := ih (t := t) (by rw [e]; simp [h]); simp; omega
      · simp at h; subst h; simp
theorem toks_mem {s t : ByteArray} (h : t ∈ toks s) : t.size ≤ s.size := by
  obtain ⟨u, hu, rfl⟩ := List.mem_map.1 h
  have := splitDot_mem hu
  rw [bs_len] at this
  rw [mk_size]; exact this
/-- A subject of which something is said. -/
structure ValidS (s : ByteArray) : Prop where
  clean : CleanP s
  formed : FormedP (toks s) (toks s).length
  tame : TameS (toks s) (toks s).length
structure PlainS (s : ByteArray) : Prop extends ValidS s where
  lit : LitP (toks s) (toks s).length
def RevP (ps : List Part) (n : Int) (k : Nat) : Prop := ∀ j p, j < k → ps[j]? = some p → (p.kind = 0 ∨ p.kind = 11) ∨ ((p.kind = 1 ∨ p.kind = 2) ∧ 1 ≤ p.n ∧ p.n ≤ n)
theorem rev_step {ps : List Part} {n : Int} {k : Nat} {p : Part} (h : RevP ps n k) (hp : ps[k]? = some p) (h1 : (p.kind = 0 ∨ p.kind = 11) ∨ ((p.kind = 1 ∨ p.kind = 2) ∧ 1 ≤ p.n ∧ p.n ≤ n)) : RevP ps n (k+1) := by
  intro j q hj hq
  by_cases e : j = k
  · subst e; rw [hp] at hq; cases hq; exact h1
  · exact h j q (by omega) hq
theorem nb {b : Bool} (h : (!b) = false) : b = true := by simpa using h

/-- Block b is a row of n whole numbers, whatever they are. -/
def IntRow (w : World) (b n : Nat) : Prop := ∃ us : List Int, us.length = n ∧ w.heap[b]? = some (.cells (us.map (Value.int .i64)).toArray 3 (0, 0))
theorem IntRow.made (w : World) (n : Nat) : IntRow (w.alloc (.cells (madeCells #[.int .i64 0] n) 3)) w.heap.size n := by
  refine ⟨List.replicate n 0, by simp, ?_⟩
  rw [heap_alloc_new]
  have : (madeCells #[Value.int .i64 0] n) = (List.map (Value.int .i64) (List.replicate n 0)).toArray := by
    apply Array.ext'
    rw [toList_madeCells_one]; simp
  rw [this]
theorem IntRow.lt {w : World} {b n : Nat} (h : IntRow w b n) : b < w.heap.size := by
  obtain ⟨us, -, hb⟩ := h; exact (Array.getElem?_eq_some_iff.1 hb).1
theorem IntRow.keep {w w' : World} {b n : Nat} (h : IntRow w b n) (hb : Below w.heap.size w w') : IntRow w' b n := by
  obtain ⟨us, h1, h2⟩ := h; exact ⟨us, h1, by rw [hb.block b (Array.getElem?_eq_some_iff.1 h2).1]; exact h2⟩
theorem IntRow.cell {w : World} {b n k : Nat} (h : IntRow w b n) (hk : k < n) : ∃ x, w.cell? ⟨b, k, none⟩ = some (.int .i64 x) ∧ w.frozen? ⟨b, k, none⟩ = false := by
  obtain ⟨us, h1, h2⟩ := h
  refine ⟨us[k], ?_, ?_⟩
  · rw [cell_row h2]; simp [List.getElem?_eq_getElem (show k < us.length by omega)]
  · simp [World.frozen?, h2]
theorem IntRow.set {w : World} {b n k : Nat} (h : IntRow w b n) (y : Int) : IntRow (w.setCell ⟨b, k, none⟩ (.int .i64 y)) b n := by
  obtain ⟨us, h1, h2⟩ := h
  refine ⟨us.set k y, by simpa using h1, ?_⟩
  rw [heap_setCell_same w b k _ _ _ h2]
  simp [List.map_set]

theorem bel_drew {w w' : World} (h : Below w.drew.heap.size w.drew w') : Below w.heap.size w w' := ⟨h.os, h.tape, h.output, h.size, h.block⟩
theorem bel_drewN {w w' : World} {n : Nat} (h : Below (w.drewN n).heap.size (w.drewN n) w') : Below w.heap.size w w' := ⟨h.os, h.tape, h.output, h.size, h.block⟩

/-- It returns a bool that is true just if P. -/
def RBi (P : Prop) (w : World) (e : Ending) (w' : World) : Prop := ∃ b, e = .returned (.bool b) ∧ (b = true ↔ P) ∧ w = w'
theorem RBi.yes {P : Prop} {w : World} (h : P) : RBi P w (.returned (.bool true)) w := ⟨true, rfl, by simpa using h, rfl⟩
theorem RBi.no {P : Prop} {w : World} (h : ¬ P) : RBi P w (.returned (.bool false)) w := ⟨false, rfl, by simpa using h, rfl⟩

end Go.Proofs.YtehlmjecbljafaaGreatDoor
namespace Go.Proofs.YtehlmjecbljafaaGreatDoor
open Go Go.RowKit
set_option maxRecDepth 100000 in
set_option maxHeartbeats 800000 in
theorem fits11_any (p : Part) (w : World) (hp : p.okIn w) : Calls Tryz.prog 34 #[.agg #[.int .i64 p.kind, .string p.word, .int .i64 p.n, .int .i64 p.m, .slice p.aa p.ats.length p.ca]] w (RBb (p.word.size ≤ 2147483647) w) := by
  obtain ⟨kind, word, n, m, aa, ca, ats⟩ := p
  have hw := hp.2
  go_enter Tryz.func34, Tryz.ntmps34
  go_wp2
  all_goals go_ret
  all_goals first
    | exact RBb.no ((Below.refl _ _).alloc (Nat.le_refl _) _)
    | exact RBb.of (fun _ => by show word.size ≤ _; omega) ((Below.refl _ _).alloc (Nat.le_refl _) _)
set_option maxRecDepth 100000 in
set_option maxHeartbeats 800000 in
theorem fits10_any (v : Value) (ps : List Part) (w : World) (hps : PartsAt w v ps) (hn : ps.length ≤ 274877906944) : Calls Tryz.prog 6 #[v] w (RBb (ps.length ≤ 2147483647 ∧ ∀ p ∈ ps, p.word.size ≤ 2147483647) w) := by
  obtain ⟨a, cap, rfl⟩ := hps.1.form
  have HP := Lib.hid hps; clear hps
  go_enter Tryz.func6, Tryz.ntmps6
  go_wp2
  · go_ret
    exact RBb.no (Below.refl _ _)
  · have hlen : (ps.length : Int) ≤ 2147483647 := by assumption
    go_loopw [10] (fun i wr => ∃ k : Nat, k ≤ ps.length ∧ i = .int .i64 k ∧ Hid (∀ j p, j < k → ps[j]? = some p → p.word.size ≤ 2147483647) ∧ Below w.heap.size w wr) (fun i _ => ps.length - (intOf i).toNat)
    case atStart => exact ⟨0, Nat.zero_le _, rfl, fun j p h => absurd h (by omega), Below.refl _ _⟩
    case round =>
      obtain ⟨k, hk, rfl, HF, hb⟩ := hrel
      by_cases hlt : k < ps.length
      · obtain ⟨b, o, p, rfl, Hp, c0, c1, c2, c3, c4, hok⟩ := HP.out.at' hb hlt
        have Hok := Lib.hid hok; clear hok
        go_wp2_with fail
        refine (fits11_any p _ (Hok.out.keep ((Below.refl _ _).alloc (Nat.le_refl _) _))).mono ?_
        rintro e w1 ⟨bb, rfl, hbb, hb1⟩
        have hb2 : Below w.heap.size w w1 := below_up (hb.alloc hb.size _) (by have := hb.size; simp; omega) hb1
        go_wp2
        · go_ret
          exact RBb.no hb2
        · go_roundw
          case rel => exact ⟨k + 1, hlt, by go_num, fun j q hj hq => by
            by_cases e : j = k
            · subst e; rw [Hp.out] at hq; cases hq; exact hbb (by simpa using ‹(!bb) = false›)
            · exact HF.out j q (by omega) hq, hb2⟩
          case measure => simp [intOf]; omega
      · go_wp2
        go_ret
        exact RBb.of (fun _ => ⟨by omega, fun p hp => by
          obtain ⟨j, hj, e⟩ := List.mem_iff_getElem.1 hp
          exact HF.out j p (by omega) (by rw [List.getElem?_eq_getElem hj, e])⟩) hb
set_option maxRecDepth 100000 in
set_option maxHeartbeats 800000 in
theorem svalid_any (s : ByteArray) (w : World) (hs : s.size ≤ 137438953472) : Calls Tryz.prog 62 #[.string s] w (RBb (FormedP (toks s) (toks s).length) w) := by
  have hl := toks_len s
  go_enter Tryz.func62, Tryz.ntmps62
  go_wp2_with fail
  refine (toks_any s _ (by omega)).mono ?_
  rintro e w1 ⟨v, rfl, hown, hbel⟩
  have hsl := Lib.hid hown.sl; clear hown
  go_wp2_with fail
  refine (formed_any v _ _ hsl.out (by omega)).mono ?_
  rintro e w' ⟨b, rfl, hb, rfl⟩
  cases b
  · go_wp2
    go_ret
    exact RBb.no hbel
  · have Hb := Lib.hid (hb rfl); clear hb
    go_wp2_with (go_at_call 100; go_must (refine (spaced_any s _ (by omega)).mono ?_); rintro e w' ⟨b, rfl, -, rfl⟩)
    go_ret
    exact RBb.of (fun _ => Hb.out) hbel
set_option maxRecDepth 100000 in
set_option maxHeartbeats 800000 in
theorem valid_any (s : ByteArray) (w : World) (hs : s.size ≤ 137438953472) : Calls Tryz.prog 22 #[.string s] w (RBb (ValidS s) w) := by
  go_enter Tryz.func22, Tryz.ntmps22
  go_wp2_with fail
  refine (clean_any s _ (by omega)).mono ?_
  rintro e w' ⟨b, rfl, hb, rfl⟩
  cases b
  · go_wp2
    go_ret
    exact RBb.no (Below.refl _ _)
  · have hc := Lib.hid (hb rfl); clear hb
    go_wp2_with fail
    refine (svalid_any s _ hs).mono ?_
    rintro e w1 ⟨b, rfl, hb, hbel⟩
    cases b
    · go_wp2
      go_ret
      exact RBb.no hbel
    · have hf := Lib.hid (hb rfl); clear hb
      go_wp2_with fail
      refine (tame_any s _ hs (fun t ht => Nat.le_trans (toks_mem ht) hs)).mono ?_
      rintro e w2 ⟨b, rfl, hb, hbel2⟩
      go_wp2
      go_ret
      exact RBb.of (fun h => ⟨hc.out, hf.out, hb (by simpa using h)⟩) (bel2 hbel hbel2)
set_option maxRecDepth 100000 in
set_option maxHeartbeats 800000 in
theorem plain_any (s : ByteArray) (w : World) (hs : s.size ≤ 137438953472) : Calls Tryz.prog 8 #[.string s] w (RBb (PlainS s) w) := by
  go_enter Tryz.func8, Tryz.ntmps8
  go_wp2_with fail
  refine (valid_any s _ hs).mono ?_
  rintro e w1 ⟨b, rfl, hb, hbel⟩
  cases b
  · go_wp2
    go_ret
    exact RBb.no hbel
  · have hc := Lib.hid (hb rfl); clear hb
    go_wp2_with fail
    refine (literal_any s _ hs).mono ?_
    rintro e w2 ⟨b, rfl, hb, hbel2⟩
    go_wp2
    go_ret
    exact RBb.of (fun h => ⟨hc.out, hb (by simpa using h)⟩) (bel2 hbel hbel2)
set_option maxRecDepth 100000 in
set_option maxHeartbeats 800000 in
theorem match_any (s p : ByteArray) (w : World) (hs : s.size ≤ 137438953472) (hp : p.size ≤ 137438953472) : Calls Tryz.prog 10 #[.string s, .string p] w (RBb (matchT (splitDot (bs s)) (splitDot (bs p)) = true) w) := by
  have hl := toks_len s
  have hl' := toks_len p
  go_enter Tryz.func10, Tryz.ntmps10
  go_wp2_with fail
  refine (toks_any s _ (by omega)).mono ?_
  rintro e w1 ⟨v, rfl, hown, hbel⟩
  have h1 := Lib.hid hown.sl; clear hown
  go_wp2_with fail
  refine (toks_any p _ (by omega)).mono ?_
  rintro e w2 ⟨v2, rfl, hown, hbel2⟩
  have h2 := Lib.hid hown.sl; clear hown
  have h1' := Lib.hid (h1.out.keep hbel2)
  go_wp2_with fail
  refine (matches_any v v2 _ _ _ h1'.out h2.out (by omega) (by omega)).mono ?_
  rintro e w3 ⟨b, rfl, hb, hbel3⟩
  rw [toks_bs, toks_bs] at hb
  go_wp2
  go_ret
  exact RBb.of hb (bel2 (bel2 hbel hbel2) hbel3)
end Go.Proofs.YtehlmjecbljafaaGreatDoor
