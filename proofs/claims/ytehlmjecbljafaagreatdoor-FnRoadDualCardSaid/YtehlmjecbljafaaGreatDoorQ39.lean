/- A script: puts and a reverse match. append of a whole slice; the laws' small functions on lists of numbers and steps. Sorted: an insertion sort of numbers. The plain law of the two lists: the same numbers. What a filter finds among plain subjects: the tree's answer as matchT. -/
import Derived.Test.YtehlmjecbljafaaGreatDoorQ9
import Derived.Test.YtehlmjecbljafaaGreatDoorQ14
import Derived.Test.YtehlmjecbljafaaGreatDoorQ38
import Derived.BigRegion
namespace Go.Proofs.YtehlmjecbljafaaGreatDoor
open Go Go.RowKit
open Classical in
/-- An empty server's tree. -/
noncomputable def strie0 (l m : Nat) : STrie := { N := fun q => q = [], aL := fun _ => l, aM := fun _ => m, aN := fun _ => 0, aS := fun _ => m + 1, S := fun _ => [] }
theorem strie0_ok {l m : Nat} {F : Nat → Prop} {w : World} (hL : w.heap[l]? = some (.cells #[.map (some m), .pointer none, .pointer none] 279 (0, 0))) (hM : MapE w m []) (fl : F l) (fm : F m) : STrieOK (strie0 l m) F w := by
  have hp : ∀ (p : Path) (t : List UInt8), (strie0 l m).ptr (p ++ [t]) = .pointer none := fun p t => STrie.ptr_no (fun h => snoc_ne p t h)
  refine ⟨rfl, fun p t h => absurd h (snoc_ne p t), fun p _ => by rw [hp, hp]; exact hL, fun p _ => ⟨[], hM, fun x v => ⟨(fun h => by cases h), fun ⟨t, _, _, _, h, _⟩ => absurd h (snoc_ne p t)⟩⟩, fun p t h => absurd h (snoc_ne p t), fun p t h => absurd h (snoc_ne p t), fun p q h1 h2 _ => ?_, fun p q h1 h2 _ => ?_, fun p q h1 _ h3 => absurd h1 h3, fun p q _ h2 h3 => absurd h2 h3, fun p _ => fl, fun p _ => fm, fun p t h => absurd h (snoc_ne p t), fun p t h => absurd h (snoc_ne p t)⟩
  · have h1 : p = [] := h1
    have h2 : q = [] := h2
    rw [h1, h2]
  · have h1 : p = [] := h1
    have h2 : q = [] := h2
    rw [h1, h2]
theorem PlaySt.keepIf {B0 P b : Nat} {vi vs : Value} {ids : List Int} {subs : List Nat} {ss : List ByteArray} {T : STrie} {F : Nat → Prop} {w w' : World} (h : PlaySt B0 P b vi vs ids subs ss T F w) (hk : ∀ q, (F q ∨ q = b ∨ PB P vi vs q ∨ q ∈ subs) → w'.heap[q]? = w.heap[q]?) (hz : w.heap.size ≤ w'.heap.size) : PlaySt B0 P b vi vs ids subs ss T F w' :=
  { h with
    play := h.play.keepIf fun k e => hk k (.inr (.inr (.inl e)))
    row := (hk b (.inr (.inl rfl))).trans h.row
    ok := h.ok.keep fun k e => hk k (.inl e)
    lt := fun k e => by have := h.lt k e; omega
    sub := fun a ha => by
      obtain ⟨e1, e2, e3, e4, c, t, hr⟩ := h.sub a ha
      exact ⟨e1, e2, e3, e4, c, t, (hk a (.inr (.inr (.inr ha)))).trans hr⟩ }
theorem nd_injI {l : List Int} (h : l.Nodup) {i j : Nat} {a : Int} (h1 : l[i]? = some a) (h2 : l[j]? = some a) : i = j := by
  obtain ⟨hi, e1⟩ := List.getElem?_eq_some_iff.1 h1
  obtain ⟨hj, e2⟩ := List.getElem?_eq_some_iff.1 h2
  have hp := List.pairwise_iff_getElem.1 h
  rcases Nat.lt_trichotomy i j with hh | hh | hh
  · exact absurd (e1.trans e2.symm) (hp i j hi hj hh)
  · exact hh
  · exact absurd (e2.trans e1.symm) (hp j i hj hi hh)
/-- A step of a script. -/
structure StepD where
  op : Int
  subj : ByteArray
  id : Int
  arg : ByteArray
def StepD.cells (d : StepD) : List Value := [.int .i64 d.op, .string d.subj, .string ⟨#[]⟩, .int .i64 d.id, .string d.arg, .slice none 0 0]
def StepsAt (w : World) (v : Value) (ds : List StepD) : Prop := Sl w 6 v ds.length (ds.flatMap StepD.cells)
theorem StepsAt.at' {w wr : World} {a : Option Addr} {n cap : Nat} {ds : List StepD} (h : StepsAt w (.slice a n cap) ds) (hb : Below w.heap.size w wr) {k : Nat} (hk : k < ds.length) {d : StepD} (hd : ds[k]? = some d) :
    ∃ b o, a = some ⟨b, o, none⟩ ∧ wr.cell? ⟨b, o + k * 6, none⟩ = some (.int .i64 d.op) ∧ wr.cell? ⟨b, o + k * 6 + 1, none⟩ = some (.string d.subj) ∧
      wr.cell? ⟨b, o + k * 6 + 2, none⟩ = some (.string ⟨#[]⟩) ∧ wr.cell? ⟨b, o + k * 6 + 3, none⟩ = some (.int .i64 d.id) ∧ wr.cell? ⟨b, o + k * 6 + 4, none⟩ = some (.string d.arg) ∧ wr.cell? ⟨b, o + k * 6 + 5, none⟩ = some (.slice none 0 0) := by
  have hl := flat_len (f := StepD.cells) (sz := 6) (fun _ => rfl) ds
  obtain ⟨-, a', cap', e, -⟩ := id h
  cases e
  obtain ⟨b, o, rfl, hc⟩ := Sl.cell h hb (by rw [hl]; omega)
  have hh : ∀ i, i < 6 → ∀ x, (StepD.cells d)[i]? = some x → wr.cell? ⟨b, o + k * 6 + i, none⟩ = some x := by
    intro i hi x hx
    have := hc (k * 6 + i) x (by rw [flat_at (f := StepD.cells) (sz := 6) (fun _ => rfl) ds k i hi _ hd]; exact hx)
    rw [Nat.add_assoc]; exact this
  exact ⟨b, o, rfl, hh 0 (by omega) _ rfl, hh 1 (by omega) _ rfl, hh 2 (by omega) _ rfl, hh 3 (by omega) _ rfl, hh 4 (by omega) _ rfl, hh 5 (by omega) _ rfl⟩
theorem et61 : ET Tryz.prog 61 104 4 64 (.agg #[.int .i64 0, .int .i64 0, .slice none 0 0, .slice none 0 0]) := ⟨Tryz.underlying61, by kernel_rfl, rfl, by decide, by decide⟩
/-- Where a script stands behind k puts. -/
def MidSt (xs : List Int) (ss : List ByteArray) (P b : Nat) (w : World) (k : Nat) (o : Value) (wr : World) : Prop :=
  ∃ vi vs subs T F rest, PlaySt w.heap.size P b vi vs (xs.take k) subs (ss.take k) T F wr ∧ Own wr w.heap.size 4 o k rest ∧ (∀ q, o.ownBlock = some q → ¬ (F q ∨ q = b ∨ PB P vi vs q ∨ q ∈ subs)) ∧ Below w.heap.size w wr
/-- What a script answers. -/
def EndSt (xs : List Int) (ss : List ByteArray) (f : ByteArray) (w : World) (o : Value) (wr : World) : Prop :=
  ∃ rest uf out l subs, Own wr w.heap.size 4 o (ss.length + 1) (rest ++ [.int .i64 0, .int .i64 (ss.length : Nat), uf, .slice none 0 0]) ∧ Own wr w.heap.size 1 uf out.length (ints out) ∧ NumsOf xs subs l out ∧ l.Nodup ∧ subs.Nodup ∧ subs.length = ss.length ∧ (∀ a, a ∈ l ↔ ∃ (j : Nat) (s : ByteArray), subs[j]? = some a ∧ ss[j]? = some s ∧ matchT (pathS s) (pathS f) = true) ∧ Below w.heap.size w wr
set_option maxRecDepth 100000 in
set_option maxHeartbeats 6400000 in
theorem played_any (xs : List Int) (ss : List ByteArray) (f : ByteArray) (v : Value) (ds : List StepD) (w : World) (hv : StepsAt w v ds) (hds : ds.length = ss.length + 1) (hput : ∀ (k : Nat) (s : ByteArray) (x : Int), ss[k]? = some s → xs[k]? = some x → ds[k]? = some ⟨0, s, x, ⟨#[]⟩⟩) (hrev : ds[ss.length]? = some ⟨5, ⟨#[]⟩, 0, f⟩)
    (hxs : xs.length = ss.length) (hnd : xs.Nodup) (hss : PlainPs ss) (hpp : ∀ s ∈ ss, PatP (pathS s)) (hn : ss.length ≤ 40) (hf : PatP (pathS f)) (hfs : f.size ≤ 100000) :
    Calls Tryz.prog 68 #[.bool false, v] w fun e w' => ∃ p u, e = .returned (.tuple #[p, u]) ∧ EndSt xs ss f w u w' := by
  obtain ⟨va, vc, rfl⟩ := Sl.form hv
  have HV := Lib.hid hv; clear hv
  have HPUT := Lib.hid hput; clear hput
  have HREV := Lib.hid hrev; clear hrev
  have HXS := Lib.hid hxs; clear hxs
  have HND := Lib.hid hnd; clear hnd
  have HDS := Lib.hid hds
  go_enter Tryz.func68, Tryz.ntmps68
  go_wp2_with fail
  refine (sNew_any false w).mono ?_
  rintro e w1 ⟨b, l, m, cm, rfl, hrow, hlev, hmap, hc0, -, -, hb1, hl1, hm1, hbel⟩
  obtain rfl := hc0 rfl
  have hz1 := hbel.size
  have hPr := heap_alloc_new w1 (.cells #[.pointer (some ⟨b, 0, none⟩), .slice none 0 0, .slice none 0 0] 118)
  have hba := (Below.refl w1.heap.size w1).alloc (Nat.le_refl _) (.cells #[.pointer (some ⟨b, 0, none⟩), .slice none 0 0, .slice none 0 0] 118)
  have hza : (w1.alloc (.cells #[.pointer (some ⟨b, 0, none⟩), .slice none 0 0, .slice none 0 0] 118)).heap.size = w1.heap.size + 1 := by simp
  have hlb := (Array.getElem?_eq_some_iff.1 hrow).1
  have hll := (Array.getElem?_eq_some_iff.1 hlev).1
  have hlm := hmap.lt
  have hmid : MidSt xs ss w1.heap.size b w 0 (.slice none 0 0) (w1.alloc (.cells #[.pointer (some ⟨b, 0, none⟩), .slice none 0 0, .slice none 0 0] 118)) := by
    refine ⟨.slice none 0 0, .slice none 0 0, [], strie0 l m, (fun k => k = l ∨ k = m), [], ⟨⟨hPr, Own.nil _ _ _, Own.nil _ _ _, (fun k h => by cases h), rfl⟩, (hba.block b hlb).trans hrow, strie0_ok ((hba.block l hll).trans hlev) (hmap.keep (hba.block m hlm)) (.inl rfl) (.inr rfl), fun k hk => ?_, ?_, hb1, hz1, ?_, fun k hk => ?_, (fun a h => by cases h), fun q => by simp [strie0], fun q a => by simp [strie0], fun q => ⟨List.nodup_nil, Nat.le_refl _⟩, List.nodup_nil, rfl⟩, Own.nil _ _ _, (fun q h => by cases h), hbel.trans (hba.mono hz1)⟩
    · rcases hk with rfl | rfl <;> constructor <;> omega
    · rintro (h | h)
      · subst h; rw [hrow] at hlev; injection hlev with h; injection h with h1 h2; cases h2
      · subst h; obtain ⟨es, c, hh, -⟩ := hmap; rw [hrow] at hh; cases hh
    · rintro (h | h | h)
      · omega
      · cases h
      · cases h
    · rcases hk with h | h | h
      · rintro (e | e) <;> omega
      · cases h
      · cases h
  have HM0 := Lib.hid hmid
  generalize hPP : w1.heap.size = P at *
  clear hrow hlev hmap hbel hmid hPr hba
  go_wp2
  go_loopw [7, 8] (fun o i wr => ∃ k : Nat, i = .int .i64 k ∧ ((k ≤ ss.length ∧ MidSt xs ss P b w k o wr) ∨ (k = ss.length + 1 ∧ EndSt xs ss f w o wr))) (fun _ i _ => ss.length + 1 - (intOf i).toNat)
  case atStart => exact ⟨0, rfl, .inl ⟨Nat.zero_le _, HM0.out⟩⟩
  case round =>
    obtain ⟨k, rfl, ⟨hk, hM⟩ | ⟨rfl, hE⟩⟩ := hrel
    · obtain ⟨vi, vs, subs, T, F, rest, hS, hown, hsep, hb⟩ := hM
      have hlk : subs.length = k := by have := hS.len; rw [List.length_take] at this; omega
      have hidl : (xs.take k).length ≤ 100 := by rw [List.length_take]; omega
      have HLK := Lib.hid hlk; clear hlk
      have HS := Lib.hid hS
      have hB := hb.size
      obtain ⟨oa, oc, rfl, -⟩ := hown.form
      have HOWN := Lib.hid hown
      have HSEP := Lib.hid hsep
      have HB := Lib.hid hb
      clear hown hsep
      have hkd : k < ds.length := by have := HDS.out; omega
      by_cases hlt : k < ss.length
      · obtain ⟨s, hs⟩ : ∃ s, ss[k]? = some s := ⟨_, List.getElem?_eq_getElem hlt⟩
        obtain ⟨x, hx⟩ : ∃ x, xs[k]? = some x := ⟨_, List.getElem?_eq_getElem (by have := HXS.out; omega)⟩
        obtain ⟨gb, go, rfl, c0, c1, c2, c3, c4, c5⟩ := HV.out.at' hb hkd (HPUT.out k s x hs hx)
        have hxn : x ∉ xs.take k := fun h => by
          obtain ⟨j, hj, e⟩ := List.mem_iff_getElem.1 h
          rw [List.length_take] at hj
          have h1 : xs[j]? = some x := by rw [List.getElem?_eq_getElem (by omega)]; rw [List.getElem_take] at e; rw [e]
          have := nd_injI HND.out h1 hx
          omega
        have hsm := List.mem_of_getElem? hs
        have hput := stepPut_any w.heap.size P b vi vs _ subs _ T F s x wr hS hxn (hss s hsm).2.2 hidl (hpp s hsm)
        have HSX := Lib.hid (And.intro hs hx)
        clear hs hx hxn hsm hS
        go_wp2_with fail
        refine hput.mono ?_
        rintro e w2 ⟨rfl, a, vi', vs', T', F', hS2, ho2, hF2, hP2, ha2⟩
        have hown2 : Own w2 w.heap.size 4 (.slice oa k oc) k rest := HOWN.out.only ho2 fun q hq h => HSEP.out q hq (by rcases h with h | h | h; exact .inl h; exact .inr (.inl h); exact .inr (.inr (.inl h)))
        have hsep2 : ∀ q, (Value.slice oa k oc).ownBlock = some q → ¬ (F' q ∨ q = b ∨ PB P vi' vs' q ∨ q ∈ subs ++ [a]) := fun q hq h => by
          have hqw := (HOWN.out.lt q hq).2
          have hs0 := HSEP.out q hq
          rcases h with h | h | h | h
          · rcases hF2 q h with h | h
            · exact hs0 (.inl h)
            · omega
          · exact hs0 (.inr (.inl h))
          · rcases hP2 q h with h | h
            · exact hs0 (.inr (.inr (.inl h)))
            · omega
          · rcases List.mem_append.1 h with h | h
            · exact hs0 (.inr (.inr (.inr h)))
            · have := List.mem_singleton.1 h; omega
        have hlt2 : ∀ q, (F' q ∨ q = b ∨ PB P vi' vs' q ∨ q ∈ subs ++ [a]) → q < w2.heap.size := fun q h => by
          rcases h with h | h | h | h
          · exact (hS2.lt q h).2
          · rw [h]; exact (Array.getElem?_eq_some_iff.1 hS2.row).1
          · exact (hS2.play.lt h).2
          · obtain ⟨-, -, -, -, c, t, hr⟩ := hS2.sub q h
            exact (Array.getElem?_eq_some_iff.1 hr).1
        have hbw2 : Below w.heap.size w w2 := HB.out.trans (ho2.below (fun q h => by
          rcases h with h | h | h
          · exact (HS.out.lt q h).1
          · rw [h]; exact HS.out.bge
          · have := (HS.out.play.lt h).1; have := HS.out.Pge; omega) hB)
        have hB2 := hbw2.size
        have HS2 := Lib.hid hS2
        have HBW := Lib.hid hbw2
        clear hS2 ho2 hF2 hP2 ha2 hbw2 hput
        have hk4 : k < 549755813888 := by omega
        go_wp2_with (at_builtin; go_must (refine wpList_appX (W := w2) et61 rfl _ _ rfl w.heap.size (fun q => F' q ∨ q = b ∨ PB P vi' vs' q ∨ q ∈ subs ++ [a]) (v := .slice oa k oc) (n := k) (xs := rest) (by rfl) hown2 hsep2 hlt2 [.int .i64 0, .int .i64 ((subs.length + 1 : Nat) : Int), .slice none 0 0, .slice none 0 0] (by rfl) rfl (by simp [Value.oneCell']) hk4 hB2 ?_); intro v' w5 hown5 hF5 honly5)
        go_roundw
        case rel =>
          refine ⟨k + 1, by go_num, .inl ⟨hlt, vi', vs', subs ++ [a], T', F', _, ?_, hown5, hF5, ?_⟩⟩
          · rw [List.take_add_one, List.take_add_one, HSX.out.1, HSX.out.2]
            exact HS2.out.keepIf (fun q hq => honly5.block q (hlt2 q hq) fun e => hsep2 q e hq) honly5.size
          · exact HBW.out.trans (honly5.below (fun q hq => (hown2.lt q hq).1) hB2)
        case measure => simp [intOf] <;> omega
      · obtain rfl : k = ss.length := by omega
        obtain ⟨gb, go, rfl, c0, c1, c2, c3, c4, c5⟩ := HV.out.at' hb hkd HREV.out
        have etx : xs.take ss.length = xs := List.take_of_length_le (by have := HXS.out; omega)
        have ets : ss.take ss.length = ss := List.take_of_length_le (Nat.le_refl _)
        rw [etx, ets] at hS
        have hrev := stepRev_any w.heap.size P b vi vs xs subs ss T F f wr hS hfs (by have := HXS.out; omega) hf hss
        have HS3 := Lib.hid hS
        clear hS etx ets
        go_wp2_with fail
        refine hrev.mono ?_
        rintro e w2 ⟨uf, out, l, rfl, k1, k2, k3, k4, k5⟩
        obtain ⟨ua, uc, rfl, -⟩ := k1.form
        have hown2 : Own w2 w.heap.size 4 (.slice oa ss.length oc) ss.length rest := HOWN.out.only k5 fun q hq h => HSEP.out q hq (.inr (.inl h))
        have hbw2 : Below w.heap.size w w2 := HB.out.trans (k5.below (fun q h => by rw [h]; exact HS.out.bge) hB)
        have hB2 := hbw2.size
        have huo := k1.lt
        have hsep2 : ∀ q, (Value.slice oa ss.length oc).ownBlock = some q → ¬ ((Value.slice ua out.length uc).ownBlock = some q) := fun q hq h => by
          have := (HOWN.out.lt q hq).2
          have := (huo q h).1
          omega
        have K := Lib.hid (And.intro k1 (And.intro k2 (And.intro k3 k4)))
        have HBW := Lib.hid hbw2
        clear hrev k1 k2 k3 k4 k5 hbw2
        have hk4 : ss.length < 549755813888 := by omega
        go_wp2_with (at_builtin; go_must (refine wpList_appX (W := w2) et61 rfl _ _ rfl w.heap.size (fun q => (Value.slice ua out.length uc).ownBlock = some q) (v := .slice oa ss.length oc) (n := ss.length) (xs := rest) (by rfl) hown2 hsep2 (fun q h => (huo q h).2) [.int .i64 0, .int .i64 ((subs.length : Nat) : Int), .slice ua out.length uc, .slice none 0 0] (by rfl) rfl (by simp [Value.oneCell']) hk4 hB2 ?_); intro v' w5 hown5 hF5 honly5)
        go_roundw
        case rel =>
          refine ⟨ss.length + 1, by go_num, .inr ⟨rfl, rest, .slice ua out.length uc, out, l, subs, ?_, ?_, K.out.2.1, K.out.2.2.1, HS3.out.nd, HLK.out, K.out.2.2.2, ?_⟩⟩
          · rw [HLK.out] at hown5; exact hown5
          · exact (K.out.1.only honly5 fun q hq h => hsep2 q h hq).mono hB
          · exact HBW.out.trans (honly5.below (fun q hq => (hown2.lt q hq).1) hB2)
        case measure => simp [intOf] <;> omega
    · obtain ⟨rest, uf, out, l2, subs, e1, e2, e3, e4, e5, e6, e7, e8⟩ := hE
      obtain ⟨oa, oc, rfl, -⟩ := e1.form
      have HE := Lib.hid (show EndSt xs ss f w _ wr from ⟨rest, uf, out, l2, subs, e1, e2, e3, e4, e5, e6, e7, e8⟩)
      clear e1 e2 e3 e4 e5 e6 e7 e8
      go_wp2
      go_ret2
      exact ⟨_, _, rfl, HE.out⟩
set_option maxRecDepth 100000 in
set_option maxHeartbeats 800000 in
theorem slPlay_any (xs : List Int) (ss : List ByteArray) (f : ByteArray) (v : Value) (ds : List StepD) (w : World) (hv : StepsAt w v ds) (hds : ds.length = ss.length + 1) (hput : ∀ (k : Nat) (s : ByteArray) (x : Int), ss[k]? = some s → xs[k]? = some x → ds[k]? = some ⟨0, s, x, ⟨#[]⟩⟩) (hrev : ds[ss.length]? = some ⟨5, ⟨#[]⟩, 0, f⟩)
    (hxs : xs.length = ss.length) (hnd : xs.Nodup) (hss : PlainPs ss) (hpp : ∀ s ∈ ss, PatP (pathS s)) (hn : ss.length ≤ 40) (hf : PatP (pathS f)) (hfs : f.size ≤ 100000) :
    Calls Tryz.prog 27 #[.bool false, v] w fun e w' => ∃ u, e = .returned u ∧ EndSt xs ss f w u w' := by
  have h := played_any xs ss f v ds w hv hds hput hrev hxs hnd hss hpp hn hf hfs
  clear hv hds hput hrev hxs hnd hss hpp hn hf hfs
  go_enter Tryz.func27, Tryz.ntmps27
  go_wp2_with fail
  refine h.mono ?_
  rintro e w1 ⟨p, u, rfl, hE⟩
  have HE := Lib.hid hE
  clear h hE
  go_wp2
  go_ret
  exact ⟨u, rfl, HE.out⟩
end Go.Proofs.YtehlmjecbljafaaGreatDoor
namespace Go.Proofs.YtehlmjecbljafaaGreatDoor
open Go Go.RowKit
theorem run_app_none {P : Program} (w : World) {T E sz bytes : Nat} {z : Value} (et : ET P T E sz bytes z) (ty : TypeId) (base c : Nat) (v : Value) (n : Nat) (xs : List Value) (hown : Own w base sz v n xs) :
    (Builtin.append_ #[T, T] ty #[v, .slice none 0 c]).run P w = .ok v w := by
  obtain ⟨i, hi, hz, rfl, rfl⟩ := info_parts et.inf
  rcases hown.2 with ⟨rfl, rfl⟩ | ⟨g, cap, cur, t, rfl, hbg, hg, hnc, hcm, hcs, htake⟩
  · simp [Builtin.append_, run_underlying et.un, sizeOf, typeInfo, hi, Builtin.lenOf, Builtin.firstCells]
  · simp [Builtin.append_, run_underlying et.un, sizeOf, typeInfo, hi, Builtin.lenOf, Builtin.firstCells, hnc, storeCells]
/-- append(v, u...). -/
theorem wpList_appS {P : Program} {ops : Array Oper} {rest : List Oper} {o : Oper} {a : Act} {Q : Exit → Act → World → Prop} {w : World} {T E sz bytes : Nat} {z : Value} (et : ET P T E sz bytes z) (hgd : o.guard = none) (s x : Operand)
    (ho : o.op = .call { callee := .builtin .append, args := #[s, x], argTypes := #[T, T] })
    (base : Nat) {v : Value} {n : Nat} {xs : List Value} (hs : a.eval s = v) (hown : Own w base sz v n xs)
    {u : Value} {m : Nat} {news : List Value} (hx : a.eval x = u) (hsl : Sl w sz u m news) (h1 : ∀ u ∈ news, u.oneCell' = true)
    (hsm : n + m ≤ 549755813888) (hbase : base ≤ w.heap.size)
    (h : ∀ v' w', Own w' base sz v' (n + m) (xs ++ news) → w.grownBy w' v.ownBlock → wpList P ops Q rest (a.put o.dst v') w') : wpList P ops Q (o :: rest) a w := by
  obtain ⟨hl, a', c, rfl, hmc, hcm, hc⟩ := hsl
  cases a' with
  | some ad =>
    refine wpList_app et hgd s x ho base hs hown ad m c news hx hl (fun j u hu => ?_) h1 hsm hbase fun v' w' k1 k2 _ => h v' w' k1 k2
    obtain ⟨b, off, e, hc2⟩ := hc (by have := (List.getElem?_eq_some_iff.1 hu).1; omega)
    cases e
    rw [add0]; exact hc2 j u hu
  | none =>
    have hn0 : news.length = 0 := by
      rcases Nat.eq_zero_or_pos news.length with h | h
      · exact h
      · obtain ⟨b, off, e, -⟩ := hc h; cases e
    have hm0 : m = 0 := by
      have := et.pos
      rcases Nat.eq_zero_or_pos m with h | h
      · exact h
      · have := Nat.mul_pos h this; omega
    subst hm0
    have hn : news = [] := List.eq_nil_of_length_eq_zero hn0
    subst hn
    refine wpList_plain hgd fun K hK => ?_
    have hr := run_app_none (P := P) w et o.type base c v n xs hown
    unfold Oper.wp execOp
    simp only [ho, resolve, invoke, builtin, Sem.run_bind, Sem.run_pure, Result.andThen_ok, List.map_toArray, List.map_cons, List.map_nil, hs, hx, hr]
    exact hK _ _ (h v w (by rw [List.append_nil]; exact hown) ⟨rfl, rfl, rfl, Nat.le_refl _, fun _ _ _ => rfl⟩)
/-- An empty row made for a literal. -/
theorem own_empty (w : World) (B sz : Nat) (E : TypeId) (hB : B ≤ w.heap.size) : Own (w.alloc (.cells #[] E)) B sz (.slice (some ⟨w.heap.size, 0, none⟩) 0 0) 0 [] :=
  ⟨by simp, .inr ⟨w.heap.size, 0, #[], E, rfl, hB, heap_alloc_new w _, Nat.le_refl _, by unfold maxLen; omega, by simp, by simp⟩⟩
theorem et50 : ET Tryz.prog 50 55 6 88 (.agg #[.int .i64 0, .string ⟨#[]⟩, .string ⟨#[]⟩, .int .i64 0, .string ⟨#[]⟩, .slice none 0 0]) := ⟨Tryz.underlying50, by kernel_rfl, rfl, by decide, by decide⟩
theorem ints_one (l : List Int) : ∀ u ∈ ints l, u.oneCell' = true := fun u hu => by
  obtain ⟨x, -, rfl⟩ := List.mem_map.1 hu
  rfl
theorem steps_one (ds : List StepD) : ∀ u ∈ ds.flatMap StepD.cells, u.oneCell' = true := fun u hu => by
  obtain ⟨d, -, h⟩ := List.mem_flatMap.1 hu
  simp [StepD.cells] at h
  rcases h with rfl | rfl | rfl | rfl | rfl | rfl <;> rfl
set_option maxRecDepth 100000 in
set_option maxHeartbeats 1600000 in
theorem asked_any (v : Value) (ds : List StepD) (f : ByteArray) (w : World) (hv : StepsAt w v ds) (hn : ds.length ≤ 1000) :
    Calls Tryz.prog 28 #[v, .int .i64 5, .string f] w fun e w' => ∃ u, e = .returned u ∧ StepsAt w' u (ds ++ [⟨5, ⟨#[]⟩, 0, f⟩]) ∧ Below w.heap.size w w' := by
  obtain ⟨va, vc, rfl⟩ := Sl.form hv
  have ho1 := own_empty w w.heap.size 6 55 (Nat.le_refl _)
  have hb1 := (Below.refl w.heap.size w).alloc (Nat.le_refl _) (.cells #[] 55)
  have hv1 := Sl.keep hv hb1
  have hz1 := hb1.size
  have hn2 : 0 + ds.length ≤ 549755813888 := by omega
  go_enter Tryz.func28, Tryz.ntmps28
  go_wp2_with (first | (at_builtin; refine wpList_appS (w := w.alloc (.cells #[] 55)) et50 rfl _ _ rfl w.heap.size (v := .slice (some ⟨w.heap.size, 0, none⟩) 0 0) (n := 0) (xs := []) rfl ho1 (u := .slice va ds.length vc) (m := ds.length) rfl hv1 (steps_one ds) hn2 hz1 ?_; intro v1 w1 hown1 hgr1; rw [Nat.zero_add, List.nil_append] at hown1; have hbw := bel_app hb1 hgr1 ho1 hz1; have hzw := hbw.size; have hn3 : ds.length < 549755813888 := by omega) | (at_builtin; refine wpList_app1 (W := w1) et50 rfl _ _ rfl w.heap.size (v := v1) (n := ds.length) (xs := ds.flatMap StepD.cells) rfl hown1 [.int .i64 5, .string ⟨#[]⟩, .string ⟨#[]⟩, .int .i64 0, .string f, .slice none 0 0] rfl rfl (by simp [Value.oneCell']) hn3 hzw ?_; intro v2 w2 hown2 hgr2))
  go_ret
  refine ⟨v2, rfl, ?_, bel_app hbw hgr2 hown1 hzw⟩
  have := hown2.sl
  unfold StepsAt
  rw [List.length_append, List.flatMap_append]
  exact this
/-- The items of a spec's tree. -/
theorem Sl.ints {w wr : World} {n cap : Nat} {a : Option Addr} {l : List Int} (h : Sl w 1 (.slice a n cap) n (ints l)) (hb : Below w.heap.size w wr) {k : Nat} (hk : k < l.length) :
    ∃ b o x, a = some ⟨b, o, none⟩ ∧ Hid (l[k]? = some x) ∧ wr.cell? ⟨b, o + k, none⟩ = some (.int .i64 x) := by
  obtain ⟨b, o, x, h1, h2, h3, -⟩ := h.int hb hk
  exact ⟨b, o, x, h1, h2, h3⟩
set_option maxRecDepth 100000 in
set_option maxHeartbeats 1600000 in
theorem sameInts_any (u v : Value) (l m : List Int) (w : World) (hu : Sl w 1 u l.length (ints l)) (hv : Sl w 1 v m.length (ints m)) (hlm : l = m) (hn : l.length ≤ 1000000) :
    Calls Tryz.prog 29 #[u, v] w fun e w' => e = .returned (.bool true) ∧ Below w.heap.size w w' := by
  subst hlm
  obtain ⟨ua, uc, rfl⟩ := hu.form
  obtain ⟨va, vc, rfl⟩ := hv.form
  go_enter Tryz.func29, Tryz.ntmps29
  go_wp2
  go_loopw [5] (fun i wr => ∃ k : Nat, k ≤ l.length ∧ i = .int .i64 k ∧ Below w.heap.size w wr) (fun i _ => l.length - (intOf i).toNat)
  case atStart => exact ⟨0, Nat.zero_le _, rfl, Below.refl _ _⟩
  case round =>
    obtain ⟨k, hk, rfl, hb⟩ := hrel
    by_cases hlt : k < l.length
    · obtain ⟨ub, uo, x, hua, Hx, cx⟩ := Sl.ints hu hb hlt
      obtain ⟨vb, vo, y, hva, Hy, cy⟩ := Sl.ints hv hb hlt
      have hxy : y = x := by have h := Hx.out; rw [Hy.out] at h; exact Option.some.inj h
      subst hxy
      subst hua hva
      go_wp2
      go_quiet (fail)
      go_wp2
      go_roundw
      case rel => exact ⟨k + 1, hlt, by go_num, below_drewN hb nq⟩
      case measure => simp [intOf] <;> omega
    · go_wp2
      go_ret
      exact ⟨rfl, hb⟩
end Go.Proofs.YtehlmjecbljafaaGreatDoor
namespace Go.Proofs.YtehlmjecbljafaaGreatDoor
open Go Go.RowKit
theorem Own.set1 {w : World} {B g n cap : Nat} {xs : List Value} (h : Own w B 1 (.slice (some ⟨g, 0, none⟩) n cap) n xs) (k : Nat) (y : Value) : Own (w.setCell ⟨g, k, none⟩ y) B 1 (.slice (some ⟨g, 0, none⟩) n cap) n (xs.set k y) := by
  refine ⟨by rw [List.length_set]; exact h.1, ?_⟩
  rcases h.2 with ⟨h1, -⟩ | ⟨g', cap', cur, t, e, hb, hg, h1, h2, h3, h4⟩
  · cases h1
  · cases e
    refine .inr ⟨g, cap, _, t, rfl, hb, heap_setCell_same w g k cur t y hg, h1, h2, by rw [Array.size_setIfInBounds]; exact h3, ?_⟩
    rw [Array.toList_setIfInBounds, List.take_set, h4]
def at0 (l : List Int) (a : Nat) : Int := l[a]?.getD 0
/-- The first n numbers are sorted. -/
def SortTo (l : List Int) (n : Nat) : Prop := ∀ a b, a < b → b < n → at0 l a ≤ at0 l b
/-- .. but for the one at k, that sinks. -/
structure Sink (l : List Int) (i k : Nat) : Prop where
  ki : k ≤ i
  il : i < l.length
  rest : ∀ a b, a < b → b ≤ i → a ≠ k → b ≠ k → at0 l a ≤ at0 l b
  top : ∀ b, k < b → b ≤ i → at0 l k ≤ at0 l b
theorem Sink.start {l : List Int} {i : Nat} (h : SortTo l i) (hi : i < l.length) : Sink l i i := ⟨Nat.le_refl _, hi, fun a b h1 h2 _ h4 => h a b h1 (by omega), fun b h1 h2 => by omega⟩
theorem Sink.stop {l : List Int} {i k : Nat} (h : Sink l i k) (hs : k = 0 ∨ at0 l (k - 1) ≤ at0 l k) : SortTo l (i + 1) := by
  intro a b h1 h2
  by_cases ha : a = k
  · subst ha; exact h.top b h1 (by omega)
  · by_cases hb : b = k
    · subst hb
      rcases hs with hs | hs
      · omega
      · by_cases e : a = b - 1
        · subst e; exact hs
        · exact Int.le_trans (h.rest a (b - 1) (by omega) (by omega) ha (by omega)) hs
    · exact h.rest a b h1 (by omega) ha hb
theorem swap_adj : ∀ (A : List Int) (x y : Int) (C : List Int), ((A ++ x :: y :: C).set (A.length + 1) x).set A.length y = A ++ y :: x :: C
  | [], x, y, C => rfl
  | a :: A, x, y, C => by
    have := swap_adj A x y C
    simp only [List.cons_append, List.length_cons, List.set_cons_succ]
    rw [this]
theorem parts_at {l : List Int} {k : Nat} (h0 : 0 < k) (hk : k < l.length) : ∃ A C, l = A ++ at0 l (k - 1) :: at0 l k :: C ∧ A.length = k - 1 := by
  refine ⟨l.take (k - 1), l.drop (k + 1), ?_, by rw [List.length_take]; omega⟩
  have e1 : l.drop (k - 1) = l[k - 1] :: l[k] :: l.drop (k + 1) := by
    rw [List.drop_eq_getElem_cons (by omega)]
    congr 1
    rw [show k - 1 + 1 = k by omega, List.drop_eq_getElem_cons hk]
  have e2 : at0 l (k - 1) = l[k - 1] := by unfold at0; rw [List.getElem?_eq_getElem (by omega)]; rfl
  have e3 : at0 l k = l[k] := by unfold at0; rw [List.getElem?_eq_getElem hk]; rfl
  rw [e2, e3, ← e1, List.take_append_drop]
theorem at0_set (l : List Int) (k a : Nat) (x : Int) (hk : k < l.length) : at0 (l.set k x) a = if a = k then x else at0 l a := by
  unfold at0
  rw [List.getElem?_set]
  by_cases h : a = k
  · subst h; simp [hk]
  · simp [h, Ne.symm h]
theorem Sink.step {l : List Int} {i k : Nat} (h : Sink l i k) (h0 : 0 < k) (hlt : at0 l k < at0 l (k - 1)) : Sink ((l.set k (at0 l (k - 1))).set (k - 1) (at0 l k)) i (k - 1) := by
  have hki := h.ki
  have hil := h.il
  have g : ∀ a, at0 ((l.set k (at0 l (k - 1))).set (k - 1) (at0 l k)) a = if a = k - 1 then at0 l k else if a = k then at0 l (k - 1) else at0 l a := fun a => by
    rw [at0_set _ _ _ _ (by rw [List.length_set]; omega), at0_set _ _ _ _ (by omega)]
  refine ⟨by omega, by rw [List.length_set, List.length_set]; exact hil, fun a b h1 h2 h3 h4 => ?_, fun b h1 h2 => ?_⟩
  · rw [g, g, if_neg h3, if_neg h4]
    by_cases ha : a = k
    · rw [if_pos ha, if_neg (by omega)]
      exact h.rest (k - 1) b (by omega) h2 (by omega) (by omega)
    · rw [if_neg ha]
      by_cases hb : b = k
      · rw [if_pos hb]
        exact h.rest a (k - 1) (by omega) (by omega) ha (by omega)
      · rw [if_neg hb]
        exact h.rest a b h1 h2 ha hb
  · rw [g, g, if_pos rfl, if_neg (by omega)]
    by_cases hb : b = k
    · rw [if_pos hb]; omega
    · rw [if_neg hb]; exact h.top b (by omega) h2
theorem swap_perm' {l : List Int} {k : Nat} (h0 : 0 < k) (hk : k < l.length) : ((l.set k (at0 l (k - 1))).set (k - 1) (at0 l k)).Perm l := by
  obtain ⟨A, C, e, hA⟩ := parts_at h0 hk
  have h := swap_adj A (at0 l (k - 1)) (at0 l k) C
  rw [← e, hA, show k - 1 + 1 = k by omega] at h
  rw [h]
  conv => rhs; rw [e]
  exact (List.Perm.swap _ _ _).append_left A
theorem ints_set (l : List Int) (k : Nat) (x : Int) : (ints l).set k (.int .i64 x) = ints (l.set k x) := by
  unfold ints
  rw [List.map_set]
theorem Own.cellI {w : World} {B n cap g : Nat} {l : List Int} (h : Own w B 1 (.slice (some ⟨g, 0, none⟩) n cap) n (ints l)) {k : Nat} (hk : k < l.length) : w.cell? ⟨g, k, none⟩ = some (.int .i64 (at0 l k)) ∧ w.frozen? ⟨g, k, none⟩ = false := by
  rcases h.2 with ⟨h1, -⟩ | ⟨g', cap', cur, t, e, hb, hg, h1, h2, h3, h4⟩
  · cases h1
  · cases e
    have hj : (ints l)[k]? = some (.int .i64 (at0 l k)) := by
      unfold ints at0
      rw [List.getElem?_map, List.getElem?_eq_getElem hk]; rfl
    refine ⟨?_, frozen_row hg⟩
    rw [cell_row hg]
    rw [← h4, List.getElem?_take] at hj
    split at hj
    · simpa using hj
    · cases hj
set_option maxRecDepth 1000000 in
set_option maxHeartbeats 6400000 in
theorem sorted_any (u : Value) (l : List Int) (w : World) (hu : Sl w 1 u l.length (ints l)) (hn : l.length ≤ 1000) :
    Calls Tryz.prog 67 #[u] w fun e w' => ∃ v m, e = .returned v ∧ Own w' w.heap.size 1 v m.length (ints m) ∧ m.Perm l ∧ SortTo m m.length ∧ Below w.heap.size w w' := by
  obtain ⟨ua, uc, rfl⟩ := hu.form
  have ho1 := own_empty w w.heap.size 1 3 (Nat.le_refl _)
  have hb1 := (Below.refl w.heap.size w).alloc (Nat.le_refl _) (.cells #[] 3)
  have hu1 := Sl.keep hu hb1
  have hz1 := hb1.size
  have hn2 : 0 + l.length ≤ 549755813888 := by omega
  go_enter Tryz.func67, Tryz.ntmps67
  go_wp2_with (at_builtin; refine wpList_appS (w := w.alloc (.cells #[] 3)) et33 rfl _ _ rfl w.heap.size (v := .slice (some ⟨w.heap.size, 0, none⟩) 0 0) (n := 0) (xs := []) rfl ho1 (u := .slice ua l.length uc) (m := l.length) rfl hu1 (ints_one l) hn2 hz1 ?_; intro v1 w1 hown1 hgr1; rw [Nat.zero_add, List.nil_append] at hown1; have hbw := bel_app hb1 hgr1 ho1 hz1)
  have HO := Lib.hid hown1
  obtain ⟨oa, oc, rfl, -⟩ := hown1.form
  have HBW := Lib.hid hbw
  clear hown1 hbw ho1 hb1 hu1 hgr1 hz1
  go_loopw [4] (fun i wr => ∃ (k : Nat) (cur : List Int), 1 ≤ k ∧ (k ≤ l.length ∨ k = 1) ∧ i = .int .i64 k ∧ Own wr w.heap.size 1 (.slice oa l.length oc) l.length (ints cur) ∧ cur.length = l.length ∧ Hid (cur.Perm l) ∧ Hid (SortTo cur k) ∧ Below w.heap.size w wr) (fun i _ => l.length + 1 - (intOf i).toNat)
  case atStart => exact ⟨1, l, Nat.le_refl _, .inr rfl, rfl, HO.out, rfl, Lib.hid (List.Perm.refl _), Lib.hid (fun a b h1 h2 => by omega), HBW.out⟩
  case round =>
    obtain ⟨k, cur, hk1, hk, rfl, hown, hcl, HP, HS, hb⟩ := hrel
    have HCL := Lib.hid hcl; clear hcl
    by_cases hlt : k < l.length
    · go_wp2
      go_loopw [5] (fun j wz => ∃ (m : Nat) (cu : List Int), j = .int .i64 m ∧ m ≤ k ∧ Own wz w.heap.size 1 (.slice oa l.length oc) l.length (ints cu) ∧ Hid (cu.length = l.length) ∧ Hid (cu.Perm l) ∧ Hid (Sink cu k m) ∧ Below w.heap.size w wz) (fun j _ => (intOf j).toNat)
      case atStart => exact ⟨k, cur, rfl, Nat.le_refl _, hown, HCL, HP, Lib.hid (Sink.start HS.out (by have := HCL.out; omega)), hb⟩
      case round =>
        obtain ⟨m, cu, rfl, hmk, hownz, HCU, HPZ, HSK, hbz⟩ := hrel
        obtain ⟨g, rfl⟩ : ∃ g, oa = some ⟨g, 0, none⟩ := by
          rcases hownz.2 with ⟨h1, h2⟩ | ⟨g', cap', cur', t, e, -⟩
          · injection h1 with h1 h2; omega
          · cases e; exact ⟨_, rfl⟩
        have hlz : cu.length = l.length := HCU.out
        have HLZ := Lib.hid hlz; clear hlz
        by_cases hm0 : m = 0
        · have hst := HSK.out.stop (.inl hm0)
          have HST := Lib.hid hst; clear hst
          subst hm0
          go_wp2_with fail
          go_quiet (fail)
          go_wp2
          go_roundw
          case rel => exact ⟨k + 1, cu, by omega, .inl hlt, by go_num, hownz.keep (below_drewN (Below.refl _ wr) nq), HCU.out, HPZ, HST, below_drewN hbz nq⟩
          case measure => simp [intOf] <;> omega
        · obtain ⟨p, rfl⟩ : ∃ p, m = p + 1 := ⟨m - 1, by omega⟩
          have hp1 : p + 1 < cu.length := by have := HLZ.out; omega
          obtain ⟨cx, fx⟩ := hownz.cellI (k := p + 1) hp1
          obtain ⟨cy, fy⟩ := hownz.cellI (k := p) (by omega)
          obtain ⟨x, hx⟩ : ∃ x, at0 cu (p + 1) = x := ⟨_, rfl⟩
          obtain ⟨y, hy⟩ : ∃ y, at0 cu p = y := ⟨_, rfl⟩
          rw [hx] at cx
          rw [hy] at cy
          have HXY := Lib.hid (And.intro hx hy)
          have hpl : p + 1 < l.length := by omega
          clear hx hy hp1 hm0
          by_cases hxy : x < y
          · go_wp2_with fail
            go_quiet (fail)
            go_wp2_with fail
            have dx : (wr.drewN nq).cell? ⟨g, p + 1, none⟩ = some (.int .i64 x) := cx
            have dy : (wr.drewN nq).cell? ⟨g, p, none⟩ = some (.int .i64 y) := cy
            have ex : (wr.drewN nq).frozen? ⟨g, p + 1, none⟩ = false := fx
            have ey : (wr.drewN nq).frozen? ⟨g, p, none⟩ = false := fy
            have howq := hownz.keep (below_drewN (Below.refl wr.heap.size wr) nq)
            have hbq := below_drewN hbz nq
            generalize wr.drewN nq = wq at *
            have HOQ := Lib.hid (And.intro howq hbq)
            clear cx cy fx fy howq hbq hownz hbz hown hb
            go_region
            have hset : Own ((wq.setCell ⟨g, p + 1, none⟩ (.int .i64 y)).setCell ⟨g, p, none⟩ (.int .i64 x)) w.heap.size 1 (.slice (some ⟨g, 0, none⟩) l.length oc) l.length (ints ((cu.set (p + 1) y).set p x)) := by
              have := (HOQ.out.1.set1 (p + 1) (.int .i64 y)).set1 p (.int .i64 x)
              rwa [ints_set, ints_set] at this
            have hbel : Below w.heap.size w ((wq.setCell ⟨g, p + 1, none⟩ (.int .i64 y)).setCell ⟨g, p, none⟩ (.int .i64 x)) := by
              have hgB : w.heap.size ≤ g := (HOQ.out.1.lt g rfl).1
              have o := (((Only.refl (· = g) wq).set (i := p + 1) (.inl rfl) (.int .i64 y)).set (i := p) (.inl rfl) (.int .i64 x))
              exact HOQ.out.2.trans (o.below (fun q hq => by omega) HOQ.out.2.size)
            have HSET := Lib.hid (And.intro hset hbel)
            clear hset hbel
            generalize (wq.setCell ⟨g, p + 1, none⟩ (.int .i64 y)).setCell ⟨g, p, none⟩ (.int .i64 x) = wS at *
            go_wp2
            go_roundw
            case rel =>
              have hlt2 : p + 1 < cu.length := by have := HLZ.out; omega
              have h1 := HSK.out.step (Nat.succ_pos p) (by rw [show p + 1 - 1 = p by omega, HXY.out.1, HXY.out.2]; exact hxy)
              have h2 := swap_perm' (l := cu) (k := p + 1) (Nat.succ_pos p) hlt2
              rw [show p + 1 - 1 = p by omega, HXY.out.1, HXY.out.2] at h1 h2
              exact ⟨p, _, by go_num, by omega, HSET.out.1.keep (Below.refl wS.heap.size wS).drew, Lib.hid (by rw [List.length_set, List.length_set]; exact HLZ.out), Lib.hid (h2.trans HPZ.out), Lib.hid h1, HSET.out.2.drew⟩
            case measure => simp [intOf] <;> omega
          · have hst := HSK.out.stop (.inr (by rw [show p + 1 - 1 = p by omega, HXY.out.1, HXY.out.2]; omega))
            have HST := Lib.hid hst; clear hst
            go_wp2_with fail
            go_quiet (fail)
            go_wp2
            go_roundw
            case rel => exact ⟨k + 1, cu, by omega, .inl hlt, by go_num, hownz.keep (below_drewN (Below.refl _ wr) nq), HCU.out, HPZ, HST, below_drewN hbz nq⟩
            case measure => simp [intOf] <;> omega
    · go_wp2
      go_ret
      refine ⟨_, cur, rfl, (by rw [HCL.out]; exact hown), HP.out, ?_, hb⟩
      intro a b h1 h2
      rw [HCL.out] at h2
      rcases hk with h | h
      · exact HS.out a b h1 (by omega)
      · omega
end Go.Proofs.YtehlmjecbljafaaGreatDoor
namespace Go.Proofs.YtehlmjecbljafaaGreatDoor
open Go Go.RowKit
/-- The numbers below n that pass a test, in order. -/
def hits (p : Nat → Bool) (n : Nat) : List Int := ((List.range n).filter p).map Int.ofNat
theorem hits_succ (p : Nat → Bool) (n : Nat) : hits p (n + 1) = hits p n ++ (if p n then [(n : Int)] else []) := by
  unfold hits
  rw [List.range_succ, List.filter_append, List.map_append]
  congr 1
  by_cases h : p n = true <;> simp [h]
theorem mem_hits {p : Nat → Bool} {n : Nat} {x : Int} : x ∈ hits p n ↔ ∃ j : Nat, j < n ∧ x = (j : Int) ∧ p j = true := by
  unfold hits
  simp only [List.mem_map, List.mem_filter, List.mem_range]
  constructor
  · rintro ⟨j, ⟨h1, h2⟩, rfl⟩; exact ⟨j, h1, rfl, h2⟩
  · rintro ⟨j, h1, rfl, h2⟩; exact ⟨j, ⟨h1, h2⟩, rfl⟩
theorem hits_pw (p : Nat → Bool) : ∀ n, (hits p n).Pairwise (· < ·)
  | 0 => by simp [hits]
  | n + 1 => by
    rw [hits_succ, List.pairwise_append]
    refine ⟨hits_pw p n, by split <;> simp, fun a ha b hb => ?_⟩
    obtain ⟨j, h1, rfl, -⟩ := mem_hits.1 ha
    split at hb
    · have := List.mem_singleton.1 hb; subst this; omega
    · cases hb
theorem sorted_eq : ∀ (l m : List Int), l.Pairwise (· < ·) → m.Pairwise (· < ·) → (∀ x, x ∈ l ↔ x ∈ m) → l = m
  | [], [], _, _, _ => rfl
  | [], b :: m, _, _, h => by have := (h b).2 (List.mem_cons_self ..); cases this
  | a :: l, [], _, _, h => by have := (h a).1 (List.mem_cons_self ..); cases this
  | a :: l, b :: m, hl, hm, h => by
    rw [List.pairwise_cons] at hl hm
    have hab : a = b := by
      rcases List.mem_cons.1 ((h a).1 (List.mem_cons_self ..)) with e | e
      · exact e
      · rcases List.mem_cons.1 ((h b).2 (List.mem_cons_self ..)) with e2 | e2
        · exact e2.symm
        · have := hm.1 a e; have := hl.1 b e2; omega
    subst hab
    congr 1
    refine sorted_eq l m hl.2 hm.2 fun x => ⟨fun hx => ?_, fun hx => ?_⟩
    · rcases List.mem_cons.1 ((h x).1 (List.mem_cons_of_mem _ hx)) with e | e
      · have := hl.1 x hx; omega
      · exact e
    · rcases List.mem_cons.1 ((h x).2 (List.mem_cons_of_mem _ hx)) with e | e
      · have := hm.1 x hx; omega
      · exact e
theorem sortTo_pw {m : List Int} (h : SortTo m m.length) (hn : m.Nodup) : m.Pairwise (· < ·) := by
  rw [List.pairwise_iff_getElem]
  intro i j hi hj hij
  have h1 := h i j hij hj
  unfold at0 at h1
  rw [List.getElem?_eq_getElem hi, List.getElem?_eq_getElem hj] at h1
  have h2 := List.pairwise_iff_getElem.1 hn i j hi hj hij
  have h1 : m[i] ≤ m[j] := h1
  omega
/-- What the script answers, sorted. -/
theorem nums_hits {xs out m : List Int} {subs l : List Nat} {ss : List ByteArray} {f : ByteArray} (hx : ∀ k : Nat, k < ss.length → xs[k]? = some (k : Int)) (hno : NumsOf xs subs l out) (hl : l.Nodup) (hs : subs.Nodup) (hsl : subs.length = ss.length)
    (hmem : ∀ a, a ∈ l ↔ ∃ (j : Nat) (s : ByteArray), subs[j]? = some a ∧ ss[j]? = some s ∧ matchT (pathS s) (pathS f) = true) (hp : m.Perm out) (hso : SortTo m m.length) :
    m = hits (fun j => match ss[j]? with | some s => matchT (pathS s) (pathS f) | none => false) ss.length := by
  have key : ∀ (i a : Nat), l[i]? = some a → ∃ k : Nat, subs[k]? = some a ∧ k < ss.length ∧ out[i]? = some (k : Int) := fun i a hi => by
    obtain ⟨k, x, h1, h2, h3⟩ := hno.2 i a hi
    have hk := (List.getElem?_eq_some_iff.1 h1).1
    rw [hx k (by omega)] at h2
    injection h2 with h2
    exact ⟨k, h1, by omega, by rw [h3, h2]⟩
  have hond : out.Nodup := by
    show List.Pairwise _ out
    rw [List.pairwise_iff_getElem]
    intro i j hi hj hij e
    have hi' : i < l.length := by rw [← hno.1]; exact hi
    have hj' : j < l.length := by rw [← hno.1]; exact hj
    obtain ⟨k, a1, a2, a3⟩ := key i l[i] (List.getElem?_eq_getElem hi')
    obtain ⟨k', b1, b2, b3⟩ := key j l[j] (List.getElem?_eq_getElem hj')
    rw [List.getElem?_eq_getElem hi] at a3
    rw [List.getElem?_eq_getElem hj] at b3
    injection a3 with a3
    injection b3 with b3
    have hkk : k = k' := by omega
    subst hkk
    rw [a1] at b1
    injection b1 with b1
    exact List.pairwise_iff_getElem.1 hl i j hi' hj' hij b1
  refine sorted_eq m _ (sortTo_pw hso (hp.nodup_iff.2 hond)) (hits_pw _ _) fun x => ?_
  rw [hp.mem_iff, mem_hits]
  constructor
  · intro hxo
    obtain ⟨i, hi, e⟩ := List.mem_iff_getElem.1 hxo
    have hi' : i < l.length := by rw [← hno.1]; exact hi
    obtain ⟨k, a1, a2, a3⟩ := key i l[i] (List.getElem?_eq_getElem hi')
    rw [List.getElem?_eq_getElem hi] at a3
    injection a3 with a3
    refine ⟨k, a2, by rw [← e, a3], ?_⟩
    obtain ⟨j, s, b1, b2, b3⟩ := (hmem l[i]).1 (List.getElem_mem hi')
    have hjk : j = k := by
      have hj := (List.getElem?_eq_some_iff.1 b1)
      have hk := (List.getElem?_eq_some_iff.1 a1)
      obtain ⟨hj1, hj2⟩ := hj
      obtain ⟨hk1, hk2⟩ := hk
      have hp := List.pairwise_iff_getElem.1 hs
      rcases Nat.lt_trichotomy j k with hh | hh | hh
      · exact absurd (hj2.trans hk2.symm) (hp j k hj1 hk1 hh)
      · exact hh
      · exact absurd (hk2.trans hj2.symm) (hp k j hk1 hj1 hh)
    subst hjk
    simp only [b2]
    exact b3
  · rintro ⟨k, h1, rfl, h2⟩
    obtain ⟨s, hs'⟩ : ∃ s, ss[k]? = some s := ⟨_, List.getElem?_eq_getElem h1⟩
    simp only [hs'] at h2
    obtain ⟨a, ha⟩ : ∃ a, subs[k]? = some a := ⟨_, List.getElem?_eq_getElem (by omega)⟩
    have hal := (hmem a).2 ⟨k, s, ha, hs', h2⟩
    obtain ⟨i, hi, e⟩ := List.mem_iff_getElem.1 hal
    obtain ⟨k', a1, a2, a3⟩ := key i a (by rw [List.getElem?_eq_getElem hi, e])
    have hkk : k' = k := nd_inj hs a1 ha
    subst hkk
    exact List.mem_of_getElem? a3
end Go.Proofs.YtehlmjecbljafaaGreatDoor
namespace Go.Proofs.YtehlmjecbljafaaGreatDoor
open Go Go.RowKit
theorem okM_match {s f : ByteArray} (hf : PatP (pathS f)) (hs : ∀ t ∈ pathS s, t ≠ []) : okM (gB [] (bs f)) (bs s) ↔ matchT (pathS s) (pathS f) = true := by
  have e1 : bs f = joinD (pathS f) := by unfold pathS; rw [toks_bs, joinD_splitDot]
  have e2 : bs s = joinD (pathS s) := by unfold pathS; rw [toks_bs, joinD_splitDot]
  have h := okM_iff (pathS f) [] (pathS s) hf (fun t h => by cases h) (.inl rfl) (fun t ht => ⟨hs t ht, by
    unfold pathS at ht
    rw [toks_bs] at ht
    exact splitDot_nodot ht⟩) (by
    unfold pathS
    intro e
    have := congrArg List.length e
    have h2 := toks_pos s
    rw [List.length_map, List.length_nil] at this
    omega)
  rw [← e1] at h
  have e3 : dots [] ++ joinD (pathS s) = bs s := by rw [e2]; rfl
  rw [e3] at h
  exact h
end Go.Proofs.YtehlmjecbljafaaGreatDoor
