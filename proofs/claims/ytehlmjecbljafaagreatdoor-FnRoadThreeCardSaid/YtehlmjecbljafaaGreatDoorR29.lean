/- The tree's filters: the match's state carried on. The tree's filters: the way down, and the kids' turns. The laws' conditions on deeds: zzFits, deeds, Plain. What a script keeps of a server's list: a new subscription is put among the others. -/
import Derived.Test.YtehlmjecbljafaaGreatDoorR6
import Derived.Test.YtehlmjecbljafaaGreatDoorR7
import Derived.Test.YtehlmjecbljafaaGreatDoorR14
import Derived.Test.YtehlmjecbljafaaGreatDoorR25
import Derived.Deep.QuietTactic
import Derived.BigQuiet
namespace Go.Proofs.YtehlmjecbljafaaGreatDoor
open Go Go.RowKit
section
variable {C : MCx} {F : Nat → Prop} {r o n cap : Nat} {us : List Value} {ps : List (List UInt8)} {pl : List UInt8} {ov : Value} {cnt : Nat} {xs : List Value} {w w' : World} {fs : List Ent} {m : Nat} {T : Art} {x : List UInt8} {b : Nat} {e : Ending}
theorem TW.parts (h : TW C F r T m w) {r' : Nat} (h3 : r' = r ∨ w.heap.size ≤ r') (h4 : Only (· = r) w w') : TW C (fun k => F k ∨ k = r') r' T m w' := by
 refine ⟨h.at'.keep fun x hx => h4.block x (h.at'.lt x hx) (h.fp x hx).2.2, h.wf, h.sep, fun x hx => ⟨.inl (h.fp x hx).1, (h.fp x hx).2.1, ?_⟩, h.fits, h.fine⟩
 rintro rfl
 rcases h3 with h3 | h3
 ·exact (h.fp x hx).2.2 h3
 ·have := h.at'.lt x hx; omega
theorem MP.still (h : MW C F r o n cap us ps pl ov cnt xs w) (h4 : Only (· = r) w w') (h5 : KeepTo r (o + n) w w') : MP C r o n m ov cnt xs [] w w' := by
 have hlo := (Array.getElem?_eq_some_iff.1 h.out).1
 obtain ⟨f1, f2, f3, f4, f5⟩ := h.Fr
 obtain ⟨d1, d2, d3, d4, d5⟩ := h.ds
 have hor : C.Bo ≠ r := fun e => f5 (e ▸ f1)
 exact ⟨ov, (h4.block _ hlo hor).trans h.out, by simpa [outC] using h.own.only h4 (fun k hk e => h.sep k hk (e ▸ f1)), fun k hk => .inl hk, h4.mono fun k hk => .inr (.inr (.inl hk)), h5, KeepTo.of (h4.block _ (h.lt _ f3) d2)⟩
/-- Two steps in one state. -/
theorem MP.both {w1 w2 : World} {r' o' n' m' : Nat} {gs : List Ent} (h : MP C r o n m ov cnt xs [] w w1) (ho : w1.heap[C.Bo]? = some (.cells #[ov] 41 (0, 0))) (k : MP C r' o' n' m' ov cnt xs gs w1 w2)
  (hr : r' = r ∧ o + n ≤ o' + n' ∨ w.heap.size ≤ r' ∧ r < w.heap.size ∧ r ≠ C.Bo ∧ r ≠ C.Bp ∧ ov.ownBlock ≠ some r) (hm : m ≤ m') : MP C r o n m ov cnt xs gs w w2 := by
 have := h.trans (gs := gs) (w2 := w2) (fun ov' he => by
  rw [ho] at he
  obtain rfl : ov' = ov := by simpa using he.symm
  simpa [outC] using k) hr hm
 simpa using this
theorem MW.bel (h : MW C F r o n cap us ps pl ov cnt xs w) (hb : Below w.heap.size w w') : MW C F r o n cap us ps pl ov cnt xs w' := by
 obtain ⟨ov', k1, k2⟩ := h.next (MP.refl (m := pl.length) h hb) (Nat.le_refl _)
 have hlo := (Array.getElem?_eq_some_iff.1 h.out).1
 have h2 := (hb.block _ hlo).trans h.out
 rw [h2] at k1
 obtain rfl : ov' = ov := by simpa using k1.symm
 simpa [outC] using k2
theorem TW.bel (h : TW C F r T m w) (hb : Below w.heap.size w w') : TW C F r T m w' := ⟨h.at'.bel hb, h.wf, h.sep, h.fp, h.fits, h.fine⟩
theorem shift_shift (a b : List UInt8) (l : List Ent) : (l.map (shift b)).map (shift a) = l.map (shift (a ++ b)) := by
 rw [List.map_map]; apply List.map_congr_left; intro e _; simp [shift, Function.comp]
/-- What is said of a match, for trees of a depth. -/
def MatchOK (d : Nat) : Prop := ∀ (T : Art) (C : MCx) (F : Nat → Prop) (r o n cap : Nat) (us : List Value) (ps : List (List UInt8)) (pl : List UInt8) (ov : Value) (cnt : Nat) (xs : List Value) (w : World) (t : Value),
 T.Deep d → MW C F r o n cap us ps pl ov cnt xs w → TW C F r T pl.length w → cnt + T.ents.length ≤ 100000 →
 Calls Tryz.prog 92 #[t, T.ref, .slice (some ⟨r, o, none⟩) n cap, .slice (some ⟨C.Bp, 0, none⟩) pl.length 256, .func (.func 93) #[] #[.pointer (some ⟨C.Bc, 0, none⟩)]] w fun e w' => e = .returned (.bool true) ∧ MP C r o n pl.length ov cnt xs ((fnd T ps).map (shift pl)) w w'
/-- Where parts may lie behind others. -/
def Lies (C : MCx) (ov : Value) (w : World) (r o n r' o' n' : Nat) : Prop := r' = r ∧ o + n ≤ o' + n' ∨ w.heap.size ≤ r' ∧ r < w.heap.size ∧ r ≠ C.Bo ∧ r ≠ C.Bp ∧ ov.ownBlock ≠ some r
/-- Where a match stands on its way down. -/
structure MRel (C : MCx) (r o n : Nat) (ps : List (List UInt8)) (pl : List UInt8) (ov : Value) (cnt : Nat) (xs : List Value) (T : Art) (d : Nat) (w : World)
  (T' : Art) (F' : Nat → Prop) (r' o' n' cap' : Nat) (us' : List Value) (ps' : List (List UInt8)) (pl' : List UInt8) (wr : World) : Prop where
 mw : MW C F' r' o' n' cap' us' ps' pl' ov cnt xs wr
 tw : TW C F' r' T' pl'.length wr
 dp : T'.Deep d
 mp : MP C r o n pl.length ov cnt xs [] w wr
 rr : Lies C ov w r o n r' o' n'
 le : pl.length ≤ pl'.length
 fd : (fnd T ps).map (shift pl) = (fnd T' ps').map (shift pl')
 lst : ps.getLast? = some [62] ↔ ps'.getLast? = some [62]
 new : T' = T ∨ (¬ T'.Fp T.blk ∧ (T'.isLeaf = false → T'.path ≠ []))
 cn : cnt + T'.ents.length ≤ 100000
 rf : r < w.heap.size ∧ r ≠ C.Bo ∧ r ≠ C.Bp ∧ ov.ownBlock ≠ some r
theorem MW.rfacts (h : MW C F r o n cap us ps pl ov cnt xs w) : r < w.heap.size ∧ r ≠ C.Bo ∧ r ≠ C.Bp ∧ ov.ownBlock ≠ some r :=
 ⟨h.lt _ h.Fr.1, fun e => h.Fr.2.2.2.2 (e ▸ h.Fr.1), fun e => h.ds.2.1 e.symm, fun e => h.sep _ e h.Fr.1⟩
theorem MW.lies (h : MW C F r o n cap us ps pl ov cnt xs w) {r' o' n' : Nat} (h3 : r' = r ∧ o + n ≤ o' + n' ∨ w.heap.size ≤ r') : Lies C ov w r o n r' o' n' := by
 rcases h3 with h3 | h3
 ·exact .inl h3
 ·exact .inr ⟨h3, h.rfacts⟩
theorem MRel.start {d : Nat} (h : MW C F r o n cap us ps pl ov cnt xs w) (ht : TW C F r T pl.length w) (hd : T.Deep d) (hc : cnt + T.ents.length ≤ 100000) : MRel C r o n ps pl ov cnt xs T d w T F r o n cap us ps pl w :=
 ⟨h, ht, hd, MP.refl h (Below.refl _ _), .inl ⟨rfl, Nat.le_refl _⟩, Nat.le_refl _, rfl, Iff.rfl, .inl rfl, hc, h.rfacts⟩
section
variable {d : Nat} {T' : Art} {F' : Nat → Prop} {r' o' n' cap' : Nat} {us' : List Value} {ps' : List (List UInt8)} {pl' : List UInt8} {wr w1 w2 : World}
theorem MRel.done (h : MRel C r o n ps pl ov cnt xs T d w T' F' r' o' n' cap' us' ps' pl' wr) (k : MP C r' o' n' pl'.length ov cnt xs ((fnd T' ps').map (shift pl')) wr w2) : MP C r o n pl.length ov cnt xs ((fnd T ps).map (shift pl)) w w2 := by
 rw [h.fd]
 exact h.mp.both h.mw.out k h.rr h.le
theorem MpC_none (h : MpC ps x b r o n w e w') (hm : mpF ps x = none) : ∃ v, e = .returned (.tuple #[v, .bool false]) ∧ Only (· = r) w w' ∧ KeepTo r (o + n) w w' := by
 obtain ⟨h1, h2, h3⟩ := h
 rw [hm] at h3
 obtain ⟨v, hv⟩ := h3
 exact ⟨v, hv, h1, h2⟩
theorem MpC_nil (h : MpC ps x b r o n w e w') (hm : mpF ps x = some []) : e = .returned (.tuple #[.slice none 0 0, .bool true]) ∧ Only (· = r) w w' ∧ KeepTo r (o + n) w w' := by
 obtain ⟨h1, h2, h3⟩ := h
 rw [hm] at h3
 exact ⟨h3, h1, h2⟩
theorem MpC_some {q : List UInt8} {qs : List (List UInt8)} (h : MpC ps x b r o n w e w') (hm : mpF ps x = some (q :: qs)) : ∃ r' o' cap' us', e = .returned (.tuple #[.slice (some ⟨r', o', none⟩) (qs.length + 1) cap', .bool true]) ∧ PV w' r' o' cap' us' ∧ PartsF w' b us' (q :: qs) ∧ (r' = r ∧ o + n ≤ o' + (qs.length + 1) ∨ w.heap.size ≤ r') ∧ Only (· = r) w w' ∧ KeepTo r (o + n) w w' := by
 obtain ⟨h1, h2, h3⟩ := h
 rw [hm] at h3
 obtain ⟨r', o', cap', us', he, a, b, c⟩ := h3
 exact ⟨r', o', cap', us', he, a, b, c, h1, h2⟩
/-- The parts' test, from a state. -/
theorem mw_test (h : MW C F r o n cap us ps pl ov cnt xs w) (s : List UInt8) (hs : s.length ≤ 100000) : Calls Tryz.prog 126 #[.slice (some ⟨r, o, none⟩) n cap, .string (mk s)] w (MpC ps s C.bf r o n w) :=
 matchPartsG_any C.bf r o cap n us ps s w h.ln h.pv h.pf (h.lt _ h.Fr.2.1) h.ds.1 h.ne hs h.small h.psm
/-- No part is left to show: the state stays. -/
theorem MW.stay (h : MW C F r o n cap us ps pl ov cnt xs w) (h4 : Only (· = r) w w') (h5 : KeepTo r (o + n) w w') : MW C F r o n cap us ps pl ov cnt xs w' := by
 obtain ⟨ov', k1, k2⟩ := h.next (MP.still (m := pl.length) h h4 h5) (Nat.le_refl _)
 have hlo := (Array.getElem?_eq_some_iff.1 h.out).1
 have h2 := (h4.block _ hlo (fun e => h.Fr.2.2.2.2 (e ▸ h.Fr.1))).trans h.out
 rw [h2] at k1
 obtain rfl : ov' = ov := by simpa using k1.symm
 simpa [outC] using k2
theorem TW.stay (h : TW C F r T m w) (h4 : Only (· = r) w w') : TW C F r T m w' := ⟨h.at'.keep fun x hx => h4.block x (h.at'.lt x hx) (h.fp x hx).2.2, h.wf, h.sep, h.fp, h.fits, h.fine⟩
/-- The last part. -/
theorem MW.last (h : MW C F r o n cap us ps pl ov cnt xs w) : ∃ (p : List UInt8) (ou c : Nat) (c0 : UInt8), ps.getLast? = some p ∧ us[n - 1]? = some (.slice (some ⟨C.bf, ou, none⟩) p.length c) ∧ 0 < p.length ∧ w.cell? ⟨r, o + (n - 1), none⟩ = some (.slice (some ⟨C.bf, ou, none⟩) p.length c) ∧
  w.cell? ⟨C.bf, ou, none⟩ = some (.int .u8 (c0.toNat : Int)) ∧ (p = [62] ↔ c0 = 62) ∧ (p = [42] ↔ c0 = 42) ∧ (c0 = 42 → p.length = 1) := by
 have hn := h.ne
 have hpn : ps.length = n := by rw [← h.pf.1, h.ln]
 obtain ⟨u, p, h1, h2, o', c', rfl, h4, h5, h6⟩ := h.pf.at' (k := n - 1) (by omega)
 have hp0 : p ≠ [] := by
  rcases h.pb _ p h2 with rfl | ⟨rfl, -⟩ | h
  ·simp
  ·simp
  ·exact h.1
 obtain ⟨c0, t, rfl⟩ := List.exists_cons_of_ne_nil hp0
 have hlit : c0 :: t = [42] ∨ c0 :: t = [62] ∨ (∀ c ∈ c0 :: t, c ≠ 42 ∧ c ≠ 62) := by
  rcases h.pb _ _ h2 with h | ⟨h, -⟩ | h
  ·exact .inl h
  ·exact .inr (.inl h)
  ·exact .inr (.inr h.2)
 refine ⟨c0 :: t, o', c', c0, by rw [List.getLast?_eq_getElem?, hpn]; exact h2, h1, by simp, (h.pv.cell h1).1, h6 0 c0 rfl, ?_, ?_, ?_⟩
 ·rcases hlit with h | h | h
  ·cases h; simp
  ·cases h; simp
  ·have := h c0 (by simp)
   exact ⟨fun e => (by cases e; rfl), fun e => absurd e this.2⟩
 ·rcases hlit with h | h | h
  ·cases h; simp
  ·cases h; simp
  ·have := h c0 (by simp)
   exact ⟨fun e => (by cases e; rfl), fun e => absurd e this.1⟩
 ·intro e
  rcases hlit with h | h | h
  ·cases h; rfl
  ·cases h; cases e
  ·exact absurd e (h c0 (by simp)).1
/-- The first part. -/
theorem MW.first (h : MW C F r o n cap us ps pl ov cnt xs w) : ∃ (p : List UInt8) (qs : List (List UInt8)) (ou c : Nat), ps = p :: qs ∧ us[0]? = some (.slice (some ⟨C.bf, ou, none⟩) p.length c) ∧ p ≠ [] ∧ w.cell? ⟨r, o, none⟩ = some (.slice (some ⟨C.bf, ou, none⟩) p.length c) ∧
  Sl w 1 (.slice (some ⟨C.bf, ou, none⟩) p.length c) p.length (u8s p) := by
 have hn := h.ne
 have hpn : ps.length = n := by rw [← h.pf.1, h.ln]
 obtain ⟨u, p, h1, h2, h3⟩ := h.pf.at' (k := 0) (by omega)
 have hp0 : p ≠ [] := by
  rcases h.pb _ p h2 with rfl | ⟨rfl, -⟩ | h
  ·simp
  ·simp
  ·exact h.1
 have hsl := h3.sl
 obtain ⟨o', c', rfl, h4, h5, h6⟩ := h3
 obtain ⟨q, qs, rfl⟩ := List.exists_cons_of_ne_nil (List.ne_nil_of_length_pos (by omega : 0 < ps.length))
 simp at h2; subst h2
 exact ⟨q, qs, o', c', rfl, h1, hp0, by simpa using (h.pv.cell h1).1, hsl⟩
end
theorem wpList_appStr {t0 : TypeId} {ops : Array Oper} {rest : List Oper} {o : Oper} {a : Act} {Q : Exit → Act → World → Prop} {W : World} (hgd : o.guard = none) (s x : Operand) (ho : o.op = .call { callee := .builtin .append, args := #[s, x], argTypes := #[94, 9] })
  (Bp cap n : Nat) (cur : Array Value) (pre : List UInt8) (str : ByteArray) (hn : pre.length = n) (hs : a.eval s = .slice (some ⟨Bp, 0, none⟩) n cap) (hx : a.eval x = .string str) (hg : W.heap[Bp]? = some (.cells cur t0 (0, 0))) (hpre : BsAt W Bp 0 pre)
  (hroom : n + str.size ≤ cap) (hfit : n + str.size ≤ cur.size)
  (h : ∀ W' cur', W'.heap[Bp]? = some (.cells cur' t0 (0, 0)) → cur'.size = cur.size → BsAt W' Bp 0 (pre ++ bs str) → Only (· = Bp) W W' → wpList Tryz.prog ops Q rest (a.put o.dst (.slice (some ⟨Bp, 0, none⟩) (n + str.size) cap)) W') :
  wpList Tryz.prog ops Q (o :: rest) a W := by
 subst hn
 refine wpList_plain hgd fun K hK => ?_
 obtain ⟨W', cur', hrun, h1, h2, h3, h4⟩ := app_str W Bp cap cur pre str o.type hg hpre hroom hfit
 unfold Oper.wp execOp
 simp only [ho, resolve, invoke, builtin, Sem.run_bind, Sem.run_pure, Result.andThen_ok, List.map_toArray, List.map_cons, List.map_nil, hs, hx, hrun]
 exact hK _ _ (h W' cur' h1 h2 h3 h4)
end
end Go.Proofs.YtehlmjecbljafaaGreatDoor
namespace Go.Proofs.YtehlmjecbljafaaGreatDoor
open Go Go.RowKit
theorem MP.only {C : MCx} {r o n m : Nat} {ov : Value} {cnt : Nat} {xs : List Value} {fs : List Ent} {w w' : World} (h : MP C r o n m ov cnt xs fs w w') : Only (fun k => k = C.Bo ∨ k = C.Bp ∨ k = r ∨ ov.ownBlock = some k) w w' := by
 obtain ⟨_, _, _, _, h, _⟩ := h; exact h
section
variable {C : MCx} {F F' F2 : Nat → Prop} {r o n cap : Nat} {us us' us2 : List Value} {ps ps' : List (List UInt8)} {pl pl' : List UInt8} {ov : Value} {cnt : Nat} {xs : List Value} {w wr w1 w2 w3 W : World} {fs gs : List Ent} {m : Nat} {T T' : Art} {d r' o' n' cap' r2 o2 n2 cap2 : Nat}
/-- The last part alone. -/
theorem MW.tail (h : MW C F r o n cap us ps pl ov cnt xs w) {p : List UInt8} (hp : ps.getLast? = some p) : MW C F r (o + (n - 1)) 1 (cap - (n - 1)) (us.drop (n - 1)) [p] pl ov cnt xs w := by
 have hn := h.ne
 have hpn : ps.length = n := by rw [← h.pf.1, h.ln]
 have hd : ps.drop (n - 1) = [p] := by
  rw [List.getLast?_eq_getElem?, hpn] at hp
  obtain ⟨hlt, he⟩ := List.getElem?_eq_some_iff.1 hp
  rw [List.drop_eq_getElem_cons hlt, he, List.drop_of_length_le (by omega)]
 have hf := h.pf.drop (k := n - 1)
 rw [hd] at hf
 have hu : (us.drop (n - 1)).length = 1 := by rw [List.length_drop, h.ln]; omega
 refine ⟨h.pv.drop (by rw [h.ln]; omega), hf, hu, fun k q hq => ?_, by omega, by omega, fun q hq => ?_, h.buf, h.pre, h.cb, h.out, h.own, h.sep, h.lt, h.Fr, h.ds⟩
 ·match k, hq with
  | 0, hq =>
   simp at hq; subst hq
   rw [List.getLast?_eq_getElem?, hpn] at hp
   rcases h.pb (n - 1) p hp with h | ⟨h, -⟩ | h
   ·exact .inl h
   ·exact .inr (.inl ⟨h, rfl⟩)
   ·exact .inr (.inr h)
  | k + 1, hq => simp at hq
 ·rw [List.mem_singleton] at hq; subst hq
  exact h.psm q (List.mem_of_getLast? hp)
theorem MRel.doneAt (h : MRel C r o n ps pl ov cnt xs T d w T' F' r' o' n' cap' us' ps' pl' wr) (ho : Only (· = r') wr w1) (hk : KeepTo r' (o' + n') wr w1) (k : MP C r' o' n' pl'.length ov cnt xs gs w1 w2) (e : gs = (fnd T' ps').map (shift pl')) :
  MP C r o n pl.length ov cnt xs ((fnd T ps).map (shift pl)) w w2 := by
 have hm := h.mw.stay ho hk
 exact h.done (e ▸ (MP.still (m := pl'.length) h.mw ho hk).both hm.out k (.inl ⟨rfl, Nat.le_refl _⟩) (Nat.le_refl _))
theorem MRel.none (h : MRel C r o n ps pl ov cnt xs T d w T' F' r' o' n' cap' us' ps' pl' wr) (ho : Only (· = r') wr w1) (hk : KeepTo r' (o' + n') wr w1) (e : fnd T' ps' = []) :
  MP C r o n pl.length ov cnt xs ((fnd T ps).map (shift pl)) w w1 :=
 h.doneAt ho hk (MP.refl (h.mw.stay ho hk) (Below.refl _ _)) (by rw [e]; rfl)
theorem MP.then {ov1 : Value} {o1 n1 m1 : Nat} (h : MP C r o n m ov cnt xs fs w w1) (ho : w1.heap[C.Bo]? = some (.cells #[ov1] 41 (0, 0))) (k : MP C r o1 n1 m1 ov1 (cnt + fs.length) (xs ++ outC fs) gs w1 w2) (hr : o + n ≤ o1 + n1) (hm : m ≤ m1) : MP C r o n m ov cnt xs (fs ++ gs) w w2 :=
 h.trans (fun ov' he => by
  rw [ho] at he
  obtain rfl : ov' = ov1 := by simpa using he.symm
  exact k) (.inl ⟨rfl, hr⟩) hm
theorem Lies.trans (h : Lies C ov w r o n r' o' n') (hz : w.heap.size ≤ wr.heap.size) (rf : r < w.heap.size ∧ r ≠ C.Bo ∧ r ≠ C.Bp ∧ ov.ownBlock ≠ some r) (k : r2 = r' ∧ o' + n' ≤ o2 + n2 ∨ wr.heap.size ≤ r2) : Lies C ov w r o n r2 o2 n2 := by
 rcases k with ⟨rfl, k⟩ | k
 ·rcases h with ⟨rfl, h⟩ | ⟨h, -⟩
  ·exact .inl ⟨rfl, by omega⟩
  ·exact .inr ⟨h, rf⟩
 ·exact .inr ⟨by omega, rf⟩
end
section
variable {C : MCx} {F F' F2 : Nat → Prop} {r o n cap : Nat} {us us' us2 : List Value} {ps ps' : List (List UInt8)} {pl pl' : List UInt8} {ov : Value} {cnt : Nat} {xs : List Value} {w wr w1 w2 w3 W : World} {fs gs : List Ent} {m : Nat} {T T' : Art} {d r' o' n' cap' r2 o2 n2 cap2 : Nat}
 {k : Kd} {nb nk : Nat} {pre : List UInt8} {key : Nat → UInt8} {kid : Nat → Art} {q : List UInt8} {qs : List (List UInt8)}
theorem kid_ents {j : Nat} (hj : j < nk) : ((List.range j).flatMap fun i => (kid i).ents).length + (kid j).ents.length ≤ (Art.node k nb pre nk key kid).ents.length := by
 rw [Art.ents, List.length_flatMap, List.length_flatMap]
 simp only [List.length_map]
 have e : nk = (j + 1) + (nk - (j + 1)) := by omega
 rw [e, List.range_add, List.map_append, List.sum_append, List.range_succ, List.map_append, List.sum_append]
 simp only [List.map_cons, List.map_nil, List.sum_cons, List.sum_nil]
 omega
theorem kid_cnt {j : Nat} (hj : j < nk) (g : Nat → List Ent) (hg : ∀ i, i < nk → (g i).length ≤ (kid i).ents.length) : ((List.range j).flatMap g).length + (kid j).ents.length ≤ (Art.node k nb pre nk key kid).ents.length := by
 refine Nat.le_trans (Nat.add_le_add_right ?_ _) (kid_ents (k := k) (nb := nb) (pre := pre) (key := key) hj)
 induction j with
 | zero => simp
 | succ j ih =>
  rw [List.range_succ, List.flatMap_append, List.flatMap_append, List.length_append, List.length_append]
  have := ih (by omega)
  have := hg j (by omega)
  simp only [List.flatMap_cons, List.flatMap_nil, List.append_nil]
  omega
theorem endFnd_len (l : Option (List UInt8)) (t : Art) : (endFnd l t).length ≤ t.ents.length := by
 cases t with
 | leaf b v s => simp only [endFnd, Art.ents]; split <;> simp
 | node k b pre n key kid =>
  unfold endFnd; dsimp only
  split
  ·unfold fnd; exact List.length_filter_le _ _
  ·simp
theorem fnd_len (t : Art) (ps : List (List UInt8)) : (fnd t ps).length ≤ t.ents.length := by unfold fnd; exact List.length_filter_le _ _
/-- Down to a kid. -/
theorem MRel.down (h : MRel C r o n ps pl ov cnt xs T d w (.node k nb pre nk key kid) F' r' o' n' cap' us' ps' pl' wr) (hq : mpF ps' pre = some (q :: qs)) (q42 : q ≠ [42]) (q62 : q ≠ [62]) {c : Nat} (hc : c < nk) (hk : key c = piv q)
  (hM : MW C F2 r2 o2 n2 cap2 us2 (q :: qs) (pl' ++ pre) ov cnt xs W) (hT : TW C F2 r2 (.node k nb pre nk key kid) pl'.length W) (hmp : MP C r' o' n' pl'.length ov cnt xs [] wr W) (hl : r2 = r' ∧ o' + n' ≤ o2 + n2 ∨ wr.heap.size ≤ r2) :
  MRel C r o n ps pl ov cnt xs T d w (kid c) F2 r2 o2 n2 cap2 us2 (q :: qs) (pl' ++ pre) W := by
 have hz := h.mp.only.size
 refine ⟨hM, ?_, ?_, h.mp.both h.mw.out hmp h.rr h.le, h.rr.trans hz h.rf hl, by have := h.le; rw [List.length_append]; omega, ?_, ?_, ?_, ?_, h.rf⟩
 ·have := hT.kid hc
  rw [List.length_append]; exact this
 ·have hd := h.dp
  cases d with
  | zero => exact hd.elim
  | succ d => exact (hd c hc).mono (by omega)
 ·rw [h.fd, (fnd_lit h.tw.wf h.tw.fine h.mw.pb hq q42 q62).1 c hc hk, shift_shift]
 ·exact h.lst.trans ((mpF_parts ps' pre _ h.mw.pb hq).2.1 (by simp))
 ·refine .inr ⟨fun hx => ?_, (h.tw.wf.2.2.1 c hc).2.2⟩
  rcases h.new with e | ⟨e, -⟩
  ·rw [← e] at hx
   exact (h.tw.sep.1 c hc).2 hx
  ·exact e (.inr ⟨c, hc, hx⟩)
 ·have := kid_cnt (k := k) (nb := nb) (pre := pre) (key := key) (kid := kid) hc (fun _ => []) (fun _ _ => Nat.zero_le _)
  have := h.cn
  omega
theorem left_down (h : MRel C r o n ps pl ov cnt xs T d w (.node k nb pre nk key kid) F' r' o' n' cap' us' ps' pl' wr) {c : Nat} (hc : c < nk) (a a' : Option Addr) (m : Nat) (hm : m = pl'.length + pre.length) : leftW T.ref (kid c).ref (.slice a m 256) < leftW T.ref (Art.node k nb pre nk key kid).ref (.slice a' pl'.length 256) := by
 have hroom : pl'.length + pre.length ≤ 256 := h.tw.room
 subst hm
 unfold leftW
 dsimp only
 rcases h.new with e | ⟨e1, e2⟩
 ·have hne : (kid c).ref ≠ T.ref := fun e3 => by
   have h1 := ref_blk e3
   rw [← e] at h1
   have h2 := Art.Fp.blk (kid c)
   rw [h1] at h2
   exact (h.tw.sep.1 c hc).2 h2
  rw [if_neg hne, if_pos (by rw [e])]
  omega
 ·have : 0 < pre.length := List.length_pos_iff.2 (e2 rfl)
  split <;> split <;> omega
/-- What all kids find, of wildcards. -/
theorem kids_more (h : MRel C r o n ps pl ov cnt xs T d w (.node k nb pre nk key kid) F' r' o' n' cap' us' ps' pl' wr) (hq : mpF ps' pre = some (q :: qs)) :
  ((List.range nk).flatMap fun i => (fnd (kid i) (q :: qs)).map (shift (pl' ++ pre))) = (fnd (.node k nb pre nk key kid) ps').map (shift pl') := by
 rw [fnd_more h.tw.fine h.mw.pb hq, List.map_flatMap]
 simp only [shift_shift]
theorem kids_all (h : MRel C r o n ps pl ov cnt xs T d w (.node k nb pre nk key kid) F' r' o' n' cap' us' ps' pl' wr) (hq : mpF ps' pre = some []) (hl : ps'.getLast? = some [62]) :
  ((List.range nk).flatMap fun i => (fnd (kid i) [[62]]).map (shift (pl' ++ pre))) = (fnd (.node k nb pre nk key kid) ps').map (shift pl') := by
 rw [fnd_all h.tw.fine h.mw.pb hq hl, List.map_flatMap]
 simp only [shift_shift]
theorem kids_end (h : MRel C r o n ps pl ov cnt xs T d w (.node k nb pre nk key kid) F' r' o' n' cap' us' ps' pl' wr) (hq : mpF ps' pre = some []) (hl : ps'.getLast? ≠ some [62]) :
  ((List.range nk).flatMap fun i => (endFnd ps'.getLast? (kid i)).map (shift (pl' ++ pre))) = (fnd (.node k nb pre nk key kid) ps').map (shift pl') := by
 rw [fnd_end h.tw.wf h.tw.fine h.mw.pb hq hl, List.map_flatMap]
 simp only [shift_shift]
end
theorem TW.prefixed {C : MCx} {F : Nat → Prop} {r m : Nat} {T : Art} {w w' : World} (h : TW C F r T m w) (ho : Only (· = C.Bp) w w') : TW C F r T m w' := ⟨h.at'.keep fun x hx => ho.block x (h.at'.lt x hx) (h.fp x hx).2.1, h.wf, h.sep, h.fp, h.fits, h.fine⟩
theorem ptrEq (b o : Nat) (w : World) : (binOp .eql 209 (.pointer (some ⟨b, o, none⟩)) (.pointer none)).run Tryz.prog w = .ok (.bool false) w := by kernel_rfl
theorem lastRun (r o n cap : Nat) (hn0 : 0 < n) (hn : n ≤ cap) (w : World) : (Instr.slice 141 (.slice (some ⟨r, o, none⟩) n cap) (some (.int .i64 ((n : Int) - 1))) none none).run Tryz.prog w = .ok (.slice (some ⟨r, o + (n - 1), none⟩) 1 (cap - (n - 1))) w := by
 have h := dropRun r o n cap (n - 1) (by omega) hn w
 rw [show ((n - 1 : Nat) : Int) = (n : Int) - 1 by omega, show n - (n - 1) = 1 by omega] at h
 exact h
end Go.Proofs.YtehlmjecbljafaaGreatDoor
namespace Go.Proofs.YtehlmjecbljafaaGreatDoor
open Go Go.RowKit
set_option maxRecDepth 100000 in
set_option maxHeartbeats 800000 in
theorem fits6_any (d : Deed) (w : World) : Calls Tryz.prog 58 #[.agg #[.int .i64 d.op, .string d.subj, .int .i64 d.val]] w (RBb True w) := by
 go_enter Tryz.func58, Tryz.ntmps58
 go_wp2
 all_goals go_ret
 all_goals first
  | exact RBb.no ((Below.refl _ _).alloc (Nat.le_refl _) _)
  | exact RBb.of (fun _ => trivial) ((Below.refl _ _).alloc (Nat.le_refl _) _)
set_option maxRecDepth 100000 in
set_option maxHeartbeats 800000 in
theorem fits5_any (v : Value) (ds : List Deed) (w : World) (hds : DeedsAt w v ds) (hn : ds.length ≤ 274877906944) : Calls Tryz.prog 20 #[v] w (RBb (ds.length ≤ 2147483647) w) := by
 obtain ⟨a, cap, rfl⟩ := Sl.form hds
 have HP := Lib.hid hds; clear hds
 go_enter Tryz.func20, Tryz.ntmps20
 go_wp2
 ·go_ret
  exact RBb.no (Below.refl _ _)
 ·have hlen : (ds.length : Int) ≤ 2147483647 := by assumption
  go_loopw [10] (fun i wr => ∃ k : Nat, k ≤ ds.length ∧ i = .int .i64 k ∧ Below w.heap.size w wr) (fun i _ => ds.length - (intOf i).toNat)
  case atStart => exact ⟨0, Nat.zero_le _, rfl, Below.refl _ _⟩
  case round =>
   obtain ⟨k, hk, rfl, hb⟩ := hrel
   by_cases hlt : k < ds.length
   ·obtain ⟨b, o, d, rfl, Hp, c0, c1, c2⟩ := HP.out.at' hb hlt
    go_wp2_with fail
    refine (fits6_any d _).mono ?_
    rintro e w1 ⟨bb, rfl, hbb, hb1⟩
    have hb2 : Below w.heap.size w w1 := below_up (hb.alloc hb.size _) (by have := hb.size; simp; omega) hb1
    go_wp2
    ·go_ret
     exact RBb.no hb2
    ·go_roundw
     case rel => exact ⟨k + 1, hlt, by go_num, hb2⟩
     case measure => simp [intOf]; omega
   ·go_wp2
    go_ret
    exact RBb.of (fun _ => by omega) hb
set_option maxRecDepth 100000 in
set_option maxHeartbeats 800000 in
theorem splain_any (s : ByteArray) (w : World) (hs : s.size ≤ 137438953472) : Calls Tryz.prog 60 #[.string s] w (RBb (FormedP (toks s) (toks s).length ∧ LitP (toks s) (toks s).length) w) := by
 go_enter Tryz.func60, Tryz.ntmps60
 go_wp2_with fail
 refine (svalid_any s _ hs).mono ?_
 rintro e w1 ⟨b, rfl, hb, hbel⟩
 cases b
 ·go_wp2
  go_ret
  exact RBb.no hbel
 ·have hc := Lib.hid (hb rfl); clear hb
  go_wp2_with fail
  refine (literal_any s _ hs).mono ?_
  rintro e w2 ⟨b, rfl, hb, hbel2⟩
  go_wp2
  go_ret
  exact RBb.of (fun h => ⟨hc.out, hb (by simpa using h)⟩) (bel2 hbel hbel2)
/-- What deeds tells of a deed. -/
def DeedP (d : Deed) : Prop := (d.op = 0 ∨ d.op = 1) ∧ d.subj.size ≤ 80 ∧ CleanP d.subj ∧ TameS (toks d.subj) (toks d.subj).length
set_option maxRecDepth 100000 in
set_option maxHeartbeats 3200000 in
theorem deeds_any (v : Value) (ds : List Deed) (w : World) (hds : DeedsAt w v ds) (hn : ds.length ≤ 2147483647) : Calls Tryz.prog 59 #[v] w (RBb (ds.length ≤ 40 ∧ ∀ d ∈ ds, DeedP d) w) := by
 obtain ⟨a, cap, rfl⟩ := Sl.form hds
 have HP := Lib.hid hds; clear hds
 go_enter Tryz.func59, Tryz.ntmps59
 by_cases h40 : (ds.length : Int) > 40
 ·go_wp2
  go_ret
  exact RBb.no (Below.refl _ _)
 ·go_wp2
  go_loopw [3] (fun i wr => ∃ k : Nat, k ≤ ds.length ∧ i = .int .i64 k ∧ Hid (∀ d ∈ ds.take k, DeedP d) ∧ Below w.heap.size w wr) (fun i _ => ds.length - (intOf i).toNat)
  case atStart => exact ⟨0, Nat.zero_le _, rfl, Lib.hid (fun d h => by simp at h), Below.refl _ _⟩
  case round =>
   obtain ⟨k, hk, rfl, HF, hb⟩ := hrel
   by_cases hlt : k < ds.length
   ·obtain ⟨b, o, d, rfl, Hd, c0, c1, c2⟩ := HP.out.at' hb hlt
    by_cases h0 : d.op < 0
    ·go_wp2
     go_ret
     exact RBb.no hb
    ·by_cases h1 : d.op > 1
     ·go_wp2
      go_ret
      exact RBb.no hb
     ·by_cases h8 : (d.subj.size : Int) > 80
      ·go_wp2
       go_ret
       exact RBb.no hb
      ·go_wp2_with fail
       refine (clean_any d.subj _ (by omega)).mono ?_
       rintro e w1 ⟨bb, rfl, hbb, rfl⟩
       cases bb
       ·go_wp2
        go_ret
        exact RBb.no hb
       ·have HC := Lib.hid (hbb rfl); clear hbb
        go_wp2_with fail
        refine (tame_any d.subj _ (by omega) (fun t ht => by have := toks_mem ht; omega)).mono ?_
        rintro e w2 ⟨bb, rfl, hbb, hb2⟩
        have hb3 := bel2 hb hb2
        cases bb
        ·go_wp2
         go_ret
         exact RBb.no hb3
        ·have HT := Lib.hid (hbb rfl); clear hbb
         go_wp2
         go_roundw
         case rel =>
          refine ⟨k + 1, hlt, by go_num, Lib.hid fun x hx => ?_, hb3⟩
          rw [List.take_add_one, Hd.out] at hx
          rcases List.mem_append.1 hx with hx | hx
          ·exact HF.out x hx
          ·have : x = d := by simpa using hx
           subst this
           exact ⟨by omega, by omega, HC.out, HT.out⟩
         case measure => simp [intOf] <;> omega
   ·obtain rfl : k = ds.length := by omega
    go_wp2
    go_ret
    exact RBb.of (fun _ => ⟨by omega, fun d hd => HF.out d (by rw [List.take_length]; exact hd)⟩) hb
end Go.Proofs.YtehlmjecbljafaaGreatDoor
namespace Go.Proofs.YtehlmjecbljafaaGreatDoor
open Go Go.RowKit
set_option maxRecDepth 100000 in
set_option maxHeartbeats 1600000 in
theorem playSub_any (P b : Nat) (vi vs : Value) (ids : List Int) (subs : List Nat) (s : ByteArray) (x : Int) (w : World) (h : PlayAt w P b vi vs ids subs) (hx : x ∉ ids) (hs : s.size ≤ 100000) (hn : ids.length ≤ 1000000) :
  Calls Tryz.prog 142 #[.pointer (some ⟨P, 0, none⟩), .agg #[.string s, .string ⟨#[]⟩, .int .i64 x]] w fun e w' => ∃ a, e = .returned (atBlk a) ∧ SubAt w' w.heap.size a s ∧ Below w.heap.size w w' := by
 have HP := Lib.hid h; clear h
 have HX := Lib.hid hx; clear hx
 obtain ⟨ia, ic, hvi, -⟩ := HP.out.own1.form
 obtain ⟨sa, sc, hvs, -⟩ := HP.out.own2.form
 subst hvi hvs
 go_enter Tryz.func142, Tryz.ntmps142
 go_wp2
 go_loopw [5] (fun i wr => ∃ k : Nat, k ≤ ids.length ∧ i = .int .i64 k ∧ wr.heap[w.heap.size]? = some (.cells #[.string s, .string ⟨#[]⟩, .int .i64 x] 52 (0, 0)) ∧ Below w.heap.size w wr) (fun i _ => ids.length - (intOf i).toNat)
 case atStart => exact ⟨0, Nat.zero_le _, rfl, heap_alloc_new _ _, (Below.refl _ w).alloc (Nat.le_refl _) _⟩
 case round =>
  obtain ⟨k, hk, rfl, hbox, hb⟩ := hrel
  have hp := HP.out.keep hb
  have hrow := hp.row
  have c0 := (cell_row (j := 1) hrow).trans (show _ = some (Value.slice ia ids.length ic) from rfl)
  have cb0 := (cell_row (j := 0) hbox).trans (show _ = some (Value.string s) from rfl)
  have cb1 := (cell_row (j := 1) hbox).trans (show _ = some (Value.string ⟨#[]⟩) from rfl)
  have cb2 := (cell_row (j := 2) hbox).trans (show _ = some (Value.int .i64 x) from rfl)
  by_cases hlt : k < ids.length
  ·obtain ⟨g, o, y, rfl, Hy, cy, -⟩ := hp.own1.sl.int (Below.refl _ _) hlt
   have hne : (y == x) = false := by
    rw [beq_eq_false_iff_ne]; rintro rfl; exact HX.out (List.mem_of_getElem? Hy.out)
   clear hp hrow
   go_wp2
   go_quiet (fail)
   go_wp2
   go_roundw
   case rel => exact ⟨k + 1, hlt, by go_num, hbox, below_drewN hb nq⟩
   case measure => simp [intOf]; omega
  ·clear hp hrow
   go_wp2_with fail
   refine (newSub_any s wr hs).mono ?_
   rintro e w2 ⟨a, rfl, hsub, hb2⟩
   have HS := Lib.hid hsub; clear hsub
   go_wp2
   go_ret
   exact ⟨a, rfl, HS.out.mono hb.size, bel2 hb hb2⟩
set_option maxRecDepth 100000 in
set_option maxHeartbeats 3200000 in
theorem playPut_any (P b : Nat) (vi vs : Value) (ids : List Int) (subs : List Nat) (s : ByteArray) (x : Int) (w : World) (h : PlayAt w P b vi vs ids subs) (hx : x ∉ ids) (hs : s.size ≤ 100000) (hn : ids.length ≤ 1000000) :
  Calls Tryz.prog 140 #[.pointer (some ⟨P, 0, none⟩), .agg #[.string s, .string ⟨#[]⟩, .int .i64 x]] w fun e w' => ∃ a vi' vs', e = .returned (atBlk a) ∧ SubAt w' w.heap.size a s ∧ PlayAt w' P b vi' vs' (ids ++ [x]) (subs ++ [a]) ∧
   Only (PB P vi vs) w w' ∧ (∀ k, PB P vi' vs' k → PB P vi vs k ∨ w.heap.size ≤ k) ∧ ¬ PB P vi' vs' a := by
 have HP := Lib.hid h; clear h
 have HX := Lib.hid hx; clear hx
 obtain ⟨ia, ic, hvi, -⟩ := HP.out.own1.form
 obtain ⟨sa, sc, hvs, -⟩ := HP.out.own2.form
 have hPl := (Array.getElem?_eq_some_iff.1 HP.out.row).1
 subst hvi hvs
 go_enter Tryz.func140, Tryz.ntmps140
 go_wp2_with fail
 have hb0 := (Below.refl w.heap.size w).alloc (Nat.le_refl _) (.cells #[.string s, .string ⟨#[]⟩, .int .i64 x] 52)
 refine (playSub_any P b _ _ ids subs s x _ (HP.out.keep hb0) HX.out hs hn).mono ?_
 rintro e w1 ⟨a, rfl, hsub, hb1⟩
 have hz0 : (w.alloc (.cells #[.string s, .string ⟨#[]⟩, .int .i64 x] 52)).heap.size = w.heap.size + 1 := by simp
 have ha := hsub.1
 rw [hz0] at ha
 have hbox1 := (hb1.block w.heap.size (by rw [hz0]; omega)).trans (heap_alloc_new w (.cells #[.string s, .string ⟨#[]⟩, .int .i64 x] 52))
 have hbw := bel2 hb0 hb1
 have HS := Lib.hid (hsub.mono (B' := w.heap.size) (by rw [hz0]; omega)); clear hsub
 have hsl := HS.out.lt
 clear hb0 hb1 hz0
 go_wp2
 go_loopw [6] (fun i wr => ∃ k : Nat, k ≤ ids.length ∧ i = .int .i64 k ∧ (∀ j : Nat, wr.heap[j]? = w1.heap[j]?) ∧ wr.heap.size = w1.heap.size ∧ Below w1.heap.size w1 wr) (fun i _ => ids.length - (intOf i).toNat)
 case atStart => exact ⟨0, Nat.zero_le _, rfl, fun _ => rfl, rfl, Below.refl _ _⟩
 case round =>
  obtain ⟨k, hk, rfl, hbm', hzm, hbm⟩ := hrel
  have HW := Lib.hid (And.intro hbm' hzm)
  have hb := bel2 hbw hbm
  have hp := HP.out.keep hb
  have hrow := hp.row
  have hbox := (hbm' w.heap.size).trans hbox1
  have c0 := (cell_row (j := 1) hrow).trans (show _ = some (Value.slice ia ids.length ic) from rfl)
  have c00 := (cell_row (j := 0) hrow).trans (show _ = some (Value.pointer (some ⟨b, 0, none⟩)) from rfl)
  have cb2 := (cell_row (j := 2) hbox).trans (show _ = some (Value.int .i64 x) from rfl)
  have hzb := hbw.size
  by_cases hlt : k < ids.length
  ·obtain ⟨g, o, y, rfl, Hy, cy, -⟩ := hp.own1.sl.int (Below.refl _ _) hlt
   have hne : (y == x) = false := by
    rw [beq_eq_false_iff_ne]; rintro rfl; exact HX.out (List.mem_of_getElem? Hy.out)
   clear hp hrow hbm' hzm
   go_wp2
   go_quiet (fail)
   go_wp2
   go_roundw
   case rel => exact ⟨k + 1, hlt, by go_num, HW.out.1, HW.out.2, below_drewN hbm nq⟩
   case measure => simp [intOf]; omega
  ·have hf1 := frozen_row (j := 1) hrow
   have hf2 := frozen_row (j := 2) hrow
   have Hp := Lib.hid hp; clear hp
   have Hb := Lib.hid hb; clear hb
   have hbase : P + 1 ≤ wr.heap.size := by omega
   have hsn : ids.length < 549755813888 := by omega
   have hsn2 : subs.length < 549755813888 := by have := HP.out.len; omega
   have hzm2 : w1.heap.size ≤ wr.heap.size := by omega
   clear hbm' hzm
   have HS0 : ∀ o, (fun W' : World => W'.cell? ⟨P, 1, none⟩ = some (.slice ia ids.length ic) ∧ W'.cell? ⟨w.heap.size, 2, none⟩ = some (.int .i64 x)) (wr.drew.alloc o) := fun o => ⟨cell_alloc o c0, cell_alloc o cb2⟩
   have nP : ∀ j, (Value.slice ia ids.length ic).ownBlock = some j → j ≠ P := fun j hj e => by have := (Hp.out.own1.lt j hj).1; omega
   have nB : ∀ j, (Value.slice ia ids.length ic).ownBlock = some j → j ≠ w.heap.size := fun j hj e => by
    have := (HP.out.own1.lt j hj).2; omega
   have hPr : P < wr.heap.size := by omega
   go_wp2_with fail
   refine wp_region_L [0, 1, 2, 3, 4, 5, 6, 9, 10] (fun W' => W'.cell? ⟨P, 1, none⟩ = some (.slice ia ids.length ic) ∧ W'.cell? ⟨w.heap.size, 2, none⟩ = some (.int .i64 x)) (by kernel_rfl) (by kernel_rfl) ⟨c0, cb2⟩ (fun ne => ?_)
   have S0 := fun y : SubC (fun W' => W'.cell? ⟨P, 1, none⟩ = some (.slice ia ids.length ic) ∧ W'.cell? ⟨w.heap.size, 2, none⟩ = some (.int .i64 x)) => y.ok.1
   have S1 := fun y : SubC (fun W' => W'.cell? ⟨P, 1, none⟩ = some (.slice ia ids.length ic) ∧ W'.cell? ⟨w.heap.size, 2, none⟩ = some (.int .i64 x)) => y.ok.2
   repeat (refine wpCL_q rfl rfl ?_; go_big_quiet_step (fail); refine wpQuiet_nil ?_)
   refine wpCL_n rfl rfl rfl rfl ?_
   go_simp
   repeat (refine wpCL_q rfl rfl ?_; go_big_quiet_step (fail); refine wpQuiet_nil ?_)
   refine wpCL_w rfl rfl ?_
   go_wp2_with fail
   refine ⟨⟨⟨_, HS0 _⟩, rfl⟩, ?_⟩
   refine wpCL_ch rfl rfl (fun K hK => ?_)
   refine runs_appZ (W := wr.drew) (v := .slice ia ids.length ic) et33 _ _ rfl (P + 1) rfl (Hp.out.own1.keep (Below.refl _ wr).drew) [.int .i64 x] rfl rfl (by simp [Value.oneCell']) hsn (by exact hbase) ?_
   intro v1 w2 hown1 hF1 honly
   have honly1 := honly.drewL
   clear honly
   have k0 := cell_only c0 honly1 (fun h => nP P h rfl)
   have k1 := cell_only cb2 honly1 (fun h => nB _ h rfl)
   refine hK _ _ ⟨⟨w2, k0, k1⟩, rfl⟩ ?_
   clear hK K
   have kh := (honly1.block P hPr (fun h => nP P h rfl)).trans hrow
   have c2 := (cell_row (j := 2) kh).trans (show _ = some (Value.slice sa subs.length sc) from rfl)
   have kf := frozen_row (j := 1) kh
   have hz2 := honly1.size
   obtain ⟨va', vc', rfl, -⟩ := hown1.form
   have hs1 := heap_setCell_same w2 P 1 _ 118 (.slice va' (ids.length + 1) vc') kh
   have ho2 : Own (w2.setCell ⟨P, 1, none⟩ (.slice va' (ids.length + 1) vc')) (P + 1) 1 (.slice sa subs.length sc) subs.length (subs.map atBlk) :=
    Hp.out.own2.kept fun j hj => by
     have hj2 := Hp.out.own2.lt j hj
     rw [heap_setCell_other _ _ _ _ (by show j ≠ P; omega)]
     exact honly1.block j (by omega) (fun e => HP.out.ne j e hj)
   have hsz : (w2.setCell ⟨P, 1, none⟩ (.slice va' (ids.length + 1) vc')).heap.size = w2.heap.size := size_setCell _ _ _
   have HO1 := Lib.hid (And.intro hown1 (And.intro hF1 honly1)); clear hown1 hF1 honly1
   go_simp
   refine wpCL_n rfl rfl rfl rfl ?_
   go_simp
   repeat (refine wpCL_q rfl rfl ?_; go_big_quiet_step (fail); refine wpQuiet_nil ?_)
   refine wpCL_last ?_
   have hfr2 : (w2.setCell ⟨P, 1, none⟩ (.slice va' (ids.length + 1) vc')).frozen? ⟨P, 2, none⟩ = false := frozen_row hs1
   go_wp2_with (at_builtin; go_must (refine wpList_appZ et116 rfl _ _ rfl (P + 1) rfl ho2 [.pointer (some ⟨a, 0, none⟩)] (by rw [hsz]; rfl) rfl (by simp [Value.oneCell']) (by omega) (by rw [hsz]; omega) ?_); intro v2 w3 hown2 hF2 hon2; obtain ⟨vb', vd', rfl, -⟩ := hown2.form; have kh3 := (hon2.block P (by rw [hsz]; omega) (fun e => by have := (Hp.out.own2.lt P e).1; omega)).trans hs1; have kc3 := (cell_row (j := 2) kh3).trans (show _ = some (Value.slice sa subs.length sc) from rfl); have kf3 := frozen_row (j := 2) kh3; have HO2 := Lib.hid (And.intro hown2 (And.intro hF2 hon2)); clear hown2 hF2 hon2)
   go_ret
   obtain ⟨o1, f1, n1⟩ := HO1.out
   obtain ⟨o2, f2, n2⟩ := HO2.out
   have hs3 := heap_setCell_same w3 P 2 _ 118 (.slice vb' (subs.length + 1) vd') kh3
   have hbig : w1.heap.size ≤ w2.heap.size := by omega
   have nv1 : ∀ j, (Value.slice va' (ids.length + 1) vc').ownBlock = some j → j ≠ P ∧ (Value.slice sa subs.length sc).ownBlock ≠ some j := fun j hj => by
    have hj1 := o1.lt j hj
    refine ⟨by omega, fun e => ?_⟩
    have hj2 := Hp.out.own2.lt j e
    rcases f1 j hj with h | h
    ·exact HP.out.ne j h e
    ·have : wr.drew.heap.size = wr.heap.size := rfl
     omega
   have hbl : ∀ j, j ≠ P → j < w2.heap.size → (Value.slice sa subs.length sc).ownBlock ≠ some j → (w3.setCell ⟨P, 2, none⟩ (.slice vb' (subs.length + 1) vd')).heap[j]? = w2.heap[j]? := fun j h1 h2 h3 => by
    rw [heap_setCell_other _ _ _ _ h1, n2.block j (by rw [hsz]; exact h2) h3, heap_setCell_other _ _ _ _ h1]
   have hvs0 : ∀ j, (Value.slice sa subs.length sc).ownBlock = some j → P + 1 ≤ j ∧ j < w.heap.size := fun j hj => HP.out.own2.lt j hj
   have hvi0 : ∀ j, (Value.slice ia ids.length ic).ownBlock = some j → P + 1 ≤ j ∧ j < w.heap.size := fun j hj => HP.out.own1.lt j hj
   have hon : Only (PB P (.slice ia ids.length ic) (.slice sa subs.length sc)) w (w3.setCell ⟨P, 2, none⟩ (.slice vb' (subs.length + 1) vd')) := by
    have q1 : Only (PB P (.slice ia ids.length ic) (.slice sa subs.length sc)) w wr := Only.of Hb.out
    have q2 := q1.trans (n1.mono (F' := PB P (.slice ia ids.length ic) (.slice sa subs.length sc)) fun k hk => .inr (.inl hk)) fun k hk => .inl hk
    have q3 := q2.set (b := P) (i := 1) (.inl (.inl rfl)) (.slice va' (ids.length + 1) vc')
    have q4 := q3.trans (n2.mono (F' := PB P (.slice ia ids.length ic) (.slice sa subs.length sc)) fun k hk => .inr (.inr hk)) fun k hk => .inl hk
    exact q4.set (b := P) (i := 2) (.inl (.inl rfl)) _
   have hon1 : Only (fun k => k < w.heap.size) w1 (w3.setCell ⟨P, 2, none⟩ (.slice vb' (subs.length + 1) vd')) := by
    have q1 : Only (fun k => k < w.heap.size) w1 wr := ⟨hbm.os, hbm.tape, hbm.output, hbm.size, fun k hk _ => hbm.block k hk⟩
    have q2 := q1.trans (n1.mono (F' := fun k => k < w.heap.size) fun k hk => (hvi0 k hk).2) fun k hk => .inl hk
    have q3 := q2.set (b := P) (i := 1) (.inl hPl) (.slice va' (ids.length + 1) vc')
    have q4 := q3.trans (n2.mono (F' := fun k => k < w.heap.size) fun k hk => (hvs0 k hk).2) fun k hk => .inl hk
    exact q4.set (b := P) (i := 2) (.inl hPl) _
   have hz3 := n2.size
   rw [hsz] at hz3
   refine ⟨a, .slice va' (ids.length + 1) vc', .slice vb' (subs.length + 1) vd', rfl, HS.out.only hon1 (fun k hk => hk), ⟨?_, ?_, ?_, ?_, ?_⟩, hon, ?_, ?_⟩
   ·exact hs3
   ·rw [List.length_append]
    have : ints (ids ++ [x]) = ints ids ++ [.int .i64 x] := by unfold ints; rw [List.map_append]; rfl
    rw [this]
    exact o1.kept fun j hj => hbl j (nv1 j hj).1 (o1.lt j hj).2 (nv1 j hj).2
   ·rw [List.length_append, List.map_append]
    exact o2.kept fun j hj => heap_setCell_other _ _ _ _ (by have := (o2.lt j hj).1; show j ≠ P; omega)
   ·intro j hj hj2
    rcases f2 j hj2 with h | h
    ·exact (nv1 j hj).2 h
    ·rw [hsz] at h; have := (o1.lt j hj).2; omega
   ·rw [List.length_append, List.length_append, HP.out.len]; rfl
   ·rintro j (rfl | hj | hj)
    ·exact .inl (.inl rfl)
    ·rcases f1 j hj with h | h
     ·exact .inl (.inr (.inl h))
     ·have : wr.drew.heap.size = wr.heap.size := rfl
      exact .inr (by omega)
    ·rcases f2 j hj with h | h
     ·exact .inl (.inr (.inr h))
     ·rw [hsz] at h; exact .inr (by omega)
   ·rintro (e | hj | hj)
    ·omega
    ·rcases f1 a hj with h | h
     ·have := (hvi0 a h).2; omega
     ·have : wr.drew.heap.size = wr.heap.size := rfl
      omega
    ·rcases f2 a hj with h | h
     ·have := (hvs0 a h).2; omega
     ·rw [hsz] at h; omega
end Go.Proofs.YtehlmjecbljafaaGreatDoor
