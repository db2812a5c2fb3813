/- The tree's filters: what a match keeps and shows. The tree's filters: the callback within a match; parts against any fragment. Plain words: deletions from a tree of texts. A subject tree's nodes: the rows behind a kid's deletion. -/
import Derived.Test.YtehlmjecbljafaaGreatDoorR16
import Derived.Test.YtehlmjecbljafaaGreatDoorR17
import Derived.Test.YtehlmjecbljafaaGreatDoorR19
import Derived.Test.YtehlmjecbljafaaGreatDoorR24
namespace Go.Proofs.YtehlmjecbljafaaGreatDoor
open Go Go.RowKit
/-- Entries as they lie in the row of what is found. -/
def outC (l : List Ent) : List Value := l.flatMap fun e => [.string (mk e.1), .int .i64 e.2]
theorem outC_append (a b : List Ent) : outC (a ++ b) = outC a ++ outC b := by unfold outC; rw [List.flatMap_append]
/-- The blocks of a match: the filter's bytes, the prefix, the callback, what is found. -/
structure MCx where
 bf : Nat
 Bp : Nat
 Bc : Nat
 Bo : Nat
/-- What a match has put down. -/
def MP (C : MCx) (r o n m : Nat) (ov : Value) (cnt : Nat) (xs : List Value) (fs : List Ent) (w w' : World) : Prop :=
 ∃ ov', w'.heap[C.Bo]? = some (.cells #[ov'] 41 (0, 0)) ∧ Own w' (C.Bo + 1) 2 ov' (cnt + fs.length) (xs ++ outC fs) ∧ (∀ k, ov'.ownBlock = some k → ov.ownBlock = some k ∨ w.heap.size ≤ k) ∧
  Only (fun k => k = C.Bo ∨ k = C.Bp ∨ k = r ∨ ov.ownBlock = some k) w w' ∧ KeepTo r (o + n) w w' ∧ KeepTo C.Bp m w w'
/-- What stands ahead of a match. -/
structure MW (C : MCx) (F : Nat → Prop) (r o n cap : Nat) (us : List Value) (ps : List (List UInt8)) (pl : List UInt8) (ov : Value) (cnt : Nat) (xs : List Value) (w : World) : Prop where
 pv : PV w r o cap us
 pf : PartsF w C.bf us ps
 ln : us.length = n
 pb : PartsB ps
 ne : 0 < n
 small : n ≤ 200000
 psm : ∀ p ∈ ps, p.length ≤ 100000
 buf : ∃ cur, w.heap[C.Bp]? = some (.cells cur 143 (0, 0)) ∧ cur.size = 256
 pre : BsAt w C.Bp 0 pl
 cb : w.heap[C.Bc]? = some (.cells #[.func (.func 55) #[] #[.pointer (some ⟨C.Bo, 0, none⟩)]] 96 (0, 0))
 out : w.heap[C.Bo]? = some (.cells #[ov] 41 (0, 0))
 own : Own w (C.Bo + 1) 2 ov cnt xs
 sep : ∀ k, ov.ownBlock = some k → ¬ F k
 lt : ∀ k, F k → k < w.heap.size
 Fr : F r ∧ F C.bf ∧ F C.Bp ∧ F C.Bc ∧ ¬ F C.Bo
 ds : C.bf ≠ r ∧ C.Bp ≠ r ∧ C.Bc ≠ r ∧ C.bf ≠ C.Bp ∧ C.Bp ≠ C.Bc
theorem MW.bo {C : MCx} {F : Nat → Prop} {r o n cap : Nat} {us : List Value} {ps : List (List UInt8)} {pl : List UInt8} {ov : Value} {cnt : Nat} {xs : List Value} {w : World} (h : MW C F r o n cap us ps pl ov cnt xs w) {x : Nat} (hx : F x) (h1 : x ≠ C.Bp) (h2 : x ≠ r) : ¬ (x = C.Bo ∨ x = C.Bp ∨ x = r ∨ ov.ownBlock = some x) := by
 rintro (h3 | h3 | h3 | h3)
 ·exact h.Fr.2.2.2.2 (h3 ▸ hx)
 ·exact h1 h3
 ·exact h2 h3
 ·exact h.sep x h3 hx
theorem BsAt.keepTo {w w' : World} {b m : Nat} {l : List UInt8} {cur : Array Value} {ty : TypeId} (h : BsAt w b 0 l) (hr : w.heap[b]? = some (.cells cur ty (0, 0))) (hk : KeepTo b m w w') (hm : l.length ≤ m) : BsAt w' b 0 l := fun j c hj => by
 obtain ⟨cur', h1, h2, h3⟩ := hk cur ty hr
 have hjl := (List.getElem?_eq_some_iff.1 hj).1
 have := h j c hj
 rw [cell_row hr] at this
 rw [cell_row h1, h3 _ (by omega)]
 exact this
theorem KeepTo.bytes {w w' : World} {b m : Nat} {l l' : List UInt8} {cur cur' : Array Value} {ty : TypeId} (hr : w.heap[b]? = some (.cells cur ty (0, 0))) (hr' : w'.heap[b]? = some (.cells cur' ty (0, 0))) (hz : cur'.size = cur.size) (h : BsAt w b 0 l) (h' : BsAt w' b 0 (l ++ l')) (hm : m ≤ l.length) : KeepTo b m w w' := fun c0 t0 hc => by
 rw [hr] at hc; cases hc
 refine ⟨cur', hr', hz, fun j hj => ?_⟩
 have hjl : j < l.length := by omega
 have e1 := h j _ (List.getElem?_eq_getElem hjl)
 have e2 := h' j l[j] (by rw [List.getElem?_append_left hjl]; exact List.getElem?_eq_getElem hjl)
 rw [cell_row hr, Nat.zero_add] at e1
 rw [cell_row hr', Nat.zero_add] at e2
 rw [e1, e2]
theorem KeepTo.refl (r m : Nat) (w : World) : KeepTo r m w w := KeepTo.of rfl
section
variable {C : MCx} {F : Nat → Prop} {r o n cap : Nat} {us : List Value} {ps : List (List UInt8)} {pl : List UInt8} {ov : Value} {cnt : Nat} {xs : List Value} {w w' : World} {fs : List Ent}
theorem MP.refl {m : Nat} (h : MW C F r o n cap us ps pl ov cnt xs w) (hb : Below w.heap.size w w') : MP C r o n m ov cnt xs [] w w' := by
 have hlo := (Array.getElem?_eq_some_iff.1 h.out).1
 have hlr := h.lt _ h.Fr.1
 have hlp := h.lt _ h.Fr.2.2.1
 exact ⟨ov, (hb.block _ hlo).trans h.out, by simpa [outC] using h.own.keep hb, fun k hk => .inl hk, Only.of hb, KeepTo.of (hb.block _ hlr), KeepTo.of (hb.block _ hlp)⟩
theorem MP.trans {m m' o' n' r' : Nat} {w1 w2 : World} {gs : List Ent} (h : MP C r o n m ov cnt xs fs w w1) (k : ∀ ov', w1.heap[C.Bo]? = some (.cells #[ov'] 41 (0, 0)) → MP C r' o' n' m' ov' (cnt + fs.length) (xs ++ outC fs) gs w1 w2)
  (hr : r' = r ∧ o + n ≤ o' + n' ∨ w.heap.size ≤ r' ∧ r < w.heap.size ∧ r ≠ C.Bo ∧ r ≠ C.Bp ∧ ov.ownBlock ≠ some r) (hm : m ≤ m') : MP C r o n m ov cnt xs (fs ++ gs) w w2 := by
 obtain ⟨ov1, h1, h2, h3, h4, h5, h6⟩ := h
 obtain ⟨ov2, k1, k2, k3, k4, k5, k6⟩ := k ov1 h1
 refine ⟨ov2, k1, by rw [List.length_append, outC_append, ← Nat.add_assoc, ← List.append_assoc]; exact k2, fun x hx => ?_, ?_, ?_, h6.trans k6 hm⟩
 ·rcases k3 x hx with h | h
  ·exact h3 x h
  ·exact .inr (Nat.le_trans h4.size h)
 ·refine h4.trans k4 fun b hb => ?_
  rcases hb with h | h | h | h
  ·exact .inl (.inl h)
  ·exact .inl (.inr (.inl h))
  ·rcases hr with ⟨hr, -⟩ | ⟨hr, -⟩
   ·exact .inl (.inr (.inr (.inl (h.trans hr))))
   ·exact .inr (h ▸ hr)
  ·rcases h3 b h with h | h
   ·exact .inl (.inr (.inr (.inr h)))
   ·exact .inr h
 ·rcases hr with ⟨rfl, hr⟩ | ⟨hr, hr1, hr2, hr3, hr4⟩
  ·exact h5.trans k5 hr
  ·refine h5.trans (KeepTo.of (m := o + n) (k4.block r (Nat.lt_of_lt_of_le hr1 h4.size) ?_)) (Nat.le_refl _)
   rintro (h | h | h | h)
   ·exact hr2 h
   ·exact hr3 h
   ·omega
   ·rcases h3 r h with h | h
    ·exact hr4 h
    ·omega
/-- The state behind. -/
theorem MW.next {m : Nat} (h : MW C F r o n cap us ps pl ov cnt xs w) (k : MP C r o n m ov cnt xs fs w w') (hm : pl.length ≤ m) : ∃ ov', w'.heap[C.Bo]? = some (.cells #[ov'] 41 (0, 0)) ∧ MW C F r o n cap us ps pl ov' (cnt + fs.length) (xs ++ outC fs) w' := by
 obtain ⟨ov1, k1, k2, k3, k4, k5, k6⟩ := k
 obtain ⟨cur, hbuf, hcz⟩ := h.buf
 obtain ⟨cur', hbuf', hcz', -⟩ := k6 _ _ hbuf
 obtain ⟨f1, f2, f3, f4, f5⟩ := h.Fr
 obtain ⟨d1, d2, d3, d4, d5⟩ := h.ds
 refine ⟨ov1, k1, h.pv.keep (by rw [h.ln]; exact k5), h.pf.keep (k4.block _ (h.lt _ f2) (h.bo f2 d4 d1)), h.ln, h.pb, h.ne, h.small, h.psm, ⟨cur', hbuf', hcz'.trans hcz⟩, h.pre.keepTo hbuf k6 hm, (k4.block _ (h.lt _ f4) (h.bo f4 (fun e => d5 e.symm) d3)).trans h.cb, k1, k2, fun k hk hF => ?_, fun k hk => Nat.lt_of_lt_of_le (h.lt k hk) k4.size, h.Fr, h.ds⟩
 rcases k3 k hk with e | e
 ·exact h.sep k e hF
 ·have := h.lt k hF; omega
/-- The tree that is matched. -/
structure TW (C : MCx) (F : Nat → Prop) (r : Nat) (T : Art) (m : Nat) (w : World) : Prop where
 at' : T.At w
 wf : T.WF
 sep : T.Sep
 fp : ∀ x, T.Fp x → F x ∧ x ≠ C.Bp ∧ x ≠ r
 fits : ∀ e ∈ T.ents, m + e.1.length ≤ 256
 fine : Fine T
theorem ents_any : ∀ {T : Art}, T.WF → ∃ e, e ∈ T.ents
 | .leaf b v s, _ => ⟨(s, v), by simp [Art.ents]⟩
 | .node k b pre n key kid, h => by
  obtain ⟨e, he⟩ := ents_any (T := kid 0) (h.2.2.1 0 (Nat.lt_of_lt_of_le k.low_pos h.1)).1
  exact ⟨shift pre e, mem_node.2 ⟨0, Nat.lt_of_lt_of_le k.low_pos h.1, e, he, rfl⟩⟩
theorem TW.keep {T : Art} {m : Nat} (h : TW C F r T m w) (hw : MW C F r o n cap us ps pl ov cnt xs w) {m' : Nat} (k : MP C r o n m' ov cnt xs fs w w') : TW C F r T m w' := by
 obtain ⟨ov1, k1, k2, k3, k4, k5, k6⟩ := k
 exact ⟨h.at'.keep fun x hx => k4.block x (h.at'.lt x hx) (hw.bo (h.fp x hx).1 (h.fp x hx).2.1 (h.fp x hx).2.2), h.wf, h.sep, h.fp, h.fits, h.fine⟩
end
theorem TW.kid {C : MCx} {F : Nat → Prop} {r : Nat} {k : Kd} {b : Nat} {pre : List UInt8} {n : Nat} {key : Nat → UInt8} {kid : Nat → Art} {m : Nat} {w : World} (h : TW C F r (.node k b pre n key kid) m w) {i : Nat} (hi : i < n) : TW C F r (kid i) (m + pre.length) w :=
 ⟨h.at'.2 i hi, (h.wf.2.2.1 i hi).1, (h.sep.1 i hi).1, fun x hx => h.fp x (.inr ⟨i, hi, hx⟩), fun e he => by
  have := h.fits (shift pre e) (mem_node.2 ⟨i, hi, e, he, rfl⟩)
  simp only [shift, List.length_append] at this; omega, h.fine.kid hi⟩
theorem TW.room {C : MCx} {F : Nat → Prop} {r : Nat} {T : Art} {m : Nat} {w : World} (h : TW C F r T m w) : m + T.path.length ≤ 256 := by
 obtain ⟨e, he⟩ := ents_any h.wf
 obtain ⟨y, hy⟩ := ents_path he
 have := h.fits e he
 rw [hy, List.length_append] at this; omega
/-- How deep a tree is. -/
def Art.Deep : Nat → Art → Prop
 | _, .leaf .. => True
 | 0, .node .. => False
 | d + 1, .node _ _ _ n _ kid => ∀ i, i < n → (kid i).Deep d
theorem Art.Deep.mono : ∀ {d d' : Nat} {T : Art}, T.Deep d → d ≤ d' → T.Deep d'
 | d, d', .leaf .., _, _ => by cases d' <;> trivial
 | 0, _, .node .., h, _ => h.elim
 | d + 1, 0, .node .., _, h => by omega
 | d + 1, d' + 1, .node _ _ _ n _ kid, h, hd => fun i hi => (h i hi).mono (by omega)
theorem Art.deep : ∀ T : Art, ∃ d, T.Deep d
 | .leaf .. => ⟨0, trivial⟩
 | .node k b pre n key kid => by
  have h : ∀ m, ∃ d, ∀ i, i < m → (kid i).Deep d := by
   intro m
   induction m with
   | zero => exact ⟨0, fun i hi => by omega⟩
   | succ m ih =>
    obtain ⟨d, hd⟩ := ih
    obtain ⟨d2, hd2⟩ := Art.deep (kid m)
    refine ⟨max d d2, fun i hi => ?_⟩
    by_cases e : i = m
    ·subst e; exact hd2.mono (by omega)
    ·exact (hd i (by omega)).mono (by omega)
  obtain ⟨d, hd⟩ := h n
  exact ⟨d + 1, hd⟩
/-- A part that is left is no longer than the parts are. -/
theorem mpF_small {B : Nat} : ∀ (ps : List (List UInt8)) (r : List UInt8) (qs : List (List UInt8)), (∀ p ∈ ps, p.length ≤ B) → mpF ps r = some qs → ∀ q ∈ qs, q.length ≤ B
 | [], r, qs, _, h, _, _ => by simp [mpF] at h
 | p :: ps, r, qs, hp, h, q, hq => by
  have hps : ∀ p ∈ ps, p.length ≤ B := fun x hx => hp x (List.mem_cons_of_mem _ hx)
  rw [mpF] at h
  split at h
  ·cases h; exact hp q hq
  split at h
  ·split at h
   ·exact mpF_small ps _ qs hps h q hq
   ·split at h
    ·cases h; cases hq
    ·cases h; exact hp q hq
  split at h
  ·cases h; cases hq
  split at h
  ·split at h
   ·cases h
    rcases List.mem_cons.1 hq with rfl | hq
    ·rw [List.length_drop]; have := hp p (List.mem_cons_self ..); omega
    ·exact hps q hq
   ·cases h
  split at h
  ·split at h
   ·split at h
    ·cases h; cases hq
    ·cases h; exact hps q hq
   ·exact mpF_small ps _ qs hps h q hq
  ·cases h
/-- The state behind the parts' test. -/
theorem MW.parts {C : MCx} {F : Nat → Prop} {r o n cap : Nat} {us : List Value} {ps : List (List UInt8)} {pl : List UInt8} {ov : Value} {cnt : Nat} {xs : List Value} {w w' : World} (h : MW C F r o n cap us ps pl ov cnt xs w) {x : List UInt8} {qs : List (List UInt8)} (hq : mpF ps x = some qs) {r' o' cap' : Nat} {us' : List Value} (hn : 0 < qs.length)
  (h1 : PV w' r' o' cap' us') (h2 : PartsF w' C.bf us' qs) (h3 : r' = r ∧ o + n ≤ o' + qs.length ∨ w.heap.size ≤ r') (h4 : Only (· = r) w w') (_h5 : KeepTo r (o + n) w w') : MW C (fun k => F k ∨ k = r') r' o' qs.length cap' us' qs pl ov cnt xs w' := by
 obtain ⟨f1, f2, f3, f4, f5⟩ := h.Fr
 obtain ⟨d1, d2, d3, d4, d5⟩ := h.ds
 have hpn : ps.length = n := by rw [← h.pf.1, h.ln]
 have hlo := (Array.getElem?_eq_some_iff.1 h.out).1
 have hor : C.Bo ≠ r := fun e => f5 (e ▸ f1)
 obtain ⟨cur, hbuf, hcz⟩ := h.buf
 obtain ⟨m1, m2, m3⟩ := mpF_parts ps x qs h.pb hq
 have ne : ∀ y, F y → y ≠ r → y ≠ r' := fun y hy hyr e => by
  subst e
  rcases h3 with ⟨e, -⟩ | e
  ·exact hyr e
  ·have := h.lt _ hy; omega
 have nbo : C.Bo ≠ r' := fun e => by
  rcases h3 with ⟨e2, -⟩ | e2
  ·exact hor (e.trans e2)
  ·omega
 refine ⟨h1, h2, h2.1, m1, hn, by have := h.small; omega, mpF_small ps x qs h.psm hq, ⟨cur, (h4.block _ (h.lt _ f3) d2).trans hbuf, hcz⟩, fun j c hj => cell_only (h.pre j c hj) h4 d2, (h4.block _ (h.lt _ f4) d3).trans h.cb, (h4.block _ hlo hor).trans h.out, h.own.only h4 (fun k hk e => h.sep k hk (e ▸ f1)), fun k hk hF => ?_, fun k hk => ?_, ⟨.inr rfl, .inl f2, .inl f3, .inl f4, fun e => e.elim f5 nbo⟩, ⟨ne _ f2 d1, ne _ f3 d2, ne _ f4 d3, d4, d5⟩⟩
 ·rcases hF with hF | rfl
  ·exact h.sep k hk hF
  ·rcases h3 with ⟨e, -⟩ | e
   ·exact h.sep k hk (e ▸ f1)
   ·have := (h.own.lt k hk).2; omega
 ·rcases hk with hk | rfl
  ·exact Nat.lt_of_lt_of_le (h.lt k hk) h4.size
  ·exact h1.lt
/-- The buffer longer. -/
theorem MW.longer {C : MCx} {F : Nat → Prop} {r o n cap : Nat} {us : List Value} {ps : List (List UInt8)} {pl : List UInt8} {ov : Value} {cnt : Nat} {xs : List Value} {w w' : World} (h : MW C F r o n cap us ps pl ov cnt xs w) {pl' : List UInt8} (h1 : ∃ cur', w'.heap[C.Bp]? = some (.cells cur' 143 (0, 0)) ∧ cur'.size = 256) (h2 : BsAt w' C.Bp 0 (pl ++ pl')) (h3 : Only (· = C.Bp) w w') :
  MW C F r o n cap us ps (pl ++ pl') ov cnt xs w' ∧ MP C r o n pl.length ov cnt xs [] w w' := by
 obtain ⟨f1, f2, f3, f4, f5⟩ := h.Fr
 obtain ⟨d1, d2, d3, d4, d5⟩ := h.ds
 have hlo := (Array.getElem?_eq_some_iff.1 h.out).1
 have hop : C.Bo ≠ C.Bp := fun e => f5 (e ▸ f3)
 obtain ⟨cur, hbuf, hcz⟩ := h.buf
 obtain ⟨cur', hbuf', hcz'⟩ := h1
 have hown := h.own.only h3 (fun k hk e => h.sep k hk (e ▸ f3))
 have hout := (h3.block _ hlo hop).trans h.out
 have hr := h3.block r (h.lt _ f1) (fun e => d2 e.symm)
 refine ⟨⟨h.pv.keep (KeepTo.of hr), h.pf.keep (h3.block _ (h.lt _ f2) d4), h.ln, h.pb, h.ne, h.small, h.psm, ⟨cur', hbuf', hcz'⟩, h2, (h3.block _ (h.lt _ f4) (fun e => d5 e.symm)).trans h.cb, hout, hown, h.sep, fun k hk => Nat.lt_of_lt_of_le (h.lt k hk) h3.size, h.Fr, h.ds⟩, ?_⟩
 exact ⟨ov, hout, by simpa [outC] using hown, fun k hk => .inl hk, h3.mono fun k hk => .inr (.inl hk), KeepTo.of hr, KeepTo.bytes hbuf hbuf' (hcz'.trans hcz.symm) h.pre h2 (Nat.le_refl _)⟩
end Go.Proofs.YtehlmjecbljafaaGreatDoor
namespace Go.Proofs.YtehlmjecbljafaaGreatDoor
open Go Go.RowKit
theorem cbM {C : MCx} {F : Nat → Prop} {r o n cap : Nat} {us : List Value} {ps : List (List UInt8)} {pl : List UInt8} {ov : Value} {cnt : Nat} {xs : List Value} {w W1 : World} (h : MW C F r o n cap us ps pl ov cnt xs w)
  {L : Nat} {v : Int} {s : List UInt8} (hl : w.heap[L]? = some (.cells #[.int .i64 v, .string (mk s)] 199 (0, 0))) (hL : F L ∧ L ≠ C.Bp ∧ L ≠ r) (hroom : pl.length + s.length ≤ 256) (hcnt : cnt < 549755813888)
  (h1 : ∃ cur', W1.heap[C.Bp]? = some (.cells cur' 143 (0, 0)) ∧ cur'.size = 256) (h2 : BsAt W1 C.Bp 0 (pl ++ s)) (h3 : Only (· = C.Bp) w W1) :
  Calls Tryz.prog 93 #[.slice (some ⟨C.Bp, 0, none⟩) (pl.length + s.length) 256, .pointer (some ⟨L, 0, none⟩), .pointer (some ⟨C.Bc, 0, none⟩)] W1 fun e w' => e = .returned (.bool true) ∧ MP C r o n pl.length ov cnt xs [(pl ++ s, v)] w w' := by
 obtain ⟨hW1, hM1⟩ := h.longer h1 h2 h3
 have hl1 := (h3.block L (h.lt _ hL.1) hL.2.1).trans hl
 have cn1 := (cell_row (j := 0) hl1).trans (show _ = some (Value.int .i64 v) from rfl)
 have hlen : (pl ++ s).length = pl.length + s.length := List.length_append
 have hsl1 : Sl W1 1 (.slice (some ⟨C.Bp, 0, none⟩) (pl ++ s).length 256) (pl ++ s).length (u8s (pl ++ s)) := h2.sl rfl (by omega) (by decide)
 rw [hlen] at hsl1
 obtain ⟨f1, f2, f3, f4, f5⟩ := h.Fr
 have hcb := cb93_any (.slice (some ⟨C.Bp, 0, none⟩) (pl.length + s.length) 256) (pl ++ s) L 0 v C.Bo C.Bc ov cnt xs (fun k => k < W1.heap.size ∧ ov.ownBlock ≠ some k) W1 (by rw [hlen]; exact hsl1) cn1 hW1.cb hW1.out hW1.own (fun k hk hF => hF.2 hk) (fun k hk => hk.1) hcnt
  ⟨hW1.lt _ hL.1, fun e => hW1.sep _ e hL.1⟩ (fun b o n c e => by cases e; exact ⟨hW1.lt _ f3, fun e => hW1.sep _ e f3⟩)
 refine hcb.mono ?_
 rintro e w' ⟨rfl, o', k1, k2, k3, k4⟩
 refine ⟨rfl, ?_⟩
 have hrne : ∀ x, F x → x < w.heap.size → ¬ (x = C.Bo ∨ ov.ownBlock = some x) := fun x hx _ => by
  rintro (e | e)
  ·exact f5 (e ▸ hx)
  ·exact h.sep x e hx
 have hM2 : MP C r o n (pl ++ s).length ov cnt xs [(pl ++ s, v)] W1 w' := by
  refine ⟨o', k1, by simpa [outC] using k2, fun k hk => ?_, k4.mono fun k hk => hk.imp id fun e => .inr (.inr e), KeepTo.of (k4.block r (hW1.lt _ f1) (hrne r f1 (h.lt _ f1))), KeepTo.of (k4.block _ (hW1.lt _ f3) (hrne _ f3 (h.lt _ f3)))⟩
  have := k3 k hk
  by_cases e : ov.ownBlock = some k
  ·exact .inl e
  ·exact .inr (Nat.le_of_not_lt fun hlt => this ⟨hlt, e⟩)
 have := hM1.trans (r' := r) (m' := (pl ++ s).length) (o' := o) (n' := n) (gs := [(pl ++ s, v)]) (w2 := w') (fun ov' he => by
  rw [hW1.out] at he
  obtain rfl : ov' = ov := by simpa using he.symm
  simpa [outC] using hM2) (.inl ⟨rfl, Nat.le_refl _⟩) (by omega)
 exact this
set_option maxRecDepth 100000 in
set_option maxHeartbeats 1600000 in
theorem matchPartsE_any (b r o cap n : Nat) (us : List Value) (ps : List (List UInt8)) (w : World) (hln : us.length = n) (hv : PV w r o cap us) (hps : PartsF w b us ps) (hn0 : 0 < n) :
  Calls Tryz.prog 126 #[.slice (some ⟨r, o, none⟩) n cap, .string (mk [])] w (MpC ps [] b r o n w) := by
 have hpn : ps.length = n := by rw [← hln]; exact hps.1.symm
 have hpne : ps ≠ [] := by rintro rfl; simp at hpn; omega
 have hm : mpF ps [] = some ps := mpF_nil hpne
 have e0 : (mk []).size = 0 := rfl
 have H := Lib.hid (MpC.some' (b := b) (r := r) (o := o) (n := n) hm (List.length_pos_iff.2 hpne) hpn.symm hv hps (.inl ⟨rfl, Nat.le_refl _⟩) (Only.refl _ w) (KeepTo.refl r (o + n) w))
 clear hv hps hpn hpne hm hln
 go_enter Tryz.func126, Tryz.ntmps126
 go_wp2
 go_ret2
 exact H.out
theorem matchPartsG_any (b r o cap n : Nat) (us : List Value) (ps : List (List UInt8)) (s : List UInt8) (w : World) (hln : us.length = n) (hv : PV w r o cap us) (hps : PartsF w b us ps) (hbw : b < w.heap.size) (hbr : b ≠ r) (hn0 : 0 < n) (hs : s.length ≤ 100000) (hn : n ≤ 200000) (hpl : ∀ p ∈ ps, p.length ≤ 100000) :
  Calls Tryz.prog 126 #[.slice (some ⟨r, o, none⟩) n cap, .string (mk s)] w (MpC ps s b r o n w) := by
 cases hs0 : s with
 | nil => exact matchPartsE_any b r o cap n us ps w hln hv hps hn0
 | cons c t =>
  rw [← hs0]
  have e : (mk s).size = s.length := mk_size s
  have := matchPartsF_any b r o cap n us ps (mk s) w hln hv hps hbw hbr (by rw [e, hs0]; simp) (by rw [e]; exact hs) hn hpl
  rw [bs_mk] at this
  exact this
theorem nodeNe2 (k : Kd) (p : Value) (w : World) : (binOp .neq 137 (.iface (tyP k) p) .nilIface).run Tryz.prog w = .ok (.bool true) w := by cases k <;> kernel_rfl
theorem leafNe2 (p : Value) (w : World) : (binOp .neq 137 (.iface 197 p) .nilIface).run Tryz.prog w = .ok (.bool true) w := by kernel_rfl
theorem refNe2 (T : Art) (w : World) : (binOp .neq 137 T.ref .nilIface).run Tryz.prog w = .ok (.bool true) w := by
 cases T with
 | leaf => exact leafNe2 _ w
 | node k => exact nodeNe2 k _ w
theorem refNe1 (T : Art) (w : World) : (binOp .eql 137 T.ref .nilIface).run Tryz.prog w = .ok (.bool false) w := by
 cases T with
 | leaf => kernel_rfl
 | node k => exact nodeNe k _ w
theorem callKids (k : Kd) (args : Array Value) (w : World) : (callFunc (kidsF k) args).run Tryz.prog w = .ok (.enter (kidsF k) args) w := by cases k <;> kernel_rfl
theorem ref_blk {T T' : Art} (h : T.ref = T'.ref) : T.blk = T'.blk := by
 cases T <;> cases T' <;> simp [Art.ref, Art.blk] at h ⊢ <;> first | exact h | exact h.2
open Classical in
/-- How much of the way down is left. -/
noncomputable def leftW (x : Value) (a c : Value) : Nat := 2 * (300 - (match c with | .slice _ n _ => n | _ => 0)) + if a = x then 1 else 0
end Go.Proofs.YtehlmjecbljafaaGreatDoor
namespace Go.Proofs.YtehlmjecbljafaaGreatDoor
open Go Go.RowKit
/-- What a deletion below a node must have done. -/
structure DelR (T : Art) (l : List UInt8) (T' : Art) : Prop where
 wf : T'.WF
 mem : ∀ e, e ∈ T'.ents ↔ e ∈ T.ents ∧ e.1 ≠ l
 pre : T.path <+: T'.path
/-- A tree under a beginning. -/
def Art.under (p : List UInt8) : Art → Art
 | .leaf b v s => .leaf b v (p ++ s)
 | .node k b pre n key kid => .node k b (p ++ pre) n key kid
theorem under_wf {p : List UInt8} : ∀ {T : Art}, T.WF → (T.under p).WF
 | .leaf .., _ => trivial
 | .node .., h => h
theorem under_path (p : List UInt8) : ∀ T : Art, (T.under p).path = p ++ T.path
 | .leaf .. => rfl
 | .node .. => rfl
theorem shift_sh (p q : List UInt8) (e : Ent) : shift p (shift q e) = shift (p ++ q) e := by simp only [shift, List.append_assoc]
theorem under_ents {p : List UInt8} : ∀ {T : Art} {e : Ent}, e ∈ (T.under p).ents ↔ ∃ x ∈ T.ents, e = shift p x
 | .leaf b v s, e => by simp [Art.under, Art.ents, shift]
 | .node k b pre n key kid, e => by
  show e ∈ (Art.node k b (p ++ pre) n key kid).ents ↔ _
  rw [mem_node]
  constructor
  ·rintro ⟨i, hi, x, hx, rfl⟩
   exact ⟨shift pre x, mem_node.2 ⟨i, hi, x, hx, rfl⟩, (shift_sh _ _ _).symm⟩
  ·rintro ⟨y, hy, rfl⟩
   obtain ⟨i, hi, x, hx, rfl⟩ := mem_node.1 hy
   exact ⟨i, hi, x, hx, shift_sh _ _ _⟩
theorem del_keep {T : Art} {l : List UInt8} (hW : T.WF) (h : ∀ e ∈ T.ents, e.1 ≠ l) : DelR T l T := ⟨hW, fun e => ⟨fun he => ⟨he, h e he⟩, fun h => h.1⟩, List.prefix_refl _⟩
/-- All kids but one, in some order. -/
structure KidsBut (n c : Nat) (key : Nat → UInt8) (kid : Nat → Art) (m : Nat) (key' : Nat → UInt8) (kid' : Nat → Art) : Prop where
 fwd : ∀ i, i < m → ∃ j, j < n ∧ j ≠ c ∧ key' i = key j ∧ kid' i = kid j
 fro : ∀ j, j < n → j ≠ c → ∃ i, i < m ∧ kid' i = kid j
 inj : ∀ i j, i < m → j < m → key' i = key' j → i = j
/-- The same kids in some order. -/
structure KidsSame (m : Nat) (key : Nat → UInt8) (kid : Nat → Art) (key' : Nat → UInt8) (kid' : Nat → Art) : Prop where
 fwd : ∀ i, i < m → ∃ j, j < m ∧ key' i = key j ∧ kid' i = kid j
 fro : ∀ j, j < m → ∃ i, i < m ∧ kid' i = kid j
 inj : ∀ i j, i < m → j < m → key' i = key' j → i = j
theorem KidsBut.same {n c m : Nat} {key key' key2 : Nat → UInt8} {kid kid' kid2 : Nat → Art} (h : KidsBut n c key kid m key' kid') (h2 : KidsSame m key' kid' key2 kid2) : KidsBut n c key kid m key2 kid2 where
 fwd i hi := by
  obtain ⟨j, hj, e1, e2⟩ := h2.fwd i hi
  obtain ⟨q, hq, hqc, e3, e4⟩ := h.fwd j hj
  exact ⟨q, hq, hqc, e1.trans e3, e2.trans e4⟩
 fro j hj hjc := by
  obtain ⟨i, hi, e1⟩ := h.fro j hj hjc
  obtain ⟨q, hq, e2⟩ := h2.fro i hi
  exact ⟨q, hq, e2.trans e1⟩
 inj := h2.inj
section
variable {k k' : Kd} {b b' n c m lb : Nat} {pre l r s : List UInt8} {key key' : Nat → UInt8} {kid kid' : Nat → Art} {v : Int} {e : Ent} {t' : Art}
theorem but_swap (hW : (Art.node k b pre n key kid).WF) (hc : c < n) : KidsBut n c key kid (n - 1) (upd key c (key (n - 1))) (upd kid c (kid (n - 1))) where
 fwd i hi := by
  by_cases e : i = c
  ·subst e; exact ⟨n - 1, by omega, by omega, upd_same _ _ _, upd_same _ _ _⟩
  ·exact ⟨i, by omega, e, upd_ne _ _ e, upd_ne _ _ e⟩
 fro j hj hjc := by
  by_cases e : j = n - 1
  ·subst e; exact ⟨c, by omega, upd_same _ _ _⟩
  ·exact ⟨j, by omega, upd_ne _ _ hjc⟩
 inj i j hi hj e := by
  by_cases hic : i = c
  ·by_cases hjc : j = c
   ·omega
   ·rw [hic, upd_same, upd_ne _ _ hjc] at e
    have := hW.2.2.2 (n - 1) j (by omega) (by omega) e
    omega
  ·by_cases hjc : j = c
   ·rw [hjc, upd_same, upd_ne _ _ hic] at e
    have := hW.2.2.2 i (n - 1) (by omega) (by omega) e
    omega
   ·rw [upd_ne _ _ hic, upd_ne _ _ hjc] at e
    exact hW.2.2.2 i j (by omega) (by omega) e
theorem no_pre (h : ¬ pre <+: l) : ∀ e ∈ (Art.node k b pre n key kid).ents, e.1 ≠ l := fun e he e1 => by
 obtain ⟨y, hy⟩ := ents_path he
 exact h (by rw [← e1, hy]; exact List.prefix_append _ _)
/-- A text that is there is there in the kid of its byte. -/
theorem only_kid (hW : (Art.node k b pre n key kid).WF) {i : Nat} (hi : i < n) {x : Ent} (hx : x ∈ (kid i).ents) (e1 : x.1 = r) : key i = piv r := by
 obtain ⟨-, p1, p2⟩ := hW.2.2.1 i hi
 rw [← e1]; exact (kid_piv p1 p2 hx).symm
theorem no_key (hW : (Art.node k b pre n key kid).WF) (h : ∀ i, i < n → key i ≠ piv r) : ∀ e ∈ (Art.node k b pre n key kid).ents, e.1 ≠ pre ++ r := fun e he e1 => by
 obtain ⟨i, hi, x, hx, rfl⟩ := mem_node.1 he
 exact h i hi (only_kid hW hi hx (List.append_cancel_left e1))
theorem no_leaf (hW : (Art.node k b pre n key kid).WF) (hc : c < n) (hk : key c = piv r) (hkid : kid c = .leaf lb v s) (hs : s ≠ r) : ∀ e ∈ (Art.node k b pre n key kid).ents, e.1 ≠ pre ++ r := fun e he e1 => by
 obtain ⟨i, hi, x, hx, rfl⟩ := mem_node.1 he
 have e2 : x.1 = r := List.append_cancel_left e1
 have := only_kid hW hi hx e2
 obtain rfl : i = c := hW.2.2.2 i c hi hc (this.trans hk.symm)
 rw [hkid] at hx
 obtain rfl : x = (s, v) := by simpa [Art.ents] using hx
 exact hs e2
theorem mem_but (hW : (Art.node k b pre n key kid).WF) (hc : c < n) (hk : key c = piv r) (hkid : kid c = .leaf lb v r) (h : KidsBut n c key kid m key' kid') : (∃ i, i < m ∧ ∃ x ∈ (kid' i).ents, e = shift pre x) ↔ e ∈ (Art.node k b pre n key kid).ents ∧ e.1 ≠ pre ++ r := by
 rw [mem_node]
 constructor
 ·rintro ⟨i, hi, x, hx, rfl⟩
  obtain ⟨j, hj, hjc, -, e2⟩ := h.fwd i hi
  rw [e2] at hx
  refine ⟨⟨j, hj, x, hx, rfl⟩, fun e1 => hjc ?_⟩
  exact hW.2.2.2 j c hj hc ((only_kid hW hj hx (List.append_cancel_left e1)).trans hk.symm)
 ·rintro ⟨⟨j, hj, x, hx, rfl⟩, hne⟩
  by_cases hjc : j = c
  ·subst hjc
   rw [hkid] at hx
   obtain rfl : x = (r, v) := by simpa [Art.ents] using hx
   exact absurd rfl hne
  ·obtain ⟨i, hi, e2⟩ := h.fro j hj hjc
   exact ⟨i, hi, x, by rw [e2]; exact hx, rfl⟩
/-- A kid is taken out of a node; the node may become another kind. -/
theorem del_kid (hW : (Art.node k b pre n key kid).WF) (hc : c < n) (hk : key c = piv r) (hkid : kid c = .leaf lb v r) (h : KidsBut n c key kid m key' kid') (hlow : k'.low ≤ m) (hcap : m ≤ k'.cap) : DelR (.node k b pre n key kid) (pre ++ r) (.node k' b' pre m key' kid') := by
 refine ⟨⟨hlow, hcap, fun i hi => ?_, h.inj⟩, fun e => ?_, List.prefix_refl _⟩
 ·obtain ⟨j, hj, -, e1, e2⟩ := h.fwd i hi
  rw [e1, e2]; exact hW.2.2.1 j hj
 ·rw [mem_node]; exact mem_but hW hc hk hkid h
/-- One kid is left: it goes up. -/
theorem del_up (hW : (Art.node k b pre n key kid).WF) (hc : c < n) (hk : key c = piv r) (hkid : kid c = .leaf lb v r) (h : KidsBut n c key kid 1 key' kid') : DelR (.node k b pre n key kid) (pre ++ r) ((kid' 0).under pre) := by
 obtain ⟨j, hj, -, -, e2⟩ := h.fwd 0 (by omega)
 refine ⟨under_wf (by rw [e2]; exact (hW.2.2.1 j hj).1), fun e => ?_, by rw [under_path]; exact List.prefix_append _ _⟩
 rw [under_ents, ← mem_but hW hc hk hkid h]
 constructor
 ·rintro ⟨x, hx, rfl⟩; exact ⟨0, by omega, x, hx, rfl⟩
 ·rintro ⟨i, hi, x, hx, rfl⟩
  obtain rfl : i = 0 := by omega
  exact ⟨x, hx, rfl⟩
theorem del_rec (hW : (Art.node k b pre n key kid).WF) (hc : c < n) (hk : key c = piv r) (hn : (kid c).isLeaf = false) (h : DelR (kid c) r t') : DelR (.node k b pre n key kid) (pre ++ r) (.node k b pre n key (upd kid c t')) := by
 obtain ⟨w0, p0, n0⟩ := hW.2.2.1 c hc
 have hne := n0 hn
 obtain ⟨q, hq⟩ := h.pre
 refine ⟨⟨hW.1, hW.2.1, fun i hi => ?_, hW.2.2.2⟩, fun e => ?_, List.prefix_refl _⟩
 ·by_cases hic : i = c
  ·subst hic
   rw [upd_same]
   refine ⟨h.wf, by rw [← hq, piv_append hne]; exact p0, fun _ e => hne ?_⟩
   rw [← hq] at e; exact (List.append_eq_nil_iff.1 e).1
  ·rw [upd_ne _ _ hic]; exact hW.2.2.1 i hi
 ·rw [mem_node, mem_node]
  constructor
  ·rintro ⟨i, hi, x, hx, rfl⟩
   by_cases hic : i = c
   ·subst hic
    rw [upd_same] at hx
    obtain ⟨h1, h2⟩ := (h.mem x).1 hx
    exact ⟨⟨i, hi, x, h1, rfl⟩, fun e => h2 (List.append_cancel_left e)⟩
   ·rw [upd_ne _ _ hic] at hx
    refine ⟨⟨i, hi, x, hx, rfl⟩, fun e => hic ?_⟩
    exact hW.2.2.2 i c hi hc ((only_kid hW hi hx (List.append_cancel_left e)).trans hk.symm)
  ·rintro ⟨⟨i, hi, x, hx, rfl⟩, hne2⟩
   by_cases hic : i = c
   ·subst hic
    exact ⟨i, hi, x, by rw [upd_same]; exact (h.mem x).2 ⟨hx, fun e => hne2 (by simp only [shift]; rw [e])⟩, rfl⟩
   ·exact ⟨i, hi, x, by rw [upd_ne _ _ hic]; exact hx, rfl⟩
end
end Go.Proofs.YtehlmjecbljafaaGreatDoor
namespace Go.Proofs.YtehlmjecbljafaaGreatDoor
open Go Go.RowKit
theorem row_is {k : Kd} {pre : List UInt8} {n : Nat} {key : Nat → UInt8} {kid : Nat → Art} {L : List Value} (hl : L.length = (rowN k pre n key kid).length) (h1 : ∀ i, i < k.cap → L[i]? = some (if i < n then (kid i).ref else .nilIface))
  (h2 : L[k.cap]? = some (.string (mk pre))) (h3 : L[k.cap + 1]? = some (.int .u16 (n : Nat))) (h4 : ∀ j, k.cap + 2 + j < L.length → L[k.cap + 2 + j]? = (keyCells k n key)[j]?) : L = rowN k pre n key kid := by
 refine row_ext hl fun i hi => ?_
 by_cases e1 : i < k.cap
 ·rw [h1 i e1, rowN_kid e1]
 ·by_cases e2 : i = k.cap
  ·subst e2; rw [h2, rowN_pre]
  ·by_cases e3 : i = k.cap + 1
   ·subst e3; rw [h3, rowN_size]
   ·obtain ⟨j, rfl⟩ : ∃ j, i = k.cap + 2 + j := ⟨i - (k.cap + 2), by omega⟩
    rw [h4 j hi, rowN_key]
section
variable {k : Kd} {pre : List UInt8} {m c : Nat} {key : Nat → UInt8} {kid : Nat → Art}
theorem rowN_del (hk : k.cap ≠ 48) (hm : m < k.cap) (hc : c < m) :
  ((((((rowN k pre (m + 1) key kid).set (k.cap + 2 + c) (.int .u8 ((key m).toNat : Nat))).set c (kid m).ref).set (k.cap + 2 + m) (.int .u8 0)).set m .nilIface).set (k.cap + 1) (.int .u16 (m : Nat))) = rowN k pre m (upd key c (key m)) (upd kid c (kid m)) := by
 have hL : (rowN k pre (m + 1) key kid).length = k.cap + 2 + k.cap := by rw [rowN_len, keyCells_len, if_neg hk]
 refine row_is (by simp only [List.length_set]; rw [rowN_len, rowN_len, keyCells_len, keyCells_len]) (fun i hi => ?_) ?_ ?_ (fun j hj => ?_)
 ·simp only [List.getElem?_set, List.length_set, hL]
  rw [if_neg (by omega)]
  by_cases e : m = i
  ·subst e; rw [if_pos rfl, if_pos (by omega), if_neg (by omega)]
  ·rw [if_neg e, if_neg (by omega)]
   by_cases e2 : c = i
   ·subst e2; rw [if_pos rfl, if_pos (by omega), if_pos hc, upd_same]
   ·rw [if_neg e2, if_neg (by omega), rowN_kid hi, upd_ne _ _ (fun h => e2 h.symm)]
    by_cases h : i < m
    ·rw [if_pos h, if_pos (by omega)]
    ·rw [if_neg h, if_neg (by omega)]
 ·simp only [List.getElem?_set, List.length_set, hL]
  rw [if_neg (by omega), if_neg (by omega), if_neg (by omega), if_neg (by omega), if_neg (by omega), rowN_pre]
 ·simp only [List.getElem?_set, List.length_set, hL, if_true]
  rw [if_pos (by omega)]
 ·simp only [List.length_set, hL] at hj
  simp only [List.getElem?_set, List.length_set, hL]
  rw [if_neg (by omega), if_neg (by omega), keyCells_at hk (by omega)]
  by_cases e : m = j
  ·subst e; rw [if_pos rfl, if_pos (by omega), if_neg (by omega)]; rfl
  ·rw [if_neg (by omega), if_neg (by omega)]
   by_cases e2 : c = j
   ·subst e2; rw [if_pos rfl, if_pos (by omega), if_pos hc, upd_same]
   ·rw [if_neg (by omega), rowN_key, keyCells_at hk (by omega), upd_ne _ _ (fun h => e2 h.symm)]
    by_cases h : j < m
    ·rw [if_pos h, if_pos (by omega)]
    ·rw [if_neg h, if_neg (by omega)]
theorem rowN_delLast (hk : k.cap ≠ 48) (hm : m < k.cap) :
  ((((rowN k pre (m + 1) key kid).set (k.cap + 2 + m) (.int .u8 0)).set m .nilIface).set (k.cap + 1) (.int .u16 (m : Nat))) = rowN k pre m (upd key m (key m)) (upd kid m (kid m)) := by
 have hL : (rowN k pre (m + 1) key kid).length = k.cap + 2 + k.cap := by rw [rowN_len, keyCells_len, if_neg hk]
 refine row_is (by simp only [List.length_set]; rw [rowN_len, rowN_len, keyCells_len, keyCells_len]) (fun i hi => ?_) ?_ ?_ (fun j hj => ?_)
 ·simp only [List.getElem?_set, List.length_set, hL]
  rw [if_neg (by omega)]
  by_cases e : m = i
  ·subst e; rw [if_pos rfl, if_pos (by omega), if_neg (by omega)]
  ·rw [if_neg e, if_neg (by omega), rowN_kid hi, upd_ne _ _ (fun h => e h.symm)]
   by_cases h : i < m
   ·rw [if_pos h, if_pos (by omega)]
   ·rw [if_neg h, if_neg (by omega)]
 ·simp only [List.getElem?_set, List.length_set, hL]
  rw [if_neg (by omega), if_neg (by omega), if_neg (by omega), rowN_pre]
 ·simp only [List.getElem?_set, List.length_set, hL, if_true]
  rw [if_pos (by omega)]
 ·simp only [List.length_set, hL] at hj
  simp only [List.getElem?_set, List.length_set, hL]
  rw [if_neg (by omega), if_neg (by omega), keyCells_at hk (by omega)]
  by_cases e : m = j
  ·subst e; rw [if_pos rfl, if_pos (by omega), if_neg (by omega)]; rfl
  ·rw [if_neg (by omega), rowN_key, keyCells_at hk (by omega), upd_ne _ _ (fun h => e h.symm)]
   by_cases h : j < m
   ·rw [if_pos h, if_pos (by omega)]
   ·rw [if_neg h, if_neg (by omega)]
/-- Where a byte stands. -/
theorem slotOf_at {n : Nat} {key : Nat → UInt8} (hinj : ∀ i j, i < n → j < n → key i = key j → i = j) {i : Nat} (hi : i < n) : slotOf n key (key i) = i + 1 := by
 cases h : slotOf n key (key i) with
 | zero => exact absurd rfl (slotOf_none h i hi)
 | succ q =>
  obtain ⟨h1, h2⟩ := slotOf_some h
  rw [hinj q i h1 hi h2]
theorem slotOf_zero {n : Nat} {key : Nat → UInt8} {d : UInt8} (h : ∀ i, i < n → key i ≠ d) : slotOf n key d = 0 := by
 cases h2 : slotOf n key d with
 | zero => rfl
 | succ q => obtain ⟨h3, h4⟩ := slotOf_some h2; exact absurd h4 (h q h3)
theorem slot_del (hinj : ∀ i j, i < m + 1 → j < m + 1 → key i = key j → i = j) (hc : c < m) (d : UInt8) : slotOf m (upd key c (key m)) d = if d = key c then 0 else if d = key m then c + 1 else slotOf (m + 1) key d := by
 have hinj2 : ∀ i j, i < m → j < m → upd key c (key m) i = upd key c (key m) j → i = j := fun i j hi hj e => by
  by_cases hic : i = c
  ·by_cases hjc : j = c
   ·omega
   ·rw [hic, upd_same, upd_ne _ _ hjc] at e
    have := hinj m j (by omega) (by omega) e; omega
  ·by_cases hjc : j = c
   ·rw [hjc, upd_same, upd_ne _ _ hic] at e
    have := hinj i m (by omega) (by omega) e; omega
   ·rw [upd_ne _ _ hic, upd_ne _ _ hjc] at e
    exact hinj i j (by omega) (by omega) e
 by_cases e1 : d = key c
 ·rw [if_pos e1]
  refine slotOf_zero fun i hi => ?_
  by_cases hic : i = c
  ·rw [hic, upd_same, e1]; intro e; have := hinj m c (by omega) (by omega) e; omega
  ·rw [upd_ne _ _ hic, e1]; intro e; exact hic (hinj i c (by omega) (by omega) e)
 ·rw [if_neg e1]
  by_cases e2 : d = key m
  ·rw [if_pos e2]
   have := slotOf_at hinj2 (i := c) hc
   rw [upd_same] at this
   rw [e2]; exact this
  ·rw [if_neg e2]
   cases h : slotOf (m + 1) key d with
   | zero =>
    have h2 := slotOf_none h
    refine slotOf_zero fun i hi => ?_
    by_cases hic : i = c
    ·rw [hic, upd_same]; exact h2 m (by omega)
    ·rw [upd_ne _ _ hic]; exact h2 i (by omega)
   | succ q =>
    obtain ⟨h3, h4⟩ := slotOf_some h
    have hqm : q ≠ m := fun e => e2 (by rw [← h4, e])
    have hqc : q ≠ c := fun e => e1 (by rw [← h4, e])
    have := slotOf_at hinj2 (i := q) (by omega)
    rw [upd_ne _ _ hqc, h4] at this
    exact this
theorem rowN_del48 (hm : m < 48) (hc : c < m) (hinj : ∀ i j, i < m + 1 → j < m + 1 → key i = key j → i = j) :
  ((((((rowN .k48 pre (m + 1) key kid).set c (kid m).ref).set (48 + 2 + (key m).toNat) (.int .u8 (c + 1 : Nat))).set m .nilIface).set (48 + 2 + (key c).toNat) (.int .u8 0)).set (48 + 1) (.int .u16 (m : Nat))) = rowN .k48 pre m (upd key c (key m)) (upd kid c (kid m)) := by
 have hcap : Kd.k48.cap = 48 := rfl
 have hL : (rowN .k48 pre (m + 1) key kid).length = 48 + 2 + 256 := by rw [rowN_len, keyCells_len, if_pos hcap]; rfl
 have hkm := (key m).toNat_lt
 have hkc := (key c).toNat_lt
 refine row_is (by simp only [List.length_set]; rw [rowN_len, rowN_len, keyCells_len, keyCells_len]) (fun i hi => ?_) ?_ ?_ (fun j hj => ?_)
 ·rw [hcap] at hi
  simp only [List.getElem?_set, List.length_set, hL]
  rw [if_neg (by omega), if_neg (by omega)]
  by_cases e : m = i
  ·subst e; rw [if_pos rfl, if_pos (by omega), if_neg (by omega)]
  ·rw [if_neg e, if_neg (by omega)]
   by_cases e2 : c = i
   ·subst e2; rw [if_pos rfl, if_pos (by omega), if_pos hc, upd_same]
   ·rw [if_neg e2, rowN_kid hi, upd_ne _ _ (fun h => e2 h.symm)]
    by_cases h : i < m
    ·rw [if_pos h, if_pos (by omega)]
    ·rw [if_neg h, if_neg (by omega)]
 ·have a := rowN_pre (k := .k48) (pre := pre) (n := m + 1) (key := key) (kid := kid)
  rw [hcap] at a ⊢
  simp only [List.getElem?_set, List.length_set, hL]
  rw [if_neg (by omega), if_neg (by omega), if_neg (by omega), if_neg (by omega), if_neg (by omega), a]
 ·rw [hcap]
  simp only [List.getElem?_set, List.length_set, hL, if_true]
  rw [if_pos (by omega)]
 ·rw [hcap] at hj ⊢
  simp only [List.length_set, hL] at hj
  have a := rowN_key (k := .k48) (pre := pre) (n := m + 1) (key := key) (kid := kid) (i := j)
  rw [hcap] at a
  obtain ⟨d, rfl⟩ : ∃ d : UInt8, j = d.toNat := ⟨UInt8.ofNat j, by simp; omega⟩
  simp only [List.getElem?_set, List.length_set, hL]
  rw [if_neg (by omega), keyCells48, slot_del hinj hc]
  by_cases e1 : key c = d
  ·rw [if_pos (by rw [e1]), if_pos (by omega), if_pos e1.symm]; rfl
  ·have h1 : (key c).toNat ≠ d.toNat := fun h => e1 (UInt8.toNat_inj.1 h)
   rw [if_neg (show ¬ d = key c from fun h => e1 h.symm), if_neg (show ¬ (48 + 2 + (key c).toNat = 48 + 2 + d.toNat) by omega), if_neg (show ¬ (m = 48 + 2 + d.toNat) by omega)]
   by_cases e2 : key m = d
   ·rw [if_pos (show 48 + 2 + (key m).toNat = 48 + 2 + d.toNat by rw [e2]), if_pos (by omega), if_pos e2.symm]
   ·have h2 : (key m).toNat ≠ d.toNat := fun h => e2 (UInt8.toNat_inj.1 h)
    rw [if_neg (show ¬ (48 + 2 + (key m).toNat = 48 + 2 + d.toNat) by omega), if_neg (show ¬ (c = 48 + 2 + d.toNat) by omega), a, keyCells48, if_neg (fun h => e2 h.symm)]
theorem rowN_delLast48 (hm : m < 48) (hinj : ∀ i j, i < m + 1 → j < m + 1 → key i = key j → i = j) :
  ((((rowN .k48 pre (m + 1) key kid).set m .nilIface).set (48 + 2 + (key m).toNat) (.int .u8 0)).set (48 + 1) (.int .u16 (m : Nat))) = rowN .k48 pre m (upd key m (key m)) (upd kid m (kid m)) := by
 have hcap : Kd.k48.cap = 48 := rfl
 have hL : (rowN .k48 pre (m + 1) key kid).length = 48 + 2 + 256 := by rw [rowN_len, keyCells_len, if_pos hcap]; rfl
 have hkm := (key m).toNat_lt
 refine row_is (by simp only [List.length_set]; rw [rowN_len, rowN_len, keyCells_len, keyCells_len]) (fun i hi => ?_) ?_ ?_ (fun j hj => ?_)
 ·rw [hcap] at hi
  simp only [List.getElem?_set, List.length_set, hL]
  rw [if_neg (by omega), if_neg (by omega)]
  by_cases e : m = i
  ·subst e; rw [if_pos rfl, if_pos (by omega), if_neg (by omega)]
  ·rw [if_neg e, rowN_kid hi, upd_ne _ _ (fun h => e h.symm)]
   by_cases h : i < m
   ·rw [if_pos h, if_pos (by omega)]
   ·rw [if_neg h, if_neg (by omega)]
 ·have a := rowN_pre (k := .k48) (pre := pre) (n := m + 1) (key := key) (kid := kid)
  rw [hcap] at a ⊢
  simp only [List.getElem?_set, List.length_set, hL]
  rw [if_neg (by omega), if_neg (by omega), if_neg (by omega), a]
 ·rw [hcap]
  simp only [List.getElem?_set, List.length_set, hL, if_true]
  rw [if_pos (by omega)]
 ·rw [hcap] at hj ⊢
  simp only [List.length_set, hL] at hj
  have a := rowN_key (k := .k48) (pre := pre) (n := m + 1) (key := key) (kid := kid) (i := j)
  rw [hcap] at a
  obtain ⟨d, rfl⟩ : ∃ d : UInt8, j = d.toNat := ⟨UInt8.ofNat j, by simp; omega⟩
  simp only [List.getElem?_set, List.length_set, hL]
  have hs : slotOf m (upd key m (key m)) d = if d = key m then 0 else slotOf (m + 1) key d := by
   have e0 : slotOf m (upd key m (key m)) d = slotOf m key d := by
    have : upd key m (key m) = key := by funext i; by_cases h : i = m; rw [h, upd_same]; rw [upd_ne _ _ h]
    rw [this]
   rw [e0, slotOf]
   by_cases h : d = key m
   ·rw [if_pos h, h]
    exact slotOf_zero fun i hi e => by have := hinj i m (by omega) (by omega) e; omega
   ·rw [if_neg h, if_neg h]
  rw [if_neg (by omega), keyCells48, hs]
  by_cases e2 : key m = d
  ·rw [if_pos (show 48 + 2 + (key m).toNat = 48 + 2 + d.toNat by rw [e2]), if_pos (by omega), if_pos e2.symm]; rfl
  ·have h2 : (key m).toNat ≠ d.toNat := fun h => e2 (UInt8.toNat_inj.1 h)
   rw [if_neg (show ¬ (48 + 2 + (key m).toNat = 48 + 2 + d.toNat) by omega), if_neg (show ¬ (m = 48 + 2 + d.toNat) by omega), a, keyCells48, if_neg (fun h => e2 h.symm)]
end
end Go.Proofs.YtehlmjecbljafaaGreatDoor
