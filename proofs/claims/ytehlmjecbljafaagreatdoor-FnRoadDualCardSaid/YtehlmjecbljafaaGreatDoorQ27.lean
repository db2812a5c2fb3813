/- The tree's filters: what a match keeps and shows. The tree's filters: the callback within a match; parts against any fragment. The tree's filters: the match's state carried on. The tree's filters: the way down, and the kids' turns. -/
import Derived.Test.YtehlmjecbljafaaGreatDoorQ15
import Derived.Test.YtehlmjecbljafaaGreatDoorQ21
import Derived.Test.YtehlmjecbljafaaGreatDoorQ26
namespace Go.Proofs.YtehlmjecbljafaaGreatDoor
open Go Go.RowKit
/-- Entries as they lie in the row of what is found. -/
def outC (l : List Ent) : List Value := l.flatMap fun e => [.string (mk e.1), .int .i64 e.2]
theorem outC_append (a b : List Ent) : outC (a ++ b) = outC a ++ outC b := by unfold outC; rw [List.flatMap_append]
/-- The blocks of a match: the filter's bytes, the prefix, the callback, what is found. -/
structure MCx where
  bf : Nat
  Bp : Nat
  Bc : Nat
  Bo : Nat
/-- What a match has put down. -/
def MP (C : MCx) (r o n m : Nat) (ov : Value) (cnt : Nat) (xs : List Value) (fs : List Ent) (w w' : World) : Prop :=
  ∃ ov', w'.heap[C.Bo]? = some (.cells #[ov'] 41 (0, 0)) ∧ Own w' (C.Bo + 1) 2 ov' (cnt + fs.length) (xs ++ outC fs) ∧ (∀ k, ov'.ownBlock = some k → ov.ownBlock = some k ∨ w.heap.size ≤ k) ∧
    Only (fun k => k = C.Bo ∨ k = C.Bp ∨ k = r ∨ ov.ownBlock = some k) w w' ∧ KeepTo r (o + n) w w' ∧ KeepTo C.Bp m w w'
/-- What stands ahead of a match. -/
structure MW (C : MCx) (F : Nat → Prop) (r o n cap : Nat) (us : List Value) (ps : List (List UInt8)) (pl : List UInt8) (ov : Value) (cnt : Nat) (xs : List Value) (w : World) : Prop where
  pv : PV w r o cap us
  pf : PartsF w C.bf us ps
  ln : us.length = n
  pb : PartsB ps
  ne : 0 < n
  small : n ≤ 200000
  psm : ∀ p ∈ ps, p.length ≤ 100000
  buf : ∃ cur, w.heap[C.Bp]? = some (.cells cur 143 (0, 0)) ∧ cur.size = 256
  pre : BsAt w C.Bp 0 pl
  cb : w.heap[C.Bc]? = some (.cells #[.func (.func 55) #[] #[.pointer (some ⟨C.Bo, 0, none⟩)]] 96 (0, 0))
  out : w.heap[C.Bo]? = some (.cells #[ov] 41 (0, 0))
  own : Own w (C.Bo + 1) 2 ov cnt xs
  sep : ∀ k, ov.ownBlock = some k → ¬ F k
  lt : ∀ k, F k → k < w.heap.size
  Fr : F r ∧ F C.bf ∧ F C.Bp ∧ F C.Bc ∧ ¬ F C.Bo
  ds : C.bf ≠ r ∧ C.Bp ≠ r ∧ C.Bc ≠ r ∧ C.bf ≠ C.Bp ∧ C.Bp ≠ C.Bc
theorem MW.bo {C : MCx} {F : Nat → Prop} {r o n cap : Nat} {us : List Value} {ps : List (List UInt8)} {pl : List UInt8} {ov : Value} {cnt : Nat} {xs : List Value} {w : World} (h : MW C F r o n cap us ps pl ov cnt xs w) {x : Nat} (hx : F x) (h1 : x ≠ C.Bp) (h2 : x ≠ r) : ¬ (x = C.Bo ∨ x = C.Bp ∨ x = r ∨ ov.ownBlock = some x) := by
  rintro (h3 | h3 | h3 | h3)
  · exact h.Fr.2.2.2.2 (h3 ▸ hx)
  · exact h1 h3
  · exact h2 h3
  · exact h.sep x h3 hx
theorem BsAt.keepTo {w w' : World} {b m : Nat} {l : List UInt8} {cur : Array Value} {ty : TypeId} (h : BsAt w b 0 l) (hr : w.heap[b]? = some (.cells cur ty (0, 0))) (hk : KeepTo b m w w') (hm : l.length ≤ m) : BsAt w' b 0 l := fun j c hj => by
  obtain ⟨cur', h1, h2, h3⟩ := hk cur ty hr
  have hjl := (List.getElem?_eq_some_iff.1 hj).1
  have := h j c hj
  rw [cell_row hr] at this
  rw [cell_row h1, h3 _ (by omega)]
  exact this
theorem KeepTo.bytes {w w' : World} {b m : Nat} {l l' : List UInt8} {cur cur' : Array Value} {ty : TypeId} (hr : w.heap[b]? = some (.cells cur ty (0, 0))) (hr' : w'.heap[b]? = some (.cells cur' ty (0, 0))) (hz : cur'.size = cur.size) (h : BsAt w b 0 l) (h' : BsAt w' b 0 (l ++ l')) (hm : m ≤ l.length) : KeepTo b m w w' := fun c0 t0 hc => by
  rw [hr] at hc; cases hc
  refine ⟨cur', hr', hz, fun j hj => ?_⟩
  have hjl : j < l.length := by omega
  have e1 := h j _ (List.getElem?_eq_getElem hjl)
  have e2 := h' j l[j] (by rw [List.getElem?_append_left hjl]; exact List.getElem?_eq_getElem hjl)
  rw [cell_row hr, Nat.zero_add] at e1
  rw [cell_row hr', Nat.zero_add] at e2
  rw [e1, e2]
theorem KeepTo.refl (r m : Nat) (w : World) : KeepTo r m w w := KeepTo.of rfl
section
variable {C : MCx} {F : Nat → Prop} {r o n cap : Nat} {us : List Value} {ps : List (List UInt8)} {pl : List UInt8} {ov : Value} {cnt : Nat} {xs : List Value} {w w' : World} {fs : List Ent}
theorem MP.refl {m : Nat} (h : MW C F r o n cap us ps pl ov cnt xs w) (hb : Below w.heap.size w w') : MP C r o n m ov cnt xs [] w w' := by
  have hlo := (Array.getElem?_eq_some_iff.1 h.out).1
  have hlr := h.lt _ h.Fr.1
  have hlp := h.lt _ h.Fr.2.2.1
  exact ⟨ov, (hb.block _ hlo).trans h.out, by simpa [outC] using h.own.keep hb, fun k hk => .inl hk, Only.of hb, KeepTo.of (hb.block _ hlr), KeepTo.of (hb.block _ hlp)⟩
theorem MP.trans {m m' o' n' r' : Nat} {w1 w2 : World} {gs : List Ent} (h : MP C r o n m ov cnt xs fs w w1) (k : ∀ ov', w1.heap[C.Bo]? = some (.cells #[ov'] 41 (0, 0)) → MP C r' o' n' m' ov' (cnt + fs.length) (xs ++ outC fs) gs w1 w2)
    (hr : r' = r ∧ o + n ≤ o' + n' ∨ w.heap.size ≤ r' ∧ r < w.heap.size ∧ r ≠ C.Bo ∧ r ≠ C.Bp ∧ ov.ownBlock ≠ some r) (hm : m ≤ m') : MP C r o n m ov cnt xs (fs ++ gs) w w2 := by
  obtain ⟨ov1, h1, h2, h3, h4, h5, h6⟩ := h
  obtain ⟨ov2, k1, k2, k3, k4, k5, k6⟩ := k ov1 h1
  refine ⟨ov2, k1, by rw [List.length_append, outC_append, ← Nat.add_assoc, ← List.append_assoc]; exact k2, fun x hx => ?_, ?_, ?_, h6.trans k6 hm⟩
  · rcases k3 x hx with h | h
    · exact h3 x h
    · exact .inr (Nat.le_trans h4.size h)
  · refine h4.trans k4 fun b hb => ?_
    rcases hb with h | h | h | h
    · exact .inl (.inl h)
    · exact .inl (.inr (.inl h))
    · rcases hr with ⟨hr, -⟩ | ⟨hr, -⟩
      · exact .inl (.inr (.inr (.inl (h.trans hr))))
      · exact .inr (h ▸ hr)
    · rcases h3 b h with h | h
      · exact .inl (.inr (.inr (.inr h)))
      · exact .inr h
  · rcases hr with ⟨rfl, hr⟩ | ⟨hr, hr1, hr2, hr3, hr4⟩
    · exact h5.trans k5 hr
    · refine h5.trans (KeepTo.of (m := o + n) (k4.block r (Nat.lt_of_lt_of_le hr1 h4.size) ?_)) (Nat.le_refl _)
      rintro (h | h | h | h)
      · exact hr2 h
      · exact hr3 h
      · omega
      · rcases h3 r h with h | h
        · exact hr4 h
        · omega
/-- The state behind. -/
theorem MW.next {m : Nat} (h : MW C F r o n cap us ps pl ov cnt xs w) (k : MP C r o n m ov cnt xs fs w w') (hm : pl.length ≤ m) : ∃ ov', w'.heap[C.Bo]? = some (.cells #[ov'] 41 (0, 0)) ∧ MW C F r o n cap us ps pl ov' (cnt + fs.length) (xs ++ outC fs) w' := by
  obtain ⟨ov1, k1, k2, k3, k4, k5, k6⟩ := k
  obtain ⟨cur, hbuf, hcz⟩ := h.buf
  obtain ⟨cur', hbuf', hcz', -⟩ := k6 _ _ hbuf
  obtain ⟨f1, f2, f3, f4, f5⟩ := h.Fr
  obtain ⟨d1, d2, d3, d4, d5⟩ := h.ds
  refine ⟨ov1, k1, h.pv.keep (by rw [h.ln]; exact k5), h.pf.keep (k4.block _ (h.lt _ f2) (h.bo f2 d4 d1)), h.ln, h.pb, h.ne, h.small, h.psm, ⟨cur', hbuf', hcz'.trans hcz⟩, h.pre.keepTo hbuf k6 hm, (k4.block _ (h.lt _ f4) (h.bo f4 (fun e => d5 e.symm) d3)).trans h.cb, k1, k2, fun k hk hF => ?_, fun k hk => Nat.lt_of_lt_of_le (h.lt k hk) k4.size, h.Fr, h.ds⟩
  rcases k3 k hk with e | e
  · exact h.sep k e hF
  · have := h.lt k hF; omega
/-- The tree that is matched. -/
structure TW (C : MCx) (F : Nat → Prop) (r : Nat) (T : Art) (m : Nat) (w : World) : Prop where
  at' : T.At w
  wf : T.WF
  sep : T.Sep
  fp : ∀ x, T.Fp x → F x ∧ x ≠ C.Bp ∧ x ≠ r
  fits : ∀ e ∈ T.ents, m + e.1.length ≤ 256
  fine : Fine T
theorem ents_any : ∀ {T : Art}, T.WF → ∃ e, e ∈ T.ents
  | .leaf b v s, _ => ⟨(s, v), by simp [Art.ents]⟩
  | .node k b pre n key kid, h => by
    obtain ⟨e, he⟩ := ents_any (T := kid 0) (h.2.2.1 0 (Nat.lt_of_lt_of_le k.low_pos h.1)).1
    exact ⟨shift pre e, mem_node.2 ⟨0, Nat.lt_of_lt_of_le k.low_pos h.1, e, he, rfl⟩⟩
theorem TW.keep {T : Art} {m : Nat} (h : TW C F r T m w) (hw : MW C F r o n cap us ps pl ov cnt xs w) {m' : Nat} (k : MP C r o n m' ov cnt xs fs w w') : TW C F r T m w' := by
  obtain ⟨ov1, k1, k2, k3, k4, k5, k6⟩ := k
  exact ⟨h.at'.keep fun x hx => k4.block x (h.at'.lt x hx) (hw.bo (h.fp x hx).1 (h.fp x hx).2.1 (h.fp x hx).2.2), h.wf, h.sep, h.fp, h.fits, h.fine⟩
end
theorem TW.kid {C : MCx} {F : Nat → Prop} {r : Nat} {k : Kd} {b : Nat} {pre : List UInt8} {n : Nat} {key : Nat → UInt8} {kid : Nat → Art} {m : Nat} {w : World} (h : TW C F r (.node k b pre n key kid) m w) {i : Nat} (hi : i < n) : TW C F r (kid i) (m + pre.length) w :=
  ⟨h.at'.2 i hi, (h.wf.2.2.1 i hi).1, (h.sep.1 i hi).1, fun x hx => h.fp x (.inr ⟨i, hi, hx⟩), fun e he => by
    have := h.fits (shift pre e) (mem_node.2 ⟨i, hi, e, he, rfl⟩)
    simp only [shift, List.length_append] at this; omega, h.fine.kid hi⟩
theorem TW.room {C : MCx} {F : Nat → Prop} {r : Nat} {T : Art} {m : Nat} {w : World} (h : TW C F r T m w) : m + T.path.length ≤ 256 := by
  obtain ⟨e, he⟩ := ents_any h.wf
  obtain ⟨y, hy⟩ := ents_path he
  have := h.fits e he
  rw [hy, List.length_append] at this; omega
/-- How deep a tree is. -/
def Art.Deep : Nat → Art → Prop
  | _, .leaf .. => True
  | 0, .node .. => False
  | d + 1, .node _ _ _ n _ kid => ∀ i, i < n → (kid i).Deep d
theorem Art.Deep.mono : ∀ {d d' : Nat} {T : Art}, T.Deep d → d ≤ d' → T.Deep d'
  | d, d', .leaf .., _, _ => by cases d' <;> trivial
  | 0, _, .node .., h, _ => h.elim
  | d + 1, 0, .node .., _, h => by omega
  | d + 1, d' + 1, .node _ _ _ n _ kid, h, hd => fun i hi => (h i hi).mono (by omega)
theorem Art.deep : ∀ T : Art, ∃ d, T.Deep d
  | .leaf .. => ⟨0, trivial⟩
  | .node k b pre n key kid => by
    have h : ∀ m, ∃ d, ∀ i, i < m → (kid i).Deep d := by
      intro m
      induction m with
      | zero => exact ⟨0, fun i hi => by omega⟩
      | succ m ih =>
        obtain ⟨d, hd⟩ := ih
        obtain ⟨d2, hd2⟩ := Art.deep (kid m)
        refine ⟨max d d2, fun i hi => ?_⟩
        by_cases e : i = m
        · subst e; exact hd2.mono (by omega)
        · exact (hd i (by omega)).mono (by omega)
    obtain ⟨d, hd⟩ := h n
    exact ⟨d + 1, hd⟩
/-- A part that is left is no longer than the parts are. -/
theorem mpF_small {B : Nat} : ∀ (ps : List (List UInt8)) (r : List UInt8) (qs : List (List UInt8)), (∀ p ∈ ps, p.length ≤ B) → mpF ps r = some qs → ∀ q ∈ qs, q.length ≤ B
  | [], r, qs, _, h, _, _ => by simp [mpF] at h
  | p :: ps, r, qs, hp, h, q, hq => by
    have hps : ∀ p ∈ ps, p.length ≤ B := fun x hx => hp x (List.mem_cons_of_mem _ hx)
    rw [mpF] at h
    split at h
    · cases h; exact hp q hq
    split at h
    · split at h
      · exact mpF_small ps _ qs hps h q hq
      · split at h
        · cases h; cases hq
        · cases h; exact hp q hq
    split at h
    · cases h; cases hq
    split at h
    · split at h
      · cases h
        rcases List.mem_cons.1 hq with rfl | hq
        · rw [List.length_drop]; have := hp p (List.mem_cons_self ..); omega
        · exact hps q hq
      · cases h
    split at h
    · split at h
      · split at h
        · cases h; cases hq
        · cases h; exact hps q hq
      · exact mpF_small ps _ qs hps h q hq
    · cases h
/-- The state behind the parts' test. -/
theorem MW.parts {C : MCx} {F : Nat → Prop} {r o n cap : Nat} {us : List Value} {ps : List (List UInt8)} {pl : List UInt8} {ov : Value} {cnt : Nat} {xs : List Value} {w w' : World} (h : MW C F r o n cap us ps pl ov cnt xs w) {x : List UInt8} {qs : List (List UInt8)} (hq : mpF ps x = some qs) {r' o' cap' : Nat} {us' : List Value} (hn : 0 < qs.length)
    (h1 : PV w' r' o' cap' us') (h2 : PartsF w' C.bf us' qs) (h3 : r' = r ∧ o + n ≤ o' + qs.length ∨ w.heap.size ≤ r') (h4 : Only (· = r) w w') (_h5 : KeepTo r (o + n) w w') : MW C (fun k => F k ∨ k = r') r' o' qs.length cap' us' qs pl ov cnt xs w' := by
  obtain ⟨f1, f2, f3, f4, f5⟩ := h.Fr
  obtain ⟨d1, d2, d3, d4, d5⟩ := h.ds
  have hpn : ps.length = n := by rw [← h.pf.1, h.ln]
  have hlo := (Array.getElem?_eq_some_iff.1 h.out).1
  have hor : C.Bo ≠ r := fun e => f5 (e ▸ f1)
  obtain ⟨cur, hbuf, hcz⟩ := h.buf
  obtain ⟨m1, m2, m3⟩ := mpF_parts ps x qs h.pb hq
  have ne : ∀ y, F y → y ≠ r → y ≠ r' := fun y hy hyr e => by
    subst e
    rcases h3 with ⟨e, -⟩ | e
    · exact hyr e
    · have := h.lt _ hy; omega
  have nbo : C.Bo ≠ r' := fun e => by
    rcases h3 with ⟨e2, -⟩ | e2
    · exact hor (e.trans e2)
    · omega
  refine ⟨h1, h2, h2.1, m1, hn, by have := h.small; omega, mpF_small ps x qs h.psm hq, ⟨cur, (h4.block _ (h.lt _ f3) d2).trans hbuf, hcz⟩, fun j c hj => cell_only (h.pre j c hj) h4 d2, (h4.block _ (h.lt _ f4) d3).trans h.cb, (h4.block _ hlo hor).trans h.out, h.own.only h4 (fun k hk e => h.sep k hk (e ▸ f1)), fun k hk hF => ?_, fun k hk => ?_, ⟨.inr rfl, .inl f2, .inl f3, .inl f4, fun e => e.elim f5 nbo⟩, ⟨ne _ f2 d1, ne _ f3 d2, ne _ f4 d3, d4, d5⟩⟩
  · rcases hF with hF | rfl
    · exact h.sep k hk hF
    · rcases h3 with ⟨e, -⟩ | e
      · exact h.sep k hk (e ▸ f1)
      · have := (h.own.lt k hk).2; omega
  · rcases hk with hk | rfl
    · exact Nat.lt_of_lt_of_le (h.lt k hk) h4.size
    · exact h1.lt
/-- The buffer longer. -/
theorem MW.longer {C : MCx} {F : Nat → Prop} {r o n cap : Nat} {us : List Value} {ps : List (List UInt8)} {pl : List UInt8} {ov : Value} {cnt : Nat} {xs : List Value} {w w' : World} (h : MW C F r o n cap us ps pl ov cnt xs w) {pl' : List UInt8} (h1 : ∃ cur', w'.heap[C.Bp]? = some (.cells cur' 143 (0, 0)) ∧ cur'.size = 256) (h2 : BsAt w' C.Bp 0 (pl ++ pl')) (h3 : Only (· = C.Bp) w w') :
    MW C F r o n cap us ps (pl ++ pl') ov cnt xs w' ∧ MP C r o n pl.length ov cnt xs [] w w' := by
  obtain ⟨f1, f2, f3, f4, f5⟩ := h.Fr
  obtain ⟨d1, d2, d3, d4, d5⟩ := h.ds
  have hlo := (Array.getElem?_eq_some_iff.1 h.out).1
  have hop : C.Bo ≠ C.Bp := fun e => f5 (e ▸ f3)
  obtain ⟨cur, hbuf, hcz⟩ := h.buf
  obtain ⟨cur', hbuf', hcz'⟩ := h1
  have hown := h.own.only h3 (fun k hk e => h.sep k hk (e ▸ f3))
  have hout := (h3.block _ hlo hop).trans h.out
  have hr := h3.block r (h.lt _ f1) (fun e => d2 e.symm)
  refine ⟨⟨h.pv.keep (KeepTo.of hr), h.pf.keep (h3.block _ (h.lt _ f2) d4), h.ln, h.pb, h.ne, h.small, h.psm, ⟨cur', hbuf', hcz'⟩, h2, (h3.block _ (h.lt _ f4) (fun e => d5 e.symm)).trans h.cb, hout, hown, h.sep, fun k hk => Nat.lt_of_lt_of_le (h.lt k hk) h3.size, h.Fr, h.ds⟩, ?_⟩
  exact ⟨ov, hout, by simpa [outC] using hown, fun k hk => .inl hk, h3.mono fun k hk => .inr (.inl hk), KeepTo.of hr, KeepTo.bytes hbuf hbuf' (hcz'.trans hcz.symm) h.pre h2 (Nat.le_refl _)⟩
end Go.Proofs.YtehlmjecbljafaaGreatDoor
namespace Go.Proofs.YtehlmjecbljafaaGreatDoor
open Go Go.RowKit
theorem cbM {C : MCx} {F : Nat → Prop} {r o n cap : Nat} {us : List Value} {ps : List (List UInt8)} {pl : List UInt8} {ov : Value} {cnt : Nat} {xs : List Value} {w W1 : World} (h : MW C F r o n cap us ps pl ov cnt xs w)
    {L : Nat} {v : Int} {s : List UInt8} (hl : w.heap[L]? = some (.cells #[.int .i64 v, .string (mk s)] 199 (0, 0))) (hL : F L ∧ L ≠ C.Bp ∧ L ≠ r) (hroom : pl.length + s.length ≤ 256) (hcnt : cnt < 549755813888)
    (h1 : ∃ cur', W1.heap[C.Bp]? = some (.cells cur' 143 (0, 0)) ∧ cur'.size = 256) (h2 : BsAt W1 C.Bp 0 (pl ++ s)) (h3 : Only (· = C.Bp) w W1) :
    Calls Tryz.prog 93 #[.slice (some ⟨C.Bp, 0, none⟩) (pl.length + s.length) 256, .pointer (some ⟨L, 0, none⟩), .pointer (some ⟨C.Bc, 0, none⟩)] W1 fun e w' => e = .returned (.bool true) ∧ MP C r o n pl.length ov cnt xs [(pl ++ s, v)] w w' := by
  obtain ⟨hW1, hM1⟩ := h.longer h1 h2 h3
  have hl1 := (h3.block L (h.lt _ hL.1) hL.2.1).trans hl
  have cn1 := (cell_row (j := 0) hl1).trans (show _ = some (Value.int .i64 v) from rfl)
  have hlen : (pl ++ s).length = pl.length + s.length := List.length_append
  have hsl1 : Sl W1 1 (.slice (some ⟨C.Bp, 0, none⟩) (pl ++ s).length 256) (pl ++ s).length (u8s (pl ++ s)) := h2.sl rfl (by omega) (by decide)
  rw [hlen] at hsl1
  obtain ⟨f1, f2, f3, f4, f5⟩ := h.Fr
  have hcb := cb93_any (.slice (some ⟨C.Bp, 0, none⟩) (pl.length + s.length) 256) (pl ++ s) L 0 v C.Bo C.Bc ov cnt xs (fun k => k < W1.heap.size ∧ ov.ownBlock ≠ some k) W1 (by rw [hlen]; exact hsl1) cn1 hW1.cb hW1.out hW1.own (fun k hk hF => hF.2 hk) (fun k hk => hk.1) hcnt
    ⟨hW1.lt _ hL.1, fun e => hW1.sep _ e hL.1⟩ (fun b o n c e => by cases e; exact ⟨hW1.lt _ f3, fun e => hW1.sep _ e f3⟩)
  refine hcb.mono ?_
  rintro e w' ⟨rfl, o', k1, k2, k3, k4⟩
  refine ⟨rfl, ?_⟩
  have hrne : ∀ x, F x → x < w.heap.size → ¬ (x = C.Bo ∨ ov.ownBlock = some x) := fun x hx _ => by
    rintro (e | e)
    · exact f5 (e ▸ hx)
    · exact h.sep x e hx
  have hM2 : MP C r o n (pl ++ s).length ov cnt xs [(pl ++ s, v)] W1 w' := by
    refine ⟨o', k1, by simpa [outC] using k2, fun k hk => ?_, k4.mono fun k hk => hk.imp id fun e => .inr (.inr e), KeepTo.of (k4.block r (hW1.lt _ f1) (hrne r f1 (h.lt _ f1))), KeepTo.of (k4.block _ (hW1.lt _ f3) (hrne _ f3 (h.lt _ f3)))⟩
    have := k3 k hk
    by_cases e : ov.ownBlock = some k
    · exact .inl e
    · exact .inr (Nat.le_of_not_lt fun hlt => this ⟨hlt, e⟩)
  have := hM1.trans (r' := r) (m' := (pl ++ s).length) (o' := o) (n' := n) (gs := [(pl ++ s, v)]) (w2 := w') (fun ov' he => by
    rw [hW1.out] at he
    obtain rfl : ov' = ov := by simpa using he.symm
    simpa [outC] using hM2) (.inl ⟨rfl, Nat.le_refl _⟩) (by omega)
  exact this
set_option maxRecDepth 100000 in
set_option maxHeartbeats 1600000 in
theorem matchPartsE_any (b r o cap n : Nat) (us : List Value) (ps : List (List UInt8)) (w : World) (hln : us.length = n) (hv : PV w r o cap us) (hps : PartsF w b us ps) (hn0 : 0 < n) :
    Calls Tryz.prog 126 #[.slice (some ⟨r, o, none⟩) n cap, .string (mk [])] w (MpC ps [] b r o n w) := by
  have hpn : ps.length = n := by rw [← hln]; exact hps.1.symm
  have hpne : ps ≠ [] := by rintro rfl; simp at hpn; omega
  have hm : mpF ps [] = some ps := mpF_nil hpne
  have e0 : (mk []).size = 0 := rfl
  have H := Lib.hid (MpC.some' (b := b) (r := r) (o := o) (n := n) hm (List.length_pos_iff.2 hpne) hpn.symm hv hps (.inl ⟨rfl, Nat.le_refl _⟩) (Only.refl _ w) (KeepTo.refl r (o + n) w))
  clear hv hps hpn hpne hm hln
  go_enter Tryz.func126, Tryz.ntmps126
  go_wp2
  go_ret2
  exact H.out
theorem matchPartsG_any (b r o cap n : Nat) (us : List Value) (ps : List (List UInt8)) (s : List UInt8) (w : World) (hln : us.length = n) (hv : PV w r o cap us) (hps : PartsF w b us ps) (hbw : b < w.heap.size) (hbr : b ≠ r) (hn0 : 0 < n) (hs : s.length ≤ 100000) (hn : n ≤ 200000) (hpl : ∀ p ∈ ps, p.length ≤ 100000) :
    Calls Tryz.prog 126 #[.slice (some ⟨r, o, none⟩) n cap, .string (mk s)] w (MpC ps s b r o n w) := by
  cases hs0 : s with
  | nil => exact matchPartsE_any b r o cap n us ps w hln hv hps hn0
  | cons c t =>
    rw [← hs0]
    have e : (mk s).size = s.length := mk_size s
    have := matchPartsF_any b r o cap n us ps (mk s) w hln hv hps hbw hbr (by rw [e, hs0]; simp) (by rw [e]; exact hs) hn hpl
    rw [bs_mk] at this
    exact this
theorem nodeNe2 (k : Kd) (p : Value) (w : World) : (binOp .neq 137 (.iface (tyP k) p) .nilIface).run Tryz.prog w = .ok (.bool true) w := by cases k <;> kernel_rfl
theorem leafNe2 (p : Value) (w : World) : (binOp .neq 137 (.iface 197 p) .nilIface).run Tryz.prog w = .ok (.bool true) w := by kernel_rfl
theorem refNe2 (T : Art) (w : World) : (binOp .neq 137 T.ref .nilIface).run Tryz.prog w = .ok (.bool true) w := by
  cases T with
  | leaf => exact leafNe2 _ w
  | node k => exact nodeNe2 k _ w
theorem refNe1 (T : Art) (w : World) : (binOp .eql 137 T.ref .nilIface).run Tryz.prog w = .ok (.bool false) w := by
  cases T with
  | leaf => kernel_rfl
  | node k => exact nodeNe k _ w
theorem callKids (k : Kd) (args : Array Value) (w : World) : (callFunc (kidsF k) args).run Tryz.prog w = .ok (.enter (kidsF k) args) w := by cases k <;> kernel_rfl
theorem ref_blk {T T' : Art} (h : T.ref = T'.ref) : T.blk = T'.blk := by
  cases T <;> cases T' <;> simp [Art.ref, Art.blk] at h ⊢ <;> first | exact h | exact h.2
open Classical in
/-- How much of the way down is left. -/
noncomputable def leftW (x : Value) (a c : Value) : Nat := 2 * (300 - (match c with | .slice _ n _ => n | _ => 0)) + if a = x then 1 else 0
end Go.Proofs.YtehlmjecbljafaaGreatDoor
namespace Go.Proofs.YtehlmjecbljafaaGreatDoor
open Go Go.RowKit
section
variable {C : MCx} {F : Nat → Prop} {r o n cap : Nat} {us : List Value} {ps : List (List UInt8)} {pl : List UInt8} {ov : Value} {cnt : Nat} {xs : List Value} {w w' : World} {fs : List Ent} {m : Nat} {T : Art} {x : List UInt8} {b : Nat} {e : Ending}
theorem TW.parts (h : TW C F r T m w) {r' : Nat} (h3 : r' = r ∨ w.heap.size ≤ r') (h4 : Only (· = r) w w') : TW C (fun k => F k ∨ k = r') r' T m w' := by
  refine ⟨h.at'.keep fun x hx => h4.block x (h.at'.lt x hx) (h.fp x hx).2.2, h.wf, h.sep, fun x hx => ⟨.inl (h.fp x hx).1, (h.fp x hx).2.1, ?_⟩, h.fits, h.fine⟩
  rintro rfl
  rcases h3 with h3 | h3
  · exact (h.fp x hx).2.2 h3
  · have := h.at'.lt x hx; omega
theorem MP.still (h : MW C F r o n cap us ps pl ov cnt xs w) (h4 : Only (· = r) w w') (h5 : KeepTo r (o + n) w w') : MP C r o n m ov cnt xs [] w w' := by
  have hlo := (Array.getElem?_eq_some_iff.1 h.out).1
  obtain ⟨f1, f2, f3, f4, f5⟩ := h.Fr
  obtain ⟨d1, d2, d3, d4, d5⟩ := h.ds
  have hor : C.Bo ≠ r := fun e => f5 (e ▸ f1)
  exact ⟨ov, (h4.block _ hlo hor).trans h.out, by simpa [outC] using h.own.only h4 (fun k hk e => h.sep k hk (e ▸ f1)), fun k hk => .inl hk, h4.mono fun k hk => .inr (.inr (.inl hk)), h5, KeepTo.of (h4.block _ (h.lt _ f3) d2)⟩
/-- Two steps in one state. -/
theorem MP.both {w1 w2 : World} {r' o' n' m' : Nat} {gs : List Ent} (h : MP C r o n m ov cnt xs [] w w1) (ho : w1.heap[C.Bo]? = some (.cells #[ov] 41 (0, 0))) (k : MP C r' o' n' m' ov cnt xs gs w1 w2)
    (hr : r' = r ∧ o + n ≤ o' + n' ∨ w.heap.size ≤ r' ∧ r < w.heap.size ∧ r ≠ C.Bo ∧ r ≠ C.Bp ∧ ov.ownBlock ≠ some r) (hm : m ≤ m') : MP C r o n m ov cnt xs gs w w2 := by
  have := h.trans (gs := gs) (w2 := w2) (fun ov' he => by
    rw [ho] at he
    obtain rfl : ov' = ov := by simpa using he.symm
    simpa [outC] using k) hr hm
  simpa using this
theorem MW.bel (h : MW C F r o n cap us ps pl ov cnt xs w) (hb : Below w.heap.size w w') : MW C F r o n cap us ps pl ov cnt xs w' := by
  obtain ⟨ov', k1, k2⟩ := h.next (MP.refl (m := pl.length) h hb) (Nat.le_refl _)
  have hlo := (Array.getElem?_eq_some_iff.1 h.out).1
  have h2 := (hb.block _ hlo).trans h.out
  rw [h2] at k1
  obtain rfl : ov' = ov := by simpa using k1.symm
  simpa [outC] using k2
theorem TW.bel (h : TW C F r T m w) (hb : Below w.heap.size w w') : TW C F r T m w' := ⟨h.at'.bel hb, h.wf, h.sep, h.fp, h.fits, h.fine⟩
theorem TW.less {m2 : Nat} (h : TW C F r T m w) (hm : m2 ≤ m) : TW C F r T m2 w := ⟨h.at', h.wf, h.sep, h.fp, fun e he => by have := h.fits e he; omega, h.fine⟩
theorem shift_shift (a b : List UInt8) (l : List Ent) : (l.map (shift b)).map (shift a) = l.map (shift (a ++ b)) := by
  rw [List.map_map]; apply List.map_congr_left; intro e _; simp [shift, Function.comp]
/-- What is said of a match, for trees of a depth. -/
def MatchOK (d : Nat) : Prop := ∀ (T : Art) (C : MCx) (F : Nat → Prop) (r o n cap : Nat) (us : List Value) (ps : List (List UInt8)) (pl : List UInt8) (ov : Value) (cnt : Nat) (xs : List Value) (w : World) (t : Value),
  T.Deep d → MW C F r o n cap us ps pl ov cnt xs w → TW C F r T pl.length w → cnt + T.ents.length ≤ 100000 →
  Calls Tryz.prog 92 #[t, T.ref, .slice (some ⟨r, o, none⟩) n cap, .slice (some ⟨C.Bp, 0, none⟩) pl.length 256, .func (.func 93) #[] #[.pointer (some ⟨C.Bc, 0, none⟩)]] w fun e w' => e = .returned (.bool true) ∧ MP C r o n pl.length ov cnt xs ((fnd T ps).map (shift pl)) w w'
/-- Where parts may lie behind others. -/
def Lies (C : MCx) (ov : Value) (w : World) (r o n r' o' n' : Nat) : Prop := r' = r ∧ o + n ≤ o' + n' ∨ w.heap.size ≤ r' ∧ r < w.heap.size ∧ r ≠ C.Bo ∧ r ≠ C.Bp ∧ ov.ownBlock ≠ some r
/-- Where a match stands on its way down. -/
structure MRel (C : MCx) (r o n : Nat) (ps : List (List UInt8)) (pl : List UInt8) (ov : Value) (cnt : Nat) (xs : List Value) (T : Art) (d : Nat) (w : World)
    (T' : Art) (F' : Nat → Prop) (r' o' n' cap' : Nat) (us' : List Value) (ps' : List (List UInt8)) (pl' : List UInt8) (wr : World) : Prop where
  mw : MW C F' r' o' n' cap' us' ps' pl' ov cnt xs wr
  tw : TW C F' r' T' pl'.length wr
  dp : T'.Deep d
  mp : MP C r o n pl.length ov cnt xs [] w wr
  rr : Lies C ov w r o n r' o' n'
  le : pl.length ≤ pl'.length
  fd : (fnd T ps).map (shift pl) = (fnd T' ps').map (shift pl')
  lst : ps.getLast? = some [62] ↔ ps'.getLast? = some [62]
  new : T' = T ∨ (¬ T'.Fp T.blk ∧ (T'.isLeaf = false → T'.path ≠ []))
  cn : cnt + T'.ents.length ≤ 100000
  rf : r < w.heap.size ∧ r ≠ C.Bo ∧ r ≠ C.Bp ∧ ov.ownBlock ≠ some r
theorem MW.rfacts (h : MW C F r o n cap us ps pl ov cnt xs w) : r < w.heap.size ∧ r ≠ C.Bo ∧ r ≠ C.Bp ∧ ov.ownBlock ≠ some r :=
  ⟨h.lt _ h.Fr.1, fun e => h.Fr.2.2.2.2 (e ▸ h.Fr.1), fun e => h.ds.2.1 e.symm, fun e => h.sep _ e h.Fr.1⟩
theorem MW.lies (h : MW C F r o n cap us ps pl ov cnt xs w) {r' o' n' : Nat} (h3 : r' = r ∧ o + n ≤ o' + n' ∨ w.heap.size ≤ r') : Lies C ov w r o n r' o' n' := by
  rcases h3 with h3 | h3
  · exact .inl h3
  · exact .inr ⟨h3, h.rfacts⟩
theorem MRel.start {d : Nat} (h : MW C F r o n cap us ps pl ov cnt xs w) (ht : TW C F r T pl.length w) (hd : T.Deep d) (hc : cnt + T.ents.length ≤ 100000) : MRel C r o n ps pl ov cnt xs T d w T F r o n cap us ps pl w :=
  ⟨h, ht, hd, MP.refl h (Below.refl _ _), .inl ⟨rfl, Nat.le_refl _⟩, Nat.le_refl _, rfl, Iff.rfl, .inl rfl, hc, h.rfacts⟩
section
variable {d : Nat} {T' : Art} {F' : Nat → Prop} {r' o' n' cap' : Nat} {us' : List Value} {ps' : List (List UInt8)} {pl' : List UInt8} {wr w1 w2 : World}
theorem MRel.done (h : MRel C r o n ps pl ov cnt xs T d w T' F' r' o' n' cap' us' ps' pl' wr) (k : MP C r' o' n' pl'.length ov cnt xs ((fnd T' ps').map (shift pl')) wr w2) : MP C r o n pl.length ov cnt xs ((fnd T ps).map (shift pl)) w w2 := by
  rw [h.fd]
  exact h.mp.both h.mw.out k h.rr h.le
theorem MpC_none (h : MpC ps x b r o n w e w') (hm : mpF ps x = none) : ∃ v, e = .returned (.tuple #[v, .bool false]) ∧ Only (· = r) w w' ∧ KeepTo r (o + n) w w' := by
  obtain ⟨h1, h2, h3⟩ := h
  rw [hm] at h3
  obtain ⟨v, hv⟩ := h3
  exact ⟨v, hv, h1, h2⟩
theorem MpC_nil (h : MpC ps x b r o n w e w') (hm : mpF ps x = some []) : e = .returned (.tuple #[.slice none 0 0, .bool true]) ∧ Only (· = r) w w' ∧ KeepTo r (o + n) w w' := by
  obtain ⟨h1, h2, h3⟩ := h
  rw [hm] at h3
  exact ⟨h3, h1, h2⟩
theorem MpC_some {q : List UInt8} {qs : List (List UInt8)} (h : MpC ps x b r o n w e w') (hm : mpF ps x = some (q :: qs)) : ∃ r' o' cap' us', e = .returned (.tuple #[.slice (some ⟨r', o', none⟩) (qs.length + 1) cap', .bool true]) ∧ PV w' r' o' cap' us' ∧ PartsF w' b us' (q :: qs) ∧ (r' = r ∧ o + n ≤ o' + (qs.length + 1) ∨ w.heap.size ≤ r') ∧ Only (· = r) w w' ∧ KeepTo r (o + n) w w' := by
  obtain ⟨h1, h2, h3⟩ := h
  rw [hm] at h3
  obtain ⟨r', o', cap', us', he, a, b, c⟩ := h3
  exact ⟨r', o', cap', us', he, a, b, c, h1, h2⟩
/-- The parts' test, from a state. -/
theorem mw_test (h : MW C F r o n cap us ps pl ov cnt xs w) (s : List UInt8) (hs : s.length ≤ 100000) : Calls Tryz.prog 126 #[.slice (some ⟨r, o, none⟩) n cap, .string (mk s)] w (MpC ps s C.bf r o n w) :=
  matchPartsG_any C.bf r o cap n us ps s w h.ln h.pv h.pf (h.lt _ h.Fr.2.1) h.ds.1 h.ne hs h.small h.psm
/-- No part is left to show: the state stays. -/
theorem MW.stay (h : MW C F r o n cap us ps pl ov cnt xs w) (h4 : Only (· = r) w w') (h5 : KeepTo r (o + n) w w') : MW C F r o n cap us ps pl ov cnt xs w' := by
  obtain ⟨ov', k1, k2⟩ := h.next (MP.still (m := pl.length) h h4 h5) (Nat.le_refl _)
  have hlo := (Array.getElem?_eq_some_iff.1 h.out).1
  have h2 := (h4.block _ hlo (fun e => h.Fr.2.2.2.2 (e ▸ h.Fr.1))).trans h.out
  rw [h2] at k1
  obtain rfl : ov' = ov := by simpa using k1.symm
  simpa [outC] using k2
theorem TW.stay (h : TW C F r T m w) (h4 : Only (· = r) w w') : TW C F r T m w' := ⟨h.at'.keep fun x hx => h4.block x (h.at'.lt x hx) (h.fp x hx).2.2, h.wf, h.sep, h.fp, h.fits, h.fine⟩
/-- The last part. -/
theorem MW.last (h : MW C F r o n cap us ps pl ov cnt xs w) : ∃ (p : List UInt8) (ou c : Nat) (c0 : UInt8), ps.getLast? = some p ∧ us[n - 1]? = some (.slice (some ⟨C.bf, ou, none⟩) p.length c) ∧ 0 < p.length ∧ w.cell? ⟨r, o + (n - 1), none⟩ = some (.slice (some ⟨C.bf, ou, none⟩) p.length c) ∧
    w.cell? ⟨C.bf, ou, none⟩ = some (.int .u8 (c0.toNat : Int)) ∧ (p = [62] ↔ c0 = 62) ∧ (p = [42] ↔ c0 = 42) ∧ (c0 = 42 → p.length = 1) := by
  have hn := h.ne
  have hpn : ps.length = n := by rw [← h.pf.1, h.ln]
  obtain ⟨u, p, h1, h2, o', c', rfl, h4, h5, h6⟩ := h.pf.at' (k := n - 1) (by omega)
  have hp0 : p ≠ [] := by
    rcases h.pb _ p h2 with rfl | ⟨rfl, -⟩ | h
    · simp
    · simp
    · exact h.1
  obtain ⟨c0, t, rfl⟩ := List.exists_cons_of_ne_nil hp0
  have hlit : c0 :: t = [42] ∨ c0 :: t = [62] ∨ (∀ c ∈ c0 :: t, c ≠ 42 ∧ c ≠ 62) := by
    rcases h.pb _ _ h2 with h | ⟨h, -⟩ | h
    · exact .inl h
    · exact .inr (.inl h)
    · exact .inr (.inr h.2)
  refine ⟨c0 :: t, o', c', c0, by rw [List.getLast?_eq_getElem?, hpn]; exact h2, h1, by simp, (h.pv.cell h1).1, h6 0 c0 rfl, ?_, ?_, ?_⟩
  · rcases hlit with h | h | h
    · cases h; simp
    · cases h; simp
    · have := h c0 (by simp)
      exact ⟨fun e => (by cases e; rfl), fun e => absurd e this.2⟩
  · rcases hlit with h | h | h
    · cases h; simp
    · cases h; simp
    · have := h c0 (by simp)
      exact ⟨fun e => (by cases e; rfl), fun e => absurd e this.1⟩
  · intro e
    rcases hlit with h | h | h
    · cases h; rfl
    · cases h; cases e
    · exact absurd e (h c0 (by simp)).1
/-- The first part. -/
theorem MW.first (h : MW C F r o n cap us ps pl ov cnt xs w) : ∃ (p : List UInt8) (qs : List (List UInt8)) (ou c : Nat), ps = p :: qs ∧ us[0]? = some (.slice (some ⟨C.bf, ou, none⟩) p.length c) ∧ p ≠ [] ∧ w.cell? ⟨r, o, none⟩ = some (.slice (some ⟨C.bf, ou, none⟩) p.length c) ∧
    Sl w 1 (.slice (some ⟨C.bf, ou, none⟩) p.length c) p.length (u8s p) := by
  have hn := h.ne
  have hpn : ps.length = n := by rw [← h.pf.1, h.ln]
  obtain ⟨u, p, h1, h2, h3⟩ := h.pf.at' (k := 0) (by omega)
  have hp0 : p ≠ [] := by
    rcases h.pb _ p h2 with rfl | ⟨rfl, -⟩ | h
    · simp
    · simp
    · exact h.1
  have hsl := h3.sl
  obtain ⟨o', c', rfl, h4, h5, h6⟩ := h3
  obtain ⟨q, qs, rfl⟩ := List.exists_cons_of_ne_nil (List.ne_nil_of_length_pos (by omega : 0 < ps.length))
  simp at h2; subst h2
  exact ⟨q, qs, o', c', rfl, h1, hp0, by simpa using (h.pv.cell h1).1, hsl⟩
end
theorem wpList_appStr {t0 : TypeId} {ops : Array Oper} {rest : List Oper} {o : Oper} {a : Act} {Q : Exit → Act → World → Prop} {W : World} (hgd : o.guard = none) (s x : Operand) (ho : o.op = .call { callee := .builtin .append, args := #[s, x], argTypes := #[94, 9] })
    (Bp cap n : Nat) (cur : Array Value) (pre : List UInt8) (str : ByteArray) (hn : pre.length = n) (hs : a.eval s = .slice (some ⟨Bp, 0, none⟩) n cap) (hx : a.eval x = .string str) (hg : W.heap[Bp]? = some (.cells cur t0 (0, 0))) (hpre : BsAt W Bp 0 pre)
    (hroom : n + str.size ≤ cap) (hfit : n + str.size ≤ cur.size)
    (h : ∀ W' cur', W'.heap[Bp]? = some (.cells cur' t0 (0, 0)) → cur'.size = cur.size → BsAt W' Bp 0 (pre ++ bs str) → Only (· = Bp) W W' → wpList Tryz.prog ops Q rest (a.put o.dst (.slice (some ⟨Bp, 0, none⟩) (n + str.size) cap)) W') :
    wpList Tryz.prog ops Q (o :: rest) a W := by
  subst hn
  refine wpList_plain hgd fun K hK => ?_
  obtain ⟨W', cur', hrun, h1, h2, h3, h4⟩ := app_str W Bp cap cur pre str o.type hg hpre hroom hfit
  unfold Oper.wp execOp
  simp only [ho, resolve, invoke, builtin, Sem.run_bind, Sem.run_pure, Result.andThen_ok, List.map_toArray, List.map_cons, List.map_nil, hs, hx, hrun]
  exact hK _ _ (h W' cur' h1 h2 h3 h4)
end
end Go.Proofs.YtehlmjecbljafaaGreatDoor
namespace Go.Proofs.YtehlmjecbljafaaGreatDoor
open Go Go.RowKit
theorem MP.only {C : MCx} {r o n m : Nat} {ov : Value} {cnt : Nat} {xs : List Value} {fs : List Ent} {w w' : World} (h : MP C r o n m ov cnt xs fs w w') : Only (fun k => k = C.Bo ∨ k = C.Bp ∨ k = r ∨ ov.ownBlock = some k) w w' := by
  obtain ⟨_, _, _, _, h, _⟩ := h; exact h
section
variable {C : MCx} {F F' F2 : Nat → Prop} {r o n cap : Nat} {us us' us2 : List Value} {ps ps' : List (List UInt8)} {pl pl' : List UInt8} {ov : Value} {cnt : Nat} {xs : List Value} {w wr w1 w2 w3 W : World} {fs gs : List Ent} {m : Nat} {T T' : Art} {d r' o' n' cap' r2 o2 n2 cap2 : Nat}
/-- The last part alone. -/
theorem MW.tail (h : MW C F r o n cap us ps pl ov cnt xs w) {p : List UInt8} (hp : ps.getLast? = some p) : MW C F r (o + (n - 1)) 1 (cap - (n - 1)) (us.drop (n - 1)) [p] pl ov cnt xs w := by
  have hn := h.ne
  have hpn : ps.length = n := by rw [← h.pf.1, h.ln]
  have hd : ps.drop (n - 1) = [p] := by
    rw [List.getLast?_eq_getElem?, hpn] at hp
    obtain ⟨hlt, he⟩ := List.getElem?_eq_some_iff.1 hp
    rw [List.drop_eq_getElem_cons hlt, he, List.drop_of_length_le (by omega)]
  have hf := h.pf.drop (k := n - 1)
  rw [hd] at hf
  have hu : (us.drop (n - 1)).length = 1 := by rw [List.length_drop, h.ln]; omega
  refine ⟨h.pv.drop (by rw [h.ln]; omega), hf, hu, fun k q hq => ?_, by omega, by omega, fun q hq => ?_, h.buf, h.pre, h.cb, h.out, h.own, h.sep, h.lt, h.Fr, h.ds⟩
  · match k, hq with
    | 0, hq =>
      simp at hq; subst hq
      rw [List.getLast?_eq_getElem?, hpn] at hp
      rcases h.pb (n - 1) p hp with h | ⟨h, -⟩ | h
      · exact .inl h
      · exact .inr (.inl ⟨h, rfl⟩)
      · exact .inr (.inr h)
    | k + 1, hq => simp at hq
  · rw [List.mem_singleton] at hq; subst hq
    exact h.psm q (List.mem_of_getLast? hp)
theorem MRel.doneAt (h : MRel C r o n ps pl ov cnt xs T d w T' F' r' o' n' cap' us' ps' pl' wr) (ho : Only (· = r') wr w1) (hk : KeepTo r' (o' + n') wr w1) (k : MP C r' o' n' pl'.length ov cnt xs gs w1 w2) (e : gs = (fnd T' ps').map (shift pl')) :
    MP C r o n pl.length ov cnt xs ((fnd T ps).map (shift pl)) w w2 := by
  have hm := h.mw.stay ho hk
  exact h.done (e ▸ (MP.still (m := pl'.length) h.mw ho hk).both hm.out k (.inl ⟨rfl, Nat.le_refl _⟩) (Nat.le_refl _))
theorem MRel.none (h : MRel C r o n ps pl ov cnt xs T d w T' F' r' o' n' cap' us' ps' pl' wr) (ho : Only (· = r') wr w1) (hk : KeepTo r' (o' + n') wr w1) (e : fnd T' ps' = []) :
    MP C r o n pl.length ov cnt xs ((fnd T ps).map (shift pl)) w w1 :=
  h.doneAt ho hk (MP.refl (h.mw.stay ho hk) (Below.refl _ _)) (by rw [e]; rfl)
theorem MP.then {ov1 : Value} {o1 n1 m1 : Nat} (h : MP C r o n m ov cnt xs fs w w1) (ho : w1.heap[C.Bo]? = some (.cells #[ov1] 41 (0, 0))) (k : MP C r o1 n1 m1 ov1 (cnt + fs.length) (xs ++ outC fs) gs w1 w2) (hr : o + n ≤ o1 + n1) (hm : m ≤ m1) : MP C r o n m ov cnt xs (fs ++ gs) w w2 :=
  h.trans (fun ov' he => by
    rw [ho] at he
    obtain rfl : ov' = ov1 := by simpa using he.symm
    exact k) (.inl ⟨rfl, hr⟩) hm
theorem Lies.trans (h : Lies C ov w r o n r' o' n') (hz : w.heap.size ≤ wr.heap.size) (rf : r < w.heap.size ∧ r ≠ C.Bo ∧ r ≠ C.Bp ∧ ov.ownBlock ≠ some r) (k : r2 = r' ∧ o' + n' ≤ o2 + n2 ∨ wr.heap.size ≤ r2) : Lies C ov w r o n r2 o2 n2 := by
  rcases k with ⟨rfl, k⟩ | k
  · rcases h with ⟨rfl, h⟩ | ⟨h, -⟩
    · exact .inl ⟨rfl, by omega⟩
    · exact .inr ⟨h, rf⟩
  · exact .inr ⟨by omega, rf⟩
end
section
variable {C : MCx} {F F' F2 : Nat → Prop} {r o n cap : Nat} {us us' us2 : List Value} {ps ps' : List (List UInt8)} {pl pl' : List UInt8} {ov : Value} {cnt : Nat} {xs : List Value} {w wr w1 w2 w3 W : World} {fs gs : List Ent} {m : Nat} {T T' : Art} {d r' o' n' cap' r2 o2 n2 cap2 : Nat}
  {k : Kd} {nb nk : Nat} {pre : List UInt8} {key : Nat → UInt8} {kid : Nat → Art} {q : List UInt8} {qs : List (List UInt8)}
theorem kid_ents {j : Nat} (hj : j < nk) : ((List.range j).flatMap fun i => (kid i).ents).length + (kid j).ents.length ≤ (Art.node k nb pre nk key kid).ents.length := by
  rw [Art.ents, List.length_flatMap, List.length_flatMap]
  simp only [List.length_map]
  have e : nk = (j + 1) + (nk - (j + 1)) := by omega
  rw [e, List.range_add, List.map_append, List.sum_append, List.range_succ, List.map_append, List.sum_append]
  simp only [List.map_cons, List.map_nil, List.sum_cons, List.sum_nil]
  omega
theorem kid_cnt {j : Nat} (hj : j < nk) (g : Nat → List Ent) (hg : ∀ i, i < nk → (g i).length ≤ (kid i).ents.length) : ((List.range j).flatMap g).length + (kid j).ents.length ≤ (Art.node k nb pre nk key kid).ents.length := by
  refine Nat.le_trans (Nat.add_le_add_right ?_ _) (kid_ents (k := k) (nb := nb) (pre := pre) (key := key) hj)
  induction j with
  | zero => simp
  | succ j ih =>
    rw [List.range_succ, List.flatMap_append, List.flatMap_append, List.length_append, List.length_append]
    have := ih (by omega)
    have := hg j (by omega)
    simp only [List.flatMap_cons, List.flatMap_nil, List.append_nil]
    omega
theorem endFnd_len (l : Option (List UInt8)) (t : Art) : (endFnd l t).length ≤ t.ents.length := by
  cases t with
  | leaf b v s => simp only [endFnd, Art.ents]; split <;> simp
  | node k b pre n key kid =>
    unfold endFnd; dsimp only
    split
    · unfold fnd; exact List.length_filter_le _ _
    · simp
theorem fnd_len (t : Art) (ps : List (List UInt8)) : (fnd t ps).length ≤ t.ents.length := by unfold fnd; exact List.length_filter_le _ _
/-- Down to a kid. -/
theorem MRel.down (h : MRel C r o n ps pl ov cnt xs T d w (.node k nb pre nk key kid) F' r' o' n' cap' us' ps' pl' wr) (hq : mpF ps' pre = some (q :: qs)) (q42 : q ≠ [42]) (q62 : q ≠ [62]) {c : Nat} (hc : c < nk) (hk : key c = piv q)
    (hM : MW C F2 r2 o2 n2 cap2 us2 (q :: qs) (pl' ++ pre) ov cnt xs W) (hT : TW C F2 r2 (.node k nb pre nk key kid) pl'.length W) (hmp : MP C r' o' n' pl'.length ov cnt xs [] wr W) (hl : r2 = r' ∧ o' + n' ≤ o2 + n2 ∨ wr.heap.size ≤ r2) :
    MRel C r o n ps pl ov cnt xs T d w (kid c) F2 r2 o2 n2 cap2 us2 (q :: qs) (pl' ++ pre) W := by
  have hz := h.mp.only.size
  refine ⟨hM, ?_, ?_, h.mp.both h.mw.out hmp h.rr h.le, h.rr.trans hz h.rf hl, by have := h.le; rw [List.length_append]; omega, ?_, ?_, ?_, ?_, h.rf⟩
  · have := hT.kid hc
    rw [List.length_append]; exact this
  · have hd := h.dp
    cases d with
    | zero => exact hd.elim
    | succ d => exact (hd c hc).mono (by omega)
  · rw [h.fd, (fnd_lit h.tw.wf h.tw.fine h.mw.pb hq q42 q62).1 c hc hk, shift_shift]
  · exact h.lst.trans ((mpF_parts ps' pre _ h.mw.pb hq).2.1 (by simp))
  · refine .inr ⟨fun hx => ?_, (h.tw.wf.2.2.1 c hc).2.2⟩
    rcases h.new with e | ⟨e, -⟩
    · rw [← e] at hx
      exact (h.tw.sep.1 c hc).2 hx
    · exact e (.inr ⟨c, hc, hx⟩)
  · have := kid_cnt (k := k) (nb := nb) (pre := pre) (key := key) (kid := kid) hc (fun _ => []) (fun _ _ => Nat.zero_le _)
    have := h.cn
    omega
theorem left_down (h : MRel C r o n ps pl ov cnt xs T d w (.node k nb pre nk key kid) F' r' o' n' cap' us' ps' pl' wr) {c : Nat} (hc : c < nk) (a a' : Option Addr) (m : Nat) (hm : m = pl'.length + pre.length) : leftW T.ref (kid c).ref (.slice a m 256) < leftW T.ref (Art.node k nb pre nk key kid).ref (.slice a' pl'.length 256) := by
  have hroom : pl'.length + pre.length ≤ 256 := h.tw.room
  subst hm
  unfold leftW
  dsimp only
  rcases h.new with e | ⟨e1, e2⟩
  · have hne : (kid c).ref ≠ T.ref := fun e3 => by
      have h1 := ref_blk e3
      rw [← e] at h1
      have h2 := Art.Fp.blk (kid c)
      rw [h1] at h2
      exact (h.tw.sep.1 c hc).2 h2
    rw [if_neg hne, if_pos (by rw [e])]
    omega
  · have : 0 < pre.length := List.length_pos_iff.2 (e2 rfl)
    split <;> split <;> omega
/-- What all kids find, of wildcards. -/
theorem kids_more (h : MRel C r o n ps pl ov cnt xs T d w (.node k nb pre nk key kid) F' r' o' n' cap' us' ps' pl' wr) (hq : mpF ps' pre = some (q :: qs)) :
    ((List.range nk).flatMap fun i => (fnd (kid i) (q :: qs)).map (shift (pl' ++ pre))) = (fnd (.node k nb pre nk key kid) ps').map (shift pl') := by
  rw [fnd_more h.tw.fine h.mw.pb hq, List.map_flatMap]
  simp only [shift_shift]
theorem kids_all (h : MRel C r o n ps pl ov cnt xs T d w (.node k nb pre nk key kid) F' r' o' n' cap' us' ps' pl' wr) (hq : mpF ps' pre = some []) (hl : ps'.getLast? = some [62]) :
    ((List.range nk).flatMap fun i => (fnd (kid i) [[62]]).map (shift (pl' ++ pre))) = (fnd (.node k nb pre nk key kid) ps').map (shift pl') := by
  rw [fnd_all h.tw.fine h.mw.pb hq hl, List.map_flatMap]
  simp only [shift_shift]
theorem kids_end (h : MRel C r o n ps pl ov cnt xs T d w (.node k nb pre nk key kid) F' r' o' n' cap' us' ps' pl' wr) (hq : mpF ps' pre = some []) (hl : ps'.getLast? ≠ some [62]) :
    ((List.range nk).flatMap fun i => (endFnd ps'.getLast? (kid i)).map (shift (pl' ++ pre))) = (fnd (.node k nb pre nk key kid) ps').map (shift pl') := by
  rw [fnd_end h.tw.wf h.tw.fine h.mw.pb hq hl, List.map_flatMap]
  simp only [shift_shift]
end
theorem TW.prefixed {C : MCx} {F : Nat → Prop} {r m : Nat} {T : Art} {w w' : World} (h : TW C F r T m w) (ho : Only (· = C.Bp) w w') : TW C F r T m w' := ⟨h.at'.keep fun x hx => ho.block x (h.at'.lt x hx) (h.fp x hx).2.1, h.wf, h.sep, h.fp, h.fits, h.fine⟩
theorem ptrEq (b o : Nat) (w : World) : (binOp .eql 209 (.pointer (some ⟨b, o, none⟩)) (.pointer none)).run Tryz.prog w = .ok (.bool false) w := by kernel_rfl
theorem lastRun (r o n cap : Nat) (hn0 : 0 < n) (hn : n ≤ cap) (w : World) : (Instr.slice 141 (.slice (some ⟨r, o, none⟩) n cap) (some (.int .i64 ((n : Int) - 1))) none none).run Tryz.prog w = .ok (.slice (some ⟨r, o + (n - 1), none⟩) 1 (cap - (n - 1))) w := by
  have h := dropRun r o n cap (n - 1) (by omega) hn w
  rw [show ((n - 1 : Nat) : Int) = (n : Int) - 1 by omega, show n - (n - 1) = 1 by omega] at h
  exact h
end Go.Proofs.YtehlmjecbljafaaGreatDoor
