/- Nodes are sorted: the stable sort. Nodes are sorted: their texts are compared. The tree is walked whole: what a walk keeps and shows. Callbacks that put entries down: of the ordered walk, of the meeting. The tree is walked in order: a leaf. -/
import Derived.Test.YtehlmjecbljafaaGreatDoorR25
import Derived.Test.YtehlmjecbljafaaGreatDoorR27
namespace Go.Proofs.YtehlmjecbljafaaGreatDoor
open Go Go.RowKit
theorem symMerge_any (w0 : World) (g n cap : Nat) (hn : n ≤ 100000) : ∀ (s a m b : Nat) (vs : List Value) (w : World), b - a = s → SortSt w0 g n cap vs w → IfRefs vs → CmpOK w0 g vs → a < m → m < b → b ≤ n →
  Calls Tryz.prog 228 #[.slice (some ⟨g, 0, none⟩) n cap, .int .i64 a, .int .i64 m, .int .i64 b, cmpV] w (SortC w0 g n cap vs) := by
 intro s
 induction s using Nat.strongRecOn with
 | _ s ih =>
 intro a m b vs w hs h hr hc ham hmb hbn
 by_cases h1 : a + 1 = m
 ·exact sym1_any w0 g n cap a m b vs w h hr hc hn hbn h1 hmb
 ·by_cases h2 : m + 1 = b
  ·exact sym2_any w0 g n cap a m b vs w h hr hc hn hbn (by omega) h2
  ·exact sym3_any w0 g n cap a m b vs w h hr hc hn hbn (by omega) (by omega) fun a' m' b' us w' hlt k1 k2 k3 hp k4 => ih (b' - a') (by omega) a' m' b' us w' rfl k4 (hr.perm hp) (hc.perm hp) k1 k2 k3
set_option maxRecDepth 100000 in
set_option maxHeartbeats 6400000 in
theorem stable_any (w0 : World) (g n cap : Nat) (vs : List Value) (w : World) (h : SortSt w0 g n cap vs w) (hr : IfRefs vs) (hc : CmpOK w0 g vs) (hn : n ≤ 1000) :
  Calls Tryz.prog 195 #[.slice (some ⟨g, 0, none⟩) n cap, .int .i64 n, cmpV] w (SortC w0 g n cap vs) := by
 have HS := Lib.hid h; clear h
 have HR := Lib.hid hr; clear hr
 have HC := Lib.hid hc; clear hc
 go_enter Tryz.func195, Tryz.ntmps195
 go_wp2
 go_loopw [7, 8] (fun i j wr => ∃ (p q : Nat) (us : List Value), i = .int .i64 (p : Nat) ∧ j = .int .i64 (q : Nat) ∧ p + 20 ≤ q ∧ q ≤ p + 20 ∧ p ≤ 2000 ∧ Hid (us.Perm vs) ∧ Hid (SortSt w0 g n cap us wr)) (fun i j _ => n + 1 - (intOf j).toNat)
 case atStart => exact ⟨0, 20, vs, rfl, rfl, by omega, by omega, by omega, Lib.hid (List.Perm.refl _), HS⟩
 case round =>
  obtain ⟨p, q, us, rfl, rfl, h1, h2, h3, HP, HU⟩ := hrel
  by_cases hq : q ≤ n
  ·have hin := insertion_any w0 g n cap p q us wr HU.out (HR.out.perm HP.out) (HC.out.perm HP.out) hq (by omega) (by omega)
   go_wp2_with fail
   refine hin.mono ?_
   rintro e w2 ⟨rfl, u2, k1, k2⟩
   have HP2 := Lib.hid (k1.trans HP.out)
   have HU2 := Lib.hid k2
   clear hin k1 k2
   go_wp2
   go_roundw
   case rel => exact ⟨q, q + 20, u2, rfl, by go_num, by omega, by omega, by omega, HP2, HU2⟩
   case measure => simp [intOf] <;> omega
  ·have hin := insertion_any w0 g n cap p n us wr HU.out (HR.out.perm HP.out) (HC.out.perm HP.out) (Nat.le_refl _) (by omega) (by omega)
   go_wp2_with fail
   refine hin.mono ?_
   rintro e w2 ⟨rfl, u2, k1, k2⟩
   have HP2 := Lib.hid (k1.trans HP.out)
   have HU2 := Lib.hid k2
   clear hin k1 k2
   obtain ⟨wo, rfl⟩ : ∃ x : World, x = wr := ⟨_, rfl⟩
   go_wp2
   go_loopw [6] (fun i wr => ∃ (s : Nat) (us : List Value), i = .int .i64 (s : Nat) ∧ 20 ≤ s ∧ s ≤ 4000 ∧ Hid (us.Perm vs) ∧ Hid (SortSt w0 g n cap us wr)) (fun i _ => n - (intOf i).toNat)
   case atStart => exact ⟨20, u2, rfl, by omega, by omega, HP2, HU2⟩
   case round =>
    obtain ⟨s, us, rfl, hs1, hs2, HP, HU⟩ := hrel
    by_cases hsn : s < n
    ·obtain ⟨wo2, rfl⟩ : ∃ x : World, x = wr := ⟨_, rfl⟩
     go_wp2
     go_loopw [7, 8] (fun i j wr => ∃ (p q : Nat) (us : List Value), i = .int .i64 (p : Nat) ∧ j = .int .i64 (q : Nat) ∧ p + 2 * s ≤ q ∧ q ≤ p + 2 * s ∧ p ≤ 2000 ∧ Hid (us.Perm vs) ∧ Hid (SortSt w0 g n cap us wr)) (fun i j _ => n + 1 - (intOf j).toNat)
     case atStart => exact ⟨0, 2 * s, us, rfl, by go_num, by omega, by omega, by omega, HP, HU⟩
     case round =>
      obtain ⟨p, q, us, rfl, rfl, h1, h2, h3, HP, HU⟩ := hrel
      obtain ⟨M, hM⟩ : ∃ M : Nat, (p : Int) + (s : Int) = (M : Int) := ⟨p + s, by omega⟩
      by_cases hq : q ≤ n
      ·have hin := symMerge_any w0 g n cap (by omega) (q - p) p M q us wr rfl HU.out (HR.out.perm HP.out) (HC.out.perm HP.out) (by omega) (by omega) hq
       go_wp2_with fail
       refine hin.mono ?_
       rintro e w2 ⟨rfl, u2, k1, k2⟩
       have HP2 := Lib.hid (k1.trans HP.out)
       have HU2 := Lib.hid k2
       clear hin k1 k2
       go_wp2
       go_roundw
       case rel => exact ⟨q, q + 2 * s, u2, rfl, by go_num, by omega, by omega, by omega, HP2, HU2⟩
       case measure => simp [intOf] <;> omega
      ·by_cases hMn : M < n
       ·have hin := symMerge_any w0 g n cap (by omega) (n - p) p M n us wr rfl HU.out (HR.out.perm HP.out) (HC.out.perm HP.out) (by omega) hMn (Nat.le_refl _)
        go_wp2_with fail
        refine hin.mono ?_
        rintro e w2 ⟨rfl, u2, k1, k2⟩
        have HP2 := Lib.hid (k1.trans HP.out)
        have HU2 := Lib.hid k2
        clear hin k1 k2
        go_wp2
        go_roundw
        case rel => exact ⟨s * 2, u2, by go_num, by omega, by omega, HP2, HU2⟩
        case measure => simp [intOf] <;> omega
       ·go_wp2
        go_roundw
        case rel => exact ⟨s * 2, us, by go_num, by omega, by omega, HP, HU⟩
        case measure => simp [intOf] <;> omega
    ·go_wp2
     go_end0
     exact ⟨rfl, us, HP.out, HU.out⟩
set_option maxRecDepth 100000 in
set_option maxHeartbeats 800000 in
theorem sortStable_any (w0 : World) (g n cap : Nat) (vs : List Value) (w : World) (h : SortSt w0 g n cap vs w) (hr : IfRefs vs) (hc : CmpOK w0 g vs) (hn : n ≤ 1000) :
  Calls Tryz.prog 149 #[.slice (some ⟨g, 0, none⟩) n cap, cmpV] w (SortC w0 g n cap vs) := by
 have hst := stable_any w0 g n cap vs w h hr hc hn
 clear h hr hc
 go_enter Tryz.func149, Tryz.ntmps149
 go_wp2_with fail
 refine hst.mono ?_
 rintro e w2 ⟨rfl, u2, k1, k2⟩
 have K := Lib.hid (And.intro k1 k2)
 clear hst k1 k2
 go_wp2
 go_end0
 exact ⟨rfl, u2, K.out.1, K.out.2⟩
end Go.Proofs.YtehlmjecbljafaaGreatDoor
namespace Go.Proofs.YtehlmjecbljafaaGreatDoor
open Go Go.RowKit
set_option maxRecDepth 100000 in
set_option maxHeartbeats 1600000 in
theorem cmpArt_any (t1 t2 : Art) (w : World) (h1 : t1.At w) (h2 : t2.At w) :
  Calls Tryz.prog 150 #[t1.ref, t2.ref] w fun e w' => ∃ i : Int, e = .returned (.int .i64 i) ∧ Below w.heap.size w w' := by
 have hsc := Tryz.strings_Compare (mk t1.path) (mk t2.path) w
 rcases t1 with ⟨b1, v1, s1⟩ | ⟨k1, b1, pre1, n1, key1, kid1⟩ <;> rcases t2 with ⟨b2, v2, s2⟩ | ⟨k2, b2, pre2, n2, key2, kid2⟩
 all_goals simp only [Art.path] at hsc
 ·have m1 := pathM (some ⟨b1, 0, none⟩)
  have m2 := pathM (some ⟨b2, 0, none⟩)
  have p1 := leafPath_any b1 (.int .i64 v1) (mk s1) w h1
  have p2 := leafPath_any b2 (.int .i64 v2) (mk s2) w h2
  clear h1 h2
  show Calls Tryz.prog 150 #[.iface 197 (.pointer (some ⟨b1, 0, none⟩)), .iface 197 (.pointer (some ⟨b2, 0, none⟩))] w _
  go_enter Tryz.func150, Tryz.ntmps150
  go_wp2_with fail
  refine p1.mono ?_
  rintro e w1 ⟨rfl, rfl⟩
  go_wp2_with fail
  refine p2.mono ?_
  rintro e w2 ⟨rfl, rfl⟩
  go_wp2_with fail
  refine hsc.mono ?_
  rintro e w3 ⟨rfl, rfl⟩
  go_wp2
  go_ret
  exact ⟨_, rfl, Below.refl _ _⟩
 ·have m1 := pathM (some ⟨b1, 0, none⟩)
  have m2 := pathN k2 b2
  have p1 := leafPath_any b1 (.int .i64 v1) (mk s1) w h1
  have p2 := nodePath_any b2 k2.cap (mk pre2) w (row_at h2.1 rowN_pre)
  clear h1 h2
  show Calls Tryz.prog 150 #[.iface 197 (.pointer (some ⟨b1, 0, none⟩)), .iface (tyP k2) (.pointer (some ⟨b2, 0, none⟩))] w _
  go_enter Tryz.func150, Tryz.ntmps150
  go_wp2_with fail
  refine p1.mono ?_
  rintro e w1 ⟨rfl, rfl⟩
  go_wp2_with fail
  refine p2.mono ?_
  rintro e w2 ⟨rfl, rfl⟩
  go_wp2_with fail
  refine hsc.mono ?_
  rintro e w3 ⟨rfl, rfl⟩
  go_wp2
  go_ret
  exact ⟨_, rfl, Below.refl _ _⟩
 ·have m1 := pathN k1 b1
  have m2 := pathM (some ⟨b2, 0, none⟩)
  have p1 := nodePath_any b1 k1.cap (mk pre1) w (row_at h1.1 rowN_pre)
  have p2 := leafPath_any b2 (.int .i64 v2) (mk s2) w h2
  clear h1 h2
  show Calls Tryz.prog 150 #[.iface (tyP k1) (.pointer (some ⟨b1, 0, none⟩)), .iface 197 (.pointer (some ⟨b2, 0, none⟩))] w _
  go_enter Tryz.func150, Tryz.ntmps150
  go_wp2_with fail
  refine p1.mono ?_
  rintro e w1 ⟨rfl, rfl⟩
  go_wp2_with fail
  refine p2.mono ?_
  rintro e w2 ⟨rfl, rfl⟩
  go_wp2_with fail
  refine hsc.mono ?_
  rintro e w3 ⟨rfl, rfl⟩
  go_wp2
  go_ret
  exact ⟨_, rfl, Below.refl _ _⟩
 ·have m1 := pathN k1 b1
  have m2 := pathN k2 b2
  have p1 := nodePath_any b1 k1.cap (mk pre1) w (row_at h1.1 rowN_pre)
  have p2 := nodePath_any b2 k2.cap (mk pre2) w (row_at h2.1 rowN_pre)
  clear h1 h2
  show Calls Tryz.prog 150 #[.iface (tyP k1) (.pointer (some ⟨b1, 0, none⟩)), .iface (tyP k2) (.pointer (some ⟨b2, 0, none⟩))] w _
  go_enter Tryz.func150, Tryz.ntmps150
  go_wp2_with fail
  refine p1.mono ?_
  rintro e w1 ⟨rfl, rfl⟩
  go_wp2_with fail
  refine p2.mono ?_
  rintro e w2 ⟨rfl, rfl⟩
  go_wp2_with fail
  refine hsc.mono ?_
  rintro e w3 ⟨rfl, rfl⟩
  go_wp2
  go_ret
  exact ⟨_, rfl, Below.refl _ _⟩
/-- Any two of some trees can be compared, whatever stands in a row outside them. -/
theorem cmpOK_arts {ts : List Art} {w0 : World} {g : Nat} (h : ∀ t ∈ ts, t.At w0 ∧ ¬ t.Fp g) : CmpOK w0 g (ts.map Art.ref) := fun W x y ho hx hy => by
 obtain ⟨t1, m1, rfl⟩ := List.mem_map.1 hx
 obtain ⟨t2, m2, rfl⟩ := List.mem_map.1 hy
 have hk : ∀ t ∈ ts, t.At W := fun t ht => (h t ht).1.keep fun x hx => ho.block x ((h t ht).1.lt x hx) (fun e => (h t ht).2 (e ▸ hx))
 exact cmpArt_any t1 t2 W (hk t1 m1) (hk t2 m2)
theorem ifRefs_arts (ts : List Art) : IfRefs (ts.map Art.ref) := fun v hv => by
 obtain ⟨t, -, rfl⟩ := List.mem_map.1 hv
 obtain ⟨ty, tb, e⟩ := t.ref_form
 exact ⟨ty, tb, e⟩
/-- Rows of nodes in another order are nodes in another order. -/
theorem perm_arts {ts : List Art} {vs : List Value} (h : vs.Perm (ts.map Art.ref)) : ∃ us : List Art, us.Perm ts ∧ vs = us.map Art.ref := by
 induction ts generalizing vs with
 | nil => exact ⟨[], List.Perm.refl _, by simpa using h⟩
 | cons t ts ih =>
  obtain ⟨a, b, rfl⟩ := List.append_of_mem (h.mem_iff.2 (List.mem_cons_self ..))
  have h2 : (a ++ b).Perm (ts.map Art.ref) := (List.perm_cons t.ref).1 (List.perm_middle.symm.trans h)
  obtain ⟨us, p, e⟩ := ih h2
  obtain ⟨u1, u2, rfl, e1, e2⟩ := List.append_eq_map_iff.1 e
  exact ⟨u1 ++ t :: u2, List.perm_middle.trans (p.cons t), by rw [List.map_append, List.map_cons, e1, e2]⟩
end Go.Proofs.YtehlmjecbljafaaGreatDoor
namespace Go.Proofs.YtehlmjecbljafaaGreatDoor
open Go Go.RowKit
/-- The blocks of a walk: the prefix, what is found; what else stands by (KF), what of it may turn and turn back (X), and what is said of it (K). -/
structure IX where
 Bp : Nat
 Bo : Nat
 KF : Nat → Prop
 X : Nat → Prop
 K : World → Prop
structure IX.OK (C : IX) : Prop where
 keep : ∀ w w', C.K w → (∀ x, C.KF x → w'.heap[x]? = w.heap[x]?) → C.K w'
 sub : ∀ x, C.X x → C.KF x
/-- What a walk has put down. -/
structure IPO (C : IX) (m : Nat) (ov : Value) (cnt : Nat) (xs : List Value) (fs : List Ent) (w : World) (ov' : Value) (w' : World) : Prop where
 out : w'.heap[C.Bo]? = some (.cells #[ov'] 41 (0, 0))
 own : Own w' (C.Bo + 1) 2 ov' (cnt + fs.length) (xs ++ outC fs)
 row : ∀ k, ov'.ownBlock = some k → ov.ownBlock = some k ∨ w.heap.size ≤ k
 only : Only (fun k => k = C.Bo ∨ k = C.Bp ∨ C.X k ∨ ov.ownBlock = some k) w w'
 kto : KeepTo C.Bp m w w'
 k : C.K w'
def IP (C : IX) (m : Nat) (ov : Value) (cnt : Nat) (xs : List Value) (fs : List Ent) (w w' : World) : Prop := ∃ ov', IPO C m ov cnt xs fs w ov' w'
/-- What stands ahead of a walk. -/
structure IW (C : IX) (F : Nat → Prop) (pl : List UInt8) (ov : Value) (cnt : Nat) (xs : List Value) (w : World) : Prop where
 buf : ∃ cur, w.heap[C.Bp]? = some (.cells cur 143 (0, 0)) ∧ cur.size = 256
 pre : BsAt w C.Bp 0 pl
 out : w.heap[C.Bo]? = some (.cells #[ov] 41 (0, 0))
 own : Own w (C.Bo + 1) 2 ov cnt xs
 sep : ∀ k, ov.ownBlock = some k → ¬ F k
 lt : ∀ k, F k → k < w.heap.size
 fp : F C.Bp
 fo : ¬ F C.Bo
 kf : ∀ x, C.KF x → F x ∧ x ≠ C.Bp
 k : C.K w
 ok : C.OK
section
variable {C : IX} {F : Nat → Prop} {pl : List UInt8} {ov : Value} {cnt : Nat} {xs : List Value} {w w' w1 w2 : World} {fs gs : List Ent} {m m' : Nat} {T : Art}
theorem IW.bo (h : IW C F pl ov cnt xs w) {x : Nat} (hx : F x) (h1 : x ≠ C.Bp) (h2 : ¬ C.X x) : ¬ (x = C.Bo ∨ x = C.Bp ∨ C.X x ∨ ov.ownBlock = some x) := by
 rintro (h3 | h3 | h3 | h3)
 ·exact h.fo (h3 ▸ hx)
 ·exact h1 h3
 ·exact h2 h3
 ·exact h.sep x h3 hx
theorem IP.refl (h : IW C F pl ov cnt xs w) (hb : Below w.heap.size w w') : IP C m ov cnt xs [] w w' := by
 have hlo := (Array.getElem?_eq_some_iff.1 h.out).1
 exact ⟨ov, (hb.block _ hlo).trans h.out, by simpa [outC] using h.own.keep hb, fun k hk => .inl hk, Only.of hb, KeepTo.of (hb.block _ (h.lt _ h.fp)), h.ok.keep _ _ h.k fun x hx => hb.block x (h.lt _ (h.kf x hx).1)⟩
theorem IP.trans (h : IP C m ov cnt xs fs w w1) (k : ∀ ov', IPO C m ov cnt xs fs w ov' w1 → IP C m' ov' (cnt + fs.length) (xs ++ outC fs) gs w1 w2) (hm : m ≤ m') : IP C m ov cnt xs (fs ++ gs) w w2 := by
 obtain ⟨ov1, h1⟩ := h
 obtain ⟨ov2, k1⟩ := k ov1 h1
 refine ⟨ov2, k1.out, by rw [List.length_append, outC_append, ← Nat.add_assoc, ← List.append_assoc]; exact k1.own, fun x hx => ?_, h1.only.trans k1.only fun b hb => ?_, h1.kto.trans k1.kto hm, k1.k⟩
 ·rcases k1.row x hx with h | h
  ·exact h1.row x h
  ·exact .inr (Nat.le_trans h1.only.size h)
 ·rcases hb with h | h | h | h
  ·exact .inl (.inl h)
  ·exact .inl (.inr (.inl h))
  ·exact .inl (.inr (.inr (.inl h)))
  ·rcases h1.row b h with h | h
   ·exact .inl (.inr (.inr (.inr h)))
   ·exact .inr h
/-- The state behind. -/
theorem IW.next (h : IW C F pl ov cnt xs w) (k : IP C m ov cnt xs fs w w') (hm : pl.length ≤ m) : ∃ ov', IPO C m ov cnt xs fs w ov' w' ∧ IW C F pl ov' (cnt + fs.length) (xs ++ outC fs) w' := by
 obtain ⟨ov1, k1⟩ := k
 obtain ⟨cur, hbuf, hcz⟩ := h.buf
 obtain ⟨cur', hbuf', hcz', -⟩ := k1.kto _ _ hbuf
 refine ⟨ov1, k1, ⟨cur', hbuf', hcz'.trans hcz⟩, h.pre.keepTo hbuf k1.kto hm, k1.out, k1.own, fun k hk hF => ?_, fun k hk => Nat.lt_of_lt_of_le (h.lt k hk) k1.only.size, h.fp, h.fo, h.kf, k1.k, h.ok⟩
 rcases k1.row k hk with e | e
 ·exact h.sep k e hF
 ·have := h.lt k hF; omega
/-- One more walk behind. -/
theorem IP.then {ov1 : Value} {n1 : Nat} (h : IP C m ov cnt xs fs w w1) (ho : w1.heap[C.Bo]? = some (.cells #[ov1] 41 (0, 0))) (k : IP C n1 ov1 (cnt + fs.length) (xs ++ outC fs) gs w1 w2) (hm : m ≤ n1) : IP C m ov cnt xs (fs ++ gs) w w2 :=
 h.trans (fun ov' he => by
  have := he.out
  rw [ho] at this
  obtain rfl : ov1 = ov' := by simpa using this
  exact k) hm
theorem IP.both {n1 : Nat} (h : IP C m ov cnt xs [] w w1) (ho : w1.heap[C.Bo]? = some (.cells #[ov] 41 (0, 0))) (k : IP C n1 ov cnt xs gs w1 w2) (hm : m ≤ n1) : IP C m ov cnt xs gs w w2 := by
 have := h.then ho (gs := gs) (w2 := w2) (n1 := n1) (by simpa [outC] using k) hm
 simpa using this
theorem IW.bel (h : IW C F pl ov cnt xs w) (hb : Below w.heap.size w w') : IW C F pl ov cnt xs w' := by
 have hlo := (Array.getElem?_eq_some_iff.1 h.out).1
 obtain ⟨cur, hbuf, hcz⟩ := h.buf
 exact ⟨⟨cur, (hb.block _ (h.lt _ h.fp)).trans hbuf, hcz⟩, fun j c hj => by
  have := h.pre j c hj
  rw [World.cell?_of_block (hb.block _ (h.lt _ h.fp))]; exact this, (hb.block _ hlo).trans h.out, h.own.keep hb, h.sep, fun k hk => Nat.lt_of_lt_of_le (h.lt k hk) hb.size, h.fp, h.fo, h.kf, h.ok.keep _ _ h.k fun x hx => hb.block x (h.lt _ (h.kf x hx).1), h.ok⟩
/-- More blocks that stay. -/
theorem IW.more (h : IW C F pl ov cnt xs w) {G : Nat → Prop} (hG : ∀ k, G k → k < w.heap.size ∧ k ≠ C.Bo ∧ ov.ownBlock ≠ some k) : IW C (fun k => F k ∨ G k) pl ov cnt xs w :=
 ⟨h.buf, h.pre, h.out, h.own, fun k hk hF => by
  rcases hF with hF | hF
  ·exact h.sep k hk hF
  ·exact (hG k hF).2.2 hk, fun k hF => by
  rcases hF with hF | hF
  ·exact h.lt k hF
  ·exact (hG k hF).1, .inl h.fp, fun hF => by
  rcases hF with hF | hF
  ·exact h.fo hF
  ·exact (hG _ hF).2.1 rfl, fun x hx => ⟨.inl (h.kf x hx).1, (h.kf x hx).2⟩, h.k, h.ok⟩
/-- The buffer longer. -/
theorem IW.longer (h : IW C F pl ov cnt xs w) {pl' : List UInt8} (h1 : ∃ cur', w'.heap[C.Bp]? = some (.cells cur' 143 (0, 0)) ∧ cur'.size = 256) (h2 : BsAt w' C.Bp 0 (pl ++ pl')) (h3 : Only (· = C.Bp) w w') :
  IW C F (pl ++ pl') ov cnt xs w' ∧ IP C pl.length ov cnt xs [] w w' := by
 have hlo := (Array.getElem?_eq_some_iff.1 h.out).1
 have hop : C.Bo ≠ C.Bp := fun e => h.fo (e ▸ h.fp)
 obtain ⟨cur, hbuf, hcz⟩ := h.buf
 obtain ⟨cur', hbuf', hcz'⟩ := h1
 have hown := h.own.only h3 (fun k hk e => h.sep k hk (e ▸ h.fp))
 have hout := (h3.block _ hlo hop).trans h.out
 have hK := h.ok.keep _ w' h.k fun x hx => h3.block x (h.lt _ (h.kf x hx).1) (h.kf x hx).2
 refine ⟨⟨⟨cur', hbuf', hcz'⟩, h2, hout, hown, h.sep, fun k hk => Nat.lt_of_lt_of_le (h.lt k hk) h3.size, h.fp, h.fo, h.kf, hK, h.ok⟩, ?_⟩
 exact ⟨ov, hout, by simpa [outC] using hown, fun k hk => .inl hk, h3.mono fun k hk => .inr (.inl hk), KeepTo.bytes hbuf hbuf' (hcz'.trans hcz.symm) h.pre h2 (Nat.le_refl _), hK⟩
/-- The tree that is walked. -/
structure IT (C : IX) (F : Nat → Prop) (T : Art) (m : Nat) (w : World) : Prop where
 at' : T.At w
 wf : T.WF
 sep : T.Sep
 fp : ∀ x, T.Fp x → F x ∧ x ≠ C.Bp ∧ ¬ C.X x
 fits : ∀ e ∈ T.ents, m + e.1.length ≤ 256
theorem IT.keep (h : IT C F T m w) (hw : IW C F pl ov cnt xs w) (k : IP C m' ov cnt xs fs w w') : IT C F T m w' := by
 obtain ⟨ov1, k1⟩ := k
 exact ⟨h.at'.keep fun x hx => k1.only.block x (h.at'.lt x hx) (hw.bo (h.fp x hx).1 (h.fp x hx).2.1 (h.fp x hx).2.2), h.wf, h.sep, h.fp, h.fits⟩
theorem IT.bel (h : IT C F T m w) (hb : Below w.heap.size w w') : IT C F T m w' := ⟨h.at'.bel hb, h.wf, h.sep, h.fp, h.fits⟩
theorem IT.more {G : Nat → Prop} (h : IT C F T m w) : IT C (fun k => F k ∨ G k) T m w := ⟨h.at', h.wf, h.sep, fun x hx => ⟨.inl (h.fp x hx).1, (h.fp x hx).2⟩, h.fits⟩
theorem IT.only {G : Nat → Prop} (h : IT C F T m w) (ho : Only G w w') (hG : ∀ x, T.Fp x → ¬ G x) : IT C F T m w' := ⟨h.at'.keep fun x hx => ho.block x (h.at'.lt x hx) (hG x hx), h.wf, h.sep, h.fp, h.fits⟩
theorem IT.room (h : IT C F T m w) : m + T.path.length ≤ 256 := by
 obtain ⟨e, he⟩ := ents_any h.wf
 obtain ⟨y, hy⟩ := ents_path he
 have := h.fits e he
 rw [hy, List.length_append] at this; omega
theorem IT.kid {k : Kd} {b : Nat} {pre : List UInt8} {n : Nat} {key : Nat → UInt8} {kid : Nat → Art} (h : IT C F (.node k b pre n key kid) m w) {i : Nat} (hi : i < n) : IT C F (kid i) (m + pre.length) w :=
 ⟨h.at'.2 i hi, (h.wf.2.2.1 i hi).1, (h.sep.1 i hi).1, fun x hx => h.fp x (.inr ⟨i, hi, hx⟩), fun e he => by
  have := h.fits (shift pre e) (mem_node.2 ⟨i, hi, e, he, rfl⟩)
  simp only [shift, List.length_append] at this; omega⟩
/-- What a callback must do at a leaf, behind the prefix and the leaf's text. -/
theorem leafI (h : IW C F pl ov cnt xs w) {L : Nat} {v : Int} {s : List UInt8} (hl : w.heap[L]? = some (.cells #[.int .i64 v, .string (mk s)] 199 (0, 0))) (hL : F L ∧ L ≠ C.Bp ∧ ¬ C.X L) (hroom : pl.length + s.length ≤ 256)
  {W1 : World} (h1 : ∃ cur', W1.heap[C.Bp]? = some (.cells cur' 143 (0, 0)) ∧ cur'.size = 256) (h2 : BsAt W1 C.Bp 0 (pl ++ s)) (h3 : Only (· = C.Bp) w W1) :
  (Sl W1 1 (.slice (some ⟨C.Bp, 0, none⟩) (pl.length + s.length) 256) (pl ++ s).length (u8s (pl ++ s)) ∧ W1.cell? ⟨L, 0, none⟩ = some (.int .i64 v) ∧ C.K W1 ∧ W1.heap[C.Bo]? = some (.cells #[ov] 41 (0, 0)) ∧ Own W1 (C.Bo + 1) 2 ov cnt xs ∧
   (∀ k, ov.ownBlock = some k → ¬ (k < W1.heap.size ∧ ov.ownBlock ≠ some k)) ∧ (C.Bp < W1.heap.size ∧ ov.ownBlock ≠ some C.Bp) ∧ (L < W1.heap.size ∧ ov.ownBlock ≠ some L)) ∧
  ∀ w' o', w'.heap[C.Bo]? = some (.cells #[o'] 41 (0, 0)) → Own w' (C.Bo + 1) 2 o' (cnt + 1) (xs ++ [.string (mk (pl ++ s)), .int .i64 v]) → (∀ k, o'.ownBlock = some k → ¬ (k < W1.heap.size ∧ ov.ownBlock ≠ some k)) → Only (fun k => k = C.Bo ∨ ov.ownBlock = some k) W1 w' →
   IP C pl.length ov cnt xs [(pl ++ s, v)] w w' := by
 obtain ⟨hW1, hM1⟩ := h.longer h1 h2 h3
 have hl1 := (h3.block L (h.lt _ hL.1) hL.2.1).trans hl
 have cn1 := (cell_row (j := 0) hl1).trans (show _ = some (Value.int .i64 v) from rfl)
 have hlen : (pl ++ s).length = pl.length + s.length := List.length_append
 have hsl1 : Sl W1 1 (.slice (some ⟨C.Bp, 0, none⟩) (pl ++ s).length 256) (pl ++ s).length (u8s (pl ++ s)) := h2.sl rfl (by omega) (by decide)
 rw [hlen] at hsl1
 refine ⟨⟨by rw [hlen]; exact hsl1, cn1, hW1.k, hW1.out, hW1.own, fun k hk hF => hF.2 hk, ⟨hW1.lt _ h.fp, fun e => h.sep _ e h.fp⟩, ⟨hW1.lt _ hL.1, fun e => h.sep _ e hL.1⟩⟩, fun w' o' k1 k2 k3 k4 => ?_⟩
 have hrne : ∀ x, F x → ¬ (x = C.Bo ∨ ov.ownBlock = some x) := fun x hx => by
  rintro (e | e)
  ·exact h.fo (e ▸ hx)
  ·exact h.sep x e hx
 have hM2 : IP C (pl ++ s).length ov cnt xs [(pl ++ s, v)] W1 w' := by
  refine ⟨o', k1, by simpa [outC] using k2, fun k hk => ?_, k4.mono fun k hk => hk.imp id fun e => .inr (.inr e), KeepTo.of (k4.block _ (hW1.lt _ h.fp) (hrne _ h.fp)), h.ok.keep _ _ hW1.k fun x hx => k4.block x (hW1.lt _ (h.kf x hx).1) (hrne x (h.kf x hx).1)⟩
  have := k3 k hk
  by_cases e : ov.ownBlock = some k
  ·exact .inl e
  ·exact .inr (Nat.le_of_not_lt fun hlt => this ⟨hlt, e⟩)
 exact hM1.both hW1.out hM2 (by omega)
end
end Go.Proofs.YtehlmjecbljafaaGreatDoor
namespace Go.Proofs.YtehlmjecbljafaaGreatDoor
open Go Go.RowKit
set_option maxRecDepth 100000 in
set_option maxHeartbeats 1600000 in
/-- The callback puts down one entry more. -/
theorem cb71_any (v : Value) (l : List UInt8) (bv ov : Nat) (n : Int) (Bo Bm : Nat) (o : Value) (cnt : Nat) (xs : List Value) (F : Nat → Prop) (w : World) (hv : Sl w 1 v l.length (u8s l)) (hval : w.cell? ⟨bv, ov, none⟩ = some (.int .i64 n))
  (hBo : w.heap[Bo]? = some (.cells #[o] 41 (0, 0))) (hown : Own w (Bo + 1) 2 o cnt xs) (hF : ∀ k, o.ownBlock = some k → ¬ F k) (hlt : ∀ k, F k → k < w.heap.size) (hn : cnt < 99) (hFm : F Bm) (hBm : w.heap[Bm]? = some (.cells #[.int .i64 100] 3 (0, 0)))
  (hFv : F bv) (hFs : ∀ b o n c, v = .slice (some ⟨b, o, none⟩) n c → F b) :
  Calls Tryz.prog 71 #[v, .pointer (some ⟨bv, ov, none⟩), .pointer (some ⟨Bo, 0, none⟩), .pointer (some ⟨Bm, 0, none⟩)] w fun e w' => e = .returned (.bool true) ∧ ∃ o', w'.heap[Bo]? = some (.cells #[o'] 41 (0, 0)) ∧ Own w' (Bo + 1) 2 o' (cnt + 1) (xs ++ [.string (mk l), .int .i64 n]) ∧
   (∀ k, o'.ownBlock = some k → ¬ F k) ∧ Only (fun k => k = Bo ∨ o.ownBlock = some k) w w' := by
 obtain ⟨a, cap, rfl⟩ := hv.form
 obtain ⟨oa, oc, rfl, -⟩ := hown.form
 have hlo := (Array.getElem?_eq_some_iff.1 hBo).1
 have hlv := World.block_lt_of_cell? _ _ hval
 have hc0 := (cell_row (j := 0) hBo).trans (show _ = some (Value.slice oa cnt oc) from rfl)
 have hfz := frozen_row (j := 0) hBo
 have hob : ∀ k, (Value.slice oa cnt oc).ownBlock = some k → k ≠ Bo := fun k hk e => by have := (hown.lt k hk).1; omega
 have hvb : ∀ b o, a = some ⟨b, o, none⟩ → ¬ (Value.slice oa cnt oc).ownBlock = some b := fun b o e h => hF b h (hFs b o l.length cap (by rw [e]))
 have hnb : ¬ (Value.slice oa cnt oc).ownBlock = some bv := fun h => hF bv h hFv
 have HV := Lib.hid hv; clear hv
 have HW := Lib.hid hown; clear hown
 have HS : ∀ o, (fun W' : World => W'.cell? ⟨Bo, 0, none⟩ = some (.slice oa cnt oc) ∧ W'.cell? ⟨bv, ov, none⟩ = some (.int .i64 n) ∧ Sl W' 1 (.slice a l.length cap) l.length (u8s l)) (w.drew.alloc o) := fun o =>
  ⟨cell_alloc o hc0, cell_alloc o hval, (HV.out.keep (Below.refl _ w).drew).keep ((Below.refl _ _).alloc (Nat.le_refl _) o)⟩
 have hnm : ¬ (Value.slice oa cnt oc).ownBlock = some Bm := fun h => hF Bm h hFm
 have hmo : Bm ≠ Bo := fun e => by rw [e, hBo] at hBm; cases hBm
 have hlm := (Array.getElem?_eq_some_iff.1 hBm).1
 have HBM := Lib.hid hBm; clear hBm
 have hlt99 : (cnt : Int) + 1 < 100 := by omega
 go_enter Tryz.func71, Tryz.ntmps71
 go_wp2_with fail
 refine wp_region_L [0, 1, 2, 3, 4, 5] (fun W' => W'.cell? ⟨Bo, 0, none⟩ = some (.slice oa cnt oc) ∧ W'.cell? ⟨bv, ov, none⟩ = some (.int .i64 n) ∧ Sl W' 1 (.slice a l.length cap) l.length (u8s l)) (by kernel_rfl) (by kernel_rfl) ⟨hc0, hval, HV.out.keep (Below.refl _ w).drew⟩ (fun ne => ?_)
 have S0 := fun x : SubC (fun W' => W'.cell? ⟨Bo, 0, none⟩ = some (.slice oa cnt oc) ∧ W'.cell? ⟨bv, ov, none⟩ = some (.int .i64 n) ∧ Sl W' 1 (.slice a l.length cap) l.length (u8s l)) => x.ok.1
 have S1 := fun x : SubC (fun W' => W'.cell? ⟨Bo, 0, none⟩ = some (.slice oa cnt oc) ∧ W'.cell? ⟨bv, ov, none⟩ = some (.int .i64 n) ∧ Sl W' 1 (.slice a l.length cap) l.length (u8s l)) => x.ok.2.1
 have S2 := fun x : SubC (fun W' => W'.cell? ⟨Bo, 0, none⟩ = some (.slice oa cnt oc) ∧ W'.cell? ⟨bv, ov, none⟩ = some (.int .i64 n) ∧ Sl W' 1 (.slice a l.length cap) l.length (u8s l)) => conv_text x.ok.2.2
 repeat (refine wpCL_q rfl rfl ?_; go_big_quiet_step (fail); refine wpQuiet_nil ?_)
 refine wpCL_n rfl rfl rfl rfl ?_
 go_simp
 repeat (refine wpCL_q rfl rfl ?_; go_big_quiet_step (fail); refine wpQuiet_nil ?_)
 refine wpCL_w rfl rfl ?_
 go_wp2
 refine ⟨⟨⟨w.drew, hc0, hval, HV.out.keep (Below.refl _ w).drew⟩, rfl⟩, ?_⟩
 refine wpCL_w rfl rfl ?_
 go_wp2_with fail
 refine ⟨⟨⟨_, HS _⟩, rfl⟩, ?_⟩
 refine wpCL_ch rfl rfl (fun K hK => ?_)
 refine runs_appX (W := w.drew) (v := .slice oa cnt oc) (n := cnt) (xs := xs) et41 _ _ rfl (Bo + 1) (fun k => F k ∨ k = Bo) rfl (HW.out.keep (Below.refl _ w).drew) (fun k hk => by
  rintro (h | h)
  ·exact hF k hk h
  ·exact hob k hk h) (fun k hk => by rcases hk with h | h; exact hlt k h; exact h ▸ hlo) [.string (mk l), .int .i64 n] rfl rfl (by simp [Value.oneCell']) (by omega) (by exact hlo) ?_
 intro v' w1 hown1 hF1 honly
 have honly1 := honly.drewL
 obtain ⟨va', vc', rfl, -⟩ := hown1.form
 clear honly
 have k0 := cell_only hc0 honly1 (fun h => hob Bo h rfl)
 have k1 := cell_only hval honly1 hnb
 have kf : w1.frozen? ⟨Bo, 0, none⟩ = false := by
  rw [← hfz]; unfold World.frozen?; rw [honly1.block Bo hlo (fun h => hob Bo h rfl)]
 have kh := (honly1.block Bo hlo (fun h => hob Bo h rfl)).trans hBo
 have hbm1 := (honly1.block Bm hlm hnm).trans HBM.out
 refine hK _ _ ⟨⟨w1, k0, k1, HV.out.only honly1 hvb⟩, rfl⟩ ?_
 clear hK K
 go_simp
 refine wpCL_last ?_
 have hcs := heap_setCell_same w1 Bo 0 _ 41 (.slice va' (cnt + 1) vc') kh
 have hbm2 := (show (w1.setCell ⟨Bo, 0, none⟩ (.slice va' (cnt + 1) vc')).heap[Bm]? = _ from heap_setCell_other _ _ _ _ hmo).trans hbm1
 have cc := (cell_row (j := 0) hcs).trans (show _ = some (Value.slice va' (cnt + 1) vc') from rfl)
 have cm := (cell_row (j := 0) hbm2).trans (show _ = some (Value.int .i64 100) from rfl)
 go_wp2
 go_ret
 refine ⟨by first | rfl | (show Ending.returned (Value.bool (decide ((cnt : Int) + 1 < 100))) = _; rw [decide_eq_true hlt99]), .slice va' (cnt + 1) vc', ?_, ?_, fun k hk h => hF1 k hk (.inl h), ?_⟩
 ·have := heap_setCell_same w1 Bo 0 _ 41 (.slice va' (cnt + 1) vc') kh
  exact this
 ·exact hown1.kept fun k hk => heap_setCell_other _ _ _ _ (fun e => hF1 k hk (.inr e))
 ·exact (honly1.mono fun k hk => .inr hk).set (.inl (.inl rfl)) _
set_option maxRecDepth 100000 in
set_option maxHeartbeats 1600000 in
/-- The callback puts down one entry more. -/
theorem cb73_any (v : Value) (l : List UInt8) (bv ov : Nat) (n : Int) (Bo : Nat) (o : Value) (cnt : Nat) (xs : List Value) (F : Nat → Prop) (w : World) (hv : Sl w 1 v l.length (u8s l)) (hval : w.cell? ⟨bv, ov, none⟩ = some (.int .i64 n))
  (hBo : w.heap[Bo]? = some (.cells #[o] 41 (0, 0))) (hown : Own w (Bo + 1) 2 o cnt xs) (hF : ∀ k, o.ownBlock = some k → ¬ F k) (hlt : ∀ k, F k → k < w.heap.size) (hn : cnt < 549755813888)
  (hFv : F bv) (hFs : ∀ b o n c, v = .slice (some ⟨b, o, none⟩) n c → F b) :
  Calls Tryz.prog 73 #[v, .pointer (some ⟨bv, ov, none⟩), .pointer (some ⟨Bo, 0, none⟩)] w fun e w' => e = .returned (.bool true) ∧ ∃ o', w'.heap[Bo]? = some (.cells #[o'] 41 (0, 0)) ∧ Own w' (Bo + 1) 2 o' (cnt + 1) (xs ++ [.string (mk l), .int .i64 n]) ∧
   (∀ k, o'.ownBlock = some k → ¬ F k) ∧ Only (fun k => k = Bo ∨ o.ownBlock = some k) w w' := by
 obtain ⟨a, cap, rfl⟩ := hv.form
 obtain ⟨oa, oc, rfl, -⟩ := hown.form
 have hlo := (Array.getElem?_eq_some_iff.1 hBo).1
 have hlv := World.block_lt_of_cell? _ _ hval
 have hc0 := (cell_row (j := 0) hBo).trans (show _ = some (Value.slice oa cnt oc) from rfl)
 have hfz := frozen_row (j := 0) hBo
 have hob : ∀ k, (Value.slice oa cnt oc).ownBlock = some k → k ≠ Bo := fun k hk e => by have := (hown.lt k hk).1; omega
 have hvb : ∀ b o, a = some ⟨b, o, none⟩ → ¬ (Value.slice oa cnt oc).ownBlock = some b := fun b o e h => hF b h (hFs b o l.length cap (by rw [e]))
 have hnb : ¬ (Value.slice oa cnt oc).ownBlock = some bv := fun h => hF bv h hFv
 have HV := Lib.hid hv; clear hv
 have HW := Lib.hid hown; clear hown
 have HS : ∀ o, (fun W' : World => W'.cell? ⟨Bo, 0, none⟩ = some (.slice oa cnt oc) ∧ W'.cell? ⟨bv, ov, none⟩ = some (.int .i64 n) ∧ Sl W' 1 (.slice a l.length cap) l.length (u8s l)) (w.drew.alloc o) := fun o =>
  ⟨cell_alloc o hc0, cell_alloc o hval, (HV.out.keep (Below.refl _ w).drew).keep ((Below.refl _ _).alloc (Nat.le_refl _) o)⟩
 go_enter Tryz.func73, Tryz.ntmps73
 go_wp2_with fail
 refine wp_region_L [0, 1, 2, 3, 4, 5] (fun W' => W'.cell? ⟨Bo, 0, none⟩ = some (.slice oa cnt oc) ∧ W'.cell? ⟨bv, ov, none⟩ = some (.int .i64 n) ∧ Sl W' 1 (.slice a l.length cap) l.length (u8s l)) (by kernel_rfl) (by kernel_rfl) ⟨hc0, hval, HV.out.keep (Below.refl _ w).drew⟩ (fun ne => ?_)
 have S0 := fun x : SubC (fun W' => W'.cell? ⟨Bo, 0, none⟩ = some (.slice oa cnt oc) ∧ W'.cell? ⟨bv, ov, none⟩ = some (.int .i64 n) ∧ Sl W' 1 (.slice a l.length cap) l.length (u8s l)) => x.ok.1
 have S1 := fun x : SubC (fun W' => W'.cell? ⟨Bo, 0, none⟩ = some (.slice oa cnt oc) ∧ W'.cell? ⟨bv, ov, none⟩ = some (.int .i64 n) ∧ Sl W' 1 (.slice a l.length cap) l.length (u8s l)) => x.ok.2.1
 have S2 := fun x : SubC (fun W' => W'.cell? ⟨Bo, 0, none⟩ = some (.slice oa cnt oc) ∧ W'.cell? ⟨bv, ov, none⟩ = some (.int .i64 n) ∧ Sl W' 1 (.slice a l.length cap) l.length (u8s l)) => conv_text x.ok.2.2
 repeat (refine wpCL_q rfl rfl ?_; go_big_quiet_step (fail); refine wpQuiet_nil ?_)
 refine wpCL_n rfl rfl rfl rfl ?_
 go_simp
 repeat (refine wpCL_q rfl rfl ?_; go_big_quiet_step (fail); refine wpQuiet_nil ?_)
 refine wpCL_w rfl rfl ?_
 go_wp2
 refine ⟨⟨⟨w.drew, hc0, hval, HV.out.keep (Below.refl _ w).drew⟩, rfl⟩, ?_⟩
 refine wpCL_w rfl rfl ?_
 go_wp2_with fail
 refine ⟨⟨⟨_, HS _⟩, rfl⟩, ?_⟩
 refine wpCL_ch rfl rfl (fun K hK => ?_)
 refine runs_appX (W := w.drew) (v := .slice oa cnt oc) (n := cnt) (xs := xs) et41 _ _ rfl (Bo + 1) (fun k => F k ∨ k = Bo) rfl (HW.out.keep (Below.refl _ w).drew) (fun k hk => by
  rintro (h | h)
  ·exact hF k hk h
  ·exact hob k hk h) (fun k hk => by rcases hk with h | h; exact hlt k h; exact h ▸ hlo) [.string (mk l), .int .i64 n] rfl rfl (by simp [Value.oneCell']) hn (by exact hlo) ?_
 intro v' w1 hown1 hF1 honly
 have honly1 := honly.drewL
 obtain ⟨va', vc', rfl, -⟩ := hown1.form
 clear honly
 have k0 := cell_only hc0 honly1 (fun h => hob Bo h rfl)
 have k1 := cell_only hval honly1 hnb
 have kf : w1.frozen? ⟨Bo, 0, none⟩ = false := by
  rw [← hfz]; unfold World.frozen?; rw [honly1.block Bo hlo (fun h => hob Bo h rfl)]
 have kh := (honly1.block Bo hlo (fun h => hob Bo h rfl)).trans hBo
 refine hK _ _ ⟨⟨w1, k0, k1, HV.out.only honly1 hvb⟩, rfl⟩ ?_
 clear hK K
 go_simp
 refine wpCL_last ?_
 go_wp2
 go_ret
 refine ⟨rfl, .slice va' (cnt + 1) vc', ?_, ?_, fun k hk h => hF1 k hk (.inl h), ?_⟩
 ·have := heap_setCell_same w1 Bo 0 _ 41 (.slice va' (cnt + 1) vc') kh
  exact this
 ·exact hown1.kept fun k hk => heap_setCell_other _ _ _ _ (fun e => hF1 k hk (.inr e))
 ·exact (honly1.mono fun k hk => .inr hk).set (.inl (.inl rfl)) _
end Go.Proofs.YtehlmjecbljafaaGreatDoor
namespace Go.Proofs.YtehlmjecbljafaaGreatDoor
open Go Go.RowKit
/-- The blocks of the ordered walk. -/
def ixO (Bp Bo Bm : Nat) : IX := ⟨Bp, Bo, (· = Bm), fun _ => False, fun w => w.heap[Bm]? = some (.cells #[.int .i64 100] 3 (0, 0))⟩
theorem ixO_ok (Bp Bo Bm : Nat) : (ixO Bp Bo Bm).OK := ⟨fun _ _ h hk => (hk Bm rfl).trans h, fun _ h => h.elim⟩
section
variable {Bp Bo Bm : Nat} {F : Nat → Prop} {pl : List UInt8} {ov : Value} {cnt : Nat} {xs : List Value} {w : World}
theorem cbO (h : IW (ixO Bp Bo Bm) F pl ov cnt xs w) {L : Nat} {v : Int} {s : List UInt8} (hl : w.heap[L]? = some (.cells #[.int .i64 v, .string (mk s)] 199 (0, 0))) (hL : F L ∧ L ≠ Bp) (hroom : pl.length + s.length ≤ 256) (hcnt : cnt < 99)
  {W1 : World} (h1 : ∃ cur', W1.heap[Bp]? = some (.cells cur' 143 (0, 0)) ∧ cur'.size = 256) (h2 : BsAt W1 Bp 0 (pl ++ s)) (h3 : Only (· = Bp) w W1) :
  Calls Tryz.prog 71 #[.slice (some ⟨Bp, 0, none⟩) (pl.length + s.length) 256, .pointer (some ⟨L, 0, none⟩), .pointer (some ⟨Bo, 0, none⟩), .pointer (some ⟨Bm, 0, none⟩)] W1 fun e w' => e = .returned (.bool true) ∧ IP (ixO Bp Bo Bm) pl.length ov cnt xs [(pl ++ s, v)] w w' := by
 obtain ⟨⟨q1, q2, q3, q4, q5, q6, q7, q8⟩, hend⟩ := leafI h hl ⟨hL.1, hL.2, id⟩ hroom h1 h2 h3
 have hm : F Bm := (h.kf Bm rfl).1
 have hml := (Array.getElem?_eq_some_iff.1 q3).1
 refine (cb71_any _ (pl ++ s) L 0 v Bo Bm ov cnt xs (fun k => k < W1.heap.size ∧ ov.ownBlock ≠ some k) W1 q1 q2 q4 q5 q6 (fun k hk => hk.1) hcnt ⟨hml, fun e => h.sep _ e hm⟩ q3 q8 (fun b o n c e => by cases e; exact q7)).mono ?_
 rintro e w' ⟨rfl, o', k1, k2, k3, k4⟩
 exact ⟨rfl, hend w' o' k1 k2 k3 k4⟩
end
set_option maxRecDepth 100000 in
set_option maxHeartbeats 3200000 in
theorem iterLeaf_any (Bp Bo Bm : Nat) (F : Nat → Prop) (L : Nat) (v : Int) (s : List UInt8) (pl : List UInt8) (ov : Value) (cnt : Nat) (xs : List Value) (w : World) (t : Value)
  (hM : IW (ixO Bp Bo Bm) F pl ov cnt xs w) (hT : IT (ixO Bp Bo Bm) F (.leaf L v s) pl.length w) (hcn : cnt < 99) :
  Calls Tryz.prog 106 #[t, (Art.leaf L v s).ref, .slice (some ⟨Bp, 0, none⟩) pl.length 256, .bool true, .func (.func 71) #[] #[.pointer (some ⟨Bo, 0, none⟩), .pointer (some ⟨Bm, 0, none⟩)]] w fun e w' => e = .returned (.bool true) ∧ IP (ixO Bp Bo Bm) pl.length ov cnt xs [(pl ++ s, v)] w w' := by
 have hat : w.heap[L]? = some (.cells #[.int .i64 v, .string (mk s)] 199 (0, 0)) := hT.at'
 have hroom : pl.length + s.length ≤ 256 := hT.room
 have iL : ∀ w, (method 508 197 (.pointer (some ⟨L, 0, none⟩)) "pub-tokenroad/pub/natsserver/server/stree.isLeaf").run Tryz.prog w = .ok (291, .pointer (some ⟨L, 0, none⟩)) w := fun w => isLeafM _ w
 have iA : ∀ w, (Instr.typeAssert (.iface 197 (.pointer (some ⟨L, 0, none⟩))) 137 197 false).run Tryz.prog w = .ok (.pointer (some ⟨L, 0, none⟩)) w := fun w => leafAs _ w
 have hLF : F L ∧ L ≠ Bp := ⟨(hT.fp L rfl).1, (hT.fp L rfl).2.1⟩
 have HM := Lib.hid hM; clear hM
 have HLF := Lib.hid hLF; clear hLF
 clear hT
 show Calls Tryz.prog 106 #[t, .iface 197 (.pointer (some ⟨L, 0, none⟩)), .slice (some ⟨Bp, 0, none⟩) pl.length 256, .bool true, .func (.func 71) #[] #[.pointer (some ⟨Bo, 0, none⟩), .pointer (some ⟨Bm, 0, none⟩)]] w _
 go_enter Tryz.func106, Tryz.ntmps106
 go_wp2_with fail
 refine (leafIs_any _ w).mono ?_
 rintro e w3 ⟨rfl, hw3⟩
 subst w3
 go_wp2_with fail
 have hMd := (HM.out).bel (Below.refl _ w).drew
 have hLd : w.drew.heap[L]? = some (.cells #[.int .i64 v, .string (mk s)] 199 (0, 0)) := hat
 have hLF := HLF.out
 obtain ⟨cur, hbufd, hcz⟩ := hMd.buf
 have cs := (cell_row (j := 1) hLd).trans (show _ = some (Value.string (mk s)) from rfl)
 have hpre := hMd.pre
 have hms : (mk s).size = s.length := mk_size s
 have HMD := Lib.hid hMd; clear hMd
 refine wp_region_L [0, 1, 2, 3, 4, 5, 7, 8, 9] (fun W' => W'.cell? ⟨L, 1, none⟩ = some (.string (mk s))) (by kernel_rfl) (by kernel_rfl) cs (fun ne => ?_)
 have S0 := fun x : SubC (fun W' => W'.cell? ⟨L, 1, none⟩ = some (.string (mk s))) => x.ok
 repeat (refine wpCL_q rfl rfl ?_; go_big_quiet_step (fail); refine wpQuiet_nil ?_)
 refine wpCL_n rfl rfl rfl rfl ?_
 go_simp
 repeat (refine wpCL_q rfl rfl ?_; go_big_quiet_step (fail); refine wpQuiet_nil ?_)
 refine wpCL_ch rfl rfl (fun K hK => ?_)
 refine runs_appStr (W := w.drew) _ _ rfl Bp 256 pl.length cur pl (mk s) (rfl) rfl rfl hbufd hpre (by have := hroom; omega) (by have := hroom; have : cur.size = 256 := hcz; omega) ?_
 intro W1 cur1 hBp1 hcur1 hbs1 honly1
 rw [bs_mk] at hbs1
 refine hK _ _ ⟨⟨W1, cell_only cs honly1 hLF.2⟩, rfl⟩ ?_
 clear hK K
 have hcb := cbO HMD.out hLd hLF (by have h1 := hroom; omega) hcn ⟨cur1, hBp1, hcur1.trans hcz⟩ hbs1 honly1
 rw [← hms] at hcb
 have cs1 := cell_only cs honly1 hLF.2
 have hLlt := World.block_lt_of_cell? _ _ cs1
 clear hBp1 hcur1 hbs1 hbufd hcz hpre
 go_simp
 repeat (refine wpCL_q rfl rfl ?_; go_big_quiet_step (fail); refine wpQuiet_nil ?_)
 refine wpCL_n rfl rfl rfl rfl ?_
 go_simp
 repeat (refine wpCL_q rfl rfl ?_; go_big_quiet_step (fail); refine wpQuiet_nil ?_)
 refine wpCL_ch rfl rfl (fun K hK => ?_)
 go_simp
 simp only [runsTo_enter]
 refine hcb.mono ?_
 rintro e w4 ⟨rfl, hMP⟩
 refine ⟨_, rfl, hK _ _ ⟨⟨w4, ?_⟩, rfl⟩ ?_⟩
 ·obtain ⟨ov', h4⟩ := hMP
  exact cell_only cs h4.only (HMD.out.bo hLF.1 hLF.2 id)
 clear hK K hcb cs1 cs
 have HMP := Lib.hid hMP; clear hMP
 go_simp
 refine wpCL_last ?_
 go_wp2
 go_ret
 exact ⟨rfl, (IP.refl (m := pl.length) HM.out (Below.refl _ w).drew).both HMD.out.out HMP.out (Nat.le_refl _)⟩
end Go.Proofs.YtehlmjecbljafaaGreatDoor
