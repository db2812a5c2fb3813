/- DERIVED: THE SHELF's CONTRACTS AT THIS DUMP, IN PLAIN WORDS (tools/lay-plain.mjs out of 'TryzShelf.lean', which tools/lay-shelf.mjs wrote): THE SAME DECLARATIONS UNDER THE SAME NAMES: 'import', 'namespace', 'open', 'def', 'theorem' AND NOTHING ELSE: no command of the shelf's: FOR A HAND-IN. Each laying: the table of numbers ('.._ren') and one theorem, a field a fact of the dump's own or the kernel's comparison; each contract: ONE APPLICATION. The tree's filters: parts against a text. A subject tree's small functions: pivots, common beginnings, new nodes, leaves. A mapping's own form: kinds, NewMapping, mapping. The server's own tokens and subset match. strings.Builder's writers at this program: the shelf's proofs, turned to this program's numbers. The server's subset match. A loop in a function of very many temporaries: the frame by one function. What a mapping makes of a subject's tokens. isValidLiteralSubject over slices.Values: a range over a function. Match and Transform. Whether a subject may be published: zzIndex, zzSplit, zzIndexAny, IsValidPublishSubject. A good subject may be published. A subject tree of one leaf: how it is made. -/
import Derived.Test.YtehlmjecbljafaaGreatDoorQ6
import Derived.Test.YtehlmjecbljafaaGreatDoorQ8
import Derived.Test.YtehlmjecbljafaaGreatDoorQ10
import Derived.Test.YtehlmjecbljafaaGreatDoorQ11
import Derived.Test.YtehlmjecbljafaaGreatDoorQ12
import Derived.Test.YtehlmjecbljafaaGreatDoorQ13
import Derived.Shelf.Strings.Builder1
import Derived.Shelf.Strings.Builder2
import Derived.Shelf.Strings.OnBuilder
import Derived.Shelf.Small.Strs
import Derived.Shelf.Strings.BuilderF
import Derived.Shelf.Strings.BuilderK
import Derived.Shelf.Strings.Builder2Cap
import Derived.Shelf.Strconv.Itoa0
import Derived.Shelf.Strconv.Itoa1
import Derived.Shelf.LaysM
import Derived.Shelf.Strconv.Itoa2
import Derived.Shelf.Strconv.Itoa3
import Derived.Shelf.Strings.Search1
import Derived.Shelf.Bytes.Small
import Derived.Shelf.Bytes.IndexByte
import Derived.Test.YtehlmjecbljafaaGreatDoorProg
import Derived.RangeFuncNested
import Derived.RangeFuncBound
import Derived.RangeFuncCalls
import Derived.RangeFuncLeaves
import Derived.RangeFuncBox
import Derived.RangeFuncFrom
import Derived.Shelf.Abstract
import Derived.WalkKit
import Derived.OwnWalkIn
import Derived.TacticsInMore
import Derived.LoopNIn
import Derived.LoopIn
import Derived.Lib.OthersKept
import Derived.WalkSpells
namespace Go.Proofs
open Go.Shelf
def Tryz.lays137_ren : Go.Shelf.Ren := ⟨fun | 137 => 127 | 217 => 174 | 266 => 211 | n => n, fun | 9 => 9 | 5 => 5 | 3 => 3 | n => n, fun | n => n⟩
theorem Tryz.lays137 : Go.Proofs.Lays.n137 Tryz.prog Tryz.lays137_ren := {
  mixed := by kernel_rfl
  f137 := Tryz.func127.trans (congrArg some (by kernel_rfl))
  f217 := Tryz.func174.trans (congrArg some (by kernel_rfl))
  f266 := Tryz.func211.trans (congrArg some (by kernel_rfl))
  t3 := Tryz.underlying3
  a3 := Tryz.isAgg3
  z3 := Tryz.sizeOf3
  v3 := Tryz.zeroValue3
  t5 := Tryz.underlying5
  a5 := Tryz.isAgg5
  z5 := Tryz.sizeOf5
  v5 := Tryz.zeroValue5
  t9 := Tryz.underlying9
  a9 := Tryz.isAgg9
  z9 := Tryz.sizeOf9
  v9 := Tryz.zeroValue9 }
open Go.RowKit in
/-- strings.IndexByte: "IndexByte returns the index of the first instance of c in s, or -1 if c is not present in s.": IT RETURNS 'Lib.indexByte s c'; the world is as it was. (LAID: no walk: one application.) -/
theorem Tryz.strings_IndexByte (s : ByteArray) (c : Int) (w : World) :
    Calls Tryz.prog 127 #[.string s, .int .u8 c] w fun e w' => e = .returned (.int .i64 (Lib.indexByte s.data.toList c.toNat.toUInt8)) ∧ w' = w := Any.strings_IndexByte Tryz.lays137 s c w
def Tryz.lays187_ren : Go.Shelf.Ren := ⟨fun | 187 => 156 | 255 => 198 | n => n, fun | 37 => 94 | 5 => 5 | 3 => 3 | n => n, fun | n => n⟩
theorem Tryz.lays187 : Go.Proofs.Lays.n187 Tryz.prog Tryz.lays187_ren := {
  mixed := by kernel_rfl
  f187 := Tryz.func156.trans (congrArg some (by kernel_rfl))
  f255 := Tryz.func198.trans (congrArg some (by kernel_rfl))
  t3 := Tryz.underlying3
  a3 := Tryz.isAgg3
  z3 := Tryz.sizeOf3
  v3 := Tryz.zeroValue3
  t5 := Tryz.underlying5
  a5 := Tryz.isAgg5
  z5 := Tryz.sizeOf5
  v5 := Tryz.zeroValue5
  t37 := Tryz.underlying94
  a37 := Tryz.isAgg94
  z37 := Tryz.sizeOf94
  v37 := Tryz.zeroValue94 }
/-- bytes.IndexByte: "IndexByte returns the index of the first instance of c in b, or -1 if c is not present in b.": IT RETURNS 'Lib.indexByte (the bytes of b) c'; the world is as it was. 'xs': the numbers that the slice's cells hold. (LAID: no walk: one application.) -/
theorem Tryz.bytes_IndexByte (b o n c : Nat) (xs : List Int) (cv : Int) (w : World) (hx : xs.length = n) (hc : ∀ i, i < n → w.cell? ⟨b, o + i, none⟩ = some (.int .u8 (xs.getD i 0))) :
    Calls Tryz.prog 156 #[.slice (some ⟨b, o, none⟩) n c, .int .u8 cv] w fun e w' => e = .returned (.int .i64 (Lib.indexByte (Lib.bytesOf xs) cv.toNat.toUInt8)) ∧ w' = w := Any.bytes_IndexByte Tryz.lays187 b o n c xs cv w hx hc
end Go.Proofs
namespace Go.Proofs.YtehlmjecbljafaaGreatDoor
open Go Go.RowKit
theorem first_dot : ∀ {r : List UInt8}, 46 ∈ r → ∃ t r2, r = t ++ 46 :: r2 ∧ 46 ∉ t
  | [], h => by cases h
  | c :: r, h => by
    by_cases hc : c = 46
    · exact ⟨[], r, by rw [hc]; rfl, by simp⟩
    · obtain ⟨t, r2, e, ht⟩ := first_dot (r := r) (by
        rcases List.mem_cons.1 h with h | h
        · exact absurd h.symm hc
        · exact h)
      exact ⟨c :: t, r2, by rw [e]; rfl, by simp only [List.mem_cons, not_or]; exact ⟨fun e => hc e.symm, ht⟩⟩
theorem conv_quiet {w : World} {a : Option Addr} {n cap : Nat} {l : List UInt8} (h : Sl w 1 (.slice a n cap) n (u8s l)) (m : Nat) : (convert 94 9 (.slice a n cap)).run Tryz.prog (w.drewN m) = .ok (.string (mk l)) (w.drewN m) :=
  conv_text (h.keep (below_drewN (Below.refl _ _) m))
theorem PartsV.at' {w wr : World} {us : List Value} {ps : List (List UInt8)} (h : PartsV w us ps) (hb : Below w.heap.size w wr) {k : Nat} (hk : k < ps.length) : ∃ a c p, us[k]? = some (.slice a p.length c) ∧ Hid (ps[k]? = some p) ∧ Sl wr 1 (.slice a p.length c) p.length (u8s p) := by
  have hk' : k < us.length := by rw [h.1]; exact hk
  have h1 := h.2 k us[k] ps[k] (List.getElem?_eq_getElem hk') (List.getElem?_eq_getElem hk)
  obtain ⟨a, c, e⟩ := h1.form
  refine ⟨a, c, ps[k], by rw [List.getElem?_eq_getElem hk', e], List.getElem?_eq_getElem hk, ?_⟩
  rw [← e]; exact h1.keep hb
end Go.Proofs.YtehlmjecbljafaaGreatDoor
namespace Go.Proofs.YtehlmjecbljafaaGreatDoor
open Go Go.RowKit
set_option maxRecDepth 100000 in
set_option maxHeartbeats 800000 in
theorem s2b_any (s : ByteArray) (w : World) (hs : s.size ≤ maxLen) : Calls Tryz.prog 202 #[.string s] w fun e w' => ∃ a c, e = .returned (.slice a s.size c) ∧ Sl w' 1 (.slice a s.size c) s.size (u8s (bs s)) ∧ Below w.heap.size w w' := by
  have hcv := fun (w : World) (s : ByteArray) => conv_bytes w s
  go_enter Tryz.func202, Tryz.ntmps202
  go_wp2
  go_ret
  exact ⟨_, _, rfl, conv_sl w s hs, bytesWorld_below w s⟩
set_option maxRecDepth 100000 in
set_option maxHeartbeats 800000 in
theorem pivot_any (v : Value) (l : List UInt8) (p : Nat) (w : World) (hv : Sl w 1 v l.length (u8s l)) : Calls Tryz.prog 128 #[v, .int .i64 p] w fun e w' => e = .returned (.int .u8 ((piv (l.drop p)).toNat : Nat)) ∧ w = w' := by
  obtain ⟨a, cap, rfl⟩ := hv.form
  by_cases h : p < l.length
  · obtain ⟨b, o, rfl, hc⟩ := Sl.cell hv (Below.refl _ w) (by unfold u8s; rw [List.length_map]; omega)
    have c0 := hc p (.int .u8 ((l[p]).toNat : Nat)) (by unfold u8s; rw [List.getElem?_map, List.getElem?_eq_getElem h]; rfl)
    have e : piv (l.drop p) = l[p] := by rw [List.drop_eq_getElem_cons h]; rfl
    have h1 : (p : Int) < (l.length : Int) := by omega
    have h0 : (0 : Int) ≤ (p : Int) := by omega
    rw [e]
    clear hc hv
    go_enter Tryz.func128, Tryz.ntmps128
    go_wp2
    go_ret
    exact ⟨rfl, rfl⟩
  · have e : piv (l.drop p) = 127 := by rw [List.drop_of_length_le (by omega)]; rfl
    have h1 : ¬ (p : Int) < (l.length : Int) := by omega
    rw [e]
    clear hv
    go_enter Tryz.func128, Tryz.ntmps128
    go_wp2
    go_ret
    exact ⟨rfl, rfl⟩
theorem cpl_eq : ∀ {l r : List UInt8} {k : Nat}, k ≤ l.length → k ≤ r.length → (∀ j, j < k → l[j]? = r[j]?) → (k < l.length → k < r.length → l[k]? ≠ r[k]?) → cpl l r = k
  | [], r, k, h1, _, _, _ => by simp at h1; subst h1; simp [cpl]
  | a :: l, [], k, _, h2, _, _ => by simp at h2; subst h2; simp [cpl]
  | a :: l, b :: r, 0, _, _, _, h => by
    have := h (by simp) (by simp)
    rw [cpl, if_neg (fun e => this (by simp [e]))]
  | a :: l, b :: r, k + 1, h1, h2, h3, h4 => by
    have e : a = b := by have := h3 0 (by omega); simpa using this
    rw [cpl, if_pos e, cpl_eq (l := l) (r := r) (k := k) (by simpa using h1) (by simpa using h2) (fun j hj => by have := h3 (j + 1) (by omega); simpa using this) (fun a b => by have := h4 (by simp; omega) (by simp; omega); simpa using this)]
theorem Sl.byte {w wr : World} {n cap : Nat} {a : Option Addr} {l : List UInt8} (h : Sl w 1 (.slice a n cap) n (u8s l)) (hb : Below w.heap.size w wr) {k : Nat} (hk : k < l.length) :
    ∃ b o, a = some ⟨b, o, none⟩ ∧ wr.cell? ⟨b, o + k, none⟩ = some (.int .u8 ((l[k]).toNat : Nat)) := by
  obtain ⟨b, o, rfl, hc⟩ := h.cell hb (by unfold u8s; rw [List.length_map]; omega)
  exact ⟨b, o, rfl, hc k _ (by unfold u8s; rw [List.getElem?_map, List.getElem?_eq_getElem hk]; rfl)⟩
set_option maxRecDepth 100000 in
set_option maxHeartbeats 1600000 in
theorem cpl_any (v1 v2 : Value) (l r : List UInt8) (w : World) (h1 : Sl w 1 v1 l.length (u8s l)) (h2 : Sl w 1 v2 r.length (u8s r)) : Calls Tryz.prog 201 #[v1, v2] w fun e w' => e = .returned (.int .i64 (cpl l r : Nat)) ∧ Below w.heap.size w w' := by
  obtain ⟨a1, c1, rfl⟩ := h1.form
  obtain ⟨a2, c2, rfl⟩ := h2.form
  have hl1 := h1.len
  have hl2 := h2.len
  have HA := Lib.hid h1; clear h1
  have HB := Lib.hid h2; clear h2
  have hmin : ∃ m : Nat, m = min l.length r.length := ⟨_, rfl⟩
  obtain ⟨m, hm⟩ := hmin
  have hmi : min (l.length : Int) (r.length : Int) = (m : Int) := by omega
  have hml : m ≤ l.length := by omega
  have hmr : m ≤ r.length := by omega
  have HM := Lib.hid hm; clear hm
  go_enter Tryz.func201, Tryz.ntmps201
  go_wp2
  go_loopw [6] (fun i wr => ∃ k : Nat, k ≤ m ∧ i = .int .i64 k ∧ Hid (∀ j, j < k → l[j]? = r[j]?) ∧ Below w.heap.size w wr) (fun i _ => m - (intOf i).toNat)
  case atStart => exact ⟨0, Nat.zero_le _, rfl, fun j hj => by omega, Below.refl _ _⟩
  case round =>
    obtain ⟨k, hk, rfl, hj, hb⟩ := hrel
    by_cases hlt : k < m
    · obtain ⟨b1, o1, rfl, k1⟩ := HA.out.byte hb.drew (k := k) (by omega)
      obtain ⟨b2, o2, rfl, k2⟩ := HB.out.byte hb.drew (k := k) (by omega)
      have g1 : (k : Int) < (l.length : Int) := by omega
      have g2 : (k : Int) < (r.length : Int) := by omega
      have g0 : (0 : Int) ≤ (k : Int) := by omega
      have q1 : wr.cell? ⟨b1, o1 + k, none⟩ = some (.int .u8 ((l[k]'(by omega)).toNat : Nat)) := k1
      have q2 : wr.cell? ⟨b2, o2 + k, none⟩ = some (.int .u8 ((r[k]'(by omega)).toNat : Nat)) := k2
      clear k1 k2
      by_cases he : l[k]'(by omega) = r[k]'(by omega)
      · have en : ((((l[k]'(by omega)).toNat : Nat) : Int) != (((r[k]'(by omega)).toNat : Nat) : Int)) = false := by rw [he]; simp
        have HE := Lib.hid he; clear he
        go_wp2
        go_quiet (fail)
        go_wp2
        go_roundw
        case rel => exact ⟨k + 1, hlt, by go_num, fun j hj' => by
          by_cases e : j = k
          · subst e; rw [List.getElem?_eq_getElem (by omega), List.getElem?_eq_getElem (by omega), HE.out]
          · exact hj.out j (by omega), below_drewN hb _⟩
        case measure => simp [intOf]; omega
      · have en : ((((l[k]'(by omega)).toNat : Nat) : Int) != (((r[k]'(by omega)).toNat : Nat) : Int)) = true := by
          rw [bne_iff_ne]; intro e; exact he (UInt8.toNat_inj.1 (by omega))
        have HE := Lib.hid he; clear he
        go_wp2
        go_quiet (fail)
        go_wp2
        go_ret
        refine ⟨?_, below_drewN hb _⟩
        rw [cpl_eq (l := l) (r := r) (k := k) (by omega) (by omega) hj.out (fun _ _ e => HE.out (by rw [List.getElem?_eq_getElem (by omega), List.getElem?_eq_getElem (by omega)] at e; exact Option.some.inj e))]
        rfl
    · obtain rfl : k = m := by omega
      go_wp2
      go_ret
      refine ⟨?_, hb⟩
      have := HM.out
      rw [cpl_eq (l := l) (r := r) (k := k) (by omega) (by omega) hj.out (fun _ _ => by omega)]
      rfl
theorem rowN_setpre {k : Kd} {pre pre' : List UInt8} {n : Nat} {key : Nat → UInt8} {kid : Nat → Art} : (rowN k pre n key kid).set k.cap (.string (mk pre')) = rowN k pre' n key kid := by
  unfold rowN
  rw [List.set_append_right _ _ (by simp)]
  simp
set_option maxRecDepth 100000 in
set_option maxHeartbeats 800000 in
theorem setPrefix_any (b c : Nat) (cs : List Value) (t : TypeId) (s : ByteArray) (v : Value) (l : List UInt8) (w : World) (hb : w.heap[b]? = some (.cells cs.toArray t (0, 0))) (hc : cs[c]? = some (.string s)) (hv : Sl w 1 v l.length (u8s l)) :
    Calls Tryz.prog 232 #[.pointer (some ⟨b, c, none⟩), v] w fun e w' => e = .returned (.tuple #[]) ∧ w'.heap[b]? = some (.cells (cs.set c (.string (mk l))).toArray t (0, 0)) ∧ Only (· = b) w w' := by
  obtain ⟨a, cap, rfl⟩ := hv.form
  have hcv := conv_text hv
  have h0 := row_at hb hc
  have hf := frozen_row (j := c) hb
  clear hv
  go_enter Tryz.func232, Tryz.ntmps232
  go_wp2
  go_end0
  exact ⟨rfl, heap_set_list hb, (Only.refl (· = b) w).set (.inl rfl) _⟩
set_option maxRecDepth 100000 in
set_option maxHeartbeats 1600000 in
theorem newNode4_any (v : Value) (l : List UInt8) (w : World) (hv : Sl w 1 v l.length (u8s l)) :
    Calls Tryz.prog 203 #[v] w fun e w' => e = .returned (.pointer (some ⟨w.heap.size, 0, none⟩)) ∧ (∀ key kid, w'.heap[w.heap.size]? = some (.cells (rowN .k4 l 0 key kid).toArray 335 (0, 0))) ∧ Below w.heap.size w w' := by
  generalize hZ : row0 .k4 = Z
  have hbz : Tryz.prog.built 335 [] = some Z := by rw [← hZ]; exact built0 .k4
  have hn : (w.alloc (.cells Z 335)).heap[w.heap.size]? = some (.cells (rowN .k4 [] 0 (fun _ => 0) (fun _ => .leaf 0 0 [])).toArray 335 (0, 0)) := by rw [← hZ]; exact heap_alloc_new w _
  have hsp := setPrefix_any w.heap.size 4 _ 335 ⟨#[]⟩ v l (w.alloc (.cells Z 335)) hn (rowN_pre (k := .k4)) (hv.keep ((Below.refl _ w).alloc (Nat.le_refl _) _))
  obtain ⟨a, cap, rfl⟩ := hv.form
  clear hv
  go_enter Tryz.func203, Tryz.ntmps203
  go_wp2_with (refine wpList_boxZ 335 Z _ hbz rfl rfl rfl rfl rfl ?_)
  refine hsp.mono ?_
  rintro e w1 ⟨rfl, h1, h2⟩
  go_wp2
  go_ret
  refine ⟨rfl, fun key kid => row_eq h1 (row0_pre .k4 l key kid), ?_⟩
  exact ((Below.refl _ w).alloc (Nat.le_refl _) _).trans (h2.below (fun x hx => by omega) (by simp))
set_option maxRecDepth 100000 in
set_option maxHeartbeats 800000 in
theorem leafMatch_any (L : Nat) (x : Value) (s : ByteArray) (v : Value) (l : List UInt8) (w : World) (h : w.heap[L]? = some (.cells #[x, .string s] 199 (0, 0))) (hv : Sl w 1 v l.length (u8s l)) :
    Calls Tryz.prog 200 #[.pointer (some ⟨L, 0, none⟩), v] w fun e w' => e = .returned (.bool (decide (l = bs s))) ∧ Below w.heap.size w w' := by
  obtain ⟨a, cap, rfl⟩ := hv.form
  have hcq := conv_quiet hv
  have hc1 := (cell_row (j := 1) h).trans (show _ = some (Value.string s) from rfl)
  by_cases he : l = bs s
  · have e1 : mk l = s := by rw [he, mk_bs]
    have hd : decide (l = bs s) = true := by simpa using he
    rw [hd]
    clear hd he hv
    go_enter Tryz.func200, Tryz.ntmps200
    go_wp2
    go_quiet (fail)
    go_wp2
    go_ret
    exact ⟨by simp, below_drewN (Below.refl _ _) _⟩
  · have e1 : ¬ mk l = s := fun e => he (by rw [← e, bs_mk])
    have hd : decide (l = bs s) = false := by simpa using he
    rw [hd]
    have HN := Lib.hid he
    clear hd he hv
    go_enter Tryz.func200, Tryz.ntmps200
    go_wp2
    go_quiet (fail)
    go_wp2
    go_ret
    exact ⟨by simp [toList_bs, HN.out], below_drewN (Below.refl _ _) _⟩
set_option maxRecDepth 100000 in
set_option maxHeartbeats 800000 in
theorem setSuffix_any (L : Nat) (x : Value) (s : ByteArray) (v : Value) (l : List UInt8) (w : World) (h : w.heap[L]? = some (.cells #[x, .string s] 199 (0, 0))) (hv : Sl w 1 v l.length (u8s l)) :
    Calls Tryz.prog 204 #[.pointer (some ⟨L, 0, none⟩), v] w fun e w' => e = .returned (.tuple #[]) ∧ w'.heap[L]? = some (.cells #[x, .string (mk l)] 199 (0, 0)) ∧ Only (· = L) w w' := by
  obtain ⟨a, cap, rfl⟩ := hv.form
  have hcv := conv_text hv
  have hc1 := (cell_row (j := 1) h).trans (show _ = some (Value.string s) from rfl)
  have hf := frozen_row (j := 1) h
  clear hv
  go_enter Tryz.func204, Tryz.ntmps204
  go_wp2
  go_end0
  exact ⟨rfl, heap_setCell_same w L 1 _ 199 _ h, (Only.refl (· = L) w).set (.inl rfl) _⟩
set_option maxRecDepth 100000 in
set_option maxHeartbeats 800000 in
theorem base_any (p : Value) (w : World) : Calls Tryz.prog 298 #[p] w fun e w' => e = .returned p ∧ w = w' := by
  go_enter Tryz.func298, Tryz.ntmps298
  go_wp2
  go_ret
  exact ⟨rfl, rfl⟩
set_option maxRecDepth 100000 in
set_option maxHeartbeats 800000 in
theorem nodeIs_any (p : Value) (w : World) : Calls Tryz.prog 299 #[p] w fun e w' => e = .returned (.bool false) ∧ w = w' := by
  go_enter Tryz.func299, Tryz.ntmps299
  go_wp2
  go_ret
  exact ⟨rfl, rfl⟩
set_option maxRecDepth 100000 in
set_option maxHeartbeats 800000 in
theorem nodePath_any (b c : Nat) (s : ByteArray) (w : World) (h : w.cell? ⟨b, c, none⟩ = some (.string s)) : Calls Tryz.prog 301 #[.pointer (some ⟨b, c, none⟩)] w fun e w' => e = .returned (.string s) ∧ w = w' := by
  go_enter Tryz.func301, Tryz.ntmps301
  go_wp2
  go_ret
  exact ⟨rfl, rfl⟩
end Go.Proofs.YtehlmjecbljafaaGreatDoor
namespace Go.Proofs.YtehlmjecbljafaaGreatDoor
open Go Go.RowKit
def kind16 (k : Int) : Value := .int .i16 (if k = 1 then 3 else 0)
/-- A mapping as the server has it, in memory. -/
def MapIs (w : World) (v : Value) (s D : ByteArray) (ps : List Part) (pl : List Nat) : Prop :=
  ∃ mb dv sv kv pv iv tv pvs, v = .pointer (some ⟨mb, 0, none⟩) ∧ w.heap[mb]? = some (.cells #[.string s, .string D, dv, sv, kv, pv, iv, tv] 129 (0, 0)) ∧ Sl w 1 sv (toks s).length ((toks s).map Value.string) ∧ Sl w 1 dv (toks D).length ((toks D).map Value.string) ∧
    Sl w 1 kv ps.length (ps.map fun p => kind16 (kindN p.kind)) ∧ Sl w 1 pv ps.length pvs ∧ pvs.length = ps.length ∧ ∀ (j : Nat) (p : Part) (u : Value), ps[j]? = some p → pvs[j]? = some u → PlRd w pl p u
theorem PlRd.keep {w w' : World} {pl : List Nat} {p : Part} {v : Value} (h : PlRd w pl p v) (hb : Below w.heap.size w w') : PlRd w' pl p v := by
  rcases h with h | ⟨h, x, h1, h2⟩
  · exact .inl h
  · exact .inr ⟨h, x, h1.keep hb, h2⟩
end Go.Proofs.YtehlmjecbljafaaGreatDoor
namespace Go.Proofs.YtehlmjecbljafaaGreatDoor
open Go Go.RowKit
def zero32 : Array Value := #[Value.string ⟨#[]⟩, Value.string ⟨#[]⟩, Value.string ⟨#[]⟩, Value.string ⟨#[]⟩, Value.string ⟨#[]⟩, Value.string ⟨#[]⟩, Value.string ⟨#[]⟩, Value.string ⟨#[]⟩, Value.string ⟨#[]⟩, Value.string ⟨#[]⟩, Value.string ⟨#[]⟩, Value.string ⟨#[]⟩, Value.string ⟨#[]⟩, Value.string ⟨#[]⟩, Value.string ⟨#[]⟩, Value.string ⟨#[]⟩, Value.string ⟨#[]⟩, Value.string ⟨#[]⟩, Value.string ⟨#[]⟩, Value.string ⟨#[]⟩, Value.string ⟨#[]⟩, Value.string ⟨#[]⟩, Value.string ⟨#[]⟩, Value.string ⟨#[]⟩, Value.string ⟨#[]⟩, Value.string ⟨#[]⟩, Value.string ⟨#[]⟩, Value.string ⟨#[]⟩, Value.string ⟨#[]⟩, Value.string ⟨#[]⟩, Value.string ⟨#[]⟩, Value.string ⟨#[]⟩]
theorem z32b : Tryz.prog.built 180 [] = some zero32 := by kernel_rfl
theorem z32i : (Tryz.prog.info? 180).map (fun i => (i.zero, i.size)) = some (some (.agg zero32), 32) := by kernel_rfl
theorem z32s : zero32.size = 32 := rfl
theorem own32 (w : World) : Own (w.alloc (.cells zero32 180)) w.heap.size 1 (.slice (some ⟨w.heap.size, 0, none⟩) 0 32) 0 [] :=
  ⟨rfl, .inr ⟨w.heap.size, 32, zero32, 180, rfl, Nat.le_refl _, heap_alloc_new w _, by omega, by decide, by decide, rfl⟩⟩
theorem z32o : zero32.all (·.oneCell') = true := by kernel_rfl
end Go.Proofs.YtehlmjecbljafaaGreatDoor
namespace Go.Proofs.YtehlmjecbljafaaGreatDoor
open Go Go.Shelf Go.RowKit
end Go.Proofs.YtehlmjecbljafaaGreatDoor
namespace Go.Proofs.YtehlmjecbljafaaGreatDoor
open Go Go.RowKit
/-- A token that is not empty and has no wildcard's sign at its head. -/
structure HeadOK (t : ByteArray) : Prop where
  pos : 0 < t.size
  star : t[0].toNat ≠ 42
  rest : t[0].toNat ≠ 62
theorem bs_pos {t : ByteArray} (h : bs t ≠ []) : 0 < t.size := by
  rw [← bs_len]; exact List.length_pos_iff.2 h
theorem bs_one {t : ByteArray} {c : UInt8} (h : bs t = [c]) : t.size = 1 ∧ ∀ h0 : 0 < t.size, t[0] = c := by
  refine ⟨by rw [← bs_len, h]; rfl, fun h0 => ?_⟩
  have := bs_at? t 0 h0
  rw [h] at this
  simpa using this.symm
theorem bs_head {t : ByteArray} (h0 : 0 < t.size) : t[0] ∈ bs t := List.mem_of_getElem? (bs_at? t 0 h0)
theorem headOK {ss : List ByteArray} (hf : FormedP ss ss.length) (hl : LitP ss ss.length) (ht : TameS ss ss.length) {k : Nat} {t : ByteArray} (h : ss[k]? = some t) : HeadOK t := by
  have hk : k < ss.length := (List.getElem?_eq_some_iff.1 h).1
  have h0 := bs_pos (hf k t hk h).1
  obtain ⟨l1, l2⟩ := hl k t hk h
  refine ⟨h0, ?_, ?_⟩ <;> intro e
  · have ec : t[0] = 42 := UInt8.toNat_inj.1 e
    rcases ht k t hk h with h1 | h1
    · rw [bs_len] at h1
      have e1 : bs t = [t[0]] := by
        have hl1 : (bs t).length = 1 := by rw [bs_len]; omega
        obtain ⟨x, hx⟩ := List.length_eq_one_iff.1 hl1
        have := bs_at? t 0 h0
        rw [hx] at this ⊢
        simpa using this
      exact l1 (by rw [e1, ec])
    · exact (h1 _ (bs_head h0)).1 ec
  · have ec : t[0] = 62 := UInt8.toNat_inj.1 e
    rcases ht k t hk h with h1 | h1
    · rw [bs_len] at h1
      have e1 : bs t = [t[0]] := by
        have hl1 : (bs t).length = 1 := by rw [bs_len]; omega
        obtain ⟨x, hx⟩ := List.length_eq_one_iff.1 hl1
        have := bs_at? t 0 h0
        rw [hx] at this ⊢
        simpa using this
      exact l2 (by rw [e1, ec])
    · exact (h1 _ (bs_head h0)).2 ec
end Go.Proofs.YtehlmjecbljafaaGreatDoor
namespace Go.Proofs.YtehlmjecbljafaaGreatDoor
open Go Go.RowKit
end Go.Proofs.YtehlmjecbljafaaGreatDoor
namespace Go.Proofs.YtehlmjecbljafaaGreatDoor
open Go Go.RowKit
end Go.Proofs.YtehlmjecbljafaaGreatDoor
namespace Go.Proofs.YtehlmjecbljafaaGreatDoor
open Go Go.RowKit Go.Shelf
attribute [local go_sem] Oper.semAt_some
abbrev Tok := { t : ByteArray // HeadOK t }
end Go.Proofs.YtehlmjecbljafaaGreatDoor
namespace Go.Proofs.YtehlmjecbljafaaGreatDoor
open Go Go.RowKit
theorem PlanIs.keep {w w' : World} {v : Value} {s D : ByteArray} {ps : List Part} {pl : List Nat} (h : PlanIs w v s D ps pl) (hb : Below w.heap.size w w') : PlanIs w' v s D ps pl := by
  obtain ⟨sv, dv, kv, pv, nv, tv, pvs, xs, h0, h1, h2, h3, h4, h5, h6, h7, h8⟩ := h.is
  exact ⟨sv, dv, kv, pv, nv, tv, pvs, xs, h0, h1.keep hb, h2.keep hb, h3.keep hb, h4.keep hb, h5.keep hb, h6.keep hb, h7, fun j p u a b => (h8 j p u a b).keep hb⟩
theorem MapIs.keep {w w' : World} {v : Value} {s D : ByteArray} {ps : List Part} {pl : List Nat} (h : MapIs w v s D ps pl) (hb : Below w.heap.size w w') : MapIs w' v s D ps pl := by
  obtain ⟨mb, dv, sv, kv, pv, iv, tv, pvs, h0, h1, h2, h3, h4, h5, h6, h7⟩ := h
  exact ⟨mb, dv, sv, kv, pv, iv, tv, pvs, h0, by rw [hb.block mb (Array.getElem?_eq_some_iff.1 h1).1]; exact h1, h2.keep hb, h3.keep hb, h4.keep hb, h5.keep hb, h6, fun j p u a b => (h7 j p u a b).keep hb⟩
theorem joinD_splitDot (l : List UInt8) : joinD (splitDot l) = l := by
  induction l with
  | nil => rfl
  | cons c r ih =>
    unfold splitDot
    split
    · rename_i hc
      cases h : splitDot r with
      | nil => exact absurd h (splitDot_ne r)
      | cons t ts => rw [h] at ih; simp [joinD, ih, hc]
    · cases h : splitDot r with
      | nil => exact absurd h (splitDot_ne r)
      | cons t ts =>
        rw [h] at ih
        cases ts with
        | nil => simp only [joinD] at ih ⊢; rw [ih]
        | cons u us => simp only [joinD, List.cons_append] at ih ⊢; rw [ih]
set_option maxRecDepth 100000 in
set_option maxHeartbeats 800000 in
theorem one_nil (w : World) : Calls Tryz.prog 48 #[.nilIface] w fun e w' => e = .returned (.int .i64 0) ∧ w = w' := by
  go_enter Tryz.func48, Tryz.ntmps48
  go_wp2
  go_ret
  exact ⟨rfl, rfl⟩
end Go.Proofs.YtehlmjecbljafaaGreatDoor
namespace Go.Proofs.YtehlmjecbljafaaGreatDoor
open Go Go.RowKit
theorem bs_one_at (s : ByteArray) (k : Nat) (h : k < s.size) : bs (s.extract k (k + 1)) = [s[k]] := by
  rw [bs_extract, take_succ_bs s k h, List.drop_left' (by rw [List.length_take, bs_len]; omega)]
/-- The first dot. -/
def DotAt (l : List UInt8) (r : Int) : Prop := (r = -1 ∧ 46 ∉ l) ∨ ∃ pre rest, l = pre ++ 46 :: rest ∧ 46 ∉ pre ∧ r = pre.length
set_option maxRecDepth 100000 in
set_option maxHeartbeats 800000 in
theorem zzIndex_any (s : ByteArray) (w : World) (hs : s.size ≤ 274877906944) : Calls Tryz.prog 171 #[.string s, .string ⟨#[46]⟩] w fun e w' => ∃ r, e = .returned (.int .i64 r) ∧ DotAt (bs s) r ∧ w = w' := by
  have hd : (⟨#[46]⟩ : ByteArray).size = 1 := rfl
  go_enter Tryz.func171, Tryz.ntmps171
  go_wp2
  go_loop [5] (fun i => ∃ k : Nat, k ≤ s.size ∧ i = .int .i64 k ∧ Hid (46 ∉ (bs s).take k)) (fun i => s.size - (intOf i).toNat)
  case atStart => exact ⟨0, Nat.zero_le _, rfl, by simp [Hid]⟩
  case round =>
    obtain ⟨k, hk, rfl, HF⟩ := hrel
    by_cases hlt : k < s.size
    · cases g : ((s.extract k (k + 1)).toList == [46])
      · have hc : s[k] ≠ 46 := by
          intro e
          rw [toList_bs, bs_one_at s k hlt, e] at g
          simp at g
        have HF2 : Hid (46 ∉ (bs s).take (k + 1)) := by
          have := HF.out
          unfold Hid
          rw [take_succ_bs s k hlt]
          simp only [List.mem_append, List.mem_singleton, not_or]
          exact ⟨this, fun e => hc e.symm⟩
        clear hc
        go_wp2
        go_round
        case rel => exact ⟨k + 1, hlt, by go_num, HF2.out⟩
        case measure => simp [intOf]; omega
      · have hc : s[k] = 46 := by
          have := eq_of_beq g
          rw [toList_bs, bs_one_at s k hlt] at this
          simpa using this
        have HD : Hid (DotAt (bs s) k) := .inr ⟨(bs s).take k, (bs s).drop (k + 1), by
          conv => lhs; rw [← List.take_append_drop k (bs s)]
          rw [List.drop_eq_getElem_cons (by rw [bs_len]; exact hlt)]
          have := bs_at? s k hlt
          rw [List.getElem?_eq_getElem (by rw [bs_len]; exact hlt)] at this
          rw [Option.some.inj this, hc], HF.out, by rw [List.length_take, bs_len]; omega⟩
        clear hc
        go_wp2
        go_ret
        exact ⟨_, rfl, HD.out, rfl⟩
    · obtain rfl : k = s.size := by omega
      go_wp2
      go_ret
      refine ⟨_, rfl, .inl ⟨rfl, ?_⟩, rfl⟩
      have := HF.out
      rwa [List.take_of_length_le (by rw [bs_len]; omega)] at this
def sizeOfV : Value → Nat
  | .string s => s.size
  | _ => 0
theorem split_at {cur : ByteArray} {pre rest : List UInt8} (h : bs cur = pre ++ 46 :: rest) (hp : 46 ∉ pre) :
    toks cur = cur.extract 0 pre.length :: toks (cur.extract (pre.length + 1) cur.size) ∧ pre.length + 1 ≤ cur.size := by
  have hsz : pre.length + 1 ≤ cur.size := by
    rw [← bs_len, h]; simp
  refine ⟨?_, hsz⟩
  have h1 : bs (cur.extract 0 pre.length) = pre := by rw [bs_extract, h]; simp
  have h2 : bs (cur.extract (pre.length + 1) cur.size) = rest := by
    rw [bs_extract_end, h]; simp
  have e : cur.extract 0 pre.length = mk pre := by
    conv => rhs; rw [← h1]
    rw [mk_bs]
  unfold toks
  rw [h2, h, splitDot_dot _ _ hp, List.map_cons, e]
theorem split_none {cur : ByteArray} (h : 46 ∉ bs cur) : toks cur = [cur] := by
  unfold toks; rw [splitDot_none _ h]; simp [mk_bs]
set_option maxRecDepth 100000 in
set_option maxHeartbeats 800000 in
theorem zzSplit_any (s : ByteArray) (w : World) (hs : s.size ≤ 137438953472) :
    Calls Tryz.prog 120 #[.string s, .string ⟨#[46]⟩] w fun e w' => ∃ v, e = .returned v ∧ Own w' w.heap.size 1 v (toks s).length ((toks s).map Value.string) ∧ Below w.heap.size w w' := by
  have hd : (⟨#[46]⟩ : ByteArray).size = 1 := rfl
  have hl := toks_len s
  go_enter Tryz.func120, Tryz.ntmps120
  go_wp2
  go_loopw [0, 5] (fun c v wr => ∃ (cur : ByteArray) (ss : List ByteArray), c = .string cur ∧ cur.size ≤ s.size ∧ Hid (toks s = ss ++ toks cur) ∧ Own wr w.heap.size 1 v ss.length (ss.map Value.string) ∧ Below w.heap.size w wr) (fun c _ _ => sizeOfV c)
  case atStart => exact ⟨s, [], rfl, Nat.le_refl _, rfl, Own.nil _ _ _, Below.refl _ _⟩
  case round =>
    obtain ⟨cur, ss, rfl, hc, HT, hown, hb⟩ := hrel
    have hssl : ss.length ≤ 137438953474 := by
      have := congrArg List.length HT.out
      rw [List.length_append] at this; omega
    have hbz := hb.size
    go_wp2_with fail
    refine (zzIndex_any cur _ (by omega)).mono ?_
    rintro e w1 ⟨r, rfl, hr, rfl⟩
    rcases hr with ⟨rfl, hno⟩ | ⟨pre, rest, h1, h2, rfl⟩
    · have H1 := Lib.hid (split_none hno); clear hno
      go_wp2_with (at_builtin; go_must (refine wpList_app1 et32 rfl _ _ rfl w.heap.size rfl hown [_] rfl rfl (by simp [Value.oneCell']) (by omega) hbz ?_); intro v' w1 hown1 hgrow)
      go_ret
      refine ⟨_, rfl, ?_, bel_app hb hgrow hown hbz⟩
      rw [HT.out, H1.out]
      simpa using hown1
    · obtain ⟨h3, h4⟩ := split_at h1 h2
      have H3 := Lib.hid h3; clear h3 h1 h2
      go_wp2_with (at_builtin; go_must (refine wpList_app1 et32 rfl _ _ rfl w.heap.size rfl hown [_] rfl rfl (by simp [Value.oneCell']) (by omega) hbz ?_); intro v' w1 hown1 hgrow)
      have hes : (cur.extract (pre.length + 1) cur.size).size = cur.size - (pre.length + 1) := by rw [← bs_len, bs_extract_end, List.length_drop, bs_len]
      go_roundw
      case rel => exact ⟨_, ss ++ [cur.extract 0 pre.length], rfl, by omega, by unfold Hid; rw [HT.out, H3.out]; simp, by simpa using hown1, bel_app hb hgrow hown hbz⟩
      case measure => simp only [sizeOfV]; omega
def blanks : ByteArray := ⟨#[9, 10, 12, 13, 32]⟩
/-- A subject of tokens that are neither empty nor wildcards, without blanks. -/
structure GoodS (s : ByteArray) : Prop where
  heads : ∀ (k : Nat) (t : ByteArray), (toks s)[k]? = some t → HeadOK t
  clean : ∀ c ∈ bs s, 32 < c.toNat
theorem splitDot_app : ∀ (a b : List UInt8), splitDot (a ++ 46 :: b) = splitDot a ++ splitDot b
  | [], b => by simp [splitDot]
  | c :: a, b => by
    have ih := splitDot_app a b
    simp only [List.cons_append, splitDot, ih]
    split
    · rfl
    · cases h : splitDot a with
      | nil => exact absurd h (splitDot_ne a)
      | cons t ts => rfl
end Go.Proofs.YtehlmjecbljafaaGreatDoor
namespace Go.Proofs.YtehlmjecbljafaaGreatDoor
open Go Go.RowKit
theorem toks_byte {s t : ByteArray} (ht : t ∈ toks s) {c : UInt8} (hc : c ∈ bs t) : c ∈ bs s := by
  have hj := joinD_splitDot (bs s)
  have hm : bs t ∈ splitDot (bs s) := by
    obtain ⟨u, hu, rfl⟩ := List.mem_map.1 ht
    rw [bs_mk]; exact hu
  rw [← hj]
  generalize splitDot (bs s) = l at hm
  induction l with
  | nil => cases hm
  | cons x r ih =>
    cases r with
    | nil =>
      simp only [List.mem_cons, List.not_mem_nil, or_false] at hm
      subst hm; exact hc
    | cons y ys =>
      simp only [joinD, List.mem_append, List.mem_cons]
      rcases List.mem_cons.1 hm with rfl | hm
      · exact .inl hc
      · exact .inr (.inr (ih hm))
theorem GoodS.byte {s : ByteArray} (h : GoodS s) {k : Nat} {t : ByteArray} (ht : (toks s)[k]? = some t) : ∀ (i : Nat) (hi : i < t.size), 32 < (t[i]).toNat := fun i hi =>
  h.clean _ (toks_byte (List.mem_of_getElem? ht) (List.mem_of_getElem? (bs_at? t i hi)))
end Go.Proofs.YtehlmjecbljafaaGreatDoor
namespace Go.Proofs.YtehlmjecbljafaaGreatDoor
open Go Go.RowKit
set_option maxRecDepth 100000 in
set_option maxHeartbeats 800000 in
theorem newLeaf_any (v : Value) (l : List UInt8) (n : Int) (w : World) (hv : Sl w 1 v l.length (u8s l)) :
    Calls Tryz.prog 199 #[v, .int .i64 n] w fun e w' => e = .returned (.pointer (some ⟨w.heap.size, 0, none⟩)) ∧ w' = w.alloc (.cells #[.int .i64 n, .string (mk l)] 199) := by
  obtain ⟨a, cap, rfl⟩ := hv.form
  have hc := conv_text hv
  clear hv
  go_enter Tryz.func199, Tryz.ntmps199
  go_wp2
  go_ret
  exact ⟨rfl, rfl⟩
/-- A pointer to a number, or none. -/
def OldP (w : World) (v : Value) : Prop := v = .pointer none ∨ ∃ b o x, v = .pointer (some ⟨b, o, none⟩) ∧ w.cell? ⟨b, o, none⟩ = some (.int .i64 x)
set_option maxRecDepth 100000 in
set_option maxHeartbeats 800000 in
theorem told_any (v : Value) (b : Bool) (w : World) (hv : OldP w v) :
    Calls Tryz.prog 110 #[v, .bool b] w fun e w' => (∃ x, e = .returned (.agg #[.bool b, .int .i64 x])) ∧ Below w.heap.size w w' := by
  rcases hv with rfl | ⟨b', o, x, rfl, hc⟩
  · go_enter Tryz.func110, Tryz.ntmps110
    go_wp2
    refine bodyPost_ret (results_cell_row rfl _ _ w.heap.size 150 _ (0, 0) _ rfl (heap_alloc_new w _) Tryz.underlying150 rfl (by kernel_rfl)) rfl ?_
    exact ⟨⟨0, rfl⟩, (Below.refl _ w).alloc (Nat.le_refl _) _⟩
  · have hlt := World.block_lt_of_cell? _ _ hc
    go_enter Tryz.func110, Tryz.ntmps110
    go_wp2
    refine bodyPost_ret (results_cell_row rfl _ _ w.heap.size 150 _ (0, 0) _ rfl (heap_alloc_new w _) Tryz.underlying150 rfl (by kernel_rfl)) rfl ?_
    exact ⟨⟨x, rfl⟩, (Below.refl _ w).alloc (Nat.le_refl _) _⟩
set_option maxRecDepth 100000 in
set_option maxHeartbeats 1600000 in
/-- The first leaf. -/
theorem insertNil_any (t v : Value) (l : List UInt8) (n : Int) (b o : Nat) (w : World) (hr : w.cell? ⟨b, o, none⟩ = some .nilIface) (hf : w.frozen? ⟨b, o, none⟩ = false) (hv : Sl w 1 v l.length (u8s l)) :
    Calls Tryz.prog 157 #[t, .pointer (some ⟨b, o, none⟩), v, .int .i64 n, .int .i64 0] w fun e w' => e = .returned (.tuple #[.pointer none, .bool false]) ∧
      w' = (w.setCell ⟨b, o, none⟩ (.iface 197 (.pointer (some ⟨w.heap.size, 0, none⟩)))).alloc (.cells #[.int .i64 n, .string (mk l)] 199) := by
  have hlt := World.block_lt_of_cell? _ _ hr
  go_enter Tryz.func157, Tryz.ntmps157
  go_wp2_with fail
  refine (newLeaf_any _ l n _ hv).mono ?_
  rintro e w1 ⟨rfl, rfl⟩
  have hr' := cell_alloc (.cells #[.int .i64 n, .string (mk l)] 199) hr
  have hf' : (w.alloc (.cells #[.int .i64 n, .string (mk l)] 199)).frozen? ⟨b, o, none⟩ = false := by
    rw [← hf]; unfold World.frozen?; rw [((Below.refl _ w).alloc (Nat.le_refl _) _).block b hlt]
  go_wp2
  go_ret2
  exact ⟨rfl, rfl⟩
/-- A tree of one leaf lies in blocks b and L. -/
structure OneLeaf (w : World) (b L : Nat) (n : Int) (l : List UInt8) : Prop where
  tree : w.heap[b]? = some (.cells #[.iface 197 (.pointer (some ⟨L, 0, none⟩)), .int .i64 1] 139 (0, 0))
  leaf : w.heap[L]? = some (.cells #[.int .i64 n, .string (mk l)] 199 (0, 0))
set_option maxRecDepth 100000 in
set_option maxHeartbeats 1600000 in
theorem insertOne_any (v : Value) (l : List UInt8) (n : Int) (b : Nat) (w : World) (hr : w.heap[b]? = some (.cells #[.nilIface, .int .i64 0] 139 (0, 0))) (hv : Sl w 1 v l.length (u8s l)) (h127 : 127 ∉ l) (hl0 : l ≠ []) :
    Calls Tryz.prog 109 #[.pointer (some ⟨b, 0, none⟩), v, .int .i64 n] w fun e w' => e = .returned (.tuple #[.pointer none, .bool false]) ∧ OneLeaf w' b w.heap.size n l ∧ Only (· = b) w w' := by
  obtain ⟨a, cap, rfl⟩ := hv.form
  obtain ⟨bb, oo, rfl, hb⟩ := slBytes hv hl0
  have hc0 := (cell_row (j := 0) hr).trans (show _ = some Value.nilIface from rfl)
  have hc1 := (cell_row (j := 1) hr).trans (show _ = some (Value.int .i64 0) from rfl)
  have hf := frozen_row (j := 0) hr
  have hf1 := frozen_row (j := 1) hr
  have hlt := World.block_lt_of_cell? _ _ hc0
  have hix := Tryz.bytes_IndexByte bb oo l.length cap (l.map fun c => (c.toNat : Int)) 127 w (by simp) fun i hi => by
    rw [hb i _ (List.getElem?_eq_getElem hi)]
    simp [List.getD, List.getElem?_eq_getElem hi]
  have hno : Lib.indexByte (Lib.bytesOf (l.map fun c => (c.toNat : Int))) ((127 : Int).toNat.toUInt8) = -1 := by
    have e : Lib.bytesOf (l.map fun c => (c.toNat : Int)) = l := by simp [Lib.bytesOf, Function.comp_def]
    rw [e]; exact indexByte_no h127
  rw [hno] at hix
  have hin := insertNil_any (.pointer (some ⟨b, 0, none⟩)) _ l n b 0 w hc0 hf hv
  have HV := Lib.hid hv; clear hv
  go_enter Tryz.func109, Tryz.ntmps109
  go_wp2_with fail
  refine hix.mono ?_
  rintro e w2 ⟨rfl, rfl⟩
  go_wp2_with fail
  refine hin.mono ?_
  rintro e w3 ⟨rfl, rfl⟩
  go_wp2
  go_ret2
  have hs0 := heap_setCell_same w2 b 0 _ 139 (.iface 197 (.pointer (some ⟨w2.heap.size, 0, none⟩))) hr
  have hs1 := heap_setCell_same (w2.setCell ⟨b, 0, none⟩ (.iface 197 (.pointer (some ⟨w2.heap.size, 0, none⟩)))) b 1 _ 139 (.int .i64 1) hs0
  have hz : ((w2.setCell ⟨b, 0, none⟩ (.iface 197 (.pointer (some ⟨w2.heap.size, 0, none⟩)))).setCell ⟨b, 1, none⟩ (.int .i64 1)).heap.size = w2.heap.size := by rw [size_setCell, size_setCell]
  refine ⟨rfl, ⟨?_, ?_⟩, ?_⟩
  · rw [((Below.refl _ _).alloc (Nat.le_refl _) _).block b (by rw [hz]; exact hlt), hs1]; rfl
  · have := heap_alloc_new ((w2.setCell ⟨b, 0, none⟩ (.iface 197 (.pointer (some ⟨w2.heap.size, 0, none⟩)))).setCell ⟨b, 1, none⟩ (.int .i64 1)) (.cells #[.int .i64 n, .string (mk l)] 199)
    rw [hz] at this; exact this
  · exact (((Only.refl (fun x => x = b) w2).set (.inl rfl) _).set (.inl rfl) _).alloc _
/-- What a tree is to whoever grows it: T k F: k deeds are done, its blocks are those of F. -/
structure TreeP (ds : List Deed) (b B : Nat) (T : Nat → (Nat → Prop) → World → Prop) : Prop where
  stable : ∀ k F w w', T k F w → (∀ x, F x → w'.heap[x]? = w.heap[x]?) → T k F w'
  range : ∀ k F w, T k F w → ∀ x, F x → B ≤ x ∧ x < w.heap.size
  ins : ∀ (k : Nat) (d : Deed) F w v, ds[k]? = some d → T k F w → Sl w 1 v d.subj.size (u8s (bs d.subj)) → Calls Tryz.prog 109 #[.pointer (some ⟨b, 0, none⟩), v, .int .i64 d.val] w fun e w' =>
    ∃ o u F', e = .returned (.tuple #[o, .bool u]) ∧ OldP w' o ∧ T (k + 1) F' w' ∧ Only F w w' ∧ ∀ x, F' x → F x ∨ w.heap.size ≤ x
theorem et75 : ET Tryz.prog 75 150 2 16 (.agg #[.bool false, .int .i64 0]) := ⟨Tryz.underlying75, by kernel_rfl, rfl, by decide, by decide⟩
set_option maxRecDepth 100000 in
set_option maxHeartbeats 3200000 in
theorem grow_any (v : Value) (ds : List Deed) (T : Nat → (Nat → Prop) → World → Prop) (F0 : Nat → Prop) (w0 w : World) (hd : DeedsAt w0 v ds) (hop : ∀ d ∈ ds, d.op = 0 ∧ d.subj.size ≤ maxLen) (hn : ds.length ≤ 274877906944)
    (hP : TreeP ds w0.heap.size w0.heap.size T) (h0 : T 0 F0 w) (hb0 : Below w0.heap.size w0 w) :
    Calls Tryz.prog 78 #[.pointer (some ⟨w0.heap.size, 0, none⟩), v] w fun e w' => ∃ u xs F, e = .returned u ∧ T ds.length F w' ∧ Own w' w0.heap.size 2 u ds.length xs ∧ Below w0.heap.size w0 w' := by
  obtain ⟨a, cap, rfl⟩ := Sl.form hd
  generalize hN : w0.heap.size = N at *
  have HD := Lib.hid hd; clear hd
  have HP := Lib.hid hP; clear hP
  have HO := Lib.hid hop; clear hop
  have hcv := fun (w : World) (s : ByteArray) => conv_bytes w s
  go_enter Tryz.func78, Tryz.ntmps78
  go_wp2
  go_loopw [5, 6] (fun o i wr => ∃ (k : Nat) (xs : List Value) (F : Nat → Prop), k ≤ ds.length ∧ i = .int .i64 k ∧ Own wr N 2 o k xs ∧ T k F wr ∧ (∀ x, o.ownBlock = some x → ¬ F x) ∧ Below N w0 wr) (fun _ i _ => ds.length - (intOf i).toNat)
  case atStart => exact ⟨0, [], F0, Nat.zero_le _, rfl, Own.nil _ _ _, h0, (fun x hx => by cases hx), hb0⟩
  case round =>
    obtain ⟨k, xs, F, hk, rfl, hown, hT, hF, hb⟩ := hrel
    obtain ⟨oa, oc, rfl, -⟩ := hown.form
    by_cases hlt : k < ds.length
    · obtain ⟨bd, od, d, rfl, Hd, c0, c1, c2⟩ := HD.out.at' (by rw [hN]; exact hb) hlt
      have hlb := World.block_lt_of_cell? _ _ c0
      obtain ⟨e0, esz⟩ := HO.out d (List.mem_of_getElem? Hd.out)
      rw [e0] at c0
      have c2' := cell_bel (a := ⟨wr.heap.size, 2, none⟩) (x := .int .i64 d.val) ((cell_row (heap_alloc_new wr (.cells #[.int .i64 0, .string d.subj, .int .i64 d.val] 39))).trans rfl) (bytesWorld_below (wr.alloc (.cells #[.int .i64 0, .string d.subj, .int .i64 d.val] 39)) d.subj)
      go_wp2_with fail
      have hW := bel2 ((Below.refl wr.heap.size wr).alloc (Nat.le_refl _) (.cells #[.int .i64 0, .string d.subj, .int .i64 d.val] 39)) (bytesWorld_below (wr.alloc (.cells #[.int .i64 0, .string d.subj, .int .i64 d.val] 39)) d.subj)
      have hsl := conv_sl (wr.alloc (.cells #[.int .i64 0, .string d.subj, .int .i64 d.val] 39)) d.subj esz
      rw [show (wr.alloc (.cells #[.int .i64 0, .string d.subj, .int .i64 d.val] 39)).heap.size = wr.heap.size + 1 by simp] at hsl
      have hrg := HP.out.range k F wr hT
      have hT1 := HP.out.stable k F wr (Lib.bytesWorld (wr.alloc (.cells #[.int .i64 0, .string d.subj, .int .i64 d.val] 39)) 5 d.subj) hT fun x hx => hW.block x (hrg x hx).2
      have hins := HP.out.ins k d F _ _ Hd.out hT1 hsl
      have hown1 := hown.keep hW
      have hsz0 : N ≤ wr.heap.size := by have := hb.size; omega
      have hb1 := hb.trans (hW.mono hsz0)
      have hsz1 := hW.size
      clear hsl hT1 c2' c0 c1 c2
      refine hins.mono ?_
      rintro e W2 ⟨o, u, F', rfl, hold, hT2, honly, hF2⟩
      have hrg2 := HP.out.range (k + 1) F' W2 hT2
      have hown2 := hown1.only honly hF
      have hF3 : ∀ x, Value.ownBlock (.slice oa k oc) = some x → ¬ F' x := fun x hx hf => by
        rcases hF2 x hf with h | h
        · exact hF x hx h
        · have := (hown1.lt x hx).2; omega
      have hb2 := hb1.trans (honly.below (fun x hx => (hrg x hx).1) (Nat.le_trans hsz0 hsz1))
      have hsz2 := honly.size
      have hsN : N ≤ W2.heap.size := by omega
      clear honly hins hb1 hown1 hW hsz1 hsz2 hrg hF2 hT hown hF
      go_wp2_with fail
      refine (told_any o u W2 hold).mono ?_
      rintro e W3 ⟨⟨x, rfl⟩, hb3⟩
      have hT3 := HP.out.stable (k + 1) F' W2 W3 hT2 fun x hx => hb3.block x (hrg2 x hx).2
      have hown3 := hown2.keep hb3
      have hb4 := hb2.trans (hb3.mono hsN)
      have hrg3 := HP.out.range (k + 1) F' W3 hT3
      have hsN3 : N ≤ W3.heap.size := Nat.le_trans hsN hb3.size
      clear hT2 hown2 hb2 hrg2 hold hb3 hsN
      go_wp2_with (at_builtin; go_must (refine wpList_appX et75 rfl _ _ rfl N F' (v := .slice oa k oc) (n := k) (xs := xs) (by rfl) hown3 hF3 (fun x hx => (hrg3 x hx).2) [.bool u, .int .i64 x] (by rfl) rfl (by simp [Value.oneCell']) (by omega) hsN3 ?_); intro v' w5 hown5 hF5 honly5)
      go_roundw
      case rel => exact ⟨k + 1, _, F', hlt, by go_num, hown5, HP.out.stable _ _ _ _ hT3 (fun x hx => honly5.block x (hrg3 x hx).2 fun h => hF3 x h hx), hF5, hb4.trans (honly5.below (fun x hx => (hown3.lt x hx).1) hsN3)⟩
      case measure => simp [intOf]; omega
    · obtain rfl : k = ds.length := by omega
      go_wp2
      go_ret
      exact ⟨_, _, _, rfl, hT, hown, hb⟩
end Go.Proofs.YtehlmjecbljafaaGreatDoor
