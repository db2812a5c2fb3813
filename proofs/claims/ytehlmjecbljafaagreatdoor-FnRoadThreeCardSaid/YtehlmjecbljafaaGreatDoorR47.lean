/- The server's list: Match with no cache, in the tree of a.* . A script's steps: a match in the tree of a.* . The waking script: a put of a.* and a match. What a tree of one deed and a filter that matches it give. The tree and the list are awake. -/
import Derived.Test.YtehlmjecbljafaaGreatDoorR11
import Derived.Test.YtehlmjecbljafaaGreatDoorR33
import Derived.Test.YtehlmjecbljafaaGreatDoorR37
import Derived.Test.YtehlmjecbljafaaGreatDoorR46
import Derived.Laws.LoneSync
namespace Go.Proofs.YtehlmjecbljafaaGreatDoor
open Go Go.RowKit
theorem nil226n (w : World) : (binOp .neq 226 (.map none) (.map none)).run Tryz.prog w = .ok (.bool false) w := by kernel_rfl
theorem look226 (s : ByteArray) (w : World) : (Instr.lookup 226 (.map none) (.string s) true).run Tryz.prog w = .ok (.tuple #[.pointer none, .bool false]) w := by kernel_rfl
set_option maxRecDepth 100000 in
set_option maxHeartbeats 6400000 in
theorem smatch_star (b : Nat) (s : ByteArray) (g m h i r sw c : Int) (T : STrie) (F : Nat → Prop) (w : World) (hb : w.heap[b]? = some (.cells (slCells (T.aL []) (.map none) g m h i r sw c) 229 (0, 0))) (hT : STrieOK T F w) (hN : ∀ q, T.N q ↔ q <+: StarP) (hF : ∀ k, F k → k < w.heap.size) (hFb : ¬ F b) (hg : GoodS s) (hs : s.size ≤ 100000) (A B : ByteArray) (hAB : toks s = [A, B]) (hA : bs A = [97]) (hBB : bs B = [98]) (hS : (T.S StarP).length ≤ 100) (hS0 : 0 < (T.S StarP).length) (hm : 0 ≤ m ∧ m ≤ 1000000) :
  Calls Tryz.prog 191 #[.pointer (some ⟨b, 0, none⟩), .string s, .bool true, .bool false] w fun e w' => ∃ R l, e = .returned (.pointer (some ⟨R, 0, none⟩)) ∧ ResAt w' w.heap.size R l ∧ l.Perm (T.S StarP) ∧ w'.heap[b]? = some (.cells (slCells (T.aL []) (.map none) g (m + 1) h i r sw c) 229 (0, 0)) ∧ Only (· = b) w w' := by
 have hlb := (Array.getElem?_eq_some_iff.1 hb).1
 have HG := Lib.hid hg; clear hg
 have HT := Lib.hid hT; clear hT
 have hadd := run_call_add (P := Tryz.prog) Tryz.func154 (by kernel_rfl) (by kernel_rfl) (by kernel_rfl) .u64 (by kernel_rfl) (a := ⟨b, 7, none⟩) (x := m) (y := 1) (s := m + 1) (w := w) ((cell_row (j := 7) hb).trans rfl) (frozen_row hb) (by simp [go_sem, IntWalk.u64_in (m + 1) (by omega)])
 have q1 := fun w => nil226n w
 have q2 := fun w => look226 s w
 go_enter Tryz.func191, Tryz.ntmps191
 go_wp2_with fail
 have h1 : (w.setCell ⟨b, 7, none⟩ (.int .u64 (m + 1))).heap[b]? = some (.cells (slCells (T.aL []) (.map none) g (m + 1) h i r sw c) 229 (0, 0)) := heap_setCell_same w b 7 _ 229 (.int .u64 (m + 1)) hb
 have o1 : Only (· = b) w (w.setCell ⟨b, 7, none⟩ (.int .u64 (m + 1))) := (Only.refl (· = b) w).set (.inl rfl) _
 generalize w.setCell ⟨b, 7, none⟩ (.int .u64 (m + 1)) = wA at *
 have hrl := RwLone.rlock_open rwRLib b 0 0 _ _ wA ((cell_row (j := 0) h1).trans (show _ = some (Value.int .i32 0) from rfl)) ((cell_row (j := 3) h1).trans (show _ = some (Value.int .u32 0) from rfl)) ((cell_row (j := 4) h1).trans (show _ = some (Value.int .i32 0) from rfl)) (frozen_row (j := 4) h1) (by rw [wrap_up]; decide)
 have h2 : (wA.setCell ⟨b, 4, none⟩ (.int .i32 1)).heap[b]? = some (.cells (slRead (T.aL []) (.map none) g (m + 1) h i r sw c) 229 (0, 0)) := heap_setCell_same wA b 4 _ 229 (.int .i32 1) h1
 have o2 : Only (· = b) w (wA.setCell ⟨b, 4, none⟩ (.int .i32 1)) := o1.set (.inl rfl) _
 refine hrl.mono ?_
 rintro e w2 ⟨rfl, hw2⟩
 rw [wrap_up] at hw2
 simp only [Nat.zero_add] at hw2
 rw [← hw2] at h2 o2
 have r12 := (cell_row (j := 12) h2).trans (show _ = some (Value.map none) from rfl)
 have hru := RwLone.runlock_held rwRLib b 0 1 _ _ w2 ((cell_row (j := 0) h2).trans (show _ = some (Value.int .i32 0) from rfl)) ((cell_row (j := 2) h2).trans (show _ = some (Value.int .u32 0) from rfl)) ((cell_row (j := 4) h2).trans (show _ = some (Value.int .i32 1) from rfl)) (frozen_row (j := 4) h2) (by rw [wrap_down]; decide)
 rw [wrap_down] at hru
 clear hw2 hadd hrl
 go_wp2_with fail
 refine hru.mono ?_
 rintro e w3 ⟨rfl, hw3⟩
 have h3 : w3.heap[b]? = some (.cells (slCells (T.aL []) (.map none) g (m + 1) h i r sw c) 229 (0, 0)) := by rw [hw3]; exact heap_setCell_same w2 b 4 _ 229 (.int .i32 0) h2
 have o3 : Only (· = b) w w3 := by rw [hw3]; exact o2.set (.inl rfl) _
 have hz3 := o3.size
 clear hru hw3 o1 o2 h1 h2
 have HO3 := Lib.hid o3; clear o3
 go_wp2_with (refine wpList_zero3 180 zero32 32 _ _ z32b z32i z32s z32o rfl rfl rfl rfl rfl rfl (by rfl) (by rfl) ?_)
 have hown0 := own32 w3
 have hb0 := (Below.refl w3.heap.size w3).alloc (Nat.le_refl _) (.cells zero32 180)
 go_loopw [13, 14, 15] (fun v f i wr => ∃ (k kf : Nat) (ss : List ByteArray), k ≤ s.size ∧ kf ≤ k ∧ i = .int .i64 k ∧ f = .int .i64 kf ∧ Hid (Done s kf k ss) ∧ Own wr w3.heap.size 1 v ss.length (ss.map Value.string) ∧ Below w3.heap.size w3 wr) (fun _ _ i _ => s.size - (intOf i).toNat)
 case atStart => exact ⟨0, 0, [], by omega, by omega, rfl, rfl, done_start s, hown0, hb0⟩
 case round =>
  obtain ⟨k, kf, ss, hk, hkf, rfl, rfl, HD, hown, hbel⟩ := hrel
  have hB := hbel.size
  have hssl := done_len HD.out hk
  by_cases hlt : k < s.size
  ·by_cases hc : s[k] = 46
   ·have hd2 := done_dot HD.out hlt hc
    obtain ⟨r, hr⟩ := done_toks hd2
    have hpos := good_at HG.out hr
    have hne : kf < k := by
     rcases Nat.lt_or_ge kf k with h | h
     ·exact h
     ·rw [← bs_len, bs_extract] at hpos
      simp at hpos
      omega
    have hcb : (((s[k]).toNat : Int) == 46) = true := by rw [hc]; rfl
    have HD2 := Lib.hid hd2; clear hd2 hr hpos hc
    go_wp2_with (at_builtin; go_must (refine wpList_app1 et32 rfl _ _ rfl w3.heap.size rfl hown [_] rfl rfl (by simp [Value.oneCell']) (by omega) hB ?_); intro v' w1 hown1 hgrow)
    go_roundw
    case rel => exact ⟨k+1, k+1, _, hlt, Nat.le_refl _, by go_num, by go_num, HD2.out, by simpa using hown1, bel_app hbel hgrow hown hB⟩
    case measure => simp [intOf]; omega
   ·have hcb : (((s[k]).toNat : Int) == 46) = false := by
     rw [beq_eq_false_iff_ne]; intro e; exact hc (UInt8.toNat_inj.1 (show (s[k]).toNat = 46 by omega))
    have hd2 := done_no HD.out hlt hkf hc
    have HD2 := Lib.hid hd2; clear hd2 hc
    go_wp2
    go_roundw
    case rel => exact ⟨k+1, kf, ss, hlt, by omega, by go_num, rfl, HD2.out, hown, hbel⟩
    case measure => simp [intOf]; omega
  ·obtain rfl : k = s.size := by omega
   have hend := done_end HD.out
   have hpos := good_at HG.out (r := []) (by rw [List.append_nil]; exact hend.symm)
   have hlt2 : kf < s.size := by
    rw [← bs_len, bs_extract_end, List.length_drop, bs_len] at hpos
    omega
   clear hpos
   have HE := Lib.hid hend; clear hend
   go_wp2_with (at_builtin; go_must (refine wpList_app1 et32 rfl _ _ rfl w3.heap.size rfl hown [_] rfl rfl (by simp [Value.oneCell']) (by omega) hB ?_); intro v' w1 hown1 hgrow)
   have hbw := bel_app hbel hgrow hown hB
   have hzw := hbw.size
   have hlb3 := (Array.getElem?_eq_some_iff.1 h3).1
   have hb1 := (hbw.block b hlb3).trans h3
   have hal := heap_alloc_new w1 (.cells #[.slice none 0 0, .slice none 0 0, .slice none 0 0] 247)
   have hba := (Below.refl w1.heap.size w1).alloc (Nat.le_refl _) (.cells #[.slice none 0 0, .slice none 0 0, .slice none 0 0] 247)
   have hza : (w1.alloc (.cells #[.slice none 0 0, .slice none 0 0, .slice none 0 0] 247)).heap.size = w1.heap.size + 1 := by simp
   have hown2 := hown1.keep hba
   have hbk := (hba.block b (by omega)).trans hb1
   have hbW := hbw.trans (hba.mono hzw)
   have hFo := hown1.lt
   generalize w1.alloc (.cells #[.slice none 0 0, .slice none 0 0, .slice none 0 0] 247) = wB at *
   have hrl := RwLone.rlock_open rwRLib b 0 0 _ _ wB ((cell_row (j := 0) hbk).trans (show _ = some (Value.int .i32 0) from rfl)) ((cell_row (j := 3) hbk).trans (show _ = some (Value.int .u32 0) from rfl)) ((cell_row (j := 4) hbk).trans (show _ = some (Value.int .i32 0) from rfl)) (frozen_row (j := 4) hbk) (by rw [wrap_up]; decide)
   have h4 : (wB.setCell ⟨b, 4, none⟩ (.int .i32 1)).heap[b]? = some (.cells (slRead (T.aL []) (.map none) g (m + 1) h i r sw c) 229 (0, 0)) := heap_setCell_same wB b 4 _ 229 (.int .i32 1) hbk
   have ho4 : Only (· = b) wB (wB.setCell ⟨b, 4, none⟩ (.int .i32 1)) := (Only.refl (· = b) wB).set (.inl rfl) _
   refine hrl.mono ?_
   rintro e w4 ⟨rfl, hw4⟩
   rw [wrap_up] at hw4
   simp only [Nat.zero_add] at hw4
   rw [← hw4] at h4 ho4
   have o34 := HO3.out
   have hT3 := HT.out.keep (w' := w4) fun x hx => (ho4.block x (by have := hF x hx; omega) (fun e => hFb (e ▸ hx))).trans ((hbW.block x (by have := hF x hx; omega)).trans (o34.block x (hF x hx) (fun e => hFb (e ▸ hx))))
   have hz4 := ho4.size
   have hsl3 := (hown2.only ho4 (fun k hk e => by have := (hown1.lt k hk).1; omega)).sl
   have hlen : ss.length + 1 = 2 := by
    have := congrArg List.length HE.out
    rw [hAB] at this
    simpa using this
   have hts : ss.map Value.string ++ [Value.string (s.extract kf s.size)] = [.string A, .string B] := by
    have := congrArg (List.map Value.string) HE.out
    rw [hAB] at this
    simpa using this
   rw [hts, hlen] at hsl3
   clear hts hlen
   have hR3 := (ho4.block w1.heap.size (by omega) (by omega)).trans hal
   have r11 := (cell_row (j := 11) h4).trans (show _ = some (Value.pointer (some ⟨T.aL [], 0, none⟩)) from rfl)
   have hF9 : ∀ k, (F k ∨ v'.ownBlock = some k) → k < w4.heap.size := fun k hk => by
    rcases hk with hk | hk
    ·have := hF k hk; omega
    ·have := (hFo k hk).2; omega
   have hR9 : ¬ (F w1.heap.size ∨ v'.ownBlock = some w1.heap.size) := by
    rintro (e | e)
    ·have := hF _ e; omega
    ·have := (hFo _ e).2; omega
   have hma := ml_two T (fun k => F k ∨ v'.ownBlock = some k) w1.heap.size A B v' w4 hA hBB (hT3.wider fun k => .inl) hN hsl3 (fun b o n c e => .inr (by rw [e]; rfl)) ⟨⟨_, hR3, Own.nil _ _ _, fun k hk => by cases hk⟩, Only.refl _ _⟩ hF9 hR9 hS
   have HO4 := Lib.hid ho4
   have HFb := Lib.hid (fun k (h : v'.ownBlock = some k) => hFo k h)
   have HBW := Lib.hid hbW
   clear hT3 hsl3 hrl hw4 hF9 hR9 ho4 hown2 hown1 hbk hb1 hal hFo hba hbW o34
   go_wp2_with fail
   refine hma.mono ?_
   rintro e w5 ⟨rfl, l, hlp, ho5⟩
   have hbF : ¬ (F b ∨ v'.ownBlock = some b) := by
    rintro (e | e)
    ·exact hFb e
    ·have := (HFb.out b e).1; omega
   have h5 := (ho5.2.block b (Array.getElem?_eq_some_iff.1 h4).1 (fun e => by omega)).trans h4
   have hz5 := ho5.size
   obtain ⟨⟨ov, k1, k2, k3⟩, k4⟩ := ho5
   obtain ⟨oa, oc, rfl, -⟩ := k2.form
   have c50 := (cell_row (j := 0) k1).trans (show _ = some (Value.slice oa l.length oc) from rfl)
   have c51 := (cell_row (j := 1) k1).trans (show _ = some (Value.slice none 0 0) from rfl)
   have K1 := Lib.hid k1
   have K2 := Lib.hid k2
   have K4 := Lib.hid k4
   have HLP := Lib.hid hlp
   have e0 : ((l.length : Int) == 0) = false := by
    rw [beq_eq_false_iff_ne]
    have := hlp.length_eq
    omega
   clear hma hlp k1 k2 k3 k4
   have hru := RwLone.runlock_held rwRLib b 0 1 _ _ w5 ((cell_row (j := 0) h5).trans (show _ = some (Value.int .i32 0) from rfl)) ((cell_row (j := 2) h5).trans (show _ = some (Value.int .u32 0) from rfl)) ((cell_row (j := 4) h5).trans (show _ = some (Value.int .i32 1) from rfl)) (frozen_row (j := 4) h5) (by rw [wrap_down]; decide)
   rw [wrap_down] at hru
   go_wp2_with fail
   refine hru.mono ?_
   rintro e w7 ⟨rfl, hw7⟩
   have HW7 := Lib.hid hw7; clear hw7
   clear hru
   go_wp2
   go_ret
   rw [show w7 = w5.setCell ⟨b, 4, none⟩ (.int .i32 0) from HW7.out]
   refine ⟨w1.heap.size, l, rfl, ⟨_, (heap_setCell_other _ _ _ _ (by show w1.heap.size ≠ b; omega)).trans K1.out, K2.out.kept fun k hk => heap_setCell_other _ _ _ _ (by have := (K2.out.lt k hk).1; show k ≠ b; omega), by omega⟩, HLP.out, heap_setCell_same w5 b 4 _ 229 (.int .i32 0) h5, ?_⟩
   have p1 := HO3.out.trans (Only.of (F := (· = b)) HBW.out) fun k hk => .inl hk
   have p2 := p1.trans HO4.out fun k hk => .inl hk
   have p3 := p2.trans K4.out fun k hk => .inr (by omega)
   exact p3.set (.inl rfl) _
end Go.Proofs.YtehlmjecbljafaaGreatDoor
namespace Go.Proofs.YtehlmjecbljafaaGreatDoor
open Go Go.RowKit
set_option maxRecDepth 100000 in
set_option maxHeartbeats 800000 in
theorem smatch144_any (b : Nat) (s : ByteArray) (g m h i r sw c : Int) (T : STrie) (F : Nat → Prop) (w : World) (hb : w.heap[b]? = some (.cells (slCells (T.aL []) (.map none) g m h i r sw c) 229 (0, 0))) (hT : STrieOK T F w) (hN : ∀ q, T.N q ↔ q <+: StarP) (hF : ∀ k, F k → k < w.heap.size) (hFb : ¬ F b) (hg : GoodS s) (hs : s.size ≤ 100000) (A B : ByteArray) (hAB : toks s = [A, B]) (hA : bs A = [97]) (hBB : bs B = [98]) (hS : (T.S StarP).length ≤ 100) (hS0 : 0 < (T.S StarP).length) (hm : 0 ≤ m ∧ m ≤ 1000000) :
  Calls Tryz.prog 144 #[.pointer (some ⟨b, 0, none⟩), .string s] w fun e w' => ∃ R l, e = .returned (.pointer (some ⟨R, 0, none⟩)) ∧ ResAt w' w.heap.size R l ∧ l.Perm (T.S StarP) ∧ w'.heap[b]? = some (.cells (slCells (T.aL []) (.map none) g (m + 1) h i r sw c) 229 (0, 0)) ∧ Only (· = b) w w' := by
 have hh := smatch_star b s g m h i r sw c T F w hb hT hN hF hFb hg hs A B hAB hA hBB hS hS0 hm
 clear hb hT hN hF hFb hg hs hAB hA hBB hS hS0 hm
 go_enter Tryz.func144, Tryz.ntmps144
 go_wp2_with fail
 refine hh.mono ?_
 rintro e w1 ⟨R, l, rfl, k⟩
 have K := Lib.hid k
 clear hh k
 go_wp2
 go_ret
 exact ⟨R, l, rfl, K.out⟩
set_option maxRecDepth 100000 in
set_option maxHeartbeats 3200000 in
theorem stepMatch_any (B0 P b : Nat) (vi vs : Value) (ids : List Int) (subs : List Nat) (ss : List ByteArray) (T : STrie) (F : Nat → Prop) (f : ByteArray) (w : World) (h : PlaySt B0 P b vi vs ids subs ss T F w) (hs : f.size ≤ 100000) (hn : ids.length ≤ 100) (hNN : ∀ q, T.N q ↔ q <+: StarP) (hS : (T.S StarP).length ≤ 100 ∧ 0 < (T.S StarP).length) (hg : GoodS f) (A B : ByteArray) (hAB : toks f = [A, B]) (hA : bs A = [97]) (hBB : bs B = [98]) :
  Calls Tryz.prog 103 #[.pointer (some ⟨P, 0, none⟩), .agg #[.int .i64 2, .string ⟨#[]⟩, .string ⟨#[]⟩, .int .i64 0, .string f, .slice none 0 0]] w fun e w' => ∃ u out l, e = .returned (.agg #[.int .i64 0, .int .i64 (subs.length : Nat), u, .slice none 0 0]) ∧
   Own w' w.heap.size 1 u out.length (ints out) ∧ NumsOf ids subs l out ∧ l.Nodup ∧ l.Perm (T.S StarP) ∧ Only (fun k => k = b) w w' := by
 have hsl : subs.length ≤ 100 := by have := h.play.len; omega
 have HNN := Lib.hid hNN; clear hNN
 have HG := Lib.hid hg; clear hg
 have H := Lib.hid h; clear h
 have hX0 := heap_alloc_new w (.cells #[.int .i64 2, .string ⟨#[]⟩, .string ⟨#[]⟩, .int .i64 0, .string f, .slice none 0 0] 55)
 have hb1 := (Below.refl w.heap.size w).alloc (Nat.le_refl _) (.cells #[.int .i64 2, .string ⟨#[]⟩, .string ⟨#[]⟩, .int .i64 0, .string f, .slice none 0 0] 55)
 have hz1 : (w.alloc (.cells #[.int .i64 2, .string ⟨#[]⟩, .string ⟨#[]⟩, .int .i64 0, .string f, .slice none 0 0] 55)).heap.size = w.heap.size + 1 := by simp
 go_enter Tryz.func103, Tryz.ntmps103
 go_wp2_with fail
 generalize w.alloc (.cells #[.int .i64 2, .string ⟨#[]⟩, .string ⟨#[]⟩, .int .i64 0, .string f, .slice none 0 0] 55) = wA at *
 have hA1 := heap_alloc_new wA (.cells #[.int .i64 0, .int .i64 0, .slice none 0 0, .slice none 0 0] 104)
 have hb2 := (Below.refl wA.heap.size wA).alloc (Nat.le_refl _) (.cells #[.int .i64 0, .int .i64 0, .slice none 0 0, .slice none 0 0] 104)
 have hz2 : (wA.alloc (.cells #[.int .i64 0, .int .i64 0, .slice none 0 0, .slice none 0 0] 104)).heap.size = wA.heap.size + 1 := by simp
 generalize wA.alloc (.cells #[.int .i64 0, .int .i64 0, .slice none 0 0, .slice none 0 0] 104) = wB at *
 have hB1 := heap_alloc_new wB (.cells #[.int .i64 0, .int .i64 0, .slice none 0 0, .slice none 0 0] 104)
 have hb3 := (Below.refl wB.heap.size wB).alloc (Nat.le_refl _) (.cells #[.int .i64 0, .int .i64 0, .slice none 0 0, .slice none 0 0] 104)
 have hz3 : (wB.alloc (.cells #[.int .i64 0, .int .i64 0, .slice none 0 0, .slice none 0 0] 104)).heap.size = wB.heap.size + 1 := by simp
 generalize wB.alloc (.cells #[.int .i64 0, .int .i64 0, .slice none 0 0, .slice none 0 0] 104) = wC at *
 have rX : wC.heap[w.heap.size]? = some (.cells #[.int .i64 2, .string ⟨#[]⟩, .string ⟨#[]⟩, .int .i64 0, .string f, .slice none 0 0] 55 (0, 0)) := (hb3.block _ (by omega)).trans ((hb2.block _ (by omega)).trans hX0)
 have rY : wC.heap[w.heap.size + 1]? = some (.cells #[.int .i64 0, .int .i64 0, .slice none 0 0, .slice none 0 0] 104 (0, 0)) := by
  rw [hz1] at hA1; exact (hb3.block _ (by omega)).trans hA1
 have rZ : wC.heap[w.heap.size + 1 + 1]? = some (.cells #[.int .i64 0, .int .i64 0, .slice none 0 0, .slice none 0 0] 104 (0, 0)) := by
  rw [hz2, hz1] at hB1; exact hB1
 have hbC : Below w.heap.size w wC := (hb1.trans (hb2.mono (by omega))).trans (hb3.mono (by omega))
 have hzC : wC.heap.size = w.heap.size + 3 := by omega
 have HBC := Lib.hid hbC
 have HZC := Lib.hid hzC
 clear hX0 hA1 hB1 hb1 hb2 hb3 hz1 hz2 hz3 hbC hzC
 have hpl := H.out.play.keep HBC.out
 have c0 := (cell_row (j := 0) hpl.row).trans (show _ = some (Value.pointer (some ⟨b, 0, none⟩)) from rfl)
 have x4 := (cell_row (j := 4) rX).trans (show _ = some (Value.string f) from rfl)
 have RX := Lib.hid rX
 have RY := Lib.hid rY
 have RZ := Lib.hid rZ
 have HPL := Lib.hid hpl
 clear hpl rX rY rZ
 refine wp_region_L [0, 1, 2, 3, 4, 5, 6, 9] (fun W' => W'.cell? ⟨P, 0, none⟩ = some (.pointer (some ⟨b, 0, none⟩)) ∧ W'.cell? ⟨w.heap.size, 4, none⟩ = some (.string f)) (by kernel_rfl) (by kernel_rfl) ⟨c0, x4⟩ (fun ne => ?_)
 have S0 := fun z : SubC (fun W' => W'.cell? ⟨P, 0, none⟩ = some (.pointer (some ⟨b, 0, none⟩)) ∧ W'.cell? ⟨w.heap.size, 4, none⟩ = some (.string f)) => z.ok.1
 have S1 := fun z : SubC (fun W' => W'.cell? ⟨P, 0, none⟩ = some (.pointer (some ⟨b, 0, none⟩)) ∧ W'.cell? ⟨w.heap.size, 4, none⟩ = some (.string f)) => z.ok.2
 repeat (refine wpCL_q rfl rfl ?_; go_big_quiet_step (fail); refine wpQuiet_nil ?_)
 refine wpCL_n rfl rfl rfl rfl ?_
 go_simp
 repeat (refine wpCL_q rfl rfl ?_; go_big_quiet_step (fail); refine wpQuiet_nil ?_)
 refine wpCL_ch rfl rfl (fun K hK => ?_)
 go_simp
 simp only [runsTo_enter]
 have hbw := (Array.getElem?_eq_some_iff.1 H.out.row).1
 have hrb : wC.drew.heap[b]? = _ := (HBC.out.block b hbw).trans H.out.row
 have hTd : STrieOK T F wC.drew := H.out.ok.keep fun k hk => HBC.out.block k (H.out.lt k hk).2
 refine (smatch144_any b f subs.length 0 0 subs.length 0 0 subs.length T F wC.drew hrb hTd HNN.out (fun k hk => by have := (H.out.lt k hk).2; have := HZC.out; show k < wC.heap.size; omega) H.out.nb HG.out hs A B hAB hA hBB hS.1 hS.2 ⟨Int.le_refl _, by decide⟩).mono ?_
 rintro e w4 ⟨R, l, rfl, q1, q2, q3, q4⟩
 have q4' : Only (· = b) wC w4 := ⟨q4.os, q4.tape, q4.output, q4.size, q4.block⟩
 have hz4 := q4'.size
 have r4 : ∀ (k : Nat) (o : Obj), wC.heap[k]? = some o → k ≠ b → w4.heap[k]? = some o := fun k o h hk => (q4'.block k (Array.getElem?_eq_some_iff.1 h).1 hk).trans h
 have hp4 : PlayAt w4 P b vi vs ids subs := HPL.out.keepIf fun k hk => q4'.block k (HPL.out.lt hk).2 (fun e => H.out.bP (e ▸ hk))
 have hP4 := (cell_row (j := 0) hp4.row).trans (show _ = some (Value.pointer (some ⟨b, 0, none⟩)) from rfl)
 have hx4 := r4 _ _ RX.out (by omega)
 have hy4 := r4 _ _ RY.out (by omega)
 have hz4r := r4 _ _ RZ.out (by omega)
 have hmem : l.Perm (T.S StarP) := q2
 have hnd : l.Nodup := q2.nodup_iff.2 (H.out.Snd StarP).1
 have hsubl : ∀ y ∈ l, y ∈ subs := fun y hy => by obtain ⟨j, s, a1, -⟩ := (H.out.S StarP y).1 (hmem.mem_iff.1 hy); exact List.mem_of_getElem? a1
 have hrows : ∀ y ∈ subs, ∃ c t, w4.heap[y]? = some (.cells c t (0, 0)) := fun y hy => by
  obtain ⟨-, e2, -, -, c, t, hr⟩ := H.out.sub y hy
  exact ⟨c, t, r4 y _ ((HBC.out.block y (Array.getElem?_eq_some_iff.1 hr).1).trans hr) e2⟩
 have hll : l.length ≤ 1000000 := by have := nd_sub hnd hsubl; omega
 have hfo := found_any P b vi vs ids subs l _ R w4 hp4 q1 hsubl hrows (by omega) hll
 refine ⟨_, rfl, hK _ _ ⟨⟨w4, hP4, (cell_row (j := 4) hx4).trans rfl⟩, rfl⟩ ?_⟩
 have Q := Lib.hid (And.intro hnd (And.intro hmem (And.intro q3 (And.intro q4' (And.intro hx4 (And.intro hy4 hz4r))))))
 clear hK K q1 q2 q3 q4 q4' r4 hP4 hx4 hy4 hz4r hmem hnd hsubl hrows hll
 go_simp
 refine wpCL_ch rfl rfl (fun K hK => ?_)
 go_simp
 simp only [runsTo_enter]
 refine hfo.mono ?_
 rintro e w5 ⟨u, out, rfl, k1, k2, k3⟩
 obtain ⟨ua, uc, rfl, -⟩ := k1.form
 have r5 : ∀ (k : Nat) (o : Obj), w4.heap[k]? = some o → w5.heap[k]? = some o := fun k o h => (k3.block k (Array.getElem?_eq_some_iff.1 h).1).trans h
 have hp5 := hp4.keep k3
 have hP5 := (cell_row (j := 0) hp5.row).trans (show _ = some (Value.pointer (some ⟨b, 0, none⟩)) from rfl)
 have hb5 := r5 _ _ Q.out.2.2.1
 have hx5 := r5 _ _ Q.out.2.2.2.2.1
 have hy5 := r5 _ _ Q.out.2.2.2.2.2.1
 have hz5 := r5 _ _ Q.out.2.2.2.2.2.2
 refine ⟨_, rfl, hK _ _ ⟨⟨w5, hP5, (cell_row (j := 4) hx5).trans rfl⟩, rfl⟩ ?_⟩
 clear hK K hfo
 go_simp
 repeat (refine wpCL_q rfl rfl ?_; go_big_quiet_step (fail); refine wpQuiet_nil ?_)
 refine wpCL_last ?_
 have z52 := (cell_row (j := 2) hz5).trans (show _ = some (Value.slice none 0 0) from rfl)
 have z53 := (cell_row (j := 3) hz5).trans (show _ = some (Value.slice none 0 0) from rfl)
 have zf2 := frozen_row (j := 2) hz5
 have zf3 := frozen_row (j := 3) hz5
 clear S0 S1 ne
 have hz6 := heap_setCell_same _ (w.heap.size + 1 + 1) 3 _ 104 (.slice none 0 0) (heap_setCell_same w5 (w.heap.size + 1 + 1) 2 _ 104 (.slice ua out.length uc) hz5)
 have ho6 : ∀ k, k ≠ w.heap.size + 1 + 1 → ((w5.setCell ⟨w.heap.size + 1 + 1, 2, none⟩ (.slice ua out.length uc)).setCell ⟨w.heap.size + 1 + 1, 3, none⟩ (.slice none 0 0)).heap[k]? = w5.heap[k]? := fun k hk => (heap_setCell_other _ _ _ _ hk).trans (heap_setCell_other _ _ _ _ hk)
 have hou6 : Only (· = w.heap.size + 1 + 1) w5 ((w5.setCell ⟨w.heap.size + 1 + 1, 2, none⟩ (.slice ua out.length uc)).setCell ⟨w.heap.size + 1 + 1, 3, none⟩ (.slice none 0 0)) := ((Only.refl (· = w.heap.size + 1 + 1) w5).set (.inl rfl) _).set (.inl rfl) _
 have hPw := (H.out.play.lt (.inl rfl)).2
 have hP6 := (World.cell?_of_block (a := ⟨P, 0, none⟩) (ho6 P (by omega))).trans hP5
 go_wp2_with fail
 generalize (w5.setCell ⟨w.heap.size + 1 + 1, 2, none⟩ (.slice ua out.length uc)).setCell ⟨w.heap.size + 1 + 1, 3, none⟩ (.slice none 0 0) = w6 at *
 have hb6 := (ho6 b (by omega)).trans hb5
 refine (scount_any b _ _ _ _ _ _ _ _ _ w6 hb6).mono ?_
 rintro e w7 ⟨rfl, hb7, ho7⟩
 have hl6 : ∀ (k : Nat) (o : Obj), w6.heap[k]? = some o → k ≠ b → w7.heap[k]? = some o := fun k o h hk => (ho7.block k (Array.getElem?_eq_some_iff.1 h).1 hk).trans h
 have hz7 := hl6 _ _ hz6 (by omega)
 have hy7 := hl6 _ _ ((ho6 _ (by omega)).trans hy5) (by omega)
 have z71 := (cell_row (j := 1) hz7).trans (show _ = some (Value.int .i64 0) from rfl)
 have zf1 := frozen_row (j := 1) hz7
 have hz8 := heap_setCell_same w7 (w.heap.size + 1 + 1) 1 _ 104 (.int .i64 (subs.length : Int)) hz7
 have hy8 := (show (w7.setCell ⟨w.heap.size + 1 + 1, 1, none⟩ (.int .i64 (subs.length : Int))).heap[w.heap.size + 1]? = w7.heap[w.heap.size + 1]? from heap_setCell_other _ _ _ _ (by show w.heap.size + 1 ≠ w.heap.size + 1 + 1; omega)).trans hy7
 have z80 := (cell_row (j := 0) hz8).trans (show _ = some (Value.int .i64 0) from rfl)
 have z81 := (cell_row (j := 1) hz8).trans (show _ = some (Value.int .i64 (subs.length : Int)) from rfl)
 have z82 := (cell_row (j := 2) hz8).trans (show _ = some (Value.slice ua out.length uc) from rfl)
 have z83 := (cell_row (j := 3) hz8).trans (show _ = some (Value.slice none 0 0) from rfl)
 have y80 := (cell_row (j := 0) hy8).trans (show _ = some (Value.int .i64 0) from rfl)
 have y81 := (cell_row (j := 1) hy8).trans (show _ = some (Value.int .i64 0) from rfl)
 have y82 := (cell_row (j := 2) hy8).trans (show _ = some (Value.slice none 0 0) from rfl)
 have y83 := (cell_row (j := 3) hy8).trans (show _ = some (Value.slice none 0 0) from rfl)
 have g0 := frozen_row (j := 0) hy8
 have g1 := frozen_row (j := 1) hy8
 have g2 := frozen_row (j := 2) hy8
 have g3 := frozen_row (j := 3) hy8
 have hk1 := k1.lt
 have K1 := Lib.hid k1
 have K2 := Lib.hid k2
 have K3 := Lib.hid k3
 clear k1 k2 k3
 go_wp2_with fail
 have s0 := heap_setCell_same _ (w.heap.size + 1) 0 _ 104 (.int .i64 0) hy8
 have s1 := heap_setCell_same _ (w.heap.size + 1) 1 _ 104 (.int .i64 (subs.length : Int)) s0
 have s2 := heap_setCell_same _ (w.heap.size + 1) 2 _ 104 (.slice ua out.length uc) s1
 have s3 := heap_setCell_same _ (w.heap.size + 1) 3 _ 104 (.slice none 0 0) s2
 refine bodyPost_ret (results_cell_row rfl _ _ (w.heap.size + 1) 104 _ (0, 0) _ rfl s3 Tryz.underlying104 rfl (by kernel_rfl)) rfl ?_
 have o5 : Only (fun k => k = w.heap.size + 1 ∨ k = w.heap.size + 1 + 1 ∨ k = b) w5 w7 := (hou6.mono fun k hk => .inr (.inl hk)).trans ho7 fun k hk => .inl (.inr (.inr hk))
 have o8 := ((((o5.set (i := 1) (.inl (.inr (.inl rfl))) (.int .i64 (subs.length : Int))).set (i := 0) (.inl (.inl rfl)) (.int .i64 0)).set (i := 1) (.inl (.inl rfl)) (.int .i64 (subs.length : Int))).set (i := 2) (.inl (.inl rfl)) (.slice ua out.length uc)).set (i := 3) (.inl (.inl rfl)) (.slice none 0 0)
 have hz4' := Q.out.2.2.2.1.size
 have hzC := HZC.out
 refine ⟨.slice ua out.length uc, out, l, by simp, ?_, K2.out, Q.out.1, Q.out.2.1, ?_⟩
 ·refine (K1.out.only o8 fun k hk => ?_).mono (by omega)
  have := (hk1 k hk).1
  rintro (e | e | e) <;> omega
 ·have o1 : Only (fun k => k = b) w wC := Only.of HBC.out
  have o2 := o1.trans Q.out.2.2.2.1 fun k hk => .inl hk
  have o3 := o2.trans (Only.of (F := fun k => k = b) K3.out) fun k hk => .inl hk
  exact o3.trans o8 fun k hk => by
   rcases hk with h | h | h
   ·exact .inr (by omega)
   ·exact .inr (by omega)
   ·exact .inl h
end Go.Proofs.YtehlmjecbljafaaGreatDoor
namespace Go.Proofs.YtehlmjecbljafaaGreatDoor
open Go Go.RowKit
/-- The replies of k puts. -/
def repl (k : Nat) : List Value := (List.range k).flatMap fun j => [.int .i64 0, .int .i64 ((j + 1 : Nat) : Int), .slice none 0 0, .slice none 0 0]
theorem repl_succ (k : Nat) : repl (k + 1) = repl k ++ [.int .i64 0, .int .i64 ((k + 1 : Nat) : Int), .slice none 0 0, .slice none 0 0] := by
 unfold repl
 rw [List.range_succ, List.flatMap_append]
 simp
/-- Where the waking script stands behind k puts. -/
def MidM (xs : List Int) (ss : List ByteArray) (P b : Nat) (w : World) (k : Nat) (o : Value) (wr : World) : Prop :=
 ∃ vi vs subs T F, PlaySt w.heap.size P b vi vs (xs.take k) subs (ss.take k) T F wr ∧ Own wr w.heap.size 4 o k (repl k) ∧ (∀ q, o.ownBlock = some q → ¬ (F q ∨ q = b ∨ PB P vi vs q ∨ q ∈ subs)) ∧ Below w.heap.size w wr
/-- What the waking script answers. -/
def EndM (xs : List Int) (ss : List ByteArray) (_f : ByteArray) (w : World) (o : Value) (wr : World) : Prop :=
 ∃ uf out l subs, Own wr w.heap.size 4 o (ss.length + 1) (repl ss.length ++ [.int .i64 0, .int .i64 (ss.length : Nat), uf, .slice none 0 0]) ∧ Own wr w.heap.size 1 uf out.length (ints out) ∧ NumsOf xs subs l out ∧ l.Nodup ∧ subs.Nodup ∧ subs.length = ss.length ∧ ((∀ a ∈ l, a ∈ subs) ∧ 0 < l.length) ∧ Below w.heap.size w wr
set_option maxRecDepth 100000 in
set_option maxHeartbeats 6400000 in
theorem playedM_any (xs : List Int) (ss : List ByteArray) (f : ByteArray) (v : Value) (ds : List StepD) (w : World) (hv : StepsAt w v ds) (hds : ds.length = ss.length + 1) (hput : ∀ (k : Nat) (s : ByteArray) (x : Int), ss[k]? = some s → xs[k]? = some x → ds[k]? = some ⟨0, s, x, ⟨#[]⟩⟩) (hrev : ds[ss.length]? = some ⟨2, ⟨#[]⟩, 0, f⟩)
  (hxs : xs.length = ss.length) (hnd : xs.Nodup) (s0 : ByteArray) (hs0 : ss = [s0]) (hst : pathS s0 = StarP) (hsz : s0.size ≤ 100000) (hpp : ∀ s ∈ ss, PatP (pathS s)) (hn : ss.length ≤ 40) (hg : GoodS f) (A B : ByteArray) (hAB : toks f = [A, B]) (hA : bs A = [97]) (hBB : bs B = [98]) (hfs : f.size ≤ 100000) :
  Calls Tryz.prog 68 #[.bool false, v] w fun e w' => ∃ p u, e = .returned (.tuple #[p, u]) ∧ EndM xs ss f w u w' := by
 obtain ⟨va, vc, rfl⟩ := Sl.form hv
 have HS0 := Lib.hid hs0; clear hs0
 have HV := Lib.hid hv; clear hv
 have HPUT := Lib.hid hput; clear hput
 have HREV := Lib.hid hrev; clear hrev
 have HXS := Lib.hid hxs; clear hxs
 have HND := Lib.hid hnd; clear hnd
 have HDS := Lib.hid hds
 go_enter Tryz.func68, Tryz.ntmps68
 go_wp2_with fail
 refine (sNew_any false w).mono ?_
 rintro e w1 ⟨b, l, m, cm, rfl, hrow, hlev, hmap, hc0, -, -, hb1, hl1, hm1, hbel⟩
 obtain rfl := hc0 rfl
 have hz1 := hbel.size
 have hPr := heap_alloc_new w1 (.cells #[.pointer (some ⟨b, 0, none⟩), .slice none 0 0, .slice none 0 0] 118)
 have hba := (Below.refl w1.heap.size w1).alloc (Nat.le_refl _) (.cells #[.pointer (some ⟨b, 0, none⟩), .slice none 0 0, .slice none 0 0] 118)
 have hza : (w1.alloc (.cells #[.pointer (some ⟨b, 0, none⟩), .slice none 0 0, .slice none 0 0] 118)).heap.size = w1.heap.size + 1 := by simp
 have hlb := (Array.getElem?_eq_some_iff.1 hrow).1
 have hll := (Array.getElem?_eq_some_iff.1 hlev).1
 have hlm := hmap.lt
 have hmid : MidM xs ss w1.heap.size b w 0 (.slice none 0 0) (w1.alloc (.cells #[.pointer (some ⟨b, 0, none⟩), .slice none 0 0, .slice none 0 0] 118)) := by
  refine ⟨.slice none 0 0, .slice none 0 0, [], strie0 l m, (fun k => k = l ∨ k = m), ⟨⟨hPr, Own.nil _ _ _, Own.nil _ _ _, (fun k h => by cases h), rfl⟩, (hba.block b hlb).trans hrow, strie0_ok ((hba.block l hll).trans hlev) (hmap.keep (hba.block m hlm)) (.inl rfl) (.inr rfl), fun k hk => ?_, ?_, hb1, hz1, ?_, fun k hk => ?_, (fun a h => by cases h), fun q => by simp [strie0], fun q a => by simp [strie0], fun q => ⟨List.nodup_nil, Nat.le_refl _⟩, List.nodup_nil, rfl⟩, Own.nil _ _ _, (fun q h => by cases h), hbel.trans (hba.mono hz1)⟩
  ·rcases hk with rfl | rfl <;> constructor <;> omega
  ·rintro (h | h)
   ·subst h; rw [hrow] at hlev; injection hlev with h; injection h with h1 h2; cases h2
   ·subst h; obtain ⟨es, c, hh, -⟩ := hmap; rw [hrow] at hh; cases hh
  ·rintro (h | h | h)
   ·omega
   ·cases h
   ·cases h
  ·rcases hk with h | h | h
   ·rintro (e | e) <;> omega
   ·cases h
   ·cases h
 have HM0 := Lib.hid hmid
 generalize hPP : w1.heap.size = P at *
 clear hrow hlev hmap hbel hmid hPr hba
 go_wp2
 go_loopw [7, 8] (fun o i wr => ∃ k : Nat, i = .int .i64 k ∧ ((k ≤ ss.length ∧ MidM xs ss P b w k o wr) ∨ (k = ss.length + 1 ∧ EndM xs ss f w o wr))) (fun _ i _ => ss.length + 1 - (intOf i).toNat)
 case atStart => exact ⟨0, rfl, .inl ⟨Nat.zero_le _, HM0.out⟩⟩
 case round =>
  obtain ⟨k, rfl, ⟨hk, hM⟩ | ⟨rfl, hE⟩⟩ := hrel
  ·obtain ⟨vi, vs, subs, T, F, hS, hown, hsep, hb⟩ := hM
   have hlk : subs.length = k := by have := hS.len; rw [List.length_take] at this; omega
   have hidl : (xs.take k).length ≤ 100 := by rw [List.length_take]; omega
   have HLK := Lib.hid hlk; clear hlk
   have HS := Lib.hid hS
   have hB := hb.size
   obtain ⟨oa, oc, rfl, -⟩ := hown.form
   have HOWN := Lib.hid hown
   have HSEP := Lib.hid hsep
   have HB := Lib.hid hb
   clear hown hsep
   have hkd : k < ds.length := by have := HDS.out; omega
   by_cases hlt : k < ss.length
   ·obtain ⟨s, hs⟩ : ∃ s, ss[k]? = some s := ⟨_, List.getElem?_eq_getElem hlt⟩
    obtain ⟨x, hx⟩ : ∃ x, xs[k]? = some x := ⟨_, List.getElem?_eq_getElem (by have := HXS.out; omega)⟩
    obtain ⟨gb, go, rfl, c0, c1, c2, c3, c4, c5⟩ := HV.out.at' hb hkd (HPUT.out k s x hs hx)
    have hxn : x ∉ xs.take k := fun h => by
     obtain ⟨j, hj, e⟩ := List.mem_iff_getElem.1 h
     rw [List.length_take] at hj
     have h1 : xs[j]? = some x := by rw [List.getElem?_eq_getElem (by omega)]; rw [List.getElem_take] at e; rw [e]
     have := nd_injI HND.out h1 hx
     omega
    have hsm := List.mem_of_getElem? hs
    have hput := stepPut_any w.heap.size P b vi vs _ subs _ T F s x wr hS hxn (by rw [HS0.out] at hsm; rw [List.mem_singleton.1 hsm]; exact hsz) hidl (hpp s hsm)
    have HSX := Lib.hid (And.intro hs hx)
    clear hs hx hxn hsm hS
    go_wp2_with fail
    refine hput.mono ?_
    rintro e w2 ⟨rfl, a, vi', vs', T', F', hS2, ho2, hF2, hP2, ha2⟩
    have hown2 : Own w2 w.heap.size 4 (.slice oa k oc) k (repl k) := HOWN.out.only ho2 fun q hq h => HSEP.out q hq (by rcases h with h | h | h; exact .inl h; exact .inr (.inl h); exact .inr (.inr (.inl h)))
    have hsep2 : ∀ q, (Value.slice oa k oc).ownBlock = some q → ¬ (F' q ∨ q = b ∨ PB P vi' vs' q ∨ q ∈ subs ++ [a]) := fun q hq h => by
     have hqw := (HOWN.out.lt q hq).2
     have hs0 := HSEP.out q hq
     rcases h with h | h | h | h
     ·rcases hF2 q h with h | h
      ·exact hs0 (.inl h)
      ·omega
     ·exact hs0 (.inr (.inl h))
     ·rcases hP2 q h with h | h
      ·exact hs0 (.inr (.inr (.inl h)))
      ·omega
     ·rcases List.mem_append.1 h with h | h
      ·exact hs0 (.inr (.inr (.inr h)))
      ·have := List.mem_singleton.1 h; omega
    have hlt2 : ∀ q, (F' q ∨ q = b ∨ PB P vi' vs' q ∨ q ∈ subs ++ [a]) → q < w2.heap.size := fun q h => by
     rcases h with h | h | h | h
     ·exact (hS2.lt q h).2
     ·rw [h]; exact (Array.getElem?_eq_some_iff.1 hS2.row).1
     ·exact (hS2.play.lt h).2
     ·obtain ⟨-, -, -, -, c, t, hr⟩ := hS2.sub q h
      exact (Array.getElem?_eq_some_iff.1 hr).1
    have hbw2 : Below w.heap.size w w2 := HB.out.trans (ho2.below (fun q h => by
     rcases h with h | h | h
     ·exact (HS.out.lt q h).1
     ·rw [h]; exact HS.out.bge
     ·have := (HS.out.play.lt h).1; have := HS.out.Pge; omega) hB)
    have hB2 := hbw2.size
    have HS2 := Lib.hid hS2
    have HBW := Lib.hid hbw2
    clear hS2 ho2 hF2 hP2 ha2 hbw2 hput
    have hk4 : k < 549755813888 := by omega
    go_wp2_with (at_builtin; go_must (refine wpList_appX (W := w2) et61 rfl _ _ rfl w.heap.size (fun q => F' q ∨ q = b ∨ PB P vi' vs' q ∨ q ∈ subs ++ [a]) (v := .slice oa k oc) (n := k) (xs := repl k) (by rfl) hown2 hsep2 hlt2 [.int .i64 0, .int .i64 ((subs.length + 1 : Nat) : Int), .slice none 0 0, .slice none 0 0] (by rfl) rfl (by simp [Value.oneCell']) hk4 hB2 ?_); intro v' w5 hown5 hF5 honly5)
    go_roundw
    case rel =>
     refine ⟨k + 1, by go_num, .inl ⟨hlt, vi', vs', subs ++ [a], T', F', ?_, (by rw [repl_succ]; rw [HLK.out] at hown5; exact hown5), hF5, ?_⟩⟩
     ·rw [List.take_add_one, List.take_add_one, HSX.out.1, HSX.out.2]
      exact HS2.out.keepIf (fun q hq => honly5.block q (hlt2 q hq) fun e => hsep2 q e hq) honly5.size
     ·exact HBW.out.trans (honly5.below (fun q hq => (hown2.lt q hq).1) hB2)
    case measure => simp [intOf] <;> omega
   ·obtain rfl : k = ss.length := by omega
    obtain ⟨gb, go, rfl, c0, c1, c2, c3, c4, c5⟩ := HV.out.at' hb hkd HREV.out
    have etx : xs.take ss.length = xs := List.take_of_length_le (by have := HXS.out; omega)
    have ets : ss.take ss.length = ss := List.take_of_length_le (Nat.le_refl _)
    rw [etx, ets] at hS
    have hNN : ∀ q, T.N q ↔ q <+: StarP := fun q => by
     rw [hS.N q, HS0.out]
     constructor
     ·rintro (rfl | ⟨s, h1, h2⟩)
      ·exact List.nil_prefix
      ·rw [List.mem_singleton.1 h1, hst] at h2; exact h2
     ·intro h; exact .inr ⟨s0, by simp, by rw [hst]; exact h⟩
    have hSS : (T.S StarP).length ≤ 100 ∧ 0 < (T.S StarP).length := by
     have h1 := (hS.Snd StarP).2
     obtain ⟨a, ha⟩ : ∃ a, subs[0]? = some a := ⟨_, List.getElem?_eq_getElem (by have := HLK.out; rw [HS0.out] at this; simp at this; omega)⟩
     have h2 := (hS.S StarP a).2 ⟨0, s0, ha, by rw [HS0.out]; rfl, hst.symm⟩
     have := HLK.out
     exact ⟨by omega, List.length_pos_of_mem h2⟩
    have hrev := stepMatch_any w.heap.size P b vi vs xs subs ss T F f wr hS hfs (by have := HXS.out; omega) hNN hSS hg A B hAB hA hBB
    have HSS := Lib.hid hSS
    clear hNN hSS
    have HS3 := Lib.hid hS
    clear hS etx ets
    go_wp2_with fail
    refine hrev.mono ?_
    rintro e w2 ⟨uf, out, l, rfl, k1, k2, k3, k4, k5⟩
    obtain ⟨ua, uc, rfl, -⟩ := k1.form
    have hown2 : Own w2 w.heap.size 4 (.slice oa ss.length oc) ss.length (repl ss.length) := HOWN.out.only k5 fun q hq h => HSEP.out q hq (.inr (.inl h))
    have hbw2 : Below w.heap.size w w2 := HB.out.trans (k5.below (fun q h => by rw [h]; exact HS.out.bge) hB)
    have hB2 := hbw2.size
    have huo := k1.lt
    have hsep2 : ∀ q, (Value.slice oa ss.length oc).ownBlock = some q → ¬ ((Value.slice ua out.length uc).ownBlock = some q) := fun q hq h => by
     have := (HOWN.out.lt q hq).2
     have := (huo q h).1
     omega
    have K := Lib.hid (And.intro k1 (And.intro k2 (And.intro k3 k4)))
    have HBW := Lib.hid hbw2
    clear hrev k1 k2 k3 k4 k5 hbw2
    have hk4 : ss.length < 549755813888 := by omega
    go_wp2_with (at_builtin; go_must (refine wpList_appX (W := w2) et61 rfl _ _ rfl w.heap.size (fun q => (Value.slice ua out.length uc).ownBlock = some q) (v := .slice oa ss.length oc) (n := ss.length) (xs := repl ss.length) (by rfl) hown2 hsep2 (fun q h => (huo q h).2) [.int .i64 0, .int .i64 ((subs.length : Nat) : Int), .slice ua out.length uc, .slice none 0 0] (by rfl) rfl (by simp [Value.oneCell']) hk4 hB2 ?_); intro v' w5 hown5 hF5 honly5)
    go_roundw
    case rel =>
     refine ⟨ss.length + 1, by go_num, .inr ⟨rfl, .slice ua out.length uc, out, l, subs, ?_, ?_, K.out.2.1, K.out.2.2.1, HS3.out.nd, HLK.out, ⟨fun a ha => by obtain ⟨j, s, a1, -⟩ := (HS3.out.S StarP a).1 (K.out.2.2.2.mem_iff.1 ha); exact List.mem_of_getElem? a1, by rw [K.out.2.2.2.length_eq]; exact HSS.out.2⟩, ?_⟩⟩
     ·rw [HLK.out] at hown5; exact hown5
     ·exact (K.out.1.only honly5 fun q hq h => hsep2 q h hq).mono hB
     ·exact HBW.out.trans (honly5.below (fun q hq => (hown2.lt q hq).1) hB2)
    case measure => simp [intOf] <;> omega
  ·obtain ⟨uf, out, l2, subs, e1, e2, e3, e4, e5, e6, e7, e8⟩ := hE
   obtain ⟨oa, oc, rfl, -⟩ := e1.form
   have HE := Lib.hid (show EndM xs ss f w _ wr from ⟨uf, out, l2, subs, e1, e2, e3, e4, e5, e6, e7, e8⟩)
   clear e1 e2 e3 e4 e5 e6 e7 e8
   go_wp2
   go_ret2
   exact ⟨_, _, rfl, HE.out⟩
set_option maxRecDepth 100000 in
set_option maxHeartbeats 800000 in
theorem slPlayM_any (xs : List Int) (ss : List ByteArray) (f : ByteArray) (v : Value) (ds : List StepD) (w : World) (hv : StepsAt w v ds) (hds : ds.length = ss.length + 1) (hput : ∀ (k : Nat) (s : ByteArray) (x : Int), ss[k]? = some s → xs[k]? = some x → ds[k]? = some ⟨0, s, x, ⟨#[]⟩⟩) (hrev : ds[ss.length]? = some ⟨2, ⟨#[]⟩, 0, f⟩)
  (hxs : xs.length = ss.length) (hnd : xs.Nodup) (s0 : ByteArray) (hs0 : ss = [s0]) (hst : pathS s0 = StarP) (hsz : s0.size ≤ 100000) (hpp : ∀ s ∈ ss, PatP (pathS s)) (hn : ss.length ≤ 40) (hg : GoodS f) (A B : ByteArray) (hAB : toks f = [A, B]) (hA : bs A = [97]) (hBB : bs B = [98]) (hfs : f.size ≤ 100000) :
  Calls Tryz.prog 27 #[.bool false, v] w fun e w' => ∃ u, e = .returned u ∧ EndM xs ss f w u w' := by
 have h := playedM_any xs ss f v ds w hv hds hput hrev hxs hnd s0 hs0 hst hsz hpp hn hg A B hAB hA hBB hfs
 clear hv hds hput hrev hxs hnd hs0 hst hsz hpp hn hg hAB hA hBB hfs
 go_enter Tryz.func27, Tryz.ntmps27
 go_wp2_with fail
 refine h.mono ?_
 rintro e w1 ⟨p, u, rfl, hE⟩
 have HE := Lib.hid hE
 clear h hE
 go_wp2
 go_ret
 exact ⟨u, rfl, HE.out⟩
end Go.Proofs.YtehlmjecbljafaaGreatDoor
namespace Go.Proofs.YtehlmjecbljafaaGreatDoor
open Go Go.RowKit
end Go.Proofs.YtehlmjecbljafaaGreatDoor
namespace Go.Proofs.YtehlmjecbljafaaGreatDoor
open Go Go.RowKit
set_option maxRecDepth 100000 in
set_option maxHeartbeats 1600000 in
theorem count_any (b root : Nat) (c : Int) (w : World) (hbk : w.heap[b]? = some (.cells (gslCells root c) 178 (0, 0))) :
  Calls Tryz.prog 80 #[.pointer (some ⟨b, 0, none⟩)] w fun e w' => e = .returned (.int .u32 c) ∧ Only (· = b) w w' := by
 have hrl := RwLone.rlock_open rwRLib b 0 0 _ _ w ((cell_row (j := 0) hbk).trans (show _ = some (Value.int .i32 0) from rfl)) ((cell_row (j := 3) hbk).trans (show _ = some (Value.int .u32 0) from rfl)) ((cell_row (j := 4) hbk).trans (show _ = some (Value.int .i32 0) from rfl)) (frozen_row (j := 4) hbk) (by rw [wrap_up]; decide)
 have h4 : (w.setCell ⟨b, 4, none⟩ (.int .i32 1)).heap[b]? = some (.cells #[.int .i32 0, .int .u32 0, .int .u32 0, .int .u32 0, .int .i32 1, .int .i32 0, .pointer (some ⟨root, 0, none⟩), .int .u32 c] 178 (0, 0)) := heap_setCell_same w b 4 _ 178 (.int .i32 1) hbk
 have ho4 : Only (· = b) w (w.setCell ⟨b, 4, none⟩ (.int .i32 1)) := (Only.refl (· = b) w).set (.inl rfl) _
 go_enter_defers Tryz.func80, Tryz.ntmps80
 go_wp2_with fail
 refine hrl.mono ?_
 rintro e w3 ⟨rfl, hw3⟩
 rw [wrap_up] at hw3
 simp only [Nat.zero_add] at hw3
 rw [← hw3] at h4 ho4
 clear hw3 hrl
 have r7 := (cell_row (j := 7) h4).trans (show _ = some (Value.int .u32 c) from rfl)
 go_wp2
 refine leaves_cons (f := 113) (args := #[.pointer (some ⟨b, 0, none⟩)]) (by simp) (by simp [go_sem]) ?_
 refine (RwLone.runlock_deferred rwRLib b 0 1 _ _ .returning w3 ((cell_row (j := 0) h4).trans (show _ = some (Value.int .i32 0) from rfl)) ((cell_row (j := 2) h4).trans (show _ = some (Value.int .u32 0) from rfl)) ((cell_row (j := 4) h4).trans (show _ = some (Value.int .i32 1) from rfl)) (frozen_row (j := 4) h4) (by rw [wrap_down]; decide)).mono ?_
 rintro e u' w9 ⟨rfl, rfl, rfl⟩
 exact ⟨_, results_tmp rfl _ _ _, rfl, ho4.set (.inl rfl) _⟩
set_option maxRecDepth 100000 in
set_option maxHeartbeats 1600000 in
theorem listKinds_any (v : Value) (ds : List Deed) (w : World) (hd : DeedsAt w v ds) (hop : ∀ d ∈ ds, d.op = 0 ∧ d.subj.size ≤ 100000 ∧ PatP (pathOf d) ∧ (Lit.int .i64 d.val).wf = true) (hn : ds.length ≤ 1000) :
  Calls Tryz.prog 44 #[v] w fun e w' => ∃ u xs, e = .returned (.tuple #[u, .int .i64 ds.length]) ∧ Own w' w.heap.size 1 u ds.length xs ∧ (∀ x ∈ xs, x = .int .i64 0) ∧ Below w.heap.size w w' := by
 have hl := list_any v ds w hd hop hn
 clear hop hd
 go_enter Tryz.func44, Tryz.ntmps44
 go_wp2_with fail
 refine hl.mono ?_
 rintro e w1 ⟨b, u, xs, T, F, n, rfl, hb, hL, ho, hx, hob⟩
 have HL := Lib.hid hL; clear hL hl
 go_wp2_with fail
 refine (count_any b _ _ w1 HL.out.head).mono ?_
 rintro e w2 ⟨rfl, h2⟩
 go_wp2
 go_ret2
 refine ⟨u, xs, rfl, ho.only h2 (fun k hk e => hob k hk e), hx, HL.out.bel.trans (h2.below (fun x hx => by omega) HL.out.bel.size)⟩
theorem deeds_one (w : World) (s : ByteArray) (x : Int) : DeedsAt (w.alloc (.cells #[.int .i64 0, .string s, .int .i64 x] 39)) (.slice (some ⟨w.heap.size, 0, none⟩) 1 1) [⟨0, s, x⟩] := by
 refine ⟨rfl, _, _, rfl, Nat.le_refl _, by decide, fun _ => ⟨_, _, rfl, fun j v hj => ?_⟩⟩
 rw [Nat.zero_add, cell_row (heap_alloc_new w _)]
 simpa [Deed.cells] using hj
def sAB : ByteArray := ⟨#[97, 46, 98]⟩
def sAS : ByteArray := ⟨#[97, 46, 42]⟩
theorem path_AS : (toks sAS).map bs = [[97], [42]] := by
 unfold toks
 rw [map_mk_bs]
 decide
theorem pat_AS : PatP [[97], [42]] := by
 refine ⟨by simp, by simp, fun k hk => ?_, fun t ht => .inl ?_, by simp⟩
 ·match k with
  | 0 => simp at hk
  | 1 => simp at hk
  | k + 2 => simp at hk
 ·simp only [List.mem_cons, List.not_mem_nil, or_false] at ht
  rcases ht with rfl | rfl <;> simp
set_option maxRecDepth 100000 in
set_option maxHeartbeats 1600000 in
theorem awakeList_any (w : World) : Calls Tryz.prog 13 #[] w fun e w' => e = .returned (.bool true) ∧ Below w.heap.size w w' := by
 have hk := listKinds_any _ [⟨0, sAS, 3⟩] _ (deeds_one w sAS 3) (fun d hd => by
  rw [List.mem_singleton] at hd
  subst hd
  refine ⟨rfl, by decide, ?_, by decide⟩
  show PatP ((toks sAS).map bs)
  rw [path_AS]; exact pat_AS) (by simp)
 go_enter Tryz.func13, Tryz.ntmps13
 go_wp2_with fail
 refine hk.mono ?_
 rintro e w2 ⟨u, xs, rfl, ho, hx, hb⟩
 obtain ⟨a, c, rfl, -⟩ := ho.form
 have hsl := ho.sl
 have hxl := ho.1
 have hz : (w.alloc (.cells #[.int .i64 0, .string sAS, .int .i64 3] 39)).heap.size = w.heap.size + 1 := by simp
 obtain ⟨bb, o, rfl, hc⟩ := hsl.cell (Below.refl _ w2) (by rw [hxl]; decide)
 have hc0 : w2.cell? ⟨bb, o, none⟩ = some (.int .i64 0) := by
  have hp : 0 < xs.length := by rw [hxl]; decide
  have h1 : xs[0]? = some xs[0] := List.getElem?_eq_getElem hp
  have := hc 0 _ h1
  rw [hx _ (List.mem_of_getElem? h1)] at this
  exact this
 clear hc hx hsl
 go_wp2
 go_ret
 exact ⟨rfl, ((Below.refl _ w).alloc (Nat.le_refl _) _).trans (hb.mono (by omega))⟩
set_option maxRecDepth 100000 in
set_option maxHeartbeats 1600000 in
theorem awakeTree_any (w : World) : Calls Tryz.prog 12 #[] w fun e w' => e = .returned (.bool true) ∧ Below w.heap.size w w' := by
 have hz : (w.alloc (.cells #[.int .i64 0, .string sAB, .int .i64 3] 39)).heap.size = w.heap.size + 1 := by simp
 have hk := treeRun_any _ [⟨0, sAB, 3⟩] (LeafT (w.alloc (.cells #[.int .i64 0, .string sAB, .int .i64 3] 39)).heap.size ⟨0, sAB, 3⟩) _ 1 (deeds_one w sAB 3) (fun d hd => by
  rw [List.mem_singleton] at hd
  subst hd
  exact ⟨rfl, by decide⟩) (by simp) (leaf_tree _ _ (by decide) (by decide)) ⟨fun x => Iff.rfl, heap_alloc_new _ _⟩ (fun F W hT => by
   obtain ⟨L, -, -, h⟩ := hT
   exact ⟨_, h.tree⟩)
 go_enter Tryz.func12, Tryz.ntmps12
 go_wp2_with fail
 refine hk.mono ?_
 rintro e w2 ⟨a, c, rfl, hb⟩
 go_wp2
 go_ret
 exact ⟨rfl, ((Below.refl _ w).alloc (Nat.le_refl _) _).trans (hb.mono (by omega))⟩
end Go.Proofs.YtehlmjecbljafaaGreatDoor
