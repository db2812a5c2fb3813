/- What the plain functions on subjects come to: Blank, Spaced, clean, letters, Literal, tame, Wilds, Rest, Join, Places, matches. -/
import Derived.Test.YtehlmjecbljafaaGreatDoorM1
namespace Go.Proofs.YtehlmjecbljafaaGreatDoor
open Go Go.RowKit
set_option maxRecDepth 100000 in
set_option maxHeartbeats 400000 in
theorem blank_any (c : UInt8) (w : World) : Calls Tryz.prog 136 #[.int .u8 c.toNat] w (RB True w) := by
  go_enter Tryz.func136, Tryz.ntmps136
  go_wp2
  all_goals (go_ret; exact RB.of fun _ => trivial)
set_option maxRecDepth 100000 in
set_option maxHeartbeats 400000 in
theorem spaced_any (s : ByteArray) (w : World) (hs : s.size ≤ 274877906944) : Calls Tryz.prog 100 #[.string s] w (RB True w) := by
  go_enter Tryz.func100, Tryz.ntmps100
  go_wp2
  go_loop [3] (fun i => ∃ k : Nat, k ≤ s.size ∧ i = .int .i64 k) (fun i => s.size - (intOf i).toNat)
  case atStart => exact ⟨0, Nat.zero_le _, rfl⟩
  case round =>
    obtain ⟨k, hk, rfl⟩ := hrel
    by_cases hlt : k < s.size
    · go_wp2_with (go_at_call 136; go_must (refine (blank_any s[k] _).mono ?_); rintro e w' ⟨b, rfl, -, rfl⟩)
      all_goals first
        | (go_ret; exact RB.of fun _ => trivial)
        | (go_round
           case rel => exact ⟨k + 1, hlt, by go_num⟩
           case measure => simp [intOf]; omega)
    · go_wp2
      go_ret
      exact RB.of fun _ => trivial
set_option maxRecDepth 100000 in
set_option maxHeartbeats 400000 in
theorem clean_any (s : ByteArray) (w : World) (hs : s.size ≤ 140737488351232) : Calls Tryz.prog 35 #[.string s] w (RB (CleanP s) w) := by
  go_enter Tryz.func35, Tryz.ntmps35
  go_wp2
  go_loop [3] (fun i => ∃ k : Nat, k ≤ s.size ∧ k ≤ 401 ∧ i = .int .i64 k ∧ Hid (CleanN s k)) (fun i => s.size - (intOf i).toNat)
  case atStart => exact ⟨0, Nat.zero_le _, by omega, rfl, fun j t h => absurd h (by omega)⟩
  case round =>
    obtain ⟨k, hk, hk4, rfl, HF⟩ := hrel
    by_cases hlt : k < s.size
    · by_cases h4 : k ≤ 400
      · go_wp2
        all_goals first
          | (go_ret; exact RB.no)
          | (go_round
             case rel => exact ⟨k + 1, hlt, by omega, by go_num, clean_step HF.out hlt (by omega) (by intro e; simp_all)⟩
             case measure => simp [intOf]; omega)
      · go_wp2
        go_ret
        exact RB.of fun h => by have := of_decide_eq_true h; omega
    · obtain rfl : k = s.size := by omega
      go_wp2
      go_ret
      exact RB.of fun h => clean_of HF.out (by have := of_decide_eq_true h; omega)
set_option maxRecDepth 100000 in
set_option maxHeartbeats 400000 in
theorem letters_any (s : ByteArray) (w : World) (hs : s.size ≤ 140737488351232) : Calls Tryz.prog 75 #[.string s] w (RB (LettersP s) w) := by
  go_enter Tryz.func75, Tryz.ntmps75
  go_wp2
  go_loop [3] (fun i => ∃ k : Nat, k ≤ s.size ∧ i = .int .i64 k ∧ Hid (LettersN s k)) (fun i => s.size - (intOf i).toNat)
  case atStart => exact ⟨0, Nat.zero_le _, rfl, fun j t h => absurd h (by omega)⟩
  case round =>
    obtain ⟨k, hk, rfl, HF⟩ := hrel
    by_cases hlt : k < s.size
    · go_wp2
      all_goals first
        | (go_ret; exact RB.no)
        | (go_round
           case rel => exact ⟨k + 1, hlt, by go_num, letters_step HF.out hlt (by unfold letterB; omega)⟩
           case measure => simp [intOf]; omega)
    · obtain rfl : k = s.size := by omega
      go_wp2
      go_ret
      exact RB.of fun h => letters_of HF.out (by rw [← toList_bs]; simpa using h)
set_option maxRecDepth 100000 in
set_option maxHeartbeats 400000 in
theorem literal_any (s : ByteArray) (w : World) (hs : s.size ≤ 137438953472) : Calls Tryz.prog 39 #[.string s] w (RBb (LitP (toks s) (toks s).length) w) := by
  have hl := toks_len s
  go_enter Tryz.func39, Tryz.ntmps39
  go_wp2_with (go_at_call 42; go_must (refine (toks_any s _ (by omega)).mono ?_); rintro e w1 ⟨v, rfl, hown, hbel⟩; obtain ⟨-, a, cap, rfl, h2, h3, h4⟩ := hown.sl; have H4 := Lib.hid h4; clear h4 hown)
  go_loop [4] (fun i => ∃ k : Nat, k ≤ (toks s).length ∧ i = .int .i64 k ∧ Hid (LitP (toks s) k)) (fun i => (toks s).length - (intOf i).toNat)
  case atStart => exact ⟨0, Nat.zero_le _, rfl, fun j t h => absurd h (by omega)⟩
  case round =>
    obtain ⟨k, hk, rfl, HF⟩ := hrel
    by_cases hlt : k < (toks s).length
    · obtain ⟨b, o, t, rfl, Ht, hc⟩ := slAt H4.out hlt
      go_wp2
      all_goals first
        | (go_ret; exact RBb.no hbel)
        | (go_round
           case rel => exact ⟨k + 1, hlt, by go_num, lit_step HF.out Ht.out (by rw [← toList_bs]; assumption) (by rw [← toList_bs]; simp_all)⟩
           case measure => simp [intOf]; omega)
    · obtain rfl : k = (toks s).length := by omega
      go_wp2
      go_ret
      exact RBb.of (fun h => HF.out) hbel
set_option maxRecDepth 100000 in
set_option maxHeartbeats 400000 in
theorem tame_any (s : ByteArray) (w : World) (hs : s.size ≤ 137438953472) (hall : ∀ t ∈ toks s, t.size ≤ 137438953472) : Calls Tryz.prog 36 #[.string s] w (RBb (TameS (toks s) (toks s).length) w) := by
  have hl := toks_len s
  have Hall := Lib.hid hall; clear hall
  go_enter Tryz.func36, Tryz.ntmps36
  go_wp2_with (go_at_call 42; go_must (refine (toks_any s _ (by omega)).mono ?_); rintro e w1 ⟨v, rfl, hown, hbel⟩; obtain ⟨-, a, cap, rfl, h2, h3, h4⟩ := hown.sl; have H4 := Lib.hid h4; clear h4 hown)
  go_loop [4] (fun i => ∃ k : Nat, k ≤ (toks s).length ∧ i = .int .i64 k ∧ Hid (TameS (toks s) k)) (fun i => (toks s).length - (intOf i).toNat)
  case atStart => exact ⟨0, Nat.zero_le _, rfl, fun j t h => absurd h (by omega)⟩
  case round =>
    obtain ⟨k, hk, rfl, HF⟩ := hrel
    by_cases hlt : k < (toks s).length
    · obtain ⟨b, o, t, rfl, Ht, hc⟩ := slAt H4.out hlt
      have htl := Hall.out t (List.mem_of_getElem? Ht.out)
      go_wp2
      go_loop [5] (fun i => ∃ j : Nat, j ≤ t.size ∧ i = .int .i64 j ∧ Hid (TameN t j)) (fun i => t.size - (intOf i).toNat)
      case atStart => exact ⟨0, Nat.zero_le _, rfl, fun j t h => absurd h (by omega)⟩
      case round =>
        obtain ⟨j, hj, rfl, HG⟩ := hrel
        by_cases hjt : j < t.size
        · by_cases h1 : 1 < t.size
          · go_wp2
            all_goals first
              | (go_ret; exact RBb.no hbel)
              | (go_round
                 case rel => exact ⟨j + 1, hjt, by go_num, tameN_step HG.out hjt (by intro e; simp_all) (by intro e; simp_all)⟩
                 case measure => simp [intOf]; omega)
          · go_wp2
            go_round
            case rel => exact ⟨k + 1, hlt, by go_num, tameS_step HF.out Ht.out (.inl (by rw [bs_len]; omega))⟩
            case measure => simp [intOf]; omega
        · obtain rfl : j = t.size := by omega
          go_wp2
          go_round
          case rel => exact ⟨k + 1, hlt, by go_num, tameS_step HF.out Ht.out (tameT_of HG.out)⟩
          case measure => simp [intOf]; omega
    · obtain rfl : k = (toks s).length := by omega
      go_wp2
      go_ret
      exact RBb.of (fun h => HF.out) hbel
set_option maxRecDepth 100000 in
set_option maxHeartbeats 400000 in
theorem wilds_any (s : ByteArray) (w : World) (hs : s.size ≤ 137438953472) : Calls Tryz.prog 40 #[.string s] w fun e w' => e = .returned (.int .i64 (wildsN ((toks s).map bs))) ∧ Below w.heap.size w w' := by
  have hl := toks_len s
  go_enter Tryz.func40, Tryz.ntmps40
  go_wp2_with (go_at_call 42; go_must (refine (toks_any s _ (by omega)).mono ?_); rintro e w1 ⟨v, rfl, hown, hbel⟩; obtain ⟨-, a, cap, rfl, h2, h3, h4⟩ := hown.sl; have H4 := Lib.hid h4; clear h4 hown)
  go_loop [3, 5] (fun n i => ∃ k m : Nat, k ≤ (toks s).length ∧ i = .int .i64 k ∧ n = .int .i64 m ∧ m ≤ k ∧ Hid (m = wildsN (((toks s).take k).map bs))) (fun _ i => (toks s).length - (intOf i).toNat)
  case atStart => exact ⟨0, 0, Nat.zero_le _, rfl, rfl, Nat.le_refl _, by simp [Hid, wildsN]⟩
  case round =>
    obtain ⟨k, m, hk, rfl, rfl, hm, HF⟩ := hrel
    by_cases hlt : k < (toks s).length
    · obtain ⟨b, o, t, rfl, Ht, hc⟩ := slAt H4.out hlt
      go_wp2
      · go_round
        case rel => exact ⟨k + 1, m + 1, hlt, by go_num, by go_num, by omega, by have hh := HF.out; unfold Hid; rw [wildsN_step Ht.out, if_pos (by rw [← toList_bs]; exact eq_of_beq ‹_›)]; omega⟩
        case measure => simp [intOf]; omega
      · go_round
        case rel => exact ⟨k + 1, m, hlt, by go_num, rfl, by omega, by have hh := HF.out; unfold Hid; rw [wildsN_step Ht.out, if_neg (by rw [← toList_bs]; simp_all)]; omega⟩
        case measure => simp [intOf]; omega
    · obtain rfl : k = (toks s).length := by omega
      have hf := HF.out
      rw [List.take_length] at hf
      have HF' := Lib.hid hf; clear hf
      go_wp2
      go_ret
      exact ⟨by have := HF'.out; subst this; rfl, hbel⟩
set_option maxRecDepth 100000 in
set_option maxHeartbeats 400000 in
theorem rest_any (s : ByteArray) (w : World) (hs : s.size ≤ 137438953472) : Calls Tryz.prog 76 #[.string s] w fun e w' => e = .returned (.bool ((splitDot (bs s)).getLast? == some [62])) ∧ Below w.heap.size w w' := by
  have hl := toks_len s
  have hp : 0 < (toks s).length := by unfold toks; rw [List.length_map]; exact List.length_pos_iff.2 (splitDot_ne _)
  have hp' : (0:Int) ≤ (((toks s).length : Nat) : Int) - 1 := by omega
  go_enter Tryz.func76, Tryz.ntmps76
  go_wp2_with (go_at_call 42; go_must (refine (toks_any s _ (by omega)).mono ?_); rintro e w1 ⟨v, rfl, hown, hbel⟩; obtain ⟨-, a, cap, rfl, h2, h3, h4⟩ := hown.sl; obtain ⟨b, o, t, rfl, Ht, hc⟩ := slAt h4 (show (toks s).length - 1 < (toks s).length by omega); clear h4 hown)
  go_ret
  refine ⟨?_, hbel⟩
  have e : (splitDot (bs s)).getLast? = some t.toList := by
    have h := congrArg (Option.map bs) Ht.out
    rw [← List.getElem?_map, toks_bs] at h
    rw [List.getLast?_eq_getElem?, toList_bs]
    simpa [toks] using h
  rw [e]; rfl

set_option maxRecDepth 100000 in
set_option maxHeartbeats 400000 in
theorem join_any (v : Value) (ss : List ByteArray) (w : World) (hsl : Sl w 1 v ss.length (ss.map Value.string)) (hn : ss.length ≤ 274877906944) (hsum : sumL (ss.map bs) ≤ 137438953472) :
    Calls Tryz.prog 45 #[v] w fun e w' => e = .returned (.string (mk (joinD (ss.map bs)))) ∧ w = w' := by
  obtain ⟨-, a, cap, rfl, h2, h3, h4⟩ := hsl
  have H4 := Lib.hid h4; clear h4
  go_enter Tryz.func45, Tryz.ntmps45
  go_wp2
  go_loop [3, 4] (fun s i => ∃ (k : Nat) (x : ByteArray), k ≤ ss.length ∧ i = .int .i64 k ∧ s = .string x ∧ Hid (bs x = joinD ((ss.take k).map bs))) (fun _ i => ss.length - (intOf i).toNat)
  case atStart => exact ⟨0, ⟨#[]⟩, Nat.zero_le _, rfl, rfl, rfl⟩
  case round =>
    obtain ⟨k, x, hk, rfl, rfl, HF⟩ := hrel
    by_cases hlt : k < ss.length
    · obtain ⟨b, o, t, rfl, Ht, hc⟩ := slAt H4.out hlt
      obtain ⟨hx, htz⟩ := join_sizes HF.out Ht.out
      by_cases h0 : 0 < k
      · go_wp2
        go_round
        case rel => exact ⟨k + 1, _, hlt, by go_num, rfl, join_next HF.out h0 Ht.out⟩
        case measure => simp [intOf]; omega
      · obtain rfl : k = 0 := by omega
        have hc0 : w.cell? ⟨b, o, none⟩ = some (.string t) := by simpa using hc
        clear hc
        go_wp2
        go_round
        case rel => exact ⟨0 + 1, _, hlt, by go_num, rfl, join_first HF.out Ht.out⟩
        case measure => simp [intOf]; omega
    · obtain rfl : k = ss.length := by omega
      go_wp2
      go_ret
      exact ⟨by rw [← mk_bs x, HF.out, List.take_length]; rfl, rfl⟩
set_option maxRecDepth 100000 in
set_option maxHeartbeats 400000 in
theorem places_any (s : ByteArray) (w : World) (hs : s.size ≤ 137438953472) : Calls Tryz.prog 49 #[.string s] w fun e w' => ∃ v, e = .returned v ∧ Own w' w.heap.size 1 v (placesN ((toks s).map bs)).length (nats (placesN ((toks s).map bs))) ∧ Below w.heap.size w w' := by
  have hl := toks_len s
  go_enter Tryz.func49, Tryz.ntmps49
  go_wp2_with (go_at_call 42; go_must (refine (toks_any s _ (by omega)).mono ?_); rintro e w1 ⟨v, rfl, hown, hbel⟩; obtain ⟨-, a, cap, rfl, h2, h3, h4⟩ := hown.sl; have H4 := Lib.hid hown.sl; clear h4 hown)
  go_loopw [3, 5] (fun n i wr => ∃ k : Nat, k ≤ (toks s).length ∧ i = .int .i64 k ∧ Own wr w1.heap.size 1 n (placesN (((toks s).take k).map bs)).length (nats (placesN (((toks s).take k).map bs))) ∧ Below w1.heap.size w1 wr) (fun _ i _ => (toks s).length - (intOf i).toNat)
  case atStart => exact ⟨0, Nat.zero_le _, rfl, Own.nil _ _ _, Below.refl _ _⟩
  case round =>
    obtain ⟨k, hk, rfl, hown, hb1⟩ := hrel
    have hB := hb1.size
    have hpl := placesN_len (((toks s).take k).map bs)
    have hkl : (((toks s).take k).map bs).length = k := by simp; omega
    by_cases hlt : k < (toks s).length
    · obtain ⟨-, a', cap', e, -, -, h4⟩ := H4.out.keep hb1
      cases e
      obtain ⟨b, o, t, rfl, Ht, hc⟩ := slAt h4 hlt
      clear h4
      have Hkl := Lib.hid hkl; clear hkl
      go_wp2_with (at_builtin; go_must (refine wpList_app1 et33 rfl _ _ rfl w1.heap.size rfl hown [_] rfl rfl (by simp [Value.oneCell']) (by have := Hkl.out; omega) hB ?_); intro v' w2 hown1 hgrow)
      · go_roundw
        case rel =>
          have hst := placesN_step Ht.out
          rw [if_pos (by rw [← toList_bs]; exact eq_of_beq ‹_›)] at hst
          refine ⟨k + 1, hlt, by go_num, ?_, bel_app hb1 hgrow hown hB⟩
          rw [hst]; simpa [nats] using hown1
        case measure => simp [intOf]; omega
      · go_roundw
        case rel =>
          have hst := placesN_step Ht.out
          rw [if_neg (by rw [← toList_bs]; simp_all)] at hst
          refine ⟨k + 1, hlt, by go_num, ?_, hb1⟩
          rw [hst]; simpa using hown
        case measure => simp [intOf]; omega
    · obtain rfl : k = (toks s).length := by omega
      rw [List.take_length] at hown
      go_wp2
      go_ret
      exact ⟨_, rfl, hown.mono hbel.size, bel2 hbel hb1⟩
set_option maxRecDepth 100000 in
set_option maxHeartbeats 400000 in
theorem matches_any (v u : Value) (l p : List ByteArray) (w : World) (hsl : Sl w 1 v l.length (l.map Value.string)) (hsp : Sl w 1 u p.length (p.map Value.string)) (hn : l.length ≤ 274877906944) (hm : p.length ≤ 274877906944) :
    Calls Tryz.prog 41 #[v, u] w (RBb (matchT (l.map bs) (p.map bs) = true) w) := by
  obtain ⟨a, cap, rfl⟩ := hsl.form
  obtain ⟨a', cap', rfl⟩ := hsp.form
  have HL := Lib.hid hsl; clear hsl
  have HP := Lib.hid hsp; clear hsp
  go_enter Tryz.func41, Tryz.ntmps41
  go_wp2
  go_loopw [5] (fun i wr => ∃ k : Nat, k ≤ p.length ∧ i = .int .i64 k ∧ Hid (matchT ((l.map bs).drop k) ((p.map bs).drop k) = matchT (l.map bs) (p.map bs)) ∧ Below w.heap.size w wr) (fun i _ => p.length - (intOf i).toNat)
  case atStart => exact ⟨0, Nat.zero_le _, rfl, rfl, Below.refl _ _⟩
  case round =>
    obtain ⟨k, hk, rfl, HF, hb⟩ := hrel
    by_cases hlt : k < p.length
    · obtain ⟨b', o', q, rfl, Hq, hc'⟩ := HP.out.str hb hlt
      by_cases hl : k < l.length
      · obtain ⟨b, o, t, rfl, Ht, hc⟩ := HL.out.str hb hl
        have i0 : (0 : Int) ≤ (k : Int) := by omega
        have i1 : (k : Int) < (p.length : Int) := by omega
        have i2 : (k : Int) < (l.length : Int) := by omega
        by_cases e62 : q.toList = [62]
        · have E := Lib.hid e62
          have g : (q.toList == [62]) = true := by simp [e62]
          clear e62
          go_wp2
          go_ret
          exact RBb.of (fun _ => by rw [← HF.out]; exact matchT_rest hl Hq.out (by rw [← toList_bs]; exact E.out)) hb
        · have E := Lib.hid e62
          have g : (q.toList == [62]) = false := by simp [e62]
          clear e62
          by_cases e42 : q.toList = [42]
          · have g2 : (q.toList == [42]) = true := by simp [e42]
            have E2 := Lib.hid e42; clear e42
            go_wp2
            go_quiet (fail)
            go_wp2
            go_roundw
            case rel => exact ⟨k + 1, hlt, by go_num, by unfold Hid; rw [← HF.out]; exact (matchT_step Ht.out Hq.out (by rw [← toList_bs]; exact E.out) (fun h => absurd (by rw [← toList_bs]; exact E2.out) h)).symm, below_drewN hb _⟩
            case measure => simp [intOf]; omega
          · have g2 : (q.toList == [42]) = false := by simp [e42]
            have E2 := Lib.hid e42; clear e42
            go_wp2
            go_quiet (fail)
            go_wp2
            · go_ret
              exact RBb.no (below_drewN hb _)
            · go_roundw
              case rel => exact ⟨k + 1, hlt, by go_num, by unfold Hid; rw [← HF.out]; exact (matchT_step Ht.out Hq.out (by rw [← toList_bs]; exact E.out) (fun _ => by rw [← toList_bs, ← toList_bs]; simpa using ‹(q.toList != t.toList) = false›)).symm, below_drewN hb _⟩
              case measure => simp [intOf]; omega
      · go_wp2
        go_ret
        exact RBb.no hb
    · obtain rfl : k = p.length := by omega
      go_wp2
      go_ret
      exact RBb.of (fun h => by rw [← HF.out]; exact matchT_end (by have := of_decide_eq_true h; omega)) hb
end Go.Proofs.YtehlmjecbljafaaGreatDoor
