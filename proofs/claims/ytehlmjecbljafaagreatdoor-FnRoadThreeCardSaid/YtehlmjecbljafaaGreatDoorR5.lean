/- What the plain functions on subjects come to: Blank, Spaced, clean, letters, Literal, tame, Wilds, Rest, Join, Places, matches. -/
import Derived.Test.YtehlmjecbljafaaGreatDoorR4
namespace Go.Proofs.YtehlmjecbljafaaGreatDoor
open Go Go.RowKit
set_option maxRecDepth 100000 in
set_option maxHeartbeats 400000 in
theorem blank_any (c : UInt8) (w : World) : Calls Tryz.prog 136 #[.int .u8 c.toNat] w (RB True w) := by
 go_enter Tryz.func136, Tryz.ntmps136
 go_wp2
 all_goals (go_ret; exact RB.of fun _ => trivial)
set_option maxRecDepth 100000 in
set_option maxHeartbeats 400000 in
theorem spaced_any (s : ByteArray) (w : World) (hs : s.size ≤ 274877906944) : Calls Tryz.prog 100 #[.string s] w (RB True w) := by
 go_enter Tryz.func100, Tryz.ntmps100
 go_wp2
 go_loop [3] (fun i => ∃ k : Nat, k ≤ s.size ∧ i = .int .i64 k) (fun i => s.size - (intOf i).toNat)
 case atStart => exact ⟨0, Nat.zero_le _, rfl⟩
 case round =>
  obtain ⟨k, hk, rfl⟩ := hrel
  by_cases hlt : k < s.size
  ·go_wp2_with (go_at_call 136; go_must (refine (blank_any s[k] _).mono ?_); rintro e w' ⟨b, rfl, -, rfl⟩)
   all_goals first
    | (go_ret; exact RB.of fun _ => trivial)
    | (go_round
       case rel => exact ⟨k + 1, hlt, by go_num⟩
       case measure => simp [intOf]; omega)
  ·go_wp2
   go_ret
   exact RB.of fun _ => trivial
set_option maxRecDepth 100000 in
set_option maxHeartbeats 400000 in
theorem clean_any (s : ByteArray) (w : World) (hs : s.size ≤ 140737488351232) : Calls Tryz.prog 35 #[.string s] w (RB (CleanP s) w) := by
 go_enter Tryz.func35, Tryz.ntmps35
 go_wp2
 go_loop [3] (fun i => ∃ k : Nat, k ≤ s.size ∧ k ≤ 401 ∧ i = .int .i64 k ∧ Hid (CleanN s k)) (fun i => s.size - (intOf i).toNat)
 case atStart => exact ⟨0, Nat.zero_le _, by omega, rfl, fun j t h => absurd h (by omega)⟩
 case round =>
  obtain ⟨k, hk, hk4, rfl, HF⟩ := hrel
  by_cases hlt : k < s.size
  ·by_cases h4 : k ≤ 400
   ·go_wp2
    all_goals first
     | (go_ret; exact RB.no)
     | (go_round
        case rel => exact ⟨k + 1, hlt, by omega, by go_num, clean_step HF.out hlt (by omega) (by intro e; simp_all)⟩
        case measure => simp [intOf]; omega)
   ·go_wp2
    go_ret
    exact RB.of fun h => by have := of_decide_eq_true h; omega
  ·obtain rfl : k = s.size := by omega
   go_wp2
   go_ret
   exact RB.of fun h => clean_of HF.out (by have := of_decide_eq_true h; omega)
set_option maxRecDepth 100000 in
set_option maxHeartbeats 400000 in
theorem literal_any (s : ByteArray) (w : World) (hs : s.size ≤ 137438953472) : Calls Tryz.prog 39 #[.string s] w (RBb (LitP (toks s) (toks s).length) w) := by
 have hl := toks_len s
 go_enter Tryz.func39, Tryz.ntmps39
 go_wp2_with (go_at_call 42; go_must (refine (toks_any s _ (by omega)).mono ?_); rintro e w1 ⟨v, rfl, hown, hbel⟩; obtain ⟨-, a, cap, rfl, h2, h3, h4⟩ := hown.sl; have H4 := Lib.hid h4; clear h4 hown)
 go_loop [4] (fun i => ∃ k : Nat, k ≤ (toks s).length ∧ i = .int .i64 k ∧ Hid (LitP (toks s) k)) (fun i => (toks s).length - (intOf i).toNat)
 case atStart => exact ⟨0, Nat.zero_le _, rfl, fun j t h => absurd h (by omega)⟩
 case round =>
  obtain ⟨k, hk, rfl, HF⟩ := hrel
  by_cases hlt : k < (toks s).length
  ·obtain ⟨b, o, t, rfl, Ht, hc⟩ := slAt H4.out hlt
   go_wp2
   all_goals first
    | (go_ret; exact RBb.no hbel)
    | (go_round
       case rel => exact ⟨k + 1, hlt, by go_num, lit_step HF.out Ht.out (by rw [← toList_bs]; assumption) (by rw [← toList_bs]; simp_all)⟩
       case measure => simp [intOf]; omega)
  ·obtain rfl : k = (toks s).length := by omega
   go_wp2
   go_ret
   exact RBb.of (fun h => HF.out) hbel
set_option maxRecDepth 100000 in
set_option maxHeartbeats 400000 in
theorem tame_any (s : ByteArray) (w : World) (hs : s.size ≤ 137438953472) (hall : ∀ t ∈ toks s, t.size ≤ 137438953472) : Calls Tryz.prog 36 #[.string s] w (RBb (TameS (toks s) (toks s).length) w) := by
 have hl := toks_len s
 have Hall := Lib.hid hall; clear hall
 go_enter Tryz.func36, Tryz.ntmps36
 go_wp2_with (go_at_call 42; go_must (refine (toks_any s _ (by omega)).mono ?_); rintro e w1 ⟨v, rfl, hown, hbel⟩; obtain ⟨-, a, cap, rfl, h2, h3, h4⟩ := hown.sl; have H4 := Lib.hid h4; clear h4 hown)
 go_loop [4] (fun i => ∃ k : Nat, k ≤ (toks s).length ∧ i = .int .i64 k ∧ Hid (TameS (toks s) k)) (fun i => (toks s).length - (intOf i).toNat)
 case atStart => exact ⟨0, Nat.zero_le _, rfl, fun j t h => absurd h (by omega)⟩
 case round =>
  obtain ⟨k, hk, rfl, HF⟩ := hrel
  by_cases hlt : k < (toks s).length
  ·obtain ⟨b, o, t, rfl, Ht, hc⟩ := slAt H4.out hlt
   have htl := Hall.out t (List.mem_of_getElem? Ht.out)
   go_wp2
   go_loop [5] (fun i => ∃ j : Nat, j ≤ t.size ∧ i = .int .i64 j ∧ Hid (TameN t j)) (fun i => t.size - (intOf i).toNat)
   case atStart => exact ⟨0, Nat.zero_le _, rfl, fun j t h => absurd h (by omega)⟩
   case round =>
    obtain ⟨j, hj, rfl, HG⟩ := hrel
    by_cases hjt : j < t.size
    ·by_cases h1 : 1 < t.size
     ·go_wp2
      all_goals first
       | (go_ret; exact RBb.no hbel)
       | (go_round
          case rel => exact ⟨j + 1, hjt, by go_num, tameN_step HG.out hjt (by intro e; simp_all) (by intro e; simp_all)⟩
          case measure => simp [intOf]; omega)
     ·go_wp2
      go_round
      case rel => exact ⟨k + 1, hlt, by go_num, tameS_step HF.out Ht.out (.inl (by rw [bs_len]; omega))⟩
      case measure => simp [intOf]; omega
    ·obtain rfl : j = t.size := by omega
     go_wp2
     go_round
     case rel => exact ⟨k + 1, hlt, by go_num, tameS_step HF.out Ht.out (tameT_of HG.out)⟩
     case measure => simp [intOf]; omega
  ·obtain rfl : k = (toks s).length := by omega
   go_wp2
   go_ret
   exact RBb.of (fun h => HF.out) hbel
end Go.Proofs.YtehlmjecbljafaaGreatDoor
