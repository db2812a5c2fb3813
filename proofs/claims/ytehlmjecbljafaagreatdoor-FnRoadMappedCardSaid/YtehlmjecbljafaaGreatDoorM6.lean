/- What Sound comes to, and mapping. -/
import Derived.Test.YtehlmjecbljafaaGreatDoorM3
import Derived.Test.YtehlmjecbljafaaGreatDoorM4
import Derived.Test.YtehlmjecbljafaaGreatDoorM5
namespace Go.Proofs.YtehlmjecbljafaaGreatDoor
open Go Go.RowKit
set_option maxRecDepth 100000 in
set_option maxHeartbeats 800000 in
theorem formed_iff (v : Value) (ss : List ByteArray) (w : World) (hsl : Sl w 1 v ss.length (ss.map Value.string)) (hn : ss.length ≤ 274877906944) :
    Calls Tryz.prog 99 #[v] w (RBi (FormedP ss ss.length) w) := by
  obtain ⟨a, cap, rfl⟩ := hsl.form
  have HS := Lib.hid hsl; clear hsl
  go_enter Tryz.func99, Tryz.ntmps99
  go_wp2
  go_loop [3] (fun i => ∃ k : Nat, k ≤ ss.length ∧ i = .int .i64 k ∧ Hid (FormedP ss k)) (fun i => ss.length - (intOf i).toNat)
  case atStart => exact ⟨0, Nat.zero_le _, rfl, fun j t h => absurd h (by omega)⟩
  case round =>
    obtain ⟨k, hk, rfl, HF⟩ := hrel
    by_cases hlt : k < ss.length
    · obtain ⟨b, o, t, rfl, Ht, hc⟩ := HS.out.str (Below.refl _ _) hlt
      go_wp2
      all_goals first
        | (go_ret; refine RBi.no (fun hF => ?_); have hh := hF k t hlt Ht.out; rw [← toList_bs] at hh; first | exact hh.1 (by assumption) | (have := hh.2 (by assumption); omega) | exact hh.1 (by simpa using ‹t.toList.isEmpty = true›))
        | (go_round
           case rel => exact ⟨k + 1, hlt, by go_num, formed_step HF.out Ht.out (by rw [← toList_bs]; assumption) (by rw [← toList_bs]; intro e; first | omega | contradiction)⟩
           case measure => simp [intOf]; omega)
    · obtain rfl : k = ss.length := by omega
      go_wp2
      go_ret
      exact RBi.yes HF.out
set_option maxRecDepth 100000 in
set_option maxHeartbeats 800000 in
theorem blank_no (c : UInt8) (w : World) (hc : 32 < c.toNat) : Calls Tryz.prog 136 #[.int .u8 c.toNat] w fun e w' => e = .returned (.bool false) ∧ w = w' := by
  go_enter Tryz.func136, Tryz.ntmps136
  have h1 : ((c.toNat : Int) == 32) = false := by simp; omega
  have h2 : ((c.toNat : Int) == 9) = false := by simp; omega
  have h3 : ((c.toNat : Int) == 10) = false := by simp; omega
  have h4 : ((c.toNat : Int) == 13) = false := by simp; omega
  have h5 : ((c.toNat : Int) == 12) = false := by simp; omega
  go_wp2
  go_ret
  exact ⟨rfl, rfl⟩
set_option maxRecDepth 100000 in
set_option maxHeartbeats 800000 in
theorem spaced_no (s : ByteArray) (w : World) (hs : CleanP s) : Calls Tryz.prog 100 #[.string s] w fun e w' => e = .returned (.bool false) ∧ w = w' := by
  have hsz := hs.1
  have HS := Lib.hid hs.2; clear hs
  go_enter Tryz.func100, Tryz.ntmps100
  go_wp2
  go_loop [3] (fun i => ∃ k : Nat, k ≤ s.size ∧ i = .int .i64 k) (fun i => s.size - (intOf i).toNat)
  case atStart => exact ⟨0, Nat.zero_le _, rfl⟩
  case round =>
    obtain ⟨k, hk, rfl⟩ := hrel
    by_cases hlt : k < s.size
    · have hck := (HS.out s[k] (List.mem_of_getElem? (bs_at? s k hlt))).1
      go_wp2_with (go_at_call 136; go_must (refine (blank_no s[k] _ (by assumption)).mono ?_; rintro e w' ⟨rfl, rfl⟩))
      go_round
      case rel => exact ⟨k + 1, hlt, by go_num⟩
      case measure => simp [intOf]; omega
    · go_wp2
      go_ret
      exact ⟨rfl, rfl⟩
set_option maxRecDepth 100000 in
set_option maxHeartbeats 800000 in
theorem svalid_iff (s : ByteArray) (b : Bool) (w : World) (hs : CleanP s) (hb : b = true ↔ FormedP (toks s) (toks s).length) : Calls Tryz.prog 62 #[.string s] w fun e w' => e = .returned (.bool b) ∧ Below w.heap.size w w' := by
  have hl := toks_len s
  have hsz := hs.1
  go_enter Tryz.func62, Tryz.ntmps62
  go_wp2_with fail
  refine (toks_any s _ (by omega)).mono ?_
  rintro e w1 ⟨v, rfl, hown, hbel⟩
  have hsl := Lib.hid hown.sl; clear hown
  go_wp2_with fail
  refine (formed_iff v _ _ hsl.out (by omega)).mono ?_
  rintro e w' ⟨b', rfl, hb', rfl⟩
  obtain rfl : b' = b := by rw [Bool.eq_iff_iff, hb', hb]
  clear hb hb'
  have Hs := Lib.hid hs; clear hs
  cases b'
  · go_wp2
    go_ret
    exact ⟨rfl, hbel⟩
  · go_wp2_with (go_at_call 100; go_must (refine (spaced_no s _ Hs.out).mono ?_); rintro e w' ⟨rfl, rfl⟩)
    go_ret
    exact ⟨rfl, hbel⟩
def restB (s : ByteArray) : Bool := (splitDot (bs s)).getLast? == some [62]
def SoundP (s : ByteArray) (ps : List Part) : Prop := FormedP (toks s) (toks s).length ∧ ∀ p, ps[ps.length - 1]? = some p → (restB s = true ↔ p.kind = 11)
set_option maxRecDepth 100000 in
set_option maxHeartbeats 300000 in
theorem sound_any (s : ByteArray) (v : Value) (ps : List Part) (w : World) (hs : CleanP s) (hps : PartsAt w v ps) (h0 : 0 < ps.length) (hn : ps.length ≤ 274877906944) :
    Calls Tryz.prog 38 #[.string s, v] w (RBb (SoundP s ps) w) := by
  obtain ⟨a, cap, rfl⟩ := hps.1.form
  have HP := Lib.hid hps; clear hps
  have hsz := hs.1
  have HS := Lib.hid hs; clear hs
  obtain ⟨b, o, p, rfl, Hp, c0, -, -, -, -, -⟩ := HP.out.at' (Below.refl _ _) (show ps.length - 1 < ps.length by omega)
  have e1 : ((ps.length : Int) - 1).toNat = ps.length - 1 := by omega
  have i1 : (0 : Int) ≤ (ps.length : Int) - 1 := by omega
  by_cases hF : FormedP (toks s) (toks s).length
  · have HF := Lib.hid hF; clear hF
    obtain ⟨rb, hrb⟩ : ∃ rb, rb = restB s := ⟨_, rfl⟩
    have Hrb := Lib.hid hrb; clear hrb
    have crest : ∀ w, Calls Tryz.prog 76 #[.string s] w fun e w' => e = .returned (.bool rb) ∧ Below w.heap.size w w' := fun w => by rw [Hrb.out]; exact rest_any s w (by omega)
    have Hrest := Lib.hid crest; clear crest
    go_enter Tryz.func38, Tryz.ntmps38
    go_wp2_with fail
    have C0 := fun x : SubW w => x.cell c0
    refine wp_region_sub (by kernel_rfl) (by kernel_rfl) ?_
    repeat (go_big_quiet_step (first | (go_at_call 62; exact sub_calls _ (svalid_iff s true _ HS.out (by simpa using HF.out))) | (go_at_call 76; exact sub_calls _ (Hrest.out _))))
    refine wpQuiet_nil ?_
    rintro _ ⟨⟨w1, hb1⟩, rfl⟩
    clear C0
    go_wp2_with (go_at_call 40; go_must (refine (wilds_any s _ (by omega)).mono ?_); rintro e w2 ⟨rfl, hb2⟩; have hb3 := bel2 hb1 hb2)
    · go_ret
      exact RBb.no hb1
    · have hr : rb = (p.kind == 11) := by
        have h : (!rb == (p.kind == 11)) = false := by assumption
        exact eq_of_beq (by simpa using h)
      have hS : SoundP s ps := ⟨HF.out, fun q hq => by
        rw [Hp.out] at hq; cases hq
        rw [← Hrb.out, hr]; simp⟩
      have HS' := Lib.hid hS; clear hS hr
      go_loopw [6] (fun i wr => ∃ k : Nat, k ≤ ps.length ∧ i = .int .i64 k ∧ Below w.heap.size w wr) (fun i _ => ps.length - (intOf i).toNat)
      case atStart => exact ⟨0, Nat.zero_le _, rfl, hb3⟩
      case round =>
        obtain ⟨k, hk, rfl, hb⟩ := hrel
        by_cases hlt : k < ps.length
        · obtain ⟨b', o', p', e, Hp', c0, c1, c2, c3, c4, hok⟩ := HP.out.at' hb hlt
          cases e
          have Hok := Lib.hid hok; clear hok
          obtain ⟨kind, word, n, m, aa, ca, ats⟩ := p'
          simp only at *
          have hal : ats.length ≤ 9223372036854775807 := Hok.out.1.len
          have HB4 := Lib.hid (fun x : Obj => hb.alloc hb.size x)
          go_wp2
          all_goals first
            | (go_ret; exact RBb.no (HB4.out _))
            | skip
          all_goals
            go_loop [8] (fun i => ∃ j : Nat, j ≤ ats.length ∧ i = .int .i64 j) (fun i => ats.length - (intOf i).toNat)
            case atStart => exact ⟨0, Nat.zero_le _, rfl⟩
            case round =>
              obtain ⟨j, hj, rfl⟩ := hrel
              by_cases hjt : j < ats.length
              · obtain ⟨b', o', t, rfl, Ht, hc, hlt'⟩ := (show Sl wr 1 (.slice aa ats.length ca) ats.length (ints ats) from Hok.out.1).int (Below.refl _ _) hjt
                go_wp2
                all_goals first
                  | (go_ret; exact RBb.no (HB4.out _))
                  | (go_round
                     case rel => exact ⟨j + 1, hjt, by go_num⟩
                     case measure => simp [intOf]; omega)
                  | (go_roundw
                     case rel => first | exact ⟨k + 1, hlt, by go_num, HB4.out _⟩ | ((repeat apply Exists.intro); exact ⟨⟨k + 1, hlt, by go_num, HB4.out _⟩, rfl⟩)
                     case measure => simp [intOf]; omega)
              · go_wp2
                go_roundw
                case rel => first | exact ⟨k + 1, hlt, by go_num, HB4.out _⟩ | ((repeat apply Exists.intro); exact ⟨⟨k + 1, hlt, by go_num, HB4.out _⟩, rfl⟩)
                case measure => simp [intOf]; omega
        · go_wp2
          go_ret
          exact RBb.of (fun _ => HS'.out) hb
  · have HF := Lib.hid hF; clear hF
    go_enter Tryz.func38, Tryz.ntmps38
    go_wp2_with fail
    refine wp_region_sub (by kernel_rfl) (by kernel_rfl) ?_
    repeat (go_big_quiet_step (first | (go_at_call 62; exact sub_calls _ (svalid_iff s false _ HS.out (by simpa using HF.out)))))
    refine wpQuiet_nil ?_
    rintro _ ⟨⟨w1, hb1⟩, rfl⟩
    go_wp2
    go_ret
    exact RBb.no hb1

structure MapP (s : ByteArray) (ps : List Part) : Prop where
  clean : CleanP s
  tame : TameS (toks s) (toks s).length
  few : ps.length ≤ 10
  some' : 0 < ps.length
  known : KnownN ps ps.length
  sound : SoundP s ps
set_option maxRecDepth 100000 in
set_option maxHeartbeats 800000 in
theorem mapping_any (s : ByteArray) (v : Value) (ps : List Part) (w : World) (hs : s.size ≤ 137438953472) (hps : PartsAt w v ps) (hn : ps.length ≤ 274877906944) :
    Calls Tryz.prog 7 #[.string s, v] w (RBb (MapP s ps) w) := by
  obtain ⟨a, cap, rfl⟩ := hps.1.form
  have HP := Lib.hid hps; clear hps
  go_enter Tryz.func7, Tryz.ntmps7
  by_cases h1 : s.size ≤ 100
  · have g1 : decide ((s.size : Int) ≤ 100) = true := by simp; omega
    go_wp2_with fail
    refine (clean_any s _ (by omega)).mono ?_
    rintro e w' ⟨b, rfl, hb, rfl⟩
    cases b
    · go_wp2
      go_ret
      exact RBb.no (Below.refl _ _)
    · have Hc := Lib.hid (hb rfl); clear hb
      go_wp2_with fail
      refine (tame_any s _ hs (fun t ht => Nat.le_trans (toks_mem ht) hs)).mono ?_
      rintro e w1 ⟨b, rfl, hb, hb1⟩
      cases b
      · go_wp2
        go_ret
        exact RBb.no hb1
      · have Ht := Lib.hid (hb rfl); clear hb
        by_cases h2 : ps.length ≤ 10
        · have g2 : decide ((ps.length : Int) ≤ 10) = true := by simp; omega
          go_wp2_with fail
          refine (known_any _ ps _ (HP.out.keep hb1) hn).mono ?_
          rintro e w2 ⟨b, rfl, hb, hb2⟩
          have hb3 := bel2 hb1 hb2
          cases b
          · go_wp2
            go_ret
            exact RBb.no hb3
          · obtain ⟨hp0, hk⟩ := hb rfl
            have Hk := Lib.hid hk; clear hk hb
            go_wp2_with fail
            refine (sound_any s _ ps _ Hc.out (HP.out.keep hb3) hp0 hn).mono ?_
            rintro e w4 ⟨b, rfl, hb, hb4⟩
            go_wp2
            go_ret
            exact RBb.of (fun h => ⟨Hc.out, Ht.out, h2, hp0, Hk.out, hb (by simpa using h)⟩) (bel2 hb3 hb4)
        · have g2 : decide ((ps.length : Int) ≤ 10) = false := by simp; omega
          go_wp2
          go_ret
          exact RBb.no hb1
  · have g1 : decide ((s.size : Int) ≤ 100) = false := by simp; omega
    go_wp2
    go_ret
    exact RBb.no (Below.refl _ _)
end Go.Proofs.YtehlmjecbljafaaGreatDoor
