/- What the conditions of a mapping come to: Known, Reversible. -/
import Derived.Test.YtehlmjecbljafaaGreatDoorM2
import Derived.Test.YtehlmjecbljafaaGreatDoorM3
namespace Go.Proofs.YtehlmjecbljafaaGreatDoor
open Go Go.RowKit
set_option maxRecDepth 100000 in
set_option maxHeartbeats 800000 in
theorem known_any (v : Value) (ps : List Part) (w : World) (hps : PartsAt w v ps) (hn : ps.length ≤ 274877906944) : Calls Tryz.prog 37 #[v] w (RBb (0 < ps.length ∧ KnownN ps ps.length) w) := by
  obtain ⟨a, cap, rfl⟩ := hps.1.form
  have HP := Lib.hid hps; clear hps
  go_enter Tryz.func37, Tryz.ntmps37
  go_wp2
  go_loopw [3] (fun i wr => ∃ k : Nat, k ≤ ps.length ∧ i = .int .i64 k ∧ Hid (KnownN ps k) ∧ Below w.heap.size w wr) (fun i _ => ps.length - (intOf i).toNat)
  case atStart => exact ⟨0, Nat.zero_le _, rfl, fun j p h => absurd h (by omega), Below.refl _ _⟩
  case round =>
    obtain ⟨k, hk, rfl, HF, hb⟩ := hrel
    by_cases hlt : k < ps.length
    · obtain ⟨b, o, p, rfl, Hp, c0, c1, c2, c3, c4, hok⟩ := HP.out.at' hb hlt
      have Hok := Lib.hid hok; clear hok
      have hal : p.ats.length ≤ 5 ∨ 5 < p.ats.length := by omega
      obtain ⟨kind, word, n, m, aa, ca, ats⟩ := p
      simp only at *
      have hb2 := hb.alloc hb.size (.cells #[.int .i64 kind, .string word, .int .i64 n, .int .i64 m, .slice aa ats.length ca] 70)
      go_wp2_with fail
      all_goals first
        | (go_ret; exact RBb.no hb2)
        | skip
      go_loop [5] (fun i => ∃ j : Nat, j ≤ ats.length ∧ i = .int .i64 j) (fun i => ats.length - (intOf i).toNat)
      case atStart => exact ⟨0, Nat.zero_le _, rfl⟩
      case round =>
        obtain ⟨j, hj, rfl⟩ := hrel
        by_cases hjt : j < ats.length
        · obtain ⟨b', o', t, rfl, Ht, hc, hlt'⟩ := (show Sl wr 1 (.slice aa ats.length ca) ats.length (ints ats) from Hok.out.1).int (Below.refl _ _) hjt
          go_wp2
          all_goals first
            | (go_ret; exact RBb.no hb2)
            | (go_round
               case rel => exact ⟨j + 1, hjt, by go_num⟩
               case measure => simp [intOf]; omega)
        · obtain rfl : j = ats.length := by omega
          go_wp2_with (go_at_call 75; go_must (refine (letters_any word _ Hok.out.2).mono ?_); rintro e w' ⟨bl, rfl, hbl, rfl⟩)
          all_goals first
            | (go_ret; exact RBb.no hb2)
            | skip
          all_goals
            go_roundw
            case rel =>
              refine ⟨k + 1, hlt, by go_num, known_step HF.out Hp.out ⟨fun e => ?_, fun e => ?_, by show 0 ≤ n; omega, by show n ≤ 99; omega, by show 0 ≤ m; omega, by show m ≤ 99; omega, by show 0 ≤ kind; omega, by show kind ≤ 11; omega⟩, hb2⟩
              · change kind = 0 at e; subst e; first | exact hbl (by simpa using ‹(!bl) = false›) | exact absurd ‹((0:Int) == 0) = false› (by decide)
              · change kind = 11 at e; subst e; first | exact absurd ‹((11:Int) == 0) = true› (by decide) | exact absurd ‹((11:Int) == 3) = true› (by decide) | exact absurd ‹((11:Int) == 4) = true› (by decide) | exact absurd ‹((11:Int) == 5) = true› (by decide) | exact absurd ‹((11:Int) == 6) = true› (by decide) | exact absurd ‹((11:Int) == 7) = true› (by decide) | exact absurd ‹((11:Int) == 8) = true› (by decide) | exact absurd ‹((11:Int) == 9) = true› (by decide) | exact absurd ‹((11:Int) == 10) = true› (by decide) | exact absurd ‹((11:Int) == 11) = false› (by decide) | omega
            case measure => simp [intOf]; omega
    · obtain rfl : k = ps.length := by omega
      go_wp2
      go_ret
      exact RBb.of (fun h => ⟨by have := of_decide_eq_true h; omega, HF.out⟩) hb
set_option maxRecDepth 100000 in
set_option maxHeartbeats 800000 in
theorem rev_any (s : ByteArray) (v : Value) (ps : List Part) (w : World) (hs : s.size ≤ 137438953472) (hps : PartsAt w v ps) (hn : ps.length ≤ 274877906944) :
    Calls Tryz.prog 9 #[.string s, v] w (RBb (RevP ps (wildsN ((toks s).map bs)) ps.length) w) := by
  obtain ⟨a, cap, rfl⟩ := hps.1.form
  have HP := Lib.hid hps; clear hps
  have hl := toks_len s
  have hwl := wildsN_le ((toks s).map bs)
  rw [List.length_map] at hwl
  obtain ⟨n, hnn⟩ : ∃ n, n = wildsN ((toks s).map bs) := ⟨_, rfl⟩
  rw [← hnn] at hwl
  have Hn := Lib.hid hnn; clear hnn
  have hmk := run_make_row' (P := Tryz.prog) 33 3 (.int .i64 0) 8 Tryz.underlying33 (by kernel_rfl) rfl .i64 .i64 (n + 1) (by omega) (by omega)
  rw [show ((n + 1 : Nat) : Int) = (n : Int) + 1 by omega] at hmk
  go_enter Tryz.func9, Tryz.ntmps9
  go_wp2_with fail
  refine (wilds_any s _ hs).mono ?_
  rw [← Hn.out]
  rintro e w1 ⟨rfl, hbel⟩
  go_wp2_with fail
  have hrow0 := IntRow.made w1 (n + 1)
  have hbw : Below w.heap.size w (w1.alloc (.cells (madeCells #[.int .i64 0] (n + 1)) 3)) := hbel.alloc hbel.size _
  have hbs := hbel.size
  generalize hW : w1.alloc (.cells (madeCells #[.int .i64 0] (n + 1)) 3) = W at *
  clear hW hbel
  generalize w1.heap.size = B at *
  go_loopw [7] (fun i wr => ∃ k : Nat, k ≤ ps.length ∧ i = .int .i64 k ∧ Hid (RevP ps n k) ∧ IntRow wr B (n + 1) ∧ Below w.heap.size w wr) (fun i _ => ps.length - (intOf i).toNat)
  case atStart => exact ⟨0, Nat.zero_le _, rfl, fun j p h => absurd h (by omega), hrow0, hbw⟩
  case round =>
    obtain ⟨k, hk, rfl, HF, hrow, hb⟩ := hrel
    by_cases hlt : k < ps.length
    · obtain ⟨b, o, p, rfl, Hp, c0, c1, c2, c3, c4, hok⟩ := HP.out.at' hb hlt
      obtain ⟨kind, word, n', m, aa, ca, ats⟩ := p
      clear hok
      simp only at *
      have hb2 := hb.alloc hb.size (.cells #[.int .i64 kind, .string word, .int .i64 n', .int .i64 m, .slice aa ats.length ca] 70)
      have hrow2 := hrow.keep ((Below.refl _ _).alloc (Nat.le_refl _) (.cells #[.int .i64 kind, .string word, .int .i64 n', .int .i64 m, .slice aa ats.length ca] 70))
      have hlt2 := hrow.lt
      by_cases hz : kind = 0 ∨ kind = 11
      · have hP : RevP ps n (k + 1) := rev_step HF.out Hp.out (.inl hz)
        have HP' := Lib.hid hP; clear hP
        rcases hz with rfl | rfl
        all_goals
          go_wp2
          go_roundw
          case rel => first | exact ⟨k + 1, hlt, by go_num, HP'.out, hrow2, hb2⟩ | ((repeat apply Exists.intro); exact ⟨⟨k + 1, hlt, by go_num, HP'.out, hrow2, hb2⟩, rfl⟩)
          case measure => simp [intOf]; omega
      · by_cases h12 : kind = 1 ∨ kind = 2
        · by_cases hr : 1 ≤ n' ∧ n' ≤ n
          · have hP : RevP ps n (k + 1) := rev_step HF.out Hp.out (.inr ⟨h12, hr⟩)
            have HP' := Lib.hid hP; clear hP
            obtain ⟨q, rfl⟩ := Int.eq_ofNat_of_zero_le (show 0 ≤ n' by omega)
            obtain ⟨hr1, hr2⟩ := hr
            have hq : q < n + 1 := by omega
            obtain ⟨x, hx, hfx⟩ := hrow.cell hq
            have hb3 := hb.setCell hbs (p := ⟨B, q, none⟩) (.int .i64 (wrap64 (x + 1)))
            clear hz
            rcases h12 with rfl | rfl
            all_goals
              go_wp2
              go_roundw
              case rel => first | exact ⟨k + 1, hlt, by go_num, HP'.out, (hrow.set _).keep ((Below.refl _ _).alloc (Nat.le_refl _) _), hb3.alloc (by simpa using hb.size) _⟩ | ((repeat apply Exists.intro); exact ⟨⟨k + 1, hlt, by go_num, HP'.out, (hrow.set _).keep ((Below.refl _ _).alloc (Nat.le_refl _) _), hb3.alloc (by simpa using hb.size) _⟩, rfl⟩)
              case measure => simp [intOf]; omega
          · have hr' : n' < 1 ∨ (n : Int) < n' := by omega
            clear hr hz
            rcases h12 with rfl | rfl
            all_goals
              rcases hr' with hr' | hr'
              all_goals
                go_wp2
                go_ret
                exact RBb.no hb2
        · have a0 : (kind == 0) = false := by simp; omega
          have a1 : (kind == 1) = false := by simp; omega
          have a2 : (kind == 2) = false := by simp; omega
          have a3 : (kind == 11) = false := by simp; omega
          have b0 : (kind != 0) = true := by simp; omega
          have b3 : (kind != 11) = true := by simp; omega
          clear hz h12
          go_wp2
          all_goals
            go_ret
            exact RBb.no hb2
    · obtain rfl : k = ps.length := by omega
      go_wp2
      go_loop [9] (fun i => ∃ j : Nat, 1 ≤ j ∧ j ≤ n + 1 ∧ i = .int .i64 j) (fun i => n + 1 - (intOf i).toNat)
      case atStart => exact ⟨1, by omega, by omega, rfl⟩
      case round =>
        obtain ⟨j, hj0, hj, rfl⟩ := hrel
        by_cases hjn : j < n + 1
        · obtain ⟨x, hx, hfx⟩ := hrow.cell hjn
          go_wp2
          all_goals first
            | (go_ret; exact RBb.no hb)
            | (go_round
               case rel => exact ⟨j + 1, by omega, by omega, by go_num⟩
               case measure => simp [intOf]; omega)
        · go_wp2
          go_ret
          exact RBb.of (fun _ => by rw [← Hn.out]; exact HF.out) hb
end Go.Proofs.YtehlmjecbljafaaGreatDoor
