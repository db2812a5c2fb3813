/- The tree's filters: parts against a text. A subject tree of one leaf: what a filter that matches finds. Appending a text to a row of bytes with room. -/
import Derived.Test.YtehlmjecbljafaaGreatDoorM8
import Derived.Test.YtehlmjecbljafaaGreatDoorM11
import Derived.Test.YtehlmjecbljafaaGreatDoorM14
import Derived.Test.YtehlmjecbljafaaGreatDoorM17
import Derived.Test.YtehlmjecbljafaaGreatDoorM20
import Derived.Test.YtehlmjecbljafaaGreatDoorM21
import Derived.Lib.AppendStr
namespace Go.Proofs.YtehlmjecbljafaaGreatDoor
open Go Go.RowKit
theorem first_dot : ∀ {r : List UInt8}, 46 ∈ r → ∃ t r2, r = t ++ 46 :: r2 ∧ 46 ∉ t
  | [], h => by cases h
  | c :: r, h => by
    by_cases hc : c = 46
    · exact ⟨[], r, by rw [hc]; rfl, by simp⟩
    · obtain ⟨t, r2, e, ht⟩ := first_dot (r := r) (by
        rcases List.mem_cons.1 h with h | h
        · exact absurd h.symm hc
        · exact h)
      exact ⟨c :: t, r2, by rw [e]; rfl, by simp only [List.mem_cons, not_or]; exact ⟨fun e => hc e.symm, ht⟩⟩
theorem conv_quiet {w : World} {a : Option Addr} {n cap : Nat} {l : List UInt8} (h : Sl w 1 (.slice a n cap) n (u8s l)) (m : Nat) : (convert 94 9 (.slice a n cap)).run Tryz.prog (w.drewN m) = .ok (.string (mk l)) (w.drewN m) :=
  conv_text (h.keep (below_drewN (Below.refl _ _) m))
theorem PartsV.at' {w wr : World} {us : List Value} {ps : List (List UInt8)} (h : PartsV w us ps) (hb : Below w.heap.size w wr) {k : Nat} (hk : k < ps.length) : ∃ a c p, us[k]? = some (.slice a p.length c) ∧ Hid (ps[k]? = some p) ∧ Sl wr 1 (.slice a p.length c) p.length (u8s p) := by
  have hk' : k < us.length := by rw [h.1]; exact hk
  have h1 := h.2 k us[k] ps[k] (List.getElem?_eq_getElem hk') (List.getElem?_eq_getElem hk)
  obtain ⟨a, c, e⟩ := h1.form
  refine ⟨a, c, ps[k], by rw [List.getElem?_eq_getElem hk', e], List.getElem?_eq_getElem hk, ?_⟩
  rw [← e]; exact h1.keep hb
set_option maxRecDepth 100000 in
set_option maxHeartbeats 3200000 in
theorem matchParts_any (v : Value) (us : List Value) (ps : List (List UInt8)) (s : ByteArray) (w : World) (hv : Sl w 1 v us.length us) (hps : PartsV w us ps) (hok : okP ps (bs s)) (hs0 : 0 < s.size) (hs : s.size ≤ 100000) (hn : ps.length ≤ 200000) :
    Calls Tryz.prog 126 #[v, .string s] w fun e w' => e = .returned (.tuple #[.slice none 0 0, .bool true]) ∧ Below w.heap.size w w' := by
  obtain ⟨va, vc, rfl⟩ := hv.form
  have hul := hps.1
  have HV := Lib.hid hv; clear hv
  have HP := Lib.hid hps; clear hps
  have HO := Lib.hid hok; clear hok
  rw [hul] at HV ⊢
  have HL := Lib.hid hul; clear hul
  have es0 : ((s.size : Int) == 0) = false := by rw [beq_eq_false_iff_ne]; omega
  go_enter Tryz.func126, Tryz.ntmps126
  go_wp2
  go_loopw [0, 7, 25] (fun v si i wr => ∃ (k j : Nat), v = .slice va ps.length vc ∧ si = .int .i64 j ∧ i = .int .i64 k ∧ j < s.size ∧ Hid (okP (ps.drop k) ((bs s).drop j)) ∧ Below w.heap.size w wr) (fun _ _ i _ => ps.length - (intOf i).toNat)
  case atStart => exact ⟨0, 0, rfl, rfl, rfl, hs0, HO.out, Below.refl _ _⟩
  case round =>
    obtain ⟨k, j, rfl, rfl, rfl, hj, hok, hb⟩ := hrel
    by_cases hlt : k < ps.length
    · obtain ⟨ua, uc, p, hu, Hp, hsl⟩ := HP.out.at' hb hlt
      obtain ⟨bv, ov, rfl, hc⟩ := HV.out.cell hb (by rw [HL.out]; omega)
      have cu := hc k _ hu
      have hd : ps.drop k = p :: ps.drop (k + 1) := by
        obtain ⟨h1, h2⟩ := List.getElem?_eq_some_iff.1 Hp.out
        rw [List.drop_eq_getElem_cons h1, h2]
      have hok' := hok.out
      rw [hd, okP] at hok'
      have HSL := Lib.hid hsl
      have hrl : ((bs s).drop j).length = s.size - j := by rw [List.length_drop, bs_len]
      clear hc hu hd hsl
      by_cases h42 : p = [42]
      · subst h42
        rw [if_pos rfl] at hok'
        obtain ⟨bp, op, rfl, hcp⟩ := slBytes HSL.out (by simp)
        have cp : wr.cell? ⟨bp, op, none⟩ = some (.int .u8 42) := hcp 0 42 rfl
        have hbe : (s.extract j s.size).data.toList = (bs s).drop j := bs_extract_end s j
        have hix := Tryz.strings_IndexByte (s.extract j s.size) 46 wr
        rw [hbe] at hix
        clear hcp hbe
        by_cases hm : 46 ∈ (bs s).drop j
        · obtain ⟨hne, hk2⟩ := hok'.1 hm
          obtain ⟨t, r2, er, ht⟩ := first_dot hm
          have hdw : (((bs s).drop j).dropWhile (· ≠ 46)).drop 1 = r2 := by rw [er]; exact dropWhile_dot ht
          rw [hdw] at hne hk2
          have hr2 : r2 = (bs s).drop (j + (t.length + 1)) := by
            rw [← List.drop_drop, er, List.drop_append, List.drop_of_length_le (by omega)]
            rw [show t.length + 1 - t.length = 1 by omega]; rfl
          have hj2 : j + (t.length + 1) < s.size := by
            have h1 : 0 < r2.length := List.length_pos_iff.2 hne
            rw [hr2, List.length_drop, bs_len] at h1
            omega
          rw [show Lib.indexByte ((bs s).drop j) ((46 : Int).toNat.toUInt8) = (t.length : Int) from indexByte_at er ht] at hix
          have HK := Lib.hid hk2; clear hk2 hok' hm er hdw
          have HR2 := Lib.hid hr2; clear hr2 hne
          go_wp2_with fail
          refine hix.mono ?_
          rintro e w2 ⟨rfl, rfl⟩
          clear hix
          go_wp2
          go_roundw
          case rel => exact ⟨k + 1, j + (t.length + 1), rfl, by go_num, by go_num, hj2, by unfold Hid; rw [← HR2.out]; exact HK.out, hb⟩
          case measure => simp [intOf]; omega
        · have hk2 := hok'.2 hm
          have hkl : ps.length = k + 1 := by
            have := congrArg List.length hk2
            rw [List.length_drop, List.length_nil] at this
            omega
          rw [show Lib.indexByte ((bs s).drop j) ((46 : Int).toNat.toUInt8) = -1 from indexByte_no hm] at hix
          have hkk : (((k : Int)) == (ps.length : Int) - 1) = true := by rw [beq_iff_eq]; omega
          clear hk2 hok' hm hkl
          go_wp2_with fail
          refine hix.mono ?_
          rintro e w2 ⟨rfl, rfl⟩
          clear hix
          go_wp2
          go_ret2
          exact ⟨rfl, hb⟩
      · rw [if_neg h42] at hok'
        by_cases h62 : p = [62]
        · subst h62
          obtain ⟨bp, op, rfl, hcp⟩ := slBytes HSL.out (by simp)
          have cp : wr.cell? ⟨bp, op, none⟩ = some (.int .u8 62) := hcp 0 62 rfl
          clear hok' hcp
          go_wp2
          go_ret2
          exact ⟨rfl, hb⟩
        · rw [if_neg h62] at hok'
          obtain ⟨hle, htk, hgo, hend⟩ := hok'
          rw [hrl] at hle hgo hend
          have hcq := conv_quiet HSL.out
          have hex : s.extract j (j + p.length) = mk p := by
            apply bs_inj
            rw [bs_extract, bs_mk, List.drop_take, show j + p.length - j = p.length by omega, htk]
          by_cases hlast : p.length < s.size - j
          · have hk2 := hgo hlast
            rw [List.drop_drop] at hk2
            have HK := Lib.hid hk2; clear hk2 hgo hend
            by_cases h1 : p.length = 1
            · obtain ⟨c, rfl⟩ := List.length_eq_one_iff.1 h1
              obtain ⟨bp, op, rfl, hcp⟩ := slBytes HSL.out (by simp)
              have cp : wr.cell? ⟨bp, op, none⟩ = some (.int .u8 (c.toNat : Int)) := hcp 0 c rfl
              have e42 : ((c.toNat : Int) == 42) = false := by
                rw [beq_eq_false_iff_ne]; intro e; have h3 : c = 42 := UInt8.toNat_inj.1 (show c.toNat = 42 by omega); exact h42 (by rw [h3])
              have e62 : ((c.toNat : Int) == 62) = false := by
                rw [beq_eq_false_iff_ne]; intro e; have h3 : c = 62 := UInt8.toNat_inj.1 (show c.toNat = 62 by omega); exact h62 (by rw [h3])
              have hcq1 : ∀ m, (convert 94 9 (.slice (some ⟨bp, op, none⟩) 1 uc)).run Tryz.prog (wr.drewN m) = .ok (.string (mk [c])) (wr.drewN m) := hcq
              have hex1 : s.extract j (j + 1) = mk [c] := hex
              simp only [List.length_cons, List.length_nil] at hle hlast
              have hmin : min ((j : Int) + 1) (s.size : Int) = (j : Int) + 1 := by omega
              have hj2 : j + 1 < s.size := by omega
              clear hcp h42 h62 htk h1 hcq hex hlast hle
              go_wp2
              go_quiet (fail)
              go_wp2
              go_roundw
              case rel => exact ⟨k + 1, j + 1, rfl, by go_num, by go_num, hj2, HK.out, below_drewN hb _⟩
              case measure => simp [intOf]; omega
            · have e1 : ((p.length : Int) == 1) = false := by rw [beq_eq_false_iff_ne]; omega
              have hmin : min ((j : Int) + (p.length : Int)) (s.size : Int) = (j : Int) + (p.length : Int) := by omega
              have hj2 : j + p.length < s.size := by omega
              clear h42 h62 htk h1 hlast hle
              go_wp2
              go_quiet (fail)
              go_wp2
              go_roundw
              case rel => exact ⟨k + 1, j + p.length, rfl, by go_num, by go_num, hj2, HK.out, below_drewN hb _⟩
              case measure => simp [intOf]; omega
          · have hk2 := hend (by omega)
            have hkl : ps.length = k + 1 := by
              have := congrArg List.length hk2
              rw [List.length_drop, List.length_nil] at this
              omega
            have hkk : (((k : Int)) == (ps.length : Int) - 1) = true := by rw [beq_iff_eq]; omega
            clear hk2 hgo hend hkl
            by_cases h1 : p.length = 1
            · obtain ⟨c, rfl⟩ := List.length_eq_one_iff.1 h1
              obtain ⟨bp, op, rfl, hcp⟩ := slBytes HSL.out (by simp)
              have cp : wr.cell? ⟨bp, op, none⟩ = some (.int .u8 (c.toNat : Int)) := hcp 0 c rfl
              have e42 : ((c.toNat : Int) == 42) = false := by
                rw [beq_eq_false_iff_ne]; intro e; have h3 : c = 42 := UInt8.toNat_inj.1 (show c.toNat = 42 by omega); exact h42 (by rw [h3])
              have e62 : ((c.toNat : Int) == 62) = false := by
                rw [beq_eq_false_iff_ne]; intro e; have h3 : c = 62 := UInt8.toNat_inj.1 (show c.toNat = 62 by omega); exact h62 (by rw [h3])
              have hcq1 : ∀ m, (convert 94 9 (.slice (some ⟨bp, op, none⟩) 1 uc)).run Tryz.prog (wr.drewN m) = .ok (.string (mk [c])) (wr.drewN m) := hcq
              have hex1 : s.extract j (j + 1) = mk [c] := hex
              simp only [List.length_cons, List.length_nil] at hle hlast
              have hmin : min ((j : Int) + 1) (s.size : Int) = (j : Int) + 1 := by omega
              have hj2 : s.size ≤ j + 1 := by omega
              clear hcp h42 h62 htk h1 hcq hex hlast hle
              go_wp2
              go_quiet (fail)
              go_wp2
              go_ret2
              exact ⟨rfl, below_drewN hb _⟩
            · have e1 : ((p.length : Int) == 1) = false := by rw [beq_eq_false_iff_ne]; omega
              have hmin : min ((j : Int) + (p.length : Int)) (s.size : Int) = (j : Int) + (p.length : Int) := by omega
              have hj2 : s.size ≤ j + p.length := by omega
              clear h42 h62 htk h1 hlast hle
              go_wp2
              go_quiet (fail)
              go_wp2
              go_ret2
              exact ⟨rfl, below_drewN hb _⟩
    · exfalso
      have hok := hok.out
      rw [List.drop_of_length_le (by omega)] at hok
      exact hok
end Go.Proofs.YtehlmjecbljafaaGreatDoor
namespace Go.Proofs.YtehlmjecbljafaaGreatDoor
open Go Go.RowKit
theorem isLeafM (a : Option Addr) (w : World) : (method 508 197 (.pointer a) "pub-tokenroad/pub/natsserver/server/stree.isLeaf").run Tryz.prog w = .ok (291, .pointer a) w := by
  kernel_rfl
theorem pathM (a : Option Addr) (w : World) : (method 508 197 (.pointer a) "pub-tokenroad/pub/natsserver/server/stree.path").run Tryz.prog w = .ok (295, .pointer a) w := by
  kernel_rfl
theorem et41 : ET Tryz.prog 41 44 2 24 (.agg #[.string ⟨#[]⟩, .int .i64 0]) := ⟨Tryz.underlying41, by kernel_rfl, rfl, by decide, by decide⟩
theorem cell_only {F : Nat → Prop} {w w' : World} {a : Addr} {x : Value} (h : w.cell? a = some x) (ho : Only F w w') (hF : ¬ F a.block) : w'.cell? a = some x :=
  (World.cell?_of_block (ho.block a.block (World.block_lt_of_cell? _ _ h) hF)).trans h
theorem Sl.only {F : Nat → Prop} {w w' : World} {sz n cap : Nat} {a : Option Addr} {xs : List Value} (h : Sl w sz (.slice a n cap) n xs) (ho : Only F w w') (hF : ∀ b o, a = some ⟨b, o, none⟩ → ¬ F b) : Sl w' sz (.slice a n cap) n xs := by
  obtain ⟨h1, a', cap', e, h2, h3, h4⟩ := h
  cases e
  refine ⟨h1, _, _, rfl, h2, h3, fun hp => ?_⟩
  obtain ⟨b, o, rfl, hc⟩ := h4 hp
  exact ⟨b, o, rfl, fun j x hj => cell_only (hc j x hj) ho (hF b o rfl)⟩
theorem Only.drewL {F : Nat → Prop} {w w' : World} (h : Only F w.drew w') : Only F w w' := ⟨h.os, h.tape, h.output, h.size, h.block⟩
set_option maxRecDepth 100000 in
set_option maxHeartbeats 1600000 in
/-- The callback puts down one entry more. -/
theorem cb55_any (v : Value) (l : List UInt8) (bv ov : Nat) (n : Int) (Bo : Nat) (o : Value) (cnt : Nat) (xs : List Value) (F : Nat → Prop) (w : World) (hv : Sl w 1 v l.length (u8s l)) (hval : w.cell? ⟨bv, ov, none⟩ = some (.int .i64 n))
    (hBo : w.heap[Bo]? = some (.cells #[o] 41 (0, 0))) (hown : Own w (Bo + 1) 2 o cnt xs) (hF : ∀ k, o.ownBlock = some k → ¬ F k) (hlt : ∀ k, F k → k < w.heap.size) (hn : cnt < 549755813888)
    (hFv : F bv) (hFs : ∀ b o n c, v = .slice (some ⟨b, o, none⟩) n c → F b) :
    Calls Tryz.prog 55 #[v, .pointer (some ⟨bv, ov, none⟩), .pointer (some ⟨Bo, 0, none⟩)] w fun e w' => e = .returned (.tuple #[]) ∧ ∃ o', w'.heap[Bo]? = some (.cells #[o'] 41 (0, 0)) ∧ Own w' (Bo + 1) 2 o' (cnt + 1) (xs ++ [.string (mk l), .int .i64 n]) ∧
      (∀ k, o'.ownBlock = some k → ¬ F k) ∧ Only (fun k => k = Bo ∨ o.ownBlock = some k) w w' := by
  obtain ⟨a, cap, rfl⟩ := hv.form
  obtain ⟨oa, oc, rfl, -⟩ := hown.form
  have hlo := (Array.getElem?_eq_some_iff.1 hBo).1
  have hlv := World.block_lt_of_cell? _ _ hval
  have hc0 := (cell_row (j := 0) hBo).trans (show _ = some (Value.slice oa cnt oc) from rfl)
  have hfz := frozen_row (j := 0) hBo
  have hob : ∀ k, (Value.slice oa cnt oc).ownBlock = some k → k ≠ Bo := fun k hk e => by have := (hown.lt k hk).1; omega
  have hvb : ∀ b o, a = some ⟨b, o, none⟩ → ¬ (Value.slice oa cnt oc).ownBlock = some b := fun b o e h => hF b h (hFs b o l.length cap (by rw [e]))
  have hnb : ¬ (Value.slice oa cnt oc).ownBlock = some bv := fun h => hF bv h hFv
  have HV := Lib.hid hv; clear hv
  have HW := Lib.hid hown; clear hown
  have HS : ∀ o, (fun W' : World => W'.cell? ⟨Bo, 0, none⟩ = some (.slice oa cnt oc) ∧ W'.cell? ⟨bv, ov, none⟩ = some (.int .i64 n) ∧ Sl W' 1 (.slice a l.length cap) l.length (u8s l)) (w.drew.alloc o) := fun o =>
    ⟨cell_alloc o hc0, cell_alloc o hval, (HV.out.keep (Below.refl _ w).drew).keep ((Below.refl _ _).alloc (Nat.le_refl _) o)⟩
  go_enter Tryz.func55, Tryz.ntmps55
  go_wp2_with fail
  refine wp_region_L [0, 1, 2, 3, 4, 5] (fun W' => W'.cell? ⟨Bo, 0, none⟩ = some (.slice oa cnt oc) ∧ W'.cell? ⟨bv, ov, none⟩ = some (.int .i64 n) ∧ Sl W' 1 (.slice a l.length cap) l.length (u8s l)) (by kernel_rfl) (by kernel_rfl) ⟨hc0, hval, HV.out.keep (Below.refl _ w).drew⟩ (fun ne => ?_)
  have S0 := fun x : SubC (fun W' => W'.cell? ⟨Bo, 0, none⟩ = some (.slice oa cnt oc) ∧ W'.cell? ⟨bv, ov, none⟩ = some (.int .i64 n) ∧ Sl W' 1 (.slice a l.length cap) l.length (u8s l)) => x.ok.1
  have S1 := fun x : SubC (fun W' => W'.cell? ⟨Bo, 0, none⟩ = some (.slice oa cnt oc) ∧ W'.cell? ⟨bv, ov, none⟩ = some (.int .i64 n) ∧ Sl W' 1 (.slice a l.length cap) l.length (u8s l)) => x.ok.2.1
  have S2 := fun x : SubC (fun W' => W'.cell? ⟨Bo, 0, none⟩ = some (.slice oa cnt oc) ∧ W'.cell? ⟨bv, ov, none⟩ = some (.int .i64 n) ∧ Sl W' 1 (.slice a l.length cap) l.length (u8s l)) => conv_text x.ok.2.2
  repeat (refine wpCL_q rfl rfl ?_; go_big_quiet_step (fail); refine wpQuiet_nil ?_)
  refine wpCL_n rfl rfl rfl rfl ?_
  go_simp
  repeat (refine wpCL_q rfl rfl ?_; go_big_quiet_step (fail); refine wpQuiet_nil ?_)
  refine wpCL_w rfl rfl ?_
  go_wp2
  refine ⟨⟨⟨w.drew, hc0, hval, HV.out.keep (Below.refl _ w).drew⟩, rfl⟩, ?_⟩
  refine wpCL_w rfl rfl ?_
  go_wp2_with fail
  refine ⟨⟨⟨_, HS _⟩, rfl⟩, ?_⟩
  refine wpCL_ch rfl rfl (fun K hK => ?_)
  refine runs_appX (W := w.drew) (v := .slice oa cnt oc) (n := cnt) (xs := xs) et41 _ _ rfl (Bo + 1) (fun k => F k ∨ k = Bo) rfl (HW.out.keep (Below.refl _ w).drew) (fun k hk => by
    rintro (h | h)
    · exact hF k hk h
    · exact hob k hk h) (fun k hk => by rcases hk with h | h; exact hlt k h; exact h ▸ hlo) [.string (mk l), .int .i64 n] rfl rfl (by simp [Value.oneCell']) hn (by exact hlo) ?_
  intro v' w1 hown1 hF1 honly
  have honly1 := honly.drewL
  obtain ⟨va', vc', rfl, -⟩ := hown1.form
  clear honly
  have k0 := cell_only hc0 honly1 (fun h => hob Bo h rfl)
  have k1 := cell_only hval honly1 hnb
  have kf : w1.frozen? ⟨Bo, 0, none⟩ = false := by
    rw [← hfz]; unfold World.frozen?; rw [honly1.block Bo hlo (fun h => hob Bo h rfl)]
  have kh := (honly1.block Bo hlo (fun h => hob Bo h rfl)).trans hBo
  refine hK _ _ ⟨⟨w1, k0, k1, HV.out.only honly1 hvb⟩, rfl⟩ ?_
  clear hK K
  go_simp
  refine wpCL_last ?_
  go_wp2
  go_end0
  refine ⟨rfl, .slice va' (cnt + 1) vc', ?_, ?_, fun k hk h => hF1 k hk (.inl h), ?_⟩
  · have := heap_setCell_same w1 Bo 0 _ 41 (.slice va' (cnt + 1) vc') kh
    exact this
  · exact hown1.kept fun k hk => heap_setCell_other _ _ _ _ (fun e => hF1 k hk (.inr e))
  · exact (honly1.mono fun k hk => .inr hk).set (.inl (.inl rfl)) _
set_option maxRecDepth 100000 in
set_option maxHeartbeats 1600000 in
/-- The same through the tree's own callback. -/
theorem cb93_any (v : Value) (l : List UInt8) (bv ov : Nat) (n : Int) (Bo Bc : Nat) (o : Value) (cnt : Nat) (xs : List Value) (F : Nat → Prop) (w : World) (hv : Sl w 1 v l.length (u8s l)) (hval : w.cell? ⟨bv, ov, none⟩ = some (.int .i64 n))
    (hBc : w.heap[Bc]? = some (.cells #[.func (.func 55) #[] #[.pointer (some ⟨Bo, 0, none⟩)]] 96 (0, 0)))
    (hBo : w.heap[Bo]? = some (.cells #[o] 41 (0, 0))) (hown : Own w (Bo + 1) 2 o cnt xs) (hF : ∀ k, o.ownBlock = some k → ¬ F k) (hlt : ∀ k, F k → k < w.heap.size) (hn : cnt < 549755813888)
    (hFv : F bv) (hFs : ∀ b o n c, v = .slice (some ⟨b, o, none⟩) n c → F b) :
    Calls Tryz.prog 93 #[v, .pointer (some ⟨bv, ov, none⟩), .pointer (some ⟨Bc, 0, none⟩)] w fun e w' => e = .returned (.bool true) ∧ ∃ o', w'.heap[Bo]? = some (.cells #[o'] 41 (0, 0)) ∧ Own w' (Bo + 1) 2 o' (cnt + 1) (xs ++ [.string (mk l), .int .i64 n]) ∧
      (∀ k, o'.ownBlock = some k → ¬ F k) ∧ Only (fun k => k = Bo ∨ o.ownBlock = some k) w w' := by
  have hcb := cb55_any v l bv ov n Bo o cnt xs F w hv hval hBo hown hF hlt hn hFv hFs
  have hc0 := (cell_row (j := 0) hBc).trans (show _ = some (Value.func (.func 55) #[] #[.pointer (some ⟨Bo, 0, none⟩)]) from rfl)
  obtain ⟨a, cap, rfl⟩ := hv.form
  clear hBo hown hF hlt hn hFv hFs hv
  go_enter Tryz.func93, Tryz.ntmps93
  go_wp2_with fail
  refine hcb.mono ?_
  rintro e w1 ⟨rfl, h⟩
  go_wp2
  go_ret
  exact ⟨rfl, h⟩
end Go.Proofs.YtehlmjecbljafaaGreatDoor
namespace Go.Proofs.YtehlmjecbljafaaGreatDoor
open Go Go.RowKit
theorem run_appRoom {P : Program} (w : World) (t u ty e t0 : TypeId) (i : TypeInfo) (ht : P.underlying t = some (.slice e)) (hu : P.underlying u = some .string) (hi : P.info? e = some i) (hs1 : i.size = 1)
    (g sLen sCap : Nat) (cur : Array Value) (hg : w.heap[g]? = some (.cells cur t0 (0, 0))) (s : ByteArray) (hroom : sLen + s.size ≤ sCap) (hfit : sLen + s.size ≤ cur.size) :
    (Builtin.append_ #[t, u] ty #[.slice (some ⟨g, 0, none⟩) sLen sCap, .string s]).run P w =
      .ok (.slice (some ⟨g, 0, none⟩) (sLen + s.size) sCap) (w.setRow g (cur.toList.take sLen ++ Lib.strCells s ++ cur.toList.drop (sLen + s.size)).toArray) := by
  have hf := Lib.run_firstCells_string (P := P) w 1 s
  have hst := run_storeCells_at P g sLen t0 (Lib.strCells s) 0 cur w hg (by simpa [Lib.strCells_length] using hfit) (Lib.strCells_oneCell s)
  simp only [Nat.add_zero, Lib.strCells_length] at hst
  simp [Builtin.append_, run_underlying ht, run_underlying hu, sizeOf, typeInfo, hi, hs1, Builtin.lenOf, hroom, hf, Addr.add_lit, hst]
theorem info5 : (Tryz.prog.info? 5).map (fun i => (i.zero, i.size, i.bytes)) = some (some (.int .u8 0), 1, 1) := by kernel_rfl
theorem app_str {t0 : TypeId} (W : World) (Bp cap : Nat) (cur : Array Value) (pre : List UInt8) (str : ByteArray) (ty : TypeId) (hg : W.heap[Bp]? = some (.cells cur t0 (0, 0))) (hpre : BsAt W Bp 0 pre) (hroom : pre.length + str.size ≤ cap) (hfit : pre.length + str.size ≤ cur.size) :
    ∃ W' cur', (Builtin.append_ #[94, 9] ty #[.slice (some ⟨Bp, 0, none⟩) pre.length cap, .string str]).run Tryz.prog W = .ok (.slice (some ⟨Bp, 0, none⟩) (pre.length + str.size) cap) W' ∧ W'.heap[Bp]? = some (.cells cur' t0 (0, 0)) ∧ cur'.size = cur.size ∧
      BsAt W' Bp 0 (pre ++ bs str) ∧ Only (· = Bp) W W' := by
  obtain ⟨i, hi, -, h1, -⟩ := info_parts info5
  have hr := run_appRoom (P := Tryz.prog) W 94 9 ty 5 t0 i Tryz.underlying94 Tryz.underlying9 hi h1 Bp pre.length cap cur hg str hroom hfit
  have hsl : (Lib.strCells str).length = str.size := Lib.strCells_length str
  have hh := setRow_heap W Bp cur (cur.toList.take pre.length ++ Lib.strCells str ++ cur.toList.drop (pre.length + str.size)).toArray t0 (0, 0) hg
  refine ⟨_, _, hr, hh, by simp [hsl]; omega, fun j c hj => ?_, ⟨rfl, rfl, rfl, by simp, fun k _ hk => setRow_other W Bp k _ hk⟩⟩
  rw [Nat.zero_add, cell_row hh]
  have htl : (cur.toList.take pre.length).length = pre.length := by simp; omega
  rcases Nat.lt_or_ge j pre.length with h | h
  · rw [List.getElem?_append_left h] at hj
    have := hpre j c hj
    rw [Nat.zero_add, cell_row hg] at this
    simp only [List.append_assoc, List.getElem?_toArray]
    rw [List.getElem?_append_left (by omega), List.getElem?_take, if_pos h]
    simpa using this
  · rw [List.getElem?_append_right h] at hj
    have hjl := (List.getElem?_eq_some_iff.1 hj).1
    rw [bs_len] at hjl
    simp only [List.append_assoc, List.getElem?_toArray]
    rw [List.getElem?_append_right (by omega), htl, List.getElem?_append_left (by omega)]
    unfold Lib.strCells
    rw [List.getElem?_map]
    unfold bs at hj
    rw [hj]; rfl
theorem runs_appStr {t0 : TypeId} {o : Oper} {a : Act} {K : Value → World → Prop} {W : World} (s x : Operand) (ho : o.op = .call { callee := .builtin .append, args := #[s, x], argTypes := #[94, 9] })
    (Bp cap n : Nat) (cur : Array Value) (pre : List UInt8) (str : ByteArray) (hn : pre.length = n) (hs : a.eval s = .slice (some ⟨Bp, 0, none⟩) n cap) (hx : a.eval x = .string str) (hg : W.heap[Bp]? = some (.cells cur t0 (0, 0))) (hpre : BsAt W Bp 0 pre)
    (hroom : n + str.size ≤ cap) (hfit : n + str.size ≤ cur.size)
    (h : ∀ W' cur', W'.heap[Bp]? = some (.cells cur' t0 (0, 0)) → cur'.size = cur.size → BsAt W' Bp 0 (pre ++ bs str) → Only (· = Bp) W W' → K (.slice (some ⟨Bp, 0, none⟩) (n + str.size) cap) W') :
    runsTo Tryz.prog K ((execOp a.eval o).run Tryz.prog W) := by
  subst hn
  obtain ⟨W', cur', hrun, h1, h2, h3, h4⟩ := app_str W Bp cap cur pre str o.type hg hpre hroom hfit
  unfold execOp
  simp only [ho, resolve, invoke, builtin, Sem.run_bind, Sem.run_pure, Result.andThen_ok, List.map_toArray, List.map_cons, List.map_nil, hs, hx, hrun]
  exact h W' cur' h1 h2 h3 h4
end Go.Proofs.YtehlmjecbljafaaGreatDoor
