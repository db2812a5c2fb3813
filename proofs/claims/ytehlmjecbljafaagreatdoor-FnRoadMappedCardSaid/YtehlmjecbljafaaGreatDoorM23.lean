/- A subject tree of one leaf: the match. -/
import Derived.Test.YtehlmjecbljafaaGreatDoorM22
namespace Go.Proofs.YtehlmjecbljafaaGreatDoor
open Go Go.RowKit
set_option maxRecDepth 100000 in
set_option maxHeartbeats 800000 in
theorem leafPath_any (L : Nat) (x : Value) (s : ByteArray) (w : World) (h : w.heap[L]? = some (.cells #[x, .string s] 199 (0, 0))) :
    Calls Tryz.prog 295 #[.pointer (some ⟨L, 0, none⟩)] w fun e w' => e = .returned (.string s) ∧ w' = w := by
  have hc1 := (cell_row (j := 1) h).trans (show _ = some (Value.string s) from rfl)
  go_enter Tryz.func295, Tryz.ntmps295
  go_wp2
  go_ret
  exact ⟨rfl, rfl⟩
set_option maxRecDepth 100000 in
set_option maxHeartbeats 800000 in
theorem leafIs_any (a : Option Addr) (w : World) : Calls Tryz.prog 291 #[.pointer a] w fun e w' => e = .returned (.bool true) ∧ w' = w := by
  go_enter Tryz.func291, Tryz.ntmps291
  go_wp2
  go_ret
  exact ⟨rfl, rfl⟩
theorem leafAs (v : Value) (w : World) : (Instr.typeAssert (.iface 197 v) 137 197 false).run Tryz.prog w = .ok v w := by kernel_rfl
set_option maxRecDepth 100000 in
set_option maxHeartbeats 3200000 in
theorem matchLeaf_any (t : Value) (L Bp Bc Bo : Nat) (n : Int) (s : ByteArray) (v : Value) (us : List Value) (ps : List (List UInt8)) (cur : Array Value) (o : Value) (cnt : Nat) (xs : List Value) (F : Nat → Prop) (w : World)
    (hL : w.heap[L]? = some (.cells #[.int .i64 n, .string s] 199 (0, 0))) (hv : Sl w 1 v us.length us) (hps : PartsV w us ps) (hok : okP ps (bs s)) (hne : ∀ p, ps[ps.length - 1]? = some p → p ≠ []) (hs0 : 0 < s.size) (hs : s.size ≤ 256) (hpn : ps.length ≤ 200000)
    (hBp : w.heap[Bp]? = some (.cells cur 143 (0, 0))) (hcur : cur.size = 256)
    (hBc : w.heap[Bc]? = some (.cells #[.func (.func 55) #[] #[.pointer (some ⟨Bo, 0, none⟩)]] 96 (0, 0)))
    (hBo : w.heap[Bo]? = some (.cells #[o] 41 (0, 0))) (hown : Own w (Bo + 1) 2 o cnt xs) (hF : ∀ k, o.ownBlock = some k → ¬ F k) (hlt : ∀ k, F k → k < w.heap.size) (hn : cnt < 549755813888)
    (hFL : F L) (hFp : F Bp) (hFo : ¬ F Bo) (hFc : F Bc) (hpc : Bp ≠ Bc) (hpL : Bp ≠ L) :
    Calls Tryz.prog 92 #[t, .iface 197 (.pointer (some ⟨L, 0, none⟩)), v, .slice (some ⟨Bp, 0, none⟩) 0 256, .func (.func 93) #[] #[.pointer (some ⟨Bc, 0, none⟩)]] w fun e w' => e = .returned (.bool true) ∧ ∃ o', w'.heap[Bo]? = some (.cells #[o'] 41 (0, 0)) ∧
      Own w' (Bo + 1) 2 o' (cnt + 1) (xs ++ [.string s, .int .i64 n]) ∧ (∀ k, o'.ownBlock = some k → ¬ F k) ∧ Only (fun k => k = Bo ∨ k = Bp ∨ o.ownBlock = some k) w w' := by
  obtain ⟨va, vc, rfl⟩ := hv.form
  have hul := hps.1
  have hp0 : 0 < ps.length := by
    rcases Nat.eq_zero_or_pos ps.length with h | h
    · rw [List.eq_nil_of_length_eq_zero h] at hok; exact absurd hok (by simp [okP])
    · exact h
  obtain ⟨ua, uc, p, hu, Hp, hsl⟩ := hps.at' (Below.refl _ w) (k := ps.length - 1) (by omega)
  obtain ⟨bv, ov, rfl, hc⟩ := Sl.cell hv (Below.refl _ w) (by omega)
  have cu := hc _ _ hu
  have hpne := hne p Hp.out
  have hpl : 0 < p.length := List.length_pos_iff.2 hpne
  obtain ⟨bp, op, rfl, hcp⟩ := slBytes hsl hpne
  obtain ⟨c, hc0⟩ : ∃ c, p[0]? = some c := ⟨_, List.getElem?_eq_getElem hpl⟩
  have cp : w.cell? ⟨bp, op, none⟩ = some (.int .u8 (c.toNat : Int)) := hcp 0 c hc0
  have hmp := matchParts_any _ us ps s w hv hps hok hs0 (by omega) hpn
  have hlL := (Array.getElem?_eq_some_iff.1 hL).1
  have hlp := (Array.getElem?_eq_some_iff.1 hBp).1
  have hlc := (Array.getElem?_eq_some_iff.1 hBc).1
  have hlo := (Array.getElem?_eq_some_iff.1 hBo).1
  rw [hul] at hmp ⊢
  have x1 : ((ps.length : Int) - 1).toNat = ps.length - 1 := by omega
  have x2 : (0 : Int) ≤ (ps.length : Int) - 1 := by omega
  have el0 : ((p.length : Int) > 0) := by omega
  have HN := Lib.hid (And.intro hpne hc0); clear hpne hc0
  clear hc hcp hne hok hps hv hsl hu hul
  have iL : ∀ w, (method 508 197 (.pointer (some ⟨L, 0, none⟩)) "pub-tokenroad/pub/natsserver/server/stree.isLeaf").run Tryz.prog w = .ok (291, .pointer (some ⟨L, 0, none⟩)) w := fun w => isLeafM _ w
  have iP : ∀ w, (method 508 197 (.pointer (some ⟨L, 0, none⟩)) "pub-tokenroad/pub/natsserver/server/stree.path").run Tryz.prog w = .ok (295, .pointer (some ⟨L, 0, none⟩)) w := fun w => pathM _ w
  have iA : ∀ w, (Instr.typeAssert (.iface 197 (.pointer (some ⟨L, 0, none⟩))) 137 197 false).run Tryz.prog w = .ok (.pointer (some ⟨L, 0, none⟩)) w := fun w => leafAs _ w
  have HOw := Lib.hid hown; clear hown
  go_enter Tryz.func92, Tryz.ntmps92
  go_wp2
  all_goals
    go_loopw [1, 2, 3] (fun a b c wr => a = .iface 197 (.pointer (some ⟨L, 0, none⟩)) ∧ b = .slice (some ⟨bv, ov, none⟩) ps.length vc ∧ c = .slice (some ⟨Bp, 0, none⟩) 0 256 ∧ wr = w) (fun _ _ _ _ => 0)
    case atStart => exact ⟨rfl, rfl, rfl, rfl⟩
    case round =>
      obtain ⟨rfl, rfl, rfl, rfl⟩ := hrel
      go_wp2_with fail
      refine (leafPath_any L _ s _ hL).mono ?_
      rintro e w2 ⟨rfl, rfl⟩
      go_wp2_with fail
      refine hmp.mono ?_
      rintro e w2 ⟨rfl, hbw⟩
      clear hmp cu cp el0 x1 x2
      have hL3 := (hbw.block L hlL).trans hL
      have hBp3 := (hbw.block Bp hlp).trans hBp
      have hBc3 := (hbw.block Bc hlc).trans hBc
      have hBo3 := (hbw.block Bo hlo).trans hBo
      have hw3 := HOw.out.keep hbw
      have hsz3 := hbw.size
      have HO3 := Lib.hid hw3; clear hw3
      have HB := Lib.hid hbw; clear hbw
      have cs := (cell_row (j := 1) hL3).trans (show _ = some (Value.string s) from rfl)
      have cn := (cell_row (j := 0) hL3).trans (show _ = some (Value.int .i64 n) from rfl)
      go_wp2_with fail
      refine (leafIs_any _ w2).mono ?_
      rintro e w3 ⟨rfl, rfl⟩
      go_wp2_with fail
      refine wp_region_L [0, 1, 2, 3, 4, 5, 7, 8, 9] (fun W' => W'.cell? ⟨L, 1, none⟩ = some (.string s)) (by kernel_rfl) (by kernel_rfl) cs (fun ne => ?_)
      have S0 := fun x : SubC (fun W' => W'.cell? ⟨L, 1, none⟩ = some (.string s)) => x.ok
      repeat (refine wpCL_q rfl rfl ?_; go_big_quiet_step (fail); refine wpQuiet_nil ?_)
      refine wpCL_n rfl rfl rfl rfl ?_
      go_simp
      repeat (refine wpCL_q rfl rfl ?_; go_big_quiet_step (fail); refine wpQuiet_nil ?_)
      refine wpCL_ch rfl rfl (fun K hK => ?_)
      refine runs_appStr (W := w3.drew) _ _ rfl Bp 256 0 cur [] s rfl rfl rfl hBp3 (fun j c h => by simp at h) (by omega) (by omega) ?_
      intro W1 cur1 hBp1 hcur1 hbs1 honlyD
      have honly1 := honlyD.drewL
      clear honlyD
      refine hK _ _ ⟨⟨W1, cell_only cs honly1 (fun h => hpL h.symm)⟩, rfl⟩ ?_
      clear hK K
      simp only [Nat.zero_add]
      have hz1 := honly1.size
      have hsl1 : Sl W1 1 (.slice (some ⟨Bp, 0, none⟩) s.size 256) (bs s).length (u8s (bs s)) := by
        rw [bs_len]; exact hbs1.sl (bs_len s) (by omega) (by decide)
      have hL1 := (honly1.block L (by omega) (fun h => hpL h.symm)).trans hL3
      have cn1 := (cell_row (j := 0) hL1).trans (show _ = some (Value.int .i64 n) from rfl)
      have hBc1 := (honly1.block Bc (by omega) (fun h => hpc h.symm)).trans hBc3
      have hBo1 := (honly1.block Bo (by omega) (fun h => hFo (h ▸ hFp))).trans hBo3
      have hown1 := HO3.out.only honly1 (fun k hk h => hF k hk (h ▸ hFp))
      have hcb := cb93_any (.slice (some ⟨Bp, 0, none⟩) s.size 256) (bs s) L 0 n Bo Bc o cnt xs F W1 hsl1 cn1 hBc1 hBo1 hown1 hF (fun k hk => by have := hlt k hk; omega) hn hFL (fun b o n c e => by cases e; exact hFp)
      rw [mk_bs] at hcb
      have cs1 := (cell_row (j := 1) hL1).trans (show _ = some (Value.string s) from rfl)
      have hlL1 : L < W1.heap.size := by omega
      clear hsl1 cn1 hBc1 hBo1 hown1 hbs1 hcur1 hBp1 cn hBo3 hBc3 hBp3
      go_simp
      repeat (refine wpCL_q rfl rfl ?_; go_big_quiet_step (fail); refine wpQuiet_nil ?_)
      refine wpCL_n rfl rfl rfl rfl ?_
      go_simp
      repeat (refine wpCL_q rfl rfl ?_; go_big_quiet_step (fail); refine wpQuiet_nil ?_)
      refine wpCL_ch rfl rfl (fun K hK => ?_)
      go_simp
      simp only [runsTo_enter]
      refine hcb.mono ?_
      rintro e w4 ⟨rfl, o', h1, h2, h3, h4⟩
      refine ⟨_, rfl, hK _ _ ⟨⟨w4, cell_only cs1 h4 (fun h => by
        rcases h with h | h
        · exact hFo (h ▸ hFL)
        · exact hF _ h hFL)⟩, rfl⟩ ?_⟩
      clear hK K hcb
      go_simp
      refine wpCL_last ?_
      go_wp2
      go_ret
      refine ⟨rfl, o', h1, h2, h3, ?_⟩
      refine Only.trans (Only.trans (Only.of HB.out) (honly1.mono (F' := fun k => k = Bo ∨ k = Bp ∨ o.ownBlock = some k) fun k hk => .inr (.inl hk)) fun b hb => .inl hb) (h4.mono (F' := fun k => k = Bo ∨ k = Bp ∨ o.ownBlock = some k) fun k hk => hk.imp id .inr) fun b hb => .inl hb
end Go.Proofs.YtehlmjecbljafaaGreatDoor
