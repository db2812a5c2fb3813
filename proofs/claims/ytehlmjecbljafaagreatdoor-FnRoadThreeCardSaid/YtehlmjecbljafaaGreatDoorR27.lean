/- Nodes are sorted: a merge in place. -/
import Derived.Test.YtehlmjecbljafaaGreatDoorR26
namespace Go.Proofs.YtehlmjecbljafaaGreatDoor
open Go Go.RowKit
set_option maxRecDepth 100000 in
set_option maxHeartbeats 25600000 in
theorem sym3_any (w0 : World) (g n cap : Nat) (a m b : Nat) (vs : List Value) (w : World) (h : SortSt w0 g n cap vs w) (hr : IfRefs vs) (hc : CmpOK w0 g vs) (hn : n ≤ 100000) (hbn : b ≤ n) (ham : a + 1 < m) (hmb : m + 1 < b)
  (ih : ∀ (a' m' b' : Nat) (us : List Value) (w' : World), b' - a' < b - a → a' < m' → m' < b' → b' ≤ n → us.Perm vs → SortSt w0 g n cap us w' → Calls Tryz.prog 228 #[.slice (some ⟨g, 0, none⟩) n cap, .int .i64 a', .int .i64 m', .int .i64 b', cmpV] w' (SortC w0 g n cap us)) :
  Calls Tryz.prog 228 #[.slice (some ⟨g, 0, none⟩) n cap, .int .i64 a, .int .i64 m, .int .i64 b, cmpV] w (SortC w0 g n cap vs) := by
 have HS := Lib.hid h; clear h
 have HR := Lib.hid hr; clear hr
 have HC := Lib.hid hc; clear hc
 have IH := Lib.hid ih; clear ih
 have e1 : (((m : Int) - (a : Int)) == 1) = false := by rw [beq_eq_false_iff_ne]; omega
 have e2 : (((b : Int) - (m : Int)) == 1) = false := by rw [beq_eq_false_iff_ne]; omega
 obtain ⟨MID, hMID⟩ : ∃ MID : Nat, ((a : Int) + (b : Int)) / 2 = (MID : Int) := ⟨(a + b) / 2, by omega⟩
 have hM1 : a + 1 < MID := by omega
 have hM2 : MID + 1 < b := by omega
 have hM3 : 2 * MID ≤ a + b := by omega
 have hM4 : a + b ≤ 2 * MID + 1 := by omega
 obtain ⟨NN, hNN⟩ : ∃ NN : Nat, (MID : Int) + (m : Int) = (NN : Int) := ⟨MID + m, by omega⟩
 obtain ⟨PP, hPP⟩ : ∃ PP : Nat, (NN : Int) - 1 = (PP : Int) := ⟨NN - 1, by omega⟩
 go_enter Tryz.func228, Tryz.ntmps228
 by_cases hmm : MID < m
 ·obtain ⟨LO, hLO⟩ : ∃ LO : Nat, (NN : Int) - (b : Int) = (LO : Int) := ⟨NN - b, by omega⟩
  go_wp2
  go_loopw [20, 21] (fun i j wr => ∃ p q : Nat, i = .int .i64 (p : Nat) ∧ j = .int .i64 (q : Nat) ∧ LO ≤ p ∧ p ≤ q ∧ q ≤ MID ∧ Hid (SortSt w0 g n cap vs wr)) (fun i j _ => (intOf j).toNat - (intOf i).toNat)
  case atStart => exact ⟨LO, MID, by go_num, by go_num, Nat.le_refl _, by omega, Nat.le_refl _, HS⟩
  case round =>
   obtain ⟨p, q, rfl, rfl, h1, h2, h3, HU⟩ := hrel
   have HP : Hid (vs.Perm vs) := Lib.hid (List.Perm.refl _)
   by_cases hpq : p < q
   ·obtain ⟨H, hH⟩ : ∃ H : Nat, ((p : Int) + (q : Int)) / 2 = (H : Int) := ⟨(p + q) / 2, by omega⟩
    have hH1 : p ≤ H ∧ H < q := by omega
    obtain ⟨hH1, hH2⟩ := hH1
    obtain ⟨X, hX⟩ : ∃ X : Nat, (PP : Int) - (H : Int) = (X : Int) := ⟨PP - H, by omega⟩
    have hwx : IntKind.i64.wrap ((PP : Int) - (H : Int)) = (X : Int) := by rw [hX, IntKind.wrap_i64]; omega
    have hwx2 : IntKind.i64.wrap (X : Int) = (X : Int) := by rw [IntKind.wrap_i64]; omega
    obtain ⟨ty1, tb1, e1, c1, f1⟩ := HU.out.at' (HR.out.perm HP.out) (i := X) (by omega)
    obtain ⟨ty2, tb2, e2, c2, f2⟩ := HU.out.at' (HR.out.perm HP.out) (i := H) (by omega)
    have hcm := (HC.out.perm HP.out) wr.drew _ _ (HU.out.bel (Below.refl _ _).drew).only (List.mem_of_getElem? e1) (List.mem_of_getElem? e2)
    have x1 : (0 : Int) ≤ (X : Int) := by omega
    have x2 : (X : Int) < (n : Int) := by omega
    have y1 : (0 : Int) ≤ (H : Int) := by omega
    have y2 : (H : Int) < (n : Int) := by omega
    have hx1 : wr.drew.cell? ⟨g, X, none⟩ = some (.iface ty1 (.pointer (some ⟨tb1, 0, none⟩))) := c1
    have hx2 : wr.drew.cell? ⟨g, H, none⟩ = some (.iface ty2 (.pointer (some ⟨tb2, 0, none⟩))) := c2
    clear e1 e2 f1 f2
    go_wp2_with fail
    go_region_held3 (fun w1 => w1.cell? ⟨g, X, none⟩ = some (.iface ty1 (.pointer (some ⟨tb1, 0, none⟩))) ∧ w1.cell? ⟨g, H, none⟩ = some (.iface ty2 (.pointer (some ⟨tb2, 0, none⟩)))) (first | exact ⟨x15, x25⟩ | exact ⟨hx1, hx2⟩) (first
     | (go_at_call 150; refine hcm.mono ?_; rintro e w5 ⟨i5, rfl, hb5⟩; have x15 := cell_bel hx1 hb5; have x25 := cell_bel hx2 hb5))
    have hbw : Below wr.heap.size wr w5 := bel_drew hb5
    have HST := Lib.hid (HU.out.bel hbw)
    clear hcm hbw hb5 c1 c2 hx1 hx2 x15 x25
    by_cases hneg : i5 < 0
    ·have hnt : (!decide (i5 < 0)) = false := by simp [hneg]
     rw [hnt]
     go_wp2
     go_roundw
     case rel => exact ⟨p, H, rfl, by go_num, h1, by omega, by omega, HST⟩
     case measure => simp [intOf] <;> omega
    ·have hnt : (!decide (i5 < 0)) = true := by simp [hneg]
     rw [hnt]
     go_wp2
     go_roundw
     case rel => exact ⟨H + 1, q, by go_num, rfl, by omega, by omega, h3, HST⟩
     case measure => simp [intOf] <;> omega
   ·obtain ⟨wo, rfl⟩ : ∃ x : World, x = wr := ⟨_, rfl⟩
    obtain ⟨EN, hEN⟩ : ∃ EN : Nat, (NN : Int) - (p : Int) = (EN : Int) := ⟨NN - p, by omega⟩
    by_cases hA : p < m <;> by_cases hB : p < MID <;> by_cases hC : a < p <;> by_cases hD : EN < b <;> (try (exfalso; omega))
    ·go_wp2_with fail
     refine (rotate_any w0 g n cap cmpV p m EN vs wo HU.out (HR.out.perm HP.out) (by omega) (by omega) (by omega) hn).mono ?_
     rintro e w6 ⟨rfl, u1s, h0a, h0b⟩
     have HP0 := Lib.hid (h0a.trans HP.out)
     have HU0 := Lib.hid h0b
     clear h0a h0b
     go_wp2_with fail
     refine (IH.out a p MID u1s w6 (by omega) (by omega) (by omega) (by omega) HP0.out HU0.out).mono ?_
     rintro e w7 ⟨rfl, u2s, h1a, h1b⟩
     have HP1 := Lib.hid (h1a.trans HP0.out)
     have HU1 := Lib.hid h1b
     clear h1a h1b
     go_wp2_with fail
     refine (IH.out MID EN b u2s w7 (by omega) (by omega) (by omega) (by omega) HP1.out HU1.out).mono ?_
     rintro e w8 ⟨rfl, u3s, h2a, h2b⟩
     have HP2 := Lib.hid (h2a.trans HP1.out)
     have HU2 := Lib.hid h2b
     clear h2a h2b
     go_wp2
     all_goals go_end0
     all_goals exact ⟨rfl, _, HP2.out, HU2.out⟩
    ·go_wp2_with fail
     refine (rotate_any w0 g n cap cmpV p m EN vs wo HU.out (HR.out.perm HP.out) (by omega) (by omega) (by omega) hn).mono ?_
     rintro e w6 ⟨rfl, u1s, h0a, h0b⟩
     have HP0 := Lib.hid (h0a.trans HP.out)
     have HU0 := Lib.hid h0b
     clear h0a h0b
     go_wp2_with fail
     refine (IH.out a p MID u1s w6 (by omega) (by omega) (by omega) (by omega) HP0.out HU0.out).mono ?_
     rintro e w7 ⟨rfl, u2s, h1a, h1b⟩
     have HP1 := Lib.hid (h1a.trans HP0.out)
     have HU1 := Lib.hid h1b
     clear h1a h1b
     go_wp2
     all_goals go_end0
     all_goals exact ⟨rfl, _, HP1.out, HU1.out⟩
    ·go_wp2_with fail
     refine (rotate_any w0 g n cap cmpV p m EN vs wo HU.out (HR.out.perm HP.out) (by omega) (by omega) (by omega) hn).mono ?_
     rintro e w6 ⟨rfl, u1s, h0a, h0b⟩
     have HP0 := Lib.hid (h0a.trans HP.out)
     have HU0 := Lib.hid h0b
     clear h0a h0b
     go_wp2
     all_goals go_end0
     all_goals exact ⟨rfl, _, HP0.out, HU0.out⟩
    ·go_wp2_with fail
     refine (IH.out MID EN b vs wo (by omega) (by omega) (by omega) (by omega) HP.out HU.out).mono ?_
     rintro e w6 ⟨rfl, u1s, h0a, h0b⟩
     have HP0 := Lib.hid (h0a.trans HP.out)
     have HU0 := Lib.hid h0b
     clear h0a h0b
     go_wp2
     all_goals go_end0
     all_goals exact ⟨rfl, _, HP0.out, HU0.out⟩
 ·go_wp2
  go_loopw [20, 21] (fun i j wr => ∃ p q : Nat, i = .int .i64 (p : Nat) ∧ j = .int .i64 (q : Nat) ∧ a ≤ p ∧ p ≤ q ∧ q ≤ m ∧ Hid (SortSt w0 g n cap vs wr)) (fun i j _ => (intOf j).toNat - (intOf i).toNat)
  case atStart => exact ⟨a, m, by go_num, by go_num, Nat.le_refl _, by omega, Nat.le_refl _, HS⟩
  case round =>
   obtain ⟨p, q, rfl, rfl, h1, h2, h3, HU⟩ := hrel
   have HP : Hid (vs.Perm vs) := Lib.hid (List.Perm.refl _)
   by_cases hpq : p < q
   ·obtain ⟨H, hH⟩ : ∃ H : Nat, ((p : Int) + (q : Int)) / 2 = (H : Int) := ⟨(p + q) / 2, by omega⟩
    have hH1 : p ≤ H ∧ H < q := by omega
    obtain ⟨hH1, hH2⟩ := hH1
    obtain ⟨X, hX⟩ : ∃ X : Nat, (PP : Int) - (H : Int) = (X : Int) := ⟨PP - H, by omega⟩
    have hwx : IntKind.i64.wrap ((PP : Int) - (H : Int)) = (X : Int) := by rw [hX, IntKind.wrap_i64]; omega
    have hwx2 : IntKind.i64.wrap (X : Int) = (X : Int) := by rw [IntKind.wrap_i64]; omega
    obtain ⟨ty1, tb1, e1, c1, f1⟩ := HU.out.at' (HR.out.perm HP.out) (i := X) (by omega)
    obtain ⟨ty2, tb2, e2, c2, f2⟩ := HU.out.at' (HR.out.perm HP.out) (i := H) (by omega)
    have hcm := (HC.out.perm HP.out) wr.drew _ _ (HU.out.bel (Below.refl _ _).drew).only (List.mem_of_getElem? e1) (List.mem_of_getElem? e2)
    have x1 : (0 : Int) ≤ (X : Int) := by omega
    have x2 : (X : Int) < (n : Int) := by omega
    have y1 : (0 : Int) ≤ (H : Int) := by omega
    have y2 : (H : Int) < (n : Int) := by omega
    have hx1 : wr.drew.cell? ⟨g, X, none⟩ = some (.iface ty1 (.pointer (some ⟨tb1, 0, none⟩))) := c1
    have hx2 : wr.drew.cell? ⟨g, H, none⟩ = some (.iface ty2 (.pointer (some ⟨tb2, 0, none⟩))) := c2
    clear e1 e2 f1 f2
    go_wp2_with fail
    go_region_held3 (fun w1 => w1.cell? ⟨g, X, none⟩ = some (.iface ty1 (.pointer (some ⟨tb1, 0, none⟩))) ∧ w1.cell? ⟨g, H, none⟩ = some (.iface ty2 (.pointer (some ⟨tb2, 0, none⟩)))) (first | exact ⟨x15, x25⟩ | exact ⟨hx1, hx2⟩) (first
     | (go_at_call 150; refine hcm.mono ?_; rintro e w5 ⟨i5, rfl, hb5⟩; have x15 := cell_bel hx1 hb5; have x25 := cell_bel hx2 hb5))
    have hbw : Below wr.heap.size wr w5 := bel_drew hb5
    have HST := Lib.hid (HU.out.bel hbw)
    clear hcm hbw hb5 c1 c2 hx1 hx2 x15 x25
    by_cases hneg : i5 < 0
    ·have hnt : (!decide (i5 < 0)) = false := by simp [hneg]
     rw [hnt]
     go_wp2
     go_roundw
     case rel => exact ⟨p, H, rfl, by go_num, h1, by omega, by omega, HST⟩
     case measure => simp [intOf] <;> omega
    ·have hnt : (!decide (i5 < 0)) = true := by simp [hneg]
     rw [hnt]
     go_wp2
     go_roundw
     case rel => exact ⟨H + 1, q, by go_num, rfl, by omega, by omega, h3, HST⟩
     case measure => simp [intOf] <;> omega
   ·obtain ⟨wo, rfl⟩ : ∃ x : World, x = wr := ⟨_, rfl⟩
    obtain ⟨EN, hEN⟩ : ∃ EN : Nat, (NN : Int) - (p : Int) = (EN : Int) := ⟨NN - p, by omega⟩
    by_cases hA : p < m <;> by_cases hB : p < MID <;> by_cases hC : a < p <;> by_cases hD : EN < b <;> (try (exfalso; omega))
    ·go_wp2_with fail
     refine (rotate_any w0 g n cap cmpV p m EN vs wo HU.out (HR.out.perm HP.out) (by omega) (by omega) (by omega) hn).mono ?_
     rintro e w6 ⟨rfl, u1s, h0a, h0b⟩
     have HP0 := Lib.hid (h0a.trans HP.out)
     have HU0 := Lib.hid h0b
     clear h0a h0b
     go_wp2_with fail
     refine (IH.out a p MID u1s w6 (by omega) (by omega) (by omega) (by omega) HP0.out HU0.out).mono ?_
     rintro e w7 ⟨rfl, u2s, h1a, h1b⟩
     have HP1 := Lib.hid (h1a.trans HP0.out)
     have HU1 := Lib.hid h1b
     clear h1a h1b
     go_wp2_with fail
     refine (IH.out MID EN b u2s w7 (by omega) (by omega) (by omega) (by omega) HP1.out HU1.out).mono ?_
     rintro e w8 ⟨rfl, u3s, h2a, h2b⟩
     have HP2 := Lib.hid (h2a.trans HP1.out)
     have HU2 := Lib.hid h2b
     clear h2a h2b
     go_wp2
     all_goals go_end0
     all_goals exact ⟨rfl, _, HP2.out, HU2.out⟩
    ·go_wp2_with fail
     refine (rotate_any w0 g n cap cmpV p m EN vs wo HU.out (HR.out.perm HP.out) (by omega) (by omega) (by omega) hn).mono ?_
     rintro e w6 ⟨rfl, u1s, h0a, h0b⟩
     have HP0 := Lib.hid (h0a.trans HP.out)
     have HU0 := Lib.hid h0b
     clear h0a h0b
     go_wp2_with fail
     refine (IH.out MID EN b u1s w6 (by omega) (by omega) (by omega) (by omega) HP0.out HU0.out).mono ?_
     rintro e w7 ⟨rfl, u2s, h1a, h1b⟩
     have HP1 := Lib.hid (h1a.trans HP0.out)
     have HU1 := Lib.hid h1b
     clear h1a h1b
     go_wp2
     all_goals go_end0
     all_goals exact ⟨rfl, _, HP1.out, HU1.out⟩
    ·go_wp2_with fail
     refine (rotate_any w0 g n cap cmpV p m EN vs wo HU.out (HR.out.perm HP.out) (by omega) (by omega) (by omega) hn).mono ?_
     rintro e w6 ⟨rfl, u1s, h0a, h0b⟩
     have HP0 := Lib.hid (h0a.trans HP.out)
     have HU0 := Lib.hid h0b
     clear h0a h0b
     go_wp2
     all_goals go_end0
     all_goals exact ⟨rfl, _, HP0.out, HU0.out⟩
    ·go_wp2_with fail
     refine (IH.out a p MID vs wo (by omega) (by omega) (by omega) (by omega) HP.out HU.out).mono ?_
     rintro e w6 ⟨rfl, u1s, h0a, h0b⟩
     have HP0 := Lib.hid (h0a.trans HP.out)
     have HU0 := Lib.hid h0b
     clear h0a h0b
     go_wp2
     all_goals go_end0
     all_goals exact ⟨rfl, _, HP0.out, HU0.out⟩
    ·go_wp2
     all_goals go_end0
     all_goals exact ⟨rfl, _, HP.out, HU.out⟩
end Go.Proofs.YtehlmjecbljafaaGreatDoor
