/- What a mapping makes of a subject's tokens. isValidLiteralSubject over slices.Values: a range over a function. Match and Transform. -/
import Derived.Test.YtehlmjecbljafaaGreatDoorM12
import Derived.RangeFuncNested
import Derived.RangeFuncBound
import Derived.RangeFuncCalls
import Derived.RangeFuncLeaves
import Derived.RangeFuncBox
import Derived.RangeFuncFrom
import Derived.Shelf.Abstract
import Derived.WalkKit
import Derived.OwnWalkIn
import Derived.TacticsInMore
import Derived.LoopNIn
import Derived.LoopIn
namespace Go.Proofs.YtehlmjecbljafaaGreatDoor
open Go Go.RowKit
def BuiltF (w : World) (B : Nat) (l : List UInt8) : Prop := Lib.IsBuilderF 184 5 B B (Lib.byteCells l) w
theorem byteCells_app (l : List UInt8) (s : ByteArray) : Lib.byteCells l ++ Lib.strCells s = Lib.byteCells (l ++ bs s) := by
  rw [Lib.strCells_eq, Lib.byteCells, Lib.byteCells, Lib.byteCells, ← List.map_append]; rfl
theorem byteCells_dot (l : List UInt8) : Lib.byteCells l ++ [Value.int .u8 46] = Lib.byteCells (l ++ [46]) := by
  rw [Lib.byteCells, Lib.byteCells, List.map_append]; rfl
theorem sWrite (B : Nat) (l : List UInt8) (s : ByteArray) (w : World) (h : BuiltF w B l) (hl : l.length + s.size ≤ 140737488355328) (hB : B ≤ w.heap.size) :
    Calls Tryz.prog 117 #[.pointer (some ⟨B, 0, none⟩), .string s] w fun e w' => e = .returned (.tuple #[.int .i64 s.size, .nilIface]) ∧ BuiltF w' B (l ++ bs s) ∧ Below B w w' := by
  refine (ws_any B B _ s w h (by simpa [Lib.byteCells] using hl) hB).mono ?_
  rintro e w' ⟨rfl, h1, h2, -⟩
  exact ⟨rfl, .inr (by rw [← byteCells_app]; exact h1), h2⟩
theorem dWrite (B : Nat) (l : List UInt8) (w : World) (h : BuiltF w B l) (hl : l.length + 1 ≤ 140737488355328) (hB : B ≤ w.heap.size) :
    Calls Tryz.prog 121 #[.pointer (some ⟨B, 0, none⟩), .int .u8 46] w fun e w' => e = .returned .nilIface ∧ BuiltF w' B (l ++ [46]) ∧ Below B w w' := by
  refine (wb_any B B _ 46 w h (by simpa [Lib.byteCells] using hl) hB).mono ?_
  rintro e w' ⟨rfl, h1, h2, -⟩
  exact ⟨rfl, .inr (by rw [← byteCells_dot]; exact h1), h2⟩
theorem sText (B : Nat) (l : List UInt8) (w : World) (h : BuiltF w B l) (hB : B ≤ w.heap.size) :
    Calls Tryz.prog 122 #[.pointer (some ⟨B, 0, none⟩)] w fun e w' => e = .returned (.string (mk l)) ∧ Below B w w' := by
  refine (Tryz.Builder_String_any_k B B l w h hB).mono ?_
  rintro e w' ⟨rfl, -, h2, -⟩
  exact ⟨rfl, h2⟩
theorem builtF_new (w : World) : BuiltF (w.alloc (.cells #[.pointer none, .slice none 0 0] 184)) w.heap.size [] :=
  .inl ⟨Nat.le_refl _, .slice none 0 0, heap_alloc_new w _, ⟨rfl, .inl ⟨rfl, rfl⟩⟩, by simp [Value.ownBlock]⟩
set_option maxRecDepth 100000 in
set_option maxHeartbeats 3200000 in
theorem transTok_any (v : Value) (s : ByteArray) (ps : List Part) (pl : List Nat) (wn mb : Nat) (ts : List ByteArray) (w : World) (hM : MapIs w (.pointer (some ⟨mb, 0, none⟩)) s (mk (joinD (texts ps))) ps pl) (hps : PartsOK wn ps)
    (hts : Sl w 1 v ts.length (ts.map Value.string)) (hpl : ∀ x ∈ pl, x < ts.length) (hrest : (∃ p ∈ ps, p.kind = 11) → (toks s).length ≤ ts.length) (hsz : sumL (ts.map bs) ≤ 137438953472) (htn : ts.length ≤ 274877906944) (hss : s.size ≤ 137438953472) :
    Calls Tryz.prog 87 #[.pointer (some ⟨mb, 0, none⟩), v] w fun e w' => e = .returned (.string (mk (joinD (outT ts pl (toks s).length ps)))) ∧ Below w.heap.size w w' := by
  obtain ⟨mb', dv, sv, kv, pv, iv, tv, pvs, e, hmb, hs, hd, hk, hp, hpn, hpr⟩ := hM
  obtain rfl : mb = mb' := by simpa using e
  clear e
  rw [toks_dest hps] at hd
  obtain ⟨sa, sc, rfl⟩ := hs.form
  obtain ⟨da, dc, rfl⟩ := hd.form
  obtain ⟨ka, kc, rfl⟩ := hk.form
  obtain ⟨pa, pc, rfl⟩ := hp.form
  obtain ⟨ta, tc, rfl⟩ := hts.form
  have hcl := fun (i : Nat) (v : Value) h => (cell_row (j := i) hmb).trans (h : _ = some v)
  have q1 := hcl 1 _ rfl
  have q2 := hcl 2 _ rfl
  have q3 := hcl 3 _ rfl
  have q4 := hcl 4 _ rfl
  have q5 := hcl 5 _ rfl
  clear hcl
  have HQ := Lib.hid (And.intro q1 (And.intro q2 (And.intro q3 (And.intro q4 q5))))
  have hsl := toks_len s
  have hdl : ((texts ps).map mk).length = ps.length := by simp [texts]
  rw [hdl] at hd
  have HS := Lib.hid (And.intro hd (And.intro hk (And.intro hp (And.intro hpn (And.intro hpr hts))))); clear hd hk hp hpn hpr hts hs
  have Hps := Lib.hid hps
  obtain ⟨-, -, hn0, hn10⟩ := hps
  have g0 : ((ps.length : Int) == 0) = false := by rw [beq_eq_false_iff_ne]; omega
  have hmlt : mb < w.heap.size := (Array.getElem?_eq_some_iff.1 hmb).1
  clear hmb
  have hb0 := (Below.refl w.heap.size w).alloc (Nat.le_refl _) (.cells #[.pointer none, .slice none 0 0] 184)
  have hbuilt := builtF_new w
  go_enter Tryz.func87, Tryz.ntmps87
  go_wp2
  generalize hW : w.alloc (.cells #[.pointer none, .slice none 0 0] 184) = W at *
  have hBW : w.heap.size < W.heap.size := by rw [← hW, size_alloc]; omega
  clear hW q1 q2 q3 q4 q5 g0
  generalize hB : w.heap.size = B at *
  refine wp_loop_big 594 61 lit594 lit594_eq rfl [0, 1, 4, 5, 6, 59, 60] (fun i wr => ∃ (k : Nat) (l : List UInt8), k ≤ ps.length ∧ i = .int .i64 k ∧ Hid (BuiltF wr B l) ∧ Hid (OutSt ts pl ps k l) ∧ Below B w wr) (fun i => ps.length - (intOf i).toNat) ⟨0, [], Nat.zero_le _, rfl, hbuilt, ⟨by simp, by rw [if_pos hn0]; rfl⟩, hb0⟩ ?_
  intro f wr hkp hrel
  have e0 : f 0 = .pointer (some ⟨mb, 0, none⟩) := hkp 0 (by simp)
  have e1 : f 1 = .slice ta ts.length tc := hkp 1 (by simp)
  have e4 : f 4 = .string ⟨#[]⟩ := hkp 4 (by simp)
  have e5 : f 5 = .pointer (some ⟨B, 0, none⟩) := hkp 5 (by simp)
  have e6 : f 6 = .int .i64 ((ps.length : Int) - 1) := hkp 6 (by simp)
  have e59 : f 59 = .slice ka ps.length kc := hkp 59 (by simp)
  have e60 : f 60 = .int .i64 ps.length := hkp 60 (by simp)
  obtain ⟨k, l, hk, e61, HBu, HL, hb⟩ := hrel
  simp only [lit594, e0, e1, e4, e5, e6, e59, e60, e61]
  clear e0 e1 e4 e5 e6 e59 e60 hkp
  have hbw : Below w.heap.size w wr := by rw [hB]; exact hb
  have hBr : B ≤ wr.heap.size := by rw [← hB]; exact hbw.size
  obtain ⟨q1, q2, q3, q4, q5⟩ := HQ.out
  replace q1 := cell_bel q1 hbw
  replace q2 := cell_bel q2 hbw
  replace q3 := cell_bel q3 hbw
  replace q4 := cell_bel q4 hbw
  replace q5 := cell_bel q5 hbw
  obtain ⟨hd, hkk, hp, hpn, hpr, hts⟩ := HS.out
  by_cases hlt : k < ps.length
  · obtain ⟨kb, ko, rfl, hkc⟩ := hkk.cell hbw (by simp; omega)
    obtain ⟨p, hpk⟩ : ∃ p, ps[k]? = some p := ⟨_, List.getElem?_eq_getElem hlt⟩
    have ck := hkc k (kind16 (kindN p.kind)) (by simp [hpk])
    obtain ⟨db, do', t, rfl, Ht, cd⟩ := hd.str hbw (k := k) (by simpa [texts] using hlt)
    have ht : t = mk (textP p) := by
      have := Ht.out
      rw [texts, List.map_map, List.getElem?_map, hpk] at this
      simpa using this.symm
    clear Ht
    have hpo := Hps.out.1 p (List.mem_of_getElem? hpk)
    have HPK := Lib.hid hpk; clear hpk
    have HPR := Lib.hid hpr
    have hwd : ∀ q ∈ ps, q.word.size ≤ 137438953472 := fun q hq => Nat.le_trans (Hps.out.1 q hq).word (by omega)
    have h20 : (outP ts pl p).length ≤ 274877906944 := Nat.le_trans (outP_len (hwd p (List.mem_of_getElem? HPK.out)) hsz) (by omega)
    have hl20 := HL.out.len hlt hwd hsz hn10
    have HSTEP := Lib.hid (fun h11 => HL.out.step HPK.out h11)
    have hlet := fun h0 => Hps.out.letters (List.mem_of_getElem? HPK.out) h0
    have hlast11 := fun h => Hps.out.last HPK.out h
    clear hwd
    obtain ⟨kind, word, n, m, aa, ca, ats⟩ := p
    obtain ⟨hk1, hn0', hn1', hw0, hw1⟩ := hpo
    simp only at *
    have Hw0 := Lib.hid hw0; clear hw0
    clear hkc hd hkk hp hpn hpr hts
    rcases hk1 with (rfl | rfl) | hk12
    · replace ck : wr.cell? ⟨kb, ko + k, none⟩ = some (.int .i16 0) := ck
      obtain rfl : t = word := by rw [ht]; simp [textP, textL, mk_bs]
      clear ht
      have hout : outP ts pl ⟨0, t, n, m, aa, ca, ats⟩ = bs t := by simp [outP]
      rw [hout] at h20 HSTEP
      have HSZ := Lib.hid (show l.length + t.size ≤ 140737488355328 by rw [bs_len] at h20; omega)
      have HSZ2 := Lib.hid (show (l ++ bs t).length + 1 ≤ 140737488355328 by rw [List.length_append]; omega)
      clear h20 hl20 hout
      obtain ⟨hne, hlt2⟩ := hlet rfl
      have g0 : 0 < t.size := bs_pos hne
      have g2 : (((t[0]).toNat : Int) == 62) = false := by
        rw [beq_eq_false_iff_ne]
        have := (letter_ok (hlt2 _ (bs_head g0))).2.2
        intro e
        have e' : (t[0]).toNat = 62 := by omega
        exact this (UInt8.toNat_inj.1 (by rw [e']; rfl))
      clear hne hlt2 hlet hlast11
      by_cases hlast : k + 1 < ps.length
      · have hli : (k : Int) < (ps.length : Int) - 1 := by omega
        cases g1 : ((t.size : Int) == 1)
        · go_wp2_with (first
            | (go_at_call 117; go_must (refine (sWrite B l _ _ HBu.out HSZ.out hBr).mono ?_); rintro e W1 ⟨rfl, h1, b1⟩; have HB1 := Lib.hid h1; clear h1; have hB1 : B ≤ W1.heap.size := Nat.le_trans hBr b1.size)
            | (go_at_call 121; go_must (refine (dWrite B _ _ HB1.out HSZ2.out hB1).mono ?_); rintro e W2 ⟨rfl, h2, b2⟩; have HB2 := Lib.hid h2; clear h2))
          refine ⟨⟨rfl, rfl, ?_, k + 1, _, hlt, by go_num, HB2, ?_, (hb.trans b1).trans b2⟩, ?_⟩
          · intro i hi
            simp only [List.mem_cons, List.not_mem_nil, or_false] at hi
            rcases hi with rfl | rfl | rfl | rfl | rfl | rfl | rfl <;> rfl
          · exact (HSTEP.out (by simp)).1 hlast
          · show ps.length - (intOf _).toNat < ps.length - (intOf _).toNat
            simp [intOf]; omega
        · go_wp2_with (first
            | (go_at_call 117; go_must (refine (sWrite B l _ _ HBu.out HSZ.out hBr).mono ?_); rintro e W1 ⟨rfl, h1, b1⟩; have HB1 := Lib.hid h1; clear h1; have hB1 : B ≤ W1.heap.size := Nat.le_trans hBr b1.size)
            | (go_at_call 121; go_must (refine (dWrite B _ _ HB1.out HSZ2.out hB1).mono ?_); rintro e W2 ⟨rfl, h2, b2⟩; have HB2 := Lib.hid h2; clear h2))
          refine ⟨⟨rfl, rfl, ?_, k + 1, _, hlt, by go_num, HB2, ?_, (hb.trans b1).trans b2⟩, ?_⟩
          · intro i hi
            simp only [List.mem_cons, List.not_mem_nil, or_false] at hi
            rcases hi with rfl | rfl | rfl | rfl | rfl | rfl | rfl <;> rfl
          · exact (HSTEP.out (by simp)).1 hlast
          · show ps.length - (intOf _).toNat < ps.length - (intOf _).toNat
            simp [intOf]; omega
      · have hli : (ps.length : Int) - 1 ≤ (k : Int) := by omega
        cases g1 : ((t.size : Int) == 1)
        · go_wp2_with (first
            | (go_at_call 117; go_must (refine (sWrite B l _ _ HBu.out HSZ.out hBr).mono ?_); rintro e W1 ⟨rfl, h1, b1⟩; have HB1 := Lib.hid h1; clear h1; have hB1 : B ≤ W1.heap.size := Nat.le_trans hBr b1.size)
            | (go_at_call 121; go_must (refine (dWrite B _ _ HB1.out HSZ2.out hB1).mono ?_); rintro e W2 ⟨rfl, h2, b2⟩; have HB2 := Lib.hid h2; clear h2))
          refine ⟨⟨rfl, rfl, ?_, k + 1, _, hlt, by go_num, HB1, ?_, hb.trans b1⟩, ?_⟩
          · intro i hi
            simp only [List.mem_cons, List.not_mem_nil, or_false] at hi
            rcases hi with rfl | rfl | rfl | rfl | rfl | rfl | rfl <;> rfl
          · exact (HSTEP.out (by simp)).2 hlast
          · show ps.length - (intOf _).toNat < ps.length - (intOf _).toNat
            simp [intOf]; omega
        · go_wp2_with (first
            | (go_at_call 117; go_must (refine (sWrite B l _ _ HBu.out HSZ.out hBr).mono ?_); rintro e W1 ⟨rfl, h1, b1⟩; have HB1 := Lib.hid h1; clear h1; have hB1 : B ≤ W1.heap.size := Nat.le_trans hBr b1.size)
            | (go_at_call 121; go_must (refine (dWrite B _ _ HB1.out HSZ2.out hB1).mono ?_); rintro e W2 ⟨rfl, h2, b2⟩; have HB2 := Lib.hid h2; clear h2))
          refine ⟨⟨rfl, rfl, ?_, k + 1, _, hlt, by go_num, HB1, ?_, hb.trans b1⟩, ?_⟩
          · intro i hi
            simp only [List.mem_cons, List.not_mem_nil, or_false] at hi
            rcases hi with rfl | rfl | rfl | rfl | rfl | rfl | rfl <;> rfl
          · exact (HSTEP.out (by simp)).2 hlast
          · show ps.length - (intOf _).toNat < ps.length - (intOf _).toNat
            simp [intOf]; omega
    · replace ck : wr.cell? ⟨kb, ko + k, none⟩ = some (.int .i16 0) := ck
      have hk1 := hlast11 rfl
      obtain ⟨lF, hT⟩ := HL.out.last (m := (toks s).length) HPK.out rfl hk1
      have ht2 : bs t = [62] := by rw [ht, bs_mk]; rfl
      obtain ⟨t1, t2⟩ := bs_one ht2
      have g0 : 0 < t.size := by omega
      have g1 : ((t.size : Int) == 1) = true := by rw [beq_iff_eq]; omega
      have g2 : (((t[0]).toNat : Int) == 62) = true := by rw [t2 g0]; rfl
      have g3 : (t.toList == [62]) = true := by rw [toList_bs, ht2]; rfl
      have hm := hrest ⟨_, List.mem_of_getElem? HPK.out, rfl⟩
      have LF := Lib.hid lF; clear lF
      have HT := Lib.hid hT; clear hT
      clear t1 t2 ht2 ht hlet hlast11 h20 hl20 HSTEP
      have x1 : ((ps.length : Int) - 1).toNat = k := by omega
      have x2 : (0 : Int) ≤ (ps.length : Int) - 1 := by omega
      go_wp2_with fail
      go_quiet (fail)
      go_wp2
      go_quiet (fail)
      go_wp2
      refine wp_any (fun W => BuiltF W B l ∧ Below B w W) ⟨HBu.out, below_drewN (below_drewN hb _) _⟩ ?_
      clear hb hbw hBr HBu q1 q2 q3 q4 q5 ck cd
      rintro W3 ⟨HBu, hb⟩
      have hm1 : 0 < (toks s).length := toks_pos s
      refine wp_loop_big 594 39 lit594 lit594_eq rfl [1, 4, 5, 38] (fun i wr => ∃ (j : Nat) (l : List UInt8), (toks s).length - 1 ≤ j ∧ j ≤ ts.length ∧ i = .int .i64 j ∧ Hid (BuiltF wr B l) ∧ Hid (RestSt ((ps.take k).map (outP ts pl)) ts ((toks s).length - 1) j l) ∧ Below B w wr) (fun i => ts.length - (intOf i).toNat)
        ⟨(toks s).length - 1, l, Nat.le_refl _, by omega, by show Value.int .i64 _ = Value.int .i64 _; congr 1; omega, HBu, RestSt.start LF.out (by omega), hb⟩ ?_
      intro f2 wr2 hkp hrel
      have e1 : f2 1 = .slice ta ts.length tc := hkp 1 (by simp)
      have e4 : f2 4 = .string ⟨#[]⟩ := hkp 4 (by simp)
      have e5 : f2 5 = .pointer (some ⟨B, 0, none⟩) := hkp 5 (by simp)
      have e38 : f2 38 = .int .i64 ((ts.length : Int) - 1) := hkp 38 (by simp)
      obtain ⟨j, l2, hj0, hj, e39, HBu2, HR, hb2⟩ := hrel
      simp only [lit594, e1, e4, e5, e38, e39]
      clear e1 e4 e5 e38 e39 hkp HBu hb x1 x2 g1 g2 g3
      have hbw : Below w.heap.size w wr2 := by rw [hB]; exact hb2
      have hBr : B ≤ wr2.heap.size := by rw [← hB]; exact hbw.size
      by_cases hjt : j < ts.length
      · obtain ⟨tb, to, u, rfl, Hu, cu⟩ := (show Sl w 1 (.slice ta ts.length tc) ts.length (ts.map Value.string) from HS.out.2.2.2.2.2).str hbw hjt
        have hlen := HR.out.len (fun q hq => outP_len (p := q) (Nat.le_trans (Hps.out.1 q (List.mem_of_mem_take hq)).word (by omega)) hsz) hsz hn10 hjt
        have hul : u.size ≤ 137438953472 := by
          have := sumL_mem (List.mem_map_of_mem (f := bs) (List.mem_of_getElem? Hu.out))
          rw [bs_len] at this; omega
        have HSZ := Lib.hid (show l2.length + u.size ≤ 140737488355328 by omega)
        have HSZ2 := Lib.hid (show (l2 ++ bs u).length + 1 ≤ 140737488355328 by rw [List.length_append, bs_len]; omega)
        have HST := Lib.hid (HR.out.step Hu.out hj0); clear hlen hul
        by_cases hjl : j + 1 < ts.length
        · have hli : (j : Int) < (ts.length : Int) - 1 := by omega
          go_wp2_with (first
            | (go_at_call 117; go_must (refine (sWrite B l2 _ _ HBu2.out HSZ.out hBr).mono ?_); rintro e W1 ⟨rfl, h1, b1⟩; have HB1 := Lib.hid h1; clear h1; have hB1 : B ≤ W1.heap.size := Nat.le_trans hBr b1.size)
            | (go_at_call 121; go_must (refine (dWrite B _ _ HB1.out HSZ2.out hB1).mono ?_); rintro e W2 ⟨rfl, h2, b2⟩; have HB2 := Lib.hid h2; clear h2))
          refine ⟨⟨rfl, rfl, ?_, j + 1, _, by omega, hjt, by go_num, HB2, HST.out.1 hjl, (hb2.trans b1).trans b2⟩, ?_⟩
          · intro i hi
            simp only [List.mem_cons, List.not_mem_nil, or_false] at hi
            rcases hi with rfl | rfl | rfl | rfl <;> rfl
          · show ts.length - (intOf _).toNat < ts.length - (intOf _).toNat
            simp [intOf]; omega
        · have hli : (ts.length : Int) - 1 ≤ (j : Int) := by omega
          go_wp2_with (first
            | (go_at_call 117; go_must (refine (sWrite B l2 _ _ HBu2.out HSZ.out hBr).mono ?_); rintro e W1 ⟨rfl, h1, b1⟩; have HB1 := Lib.hid h1; clear h1; have hB1 : B ≤ W1.heap.size := Nat.le_trans hBr b1.size)
            | (go_at_call 121; go_must (refine (dWrite B _ _ HB1.out HSZ2.out hB1).mono ?_); rintro e W2 ⟨rfl, h2, b2⟩; have HB2 := Lib.hid h2; clear h2))
          refine ⟨⟨rfl, rfl, ?_, j + 1, _, by omega, hjt, by go_num, HB1, HST.out.2 hjl, hb2.trans b1⟩, ?_⟩
          · intro i hi
            simp only [List.mem_cons, List.not_mem_nil, or_false] at hi
            rcases hi with rfl | rfl | rfl | rfl <;> rfl
          · show ts.length - (intOf _).toNat < ts.length - (intOf _).toNat
            simp [intOf]; omega
      · obtain rfl : j = ts.length := by omega
        go_wp2_with fail
        refine (sText B l2 _ HBu2.out hBr).mono ?_
        rintro e W5 ⟨rfl, b5⟩
        rw [HR.out.all, ← HT.out]
        go_wp2
        go_ret
        exact ⟨rfl, by rw [hB]; exact hb2.trans b5⟩
    · obtain ⟨u, hu⟩ : ∃ u, pvs[k]? = some u := ⟨_, List.getElem?_eq_getElem (by have := HS.out.2.2.2.1; omega)⟩
      have hrd := HS.out.2.2.2.2.1 k _ u HPK.out hu
      rcases hrd with ⟨hnw, -⟩ | ⟨-, x, hx1, hx2⟩
      · exact absurd hk12 hnw
      obtain ⟨ua, uc, rfl⟩ := hx1.form
      obtain ⟨pb, po, rfl, hpc⟩ := (show Sl w 1 (.slice pa ps.length pc) ps.length pvs from HS.out.2.2.1).cell hbw (by have := HS.out.2.2.2.1; omega)
      replace hpc := hpc k _ hu
      obtain ⟨xb, xo, rfl, hxc⟩ := hx1.cell hbw (by simp)
      replace hxc := hxc 0 _ rfl
      rw [Nat.add_zero] at hxc
      have hxt : x < ts.length := hpl x (List.mem_of_getElem? hx2)
      obtain ⟨tb, to, t2, rfl, Ht2, ct⟩ := (show Sl w 1 (.slice ta ts.length tc) ts.length (ts.map Value.string) from HS.out.2.2.2.2.2).str hbw hxt
      have hout : outP ts pl ⟨kind, word, n, m, aa, ca, ats⟩ = bs t2 := by
        have h0 : kind ≠ 0 := by rcases hk12 with rfl | rfl <;> decide
        simp only [outP, if_neg h0, hx2, Option.getD_some, Ht2.out]
      rw [hout] at h20 HSTEP
      have HSZ := Lib.hid (show l.length + t2.size ≤ 140737488355328 by rw [bs_len] at h20; omega)
      have HSZ2 := Lib.hid (show (l ++ bs t2).length + 1 ≤ 140737488355328 by rw [List.length_append]; omega)
      clear h20 hl20 hout hx1 hx2 hu ht hlet hlast11 cd q1 q2 q3 q4
      replace ck : wr.cell? ⟨kb, ko + k, none⟩ = some (.int .i16 3) := by
        rw [ck]; rcases hk12 with rfl | rfl <;> rfl
      have h11 : kind ≠ 11 := by rcases hk12 with rfl | rfl <;> decide
      have HSTEP := Lib.hid (HSTEP.out h11)
      clear hk12 Hw0 h11
      by_cases hlast : k + 1 < ps.length
      · have hli : (k : Int) < (ps.length : Int) - 1 := by omega
        · go_wp2_with (first
            | (go_at_call 117; go_must (refine (sWrite B l _ _ HBu.out HSZ.out hBr).mono ?_); rintro e W1 ⟨rfl, h1, b1⟩; have HB1 := Lib.hid h1; clear h1; have hB1 : B ≤ W1.heap.size := Nat.le_trans hBr b1.size)
            | (go_at_call 121; go_must (refine (dWrite B _ _ HB1.out HSZ2.out hB1).mono ?_); rintro e W2 ⟨rfl, h2, b2⟩; have HB2 := Lib.hid h2; clear h2))
          refine ⟨⟨rfl, rfl, ?_, k + 1, _, hlt, by go_num, HB2, ?_, (hb.trans b1).trans b2⟩, ?_⟩
          · intro i hi
            simp only [List.mem_cons, List.not_mem_nil, or_false] at hi
            rcases hi with rfl | rfl | rfl | rfl | rfl | rfl | rfl <;> rfl
          · exact HSTEP.out.1 hlast
          · show ps.length - (intOf _).toNat < ps.length - (intOf _).toNat
            simp [intOf]; omega
      · have hli : (ps.length : Int) - 1 ≤ (k : Int) := by omega
        · go_wp2_with (first
            | (go_at_call 117; go_must (refine (sWrite B l _ _ HBu.out HSZ.out hBr).mono ?_); rintro e W1 ⟨rfl, h1, b1⟩; have HB1 := Lib.hid h1; clear h1; have hB1 : B ≤ W1.heap.size := Nat.le_trans hBr b1.size)
            | (go_at_call 121; go_must (refine (dWrite B _ _ HB1.out HSZ2.out hB1).mono ?_); rintro e W2 ⟨rfl, h2, b2⟩; have HB2 := Lib.hid h2; clear h2))
          refine ⟨⟨rfl, rfl, ?_, k + 1, _, hlt, by go_num, HB1, ?_, hb.trans b1⟩, ?_⟩
          · intro i hi
            simp only [List.mem_cons, List.not_mem_nil, or_false] at hi
            rcases hi with rfl | rfl | rfl | rfl | rfl | rfl | rfl <;> rfl
          · exact HSTEP.out.2 hlast
          · show ps.length - (intOf _).toNat < ps.length - (intOf _).toNat
            simp [intOf]; omega
  · obtain rfl : k = ps.length := by omega
    obtain ⟨hall, hno⟩ := HL.out.all (m := (toks s).length)
    have hln : ps.length - 1 < ps.length := by omega
    obtain ⟨p, hpk⟩ : ∃ p, ps[ps.length - 1]? = some p := ⟨_, List.getElem?_eq_getElem hln⟩
    obtain ⟨db, do', t, rfl, Ht, cd⟩ := hd.str hbw (k := ps.length - 1) (by simpa [texts] using hln)
    have ht : t = mk (textP p) := by
      have := Ht.out
      rw [texts, List.map_map, List.getElem?_map, hpk] at this
      simpa using this.symm
    have hpm := List.mem_of_getElem? hpk
    have g3 : (t.toList == [62]) = false := by
      rw [toList_bs, ht, bs_mk, beq_eq_false_iff_ne]
      have h11 := hno p hpm
      unfold textP textL
      split
      · rename_i h0
        intro e
        have := (letter_ok ((Hps.out.letters hpm h0).2 62 (by rw [e]; simp))).2.2
        exact this rfl
      · split <;> simp
    have HA := Lib.hid hall; clear hall
    have x1 : ((ps.length : Int) - 1).toNat = ps.length - 1 := by omega
    have x2 : (0 : Int) ≤ (ps.length : Int) - 1 := by omega
    clear hd hkk hp hpn hpr hts hno ht Ht hpm
    go_wp2_with fail
    go_quiet (fail)
    go_wp2_with fail
    refine (sText B l (wr.drewN nq) HBu.out hBr).mono ?_
    rintro e W5 ⟨rfl, b5⟩
    rw [HA.out]
    go_wp2
    go_ret
    exact ⟨rfl, by rw [hB]; exact (below_drewN hb _).trans b5⟩
end Go.Proofs.YtehlmjecbljafaaGreatDoor
namespace Go.Proofs.YtehlmjecbljafaaGreatDoor
open Go Go.RowKit Go.Shelf
attribute [local go_sem] Oper.semAt_some
abbrev Tok := { t : ByteArray // HeadOK t }
def upto {α : Type} (f : Nat → α) (k : Nat) : List α := (List.range k).map f
theorem upto_succ {α : Type} (f : Nat → α) (k : Nat) : upto f (k + 1) = upto f k ++ [f k] := by simp [upto, List.range_succ]
theorem upto_length {α : Type} (f : Nat → α) (k : Nat) : (upto f k).length = k := by simp [upto]
set_option maxRecDepth 100000 in
set_option maxHeartbeats 2000000 in
theorem values1_in (F : Fence) (n : Nat) (h7 : F.fn 114) (hro : F.round = none) (hn : 1 ≤ n) (l Bs n₀ b off len cap : Nat) (g : Nat → Tok) (hreach : len ≤ 274877906944) (hb : b < n₀) (J Jx : List Tok → World → Prop)
    (hY : ∀ pre x W, J pre W → pre.length < len → YieldAt F (n - 1) Tryz.prog l #[.string x.1] W fun e W' =>
      (e = .returned (.bool true) ∧ J (pre ++ [x]) W' ∧ Below n₀ W W') ∨ (e = .returned (.bool false) ∧ Jx (pre ++ [x]) W'))
    (W : World) (hBs : W.cell? ⟨Bs, 0, none⟩ = some (.slice (some ⟨b, off, none⟩) len cap)) (hc : ∀ j, j < len → W.cell? ⟨b, off + j, none⟩ = some (.string (g j).1)) (h0 : J [] W) :
    CallsIn F n Tryz.prog 114 #[.func (.yield l) #[] #[], .pointer (some ⟨Bs, 0, none⟩)] W fun e W' => (∃ v, e = .returned v) ∧
      ((∃ ys, ys = upto g len ∧ J ys W') ∨ (∃ pre, (∃ k, k ≤ len ∧ pre = upto g k) ∧ Jx pre W')) := by
  refine callsIn_of_wp Tryz.func114 rfl h7 ?_ hro
  simp only [Tryz.ntmps114, List.size_toArray, List.length_cons, List.length_nil, Nat.reduceAdd, Nat.reduceSub, Array.replicate_succ, Array.replicate_zero, List.push_toArray, List.append_toArray, List.nil_append, List.cons_append]
  gi_wp2
  gi_loopw [7] (fun i wr => ∃ k : Nat, k ≤ len ∧ i = .int .i64 k ∧ J (upto g k) wr ∧ Below n₀ W wr)
    (fun i _ => len - (intOf i).toNat)
  case atStart => exact ⟨0, Nat.zero_le _, rfl, h0, Below.refl _ _⟩
  case round =>
    obtain ⟨k, hk, rfl, hJs, hnx⟩ := hrel
    have hcx : k < len → wr.cell? ⟨b, off + k, none⟩ = some (.string (g k).1) := fun h => (hnx.cell (p := ⟨b, off + k, none⟩) hb).trans (hc k h)
    by_cases hlt : k < len
    · obtain ⟨fn, tmps, assign, body, hy, hR⟩ := hY _ (g k) wr hJs (by rw [upto_length]; exact hlt)
      have hcx' := hcx hlt
      gi_wp2
      refine hR.mono ?_
      rintro e W3 (⟨rfl, hJ3, hk3⟩ | ⟨rfl, hJx3⟩)
      · gi_wp2
        go_roundw
        case rel => exact ⟨k + 1, by omega, by simp, by rw [upto_succ]; exact hJ3, hnx.trans hk3⟩
        case measure => simp [intOf]; omega
      · gi_wp2
        refine bodyPost_ret (results_none rfl _ _ _) rfl ?_
        exact ⟨⟨_, rfl⟩, .inr ⟨_, ⟨k + 1, by omega, (upto_succ _ _).symm⟩, hJx3⟩⟩
    · obtain rfl : k = len := by omega
      gi_wp2
      go_end0
      exact ⟨⟨_, rfl⟩, .inl ⟨_, rfl, hJs⟩⟩
theorem values_stops (F : Fence) (n : Nat) (h7 : F.fn 114) (hro : F.round = none) (hn : 1 ≤ n) (Bs n₀ b off len cap : Nat) (g : Nat → Tok) (hreach : len ≤ 274877906944) (w : World) (hBs : Bs < w.heap.size) (hn₀ : n₀ ≤ w.heap.size) (hb : b < n₀)
    (hc : w.cell? ⟨Bs, 0, none⟩ = some (.slice (some ⟨b, off, none⟩) len cap)) (hI : ∀ j, j < len → w.cell? ⟨b, off + j, none⟩ = some (.string (g j).1)) :
    SeqStopsK F n Tryz.prog 114 #[.pointer (some ⟨Bs, 0, none⟩)] (fun x : Tok => #[Value.string x.1]) (Below n₀) (fun ys => ys = upto g len) (fun _ => True) len w := fun l J Jx W hW _ _ hY h0 => by
  have hc' := (hW.cell (p := ⟨Bs, 0, none⟩) hBs).trans hc
  refine (values1_in F n h7 hro hn l Bs n₀ b off len cap g hreach hb J Jx hY W hc' (fun j hj => ((hW.mono hn₀).cell (p := ⟨b, off + j, none⟩) hb).trans (hI j hj)) h0).mono ?_
  rintro e W' ⟨he, ⟨ys, rfl, hj⟩ | ⟨pre, ⟨k, hk, rfl⟩, hj⟩⟩
  · exact ⟨he, .inl ⟨_, rfl, hj⟩⟩
  · exact ⟨he, .inr ⟨_, trivial, hj⟩⟩
set_option maxRecDepth 100000 in
set_option maxHeartbeats 2000000 in
theorem lit_in (F : Fence) (n : Nat) (h3 : F.fn 84) (h6 : F.fn 114) (hro : F.round = none) (hn : 3 ≤ n) (Bs b off len cap : Nat) (g : Nat → Tok) (hreach : len ≤ 274877906944) (w : World) (hBs : Bs < w.heap.size) (hb : b < w.heap.size)
    (hc : w.cell? ⟨Bs, 0, none⟩ = some (.slice (some ⟨b, off, none⟩) len cap)) (hI : ∀ j, j < len → w.cell? ⟨b, off + j, none⟩ = some (.string (g j).1)) :
    CallsIn F n Tryz.prog 84 #[.func (.func 114) #[] #[.pointer (some ⟨Bs, 0, none⟩)]] w fun e W' => e = .returned (.bool true) ∧ Below w.heap.size w W' := by
  have h1 : 1 ≤ n := by omega
  refine callsIn_of_wp_marks Tryz.func84 rfl h3 ?_ hro
  simp only [Tryz.ntmps84, List.size_toArray, List.length_cons, List.length_nil, Nat.reduceAdd, Nat.reduceSub, Array.replicate_succ, Array.replicate_zero, List.push_toArray, List.append_toArray, List.nil_append, List.cons_append]
  gi_wp2
  have hs : (w.alloc (.cells #[.bool false] 4)).cell? ⟨w.heap.size, 0, none⟩ = some (.bool false) ∧ (w.alloc (.cells #[.bool false] 4)).frozen? ⟨w.heap.size, 0, none⟩ = false :=
    ⟨(cell_row (j := 0) (heap_alloc_new w (.cells #[.bool false] 4))).trans rfl, frozen_row (heap_alloc_new w (.cells #[.bool false] 4))⟩
  have hB0 : Below w.heap.size w (w.alloc (.cells #[.bool false] 4)) := (Below.refl _ w).alloc (Nat.le_refl _) _
  refine wpIn_rangeFunc_ownF hro h1 (gf := 114) (lb := #[.pointer (some ⟨Bs, 0, none⟩)]) rfl h6 (enters_of Tryz.func114 (by kernel_rfl) rfl)
    (values_stops F (n - 1) h6 hro (by omega) Bs w.heap.size b off len cap g hreach _ (by simp; omega) (by simp) hb ((hB0.cell (p := ⟨Bs, 0, none⟩) hBs).trans hc) (fun j hj => (hB0.cell (p := ⟨b, off + j, none⟩) hb).trans (hI j hj))) belowK_t (belowK_b (by simp)) (Below.refl _ _) (fun _ => rfl)
    (fun pre W => ((∃ v, W.cell? ⟨w.heap.size, 0, none⟩ = some v) ∧ W.frozen? ⟨w.heap.size, 0, none⟩ = false) ∧ Below w.heap.size w W)
    (fun _ _ _ => False)
    (OwnFrom.and (Own.from (fun s A B row hs hg hr => ⟨⟨_, cell_kept hs.1.choose_spec hg hr⟩, (frozen_kept hs.1.choose_spec hg hr).trans hs.2⟩) _) (ownFrom_below (Nat.le_refl _) (by simp)))
    (fun _ _ _ _ _ hs _ _ => hs)
    ⟨⟨⟨_, hs.1⟩, hs.2⟩, hB0⟩
    (fun x => { tmps := #[.func (.func 114) #[] #[.pointer (some ⟨Bs, 0, none⟩)], undef, .pointer (some ⟨w.heap.size, 0, none⟩), .string x.1, .func (.func 114) #[] #[.pointer (some ⟨Bs, 0, none⟩)], .string x.1, undef, undef, undef, undef, undef, undef, undef, undef, undef, undef, undef], defers := [] }) ?assign ?body ?done ?stop
  case assign =>
    intro l x W K hK
    gi_wp2
    exact hK
  case body =>
    rintro l pre ⟨t, h0, h42, h62⟩ W ⟨⟨⟨v0, hc⟩, hf⟩, hB⟩ _
    have g1 : ((t.size : Int) == 0) = false := by rw [beq_eq_false_iff_ne]; omega
    have g2 : (((t[0]).toNat : Int) == 42) = false := by rw [beq_eq_false_iff_ne]; omega
    have g3 : (((t[0]).toNat : Int) == 62) = false := by rw [beq_eq_false_iff_ne]; omega
    by_cases h1 : 1 < t.size
    · gi_wp2
      exact ⟨KeepsOthers.refl _, Below.refl _ _, ⟨⟨v0, hc⟩, hf⟩, hB⟩
    · gi_wp2
      exact ⟨KeepsOthers.refl _, Below.refl _ _, ⟨⟨v0, hc⟩, hf⟩, hB⟩
  case done =>
    rintro D ys W hD rfl ⟨⟨⟨v0, hc⟩, hf⟩, hB⟩ hK
    gi_wp2
    have hK' := (KeepsOthers.setCell W ⟨w.heap.size, 0, none⟩ (.bool true)).same D _ hK rfl
    have hc5 := cell_kept (World.cell?_setCell_same' W ⟨w.heap.size, 0, none⟩ (.bool true) (by rw [hc]; rfl)) (grownBy_putObj' _ D (.deferred none)) (fun r e => by cases e; exact ⟨_, hK', rfl⟩)
    refine ⟨by simp, .inl ⟨_, _, rfl, run_takeDeferred hK', ?_⟩⟩
    refine ⟨.bool true, ?_, rfl, (hB.setCell (p := ⟨w.heap.size, 0, none⟩) (Nat.le_refl _) _).trans (belowK_b (w := w) (Nat.le_refl _) _ D _ _ (by simp at hD; omega) hK' rfl rfl)⟩
    simp [results, Tryz.f84, asAddr, loadVar, hc5]
  case stop =>
    rintro D c pre W _ _ h _
    exact h.elim
/-- slices.Values, then isValidLiteralSubject: of tokens that are no wildcards. -/
theorem litTokens_any (a : Option Addr) (ts : List ByteArray) (cap Bs : Nat) (w : World) (hsl : Sl w 1 (.slice a ts.length cap) ts.length (ts.map Value.string)) (h0 : 0 < ts.length) (hh : ∀ (k : Nat) (t : ByteArray), ts[k]? = some t → HeadOK t) (hn : ts.length ≤ 274877906944)
    (hc : w.cell? ⟨Bs, 0, none⟩ = some (.slice a ts.length cap)) :
    Calls Tryz.prog 84 #[.func (.func 114) #[] #[.pointer (some ⟨Bs, 0, none⟩)]] w fun e W' => e = .returned (.bool true) ∧ Below w.heap.size w W' := by
  obtain ⟨b, o, rfl, hcs⟩ := hsl.cell (Below.refl _ _) (by simpa using h0)
  have hz : HeadOK ts[0] := hh 0 _ (List.getElem?_eq_getElem h0)
  have hg : ∀ k : Nat, HeadOK (ts[k]?.getD ts[0]) := fun k => by
    cases hq : ts[k]? with
    | none => exact hz
    | some t => exact hh k t hq
  have hcell : ∀ j, j < ts.length → w.cell? ⟨b, o + j, none⟩ = some (.string (⟨ts[j]?.getD ts[0], hg j⟩ : Tok).1) := fun j hj => hcs j _ (by simp [List.getElem?_eq_getElem hj])
  exact callsIn_wide.1 (lit_in Fence.wide 3 trivial trivial rfl (Nat.le_refl _) Bs b o ts.length cap (fun j => ⟨ts[j]?.getD ts[0], hg j⟩) hn w (World.block_lt_of_cell? _ _ hc) (World.block_lt_of_cell? _ _ (hcell 0 h0)) hc hcell)
end Go.Proofs.YtehlmjecbljafaaGreatDoor
namespace Go.Proofs.YtehlmjecbljafaaGreatDoor
open Go Go.RowKit
set_option maxRecDepth 100000 in
set_option maxHeartbeats 800000 in
theorem values_any (a : Option Addr) (n cap : Nat) (w : World) : Calls Tryz.prog 85 #[.slice a n cap] w fun e w' => e = .returned (.func (.func 114) #[] #[.pointer (some ⟨w.heap.size, 0, none⟩)]) ∧ w' = w.alloc (.cells #[.slice a n cap] 32) := by
  go_enter Tryz.func85, Tryz.ntmps85
  go_wp2
  go_ret
  exact ⟨rfl, rfl⟩
theorem PlanIs.keep {w w' : World} {v : Value} {s D : ByteArray} {ps : List Part} {pl : List Nat} (h : PlanIs w v s D ps pl) (hb : Below w.heap.size w w') : PlanIs w' v s D ps pl := by
  obtain ⟨sv, dv, kv, pv, nv, tv, pvs, xs, h0, h1, h2, h3, h4, h5, h6, h7, h8⟩ := h.is
  exact ⟨sv, dv, kv, pv, nv, tv, pvs, xs, h0, h1.keep hb, h2.keep hb, h3.keep hb, h4.keep hb, h5.keep hb, h6.keep hb, h7, fun j p u a b => (h8 j p u a b).keep hb⟩
theorem MapIs.keep {w w' : World} {v : Value} {s D : ByteArray} {ps : List Part} {pl : List Nat} (h : MapIs w v s D ps pl) (hb : Below w.heap.size w w') : MapIs w' v s D ps pl := by
  obtain ⟨mb, dv, sv, kv, pv, iv, tv, pvs, h0, h1, h2, h3, h4, h5, h6, h7⟩ := h
  exact ⟨mb, dv, sv, kv, pv, iv, tv, pvs, h0, by rw [hb.block mb (Array.getElem?_eq_some_iff.1 h1).1]; exact h1, h2.keep hb, h3.keep hb, h4.keep hb, h5.keep hb, h6, fun j p u a b => (h7 j p u a b).keep hb⟩
theorem joinD_splitDot (l : List UInt8) : joinD (splitDot l) = l := by
  induction l with
  | nil => rfl
  | cons c r ih =>
    unfold splitDot
    split
    · rename_i hc
      cases h : splitDot r with
      | nil => exact absurd h (splitDot_ne r)
      | cons t ts => rw [h] at ih; simp [joinD, ih, hc]
    · cases h : splitDot r with
      | nil => exact absurd h (splitDot_ne r)
      | cons t ts =>
        rw [h] at ih
        cases ts with
        | nil => simp only [joinD] at ih ⊢; rw [ih]
        | cons u us => simp only [joinD, List.cons_append] at ih ⊢; rw [ih]
theorem join_toks (A : ByteArray) : mk (joinD ((toks A).map bs)) = A := by
  rw [toks, map_mk_bs, joinD_splitDot, mk_bs]
theorem sum_splitDot (l : List UInt8) : sumL (splitDot l) = l.length + 1 := by
  induction l with
  | nil => rfl
  | cons c r ih =>
    unfold splitDot
    split
    · simp only [sumL, List.foldr_cons, List.length_nil, List.length_cons] at ih ⊢; omega
    · cases h : splitDot r with
      | nil => exact absurd h (splitDot_ne r)
      | cons t ts => rw [h] at ih; simp only [sumL, List.foldr_cons, List.length_cons] at ih ⊢; omega
theorem toks_sum (A : ByteArray) (h : A.size ≤ 137438953471) : sumL ((toks A).map bs) ≤ 137438953472 := by
  rw [toks, map_mk_bs, sum_splitDot, bs_len]; omega
set_option maxRecDepth 100000 in
set_option maxHeartbeats 1600000 in
theorem match47_any (s A : ByteArray) (ps : List Part) (pl : List Nat) (wn mb : Nat) (w : World) (hM : MapIs w (.pointer (some ⟨mb, 0, none⟩)) s (mk (joinD (texts ps))) ps pl) (hps : PartsOK wn ps)
    (hm : matchT ((toks A).map bs) ((toks s).map bs) = true) (hh : ∀ (k : Nat) (t : ByteArray), (toks A)[k]? = some t → HeadOK t)
    (hpl : ∀ x ∈ pl, x < (toks A).length) (hrest : (∃ p ∈ ps, p.kind = 11) → (toks s).length ≤ (toks A).length) (hsz : A.size ≤ 2147483647) (hss : s.size ≤ 137438953472)
    (hs0 : bs s ≠ []) (hD0 : bs (mk (joinD (texts ps))) ≠ []) (hall : bs s = [62] → bs (mk (joinD (texts ps))) = [62] → outT (toks A) pl (toks s).length ps = (toks A).map bs) :
    Calls Tryz.prog 47 #[.pointer (some ⟨mb, 0, none⟩), .string A] w fun e w' => e = .returned (.tuple #[.string (mk (joinD (outT (toks A) pl (toks s).length ps))), .nilIface]) ∧ Below w.heap.size w w' := by
  have hM2 := hM
  obtain ⟨mb', dv, sv, kv, pv, iv, tv, pvs, e, hmb, -⟩ := hM
  obtain rfl : mb = mb' := by simpa using e
  clear e
  have q0 : w.cell? ⟨mb, 0, none⟩ = some (.string s) := (cell_row (j := 0) hmb).trans rfl
  have q1 : w.cell? ⟨mb, 1, none⟩ = some (.string (mk (joinD (texts ps)))) := (cell_row (j := 1) hmb).trans rfl
  have HM := Lib.hid hM2; clear hM2 hmb
  have i0 : s.toList.isEmpty = false := by rw [toList_bs]; simpa using hs0
  have hl := toks_len A
  obtain ⟨D, hD⟩ : ∃ D, D = mk (joinD (texts ps)) := ⟨_, rfl⟩
  rw [← hD] at q1 hD0 hall
  have i1 : D.toList.isEmpty = false := by rw [toList_bs]; simpa using hD0
  have HD := Lib.hid hD; clear hD
  have Hall := Lib.hid hall; clear hall
  cases g1 : (s.toList == [62])
  · go_enter Tryz.func47, Tryz.ntmps47
    go_wp2_with fail
    refine (tokenize_any A _ (by omega)).mono ?_
    rintro e w1 ⟨tv, rfl, ht, hb1⟩
    have ht := ht.sl
    obtain ⟨ta, tc, rfl⟩ := ht.form
    go_wp2_with fail
    refine (values_any _ _ _ _).mono ?_
    rintro e w2 ⟨rfl, rfl⟩
    have hal := (Below.refl w1.heap.size w1).alloc (Nat.le_refl _) (.cells #[.slice ta (toks A).length tc] 32)
    have hcell := (cell_row (j := 0) (heap_alloc_new w1 (.cells #[.slice ta (toks A).length tc] 32))).trans (rfl : _ = some (Value.slice ta (toks A).length tc))
    go_wp2_with fail
    refine (litTokens_any ta (toks A) tc w1.heap.size _ (ht.keep hal) (toks_pos A) hh (by omega) hcell).mono ?_
    rintro e w3 ⟨rfl, hb3⟩
    have hb13 := bel2 hal hb3
    have hb03 := bel2 hb1 hb13
    replace q0 := cell_bel q0 hb03
    replace q1 := cell_bel q1 hb03
    have ht3 := Lib.hid (ht.keep hb13)
    clear hcell hal ht hb3 hb13
    have HB03 := Lib.hid hb03; clear hb03
    go_wp2_with fail
    refine (subsetMatch_any _ (toks A) s w3 ht3.out hm hh (by omega) hss).mono ?_
    rintro e w4 ⟨rfl, hb4⟩
    have HBB := Lib.hid (bel2 HB03.out hb4)
    have HB3 := Lib.hid hb4; clear hb4
    go_wp2_with fail
    refine (transTok_any _ s ps pl wn mb (toks A) _ (HM.out.keep HBB.out) hps (ht3.out.keep HB3.out) hpl hrest (toks_sum A (by omega)) (by omega) hss).mono ?_
    rintro e w5 ⟨rfl, hb5⟩
    go_wp2
    go_ret2
    exact ⟨rfl, bel2 HBB.out hb5⟩
  · cases g2 : (D.toList == [62])
    · go_enter Tryz.func47, Tryz.ntmps47
      go_wp2_with fail
      refine (tokenize_any A _ (by omega)).mono ?_
      rintro e w1 ⟨tv, rfl, ht, hb1⟩
      have ht := ht.sl
      obtain ⟨ta, tc, rfl⟩ := ht.form
      go_wp2_with fail
      refine (values_any _ _ _ _).mono ?_
      rintro e w2 ⟨rfl, rfl⟩
      have hal := (Below.refl w1.heap.size w1).alloc (Nat.le_refl _) (.cells #[.slice ta (toks A).length tc] 32)
      have hcell := (cell_row (j := 0) (heap_alloc_new w1 (.cells #[.slice ta (toks A).length tc] 32))).trans (rfl : _ = some (Value.slice ta (toks A).length tc))
      go_wp2_with fail
      refine (litTokens_any ta (toks A) tc w1.heap.size _ (ht.keep hal) (toks_pos A) hh (by omega) hcell).mono ?_
      rintro e w3 ⟨rfl, hb3⟩
      have hb13 := bel2 hal hb3
      have hb03 := bel2 hb1 hb13
      replace q0 := cell_bel q0 hb03
      replace q1 := cell_bel q1 hb03
      have ht3 := Lib.hid (ht.keep hb13)
      clear hcell hal ht hb3 hb13
      have HB03 := Lib.hid hb03; clear hb03
      have HBB := HB03
      have HB3 := Lib.hid (Below.refl w3.heap.size w3)
      go_wp2_with fail
      refine (transTok_any _ s ps pl wn mb (toks A) _ (HM.out.keep HBB.out) hps (ht3.out.keep HB3.out) hpl hrest (toks_sum A (by omega)) (by omega) hss).mono ?_
      rintro e w5 ⟨rfl, hb5⟩
      go_wp2
      go_ret2
      exact ⟨rfl, bel2 HBB.out hb5⟩
    · have h1 : bs s = [62] := by rw [← toList_bs]; exact eq_of_beq g1
      have h2 : bs D = [62] := by rw [← toList_bs]; exact eq_of_beq g2
      have hA : mk (joinD (outT (toks A) pl (toks s).length ps)) = A := by rw [Hall.out h1 h2, join_toks]
      rw [hA]
      clear h1 h2
      go_enter Tryz.func47, Tryz.ntmps47
      go_wp2
      go_ret2
      exact ⟨rfl, Below.refl _ _⟩
set_option maxRecDepth 100000 in
set_option maxHeartbeats 800000 in
theorem one_nil (w : World) : Calls Tryz.prog 48 #[.nilIface] w fun e w' => e = .returned (.int .i64 0) ∧ w = w' := by
  go_enter Tryz.func48, Tryz.ntmps48
  go_wp2
  go_ret
  exact ⟨rfl, rfl⟩
set_option maxRecDepth 100000 in
set_option maxHeartbeats 1600000 in
theorem transform_any (v : Value) (s A : ByteArray) (ps : List Part) (pl : List Nat) (wn : Nat) (w : World) (hv : PlanIs w v s (mk (joinD (texts ps))) ps pl) (hps : PartsOK wn ps)
    (hm : matchT ((toks A).map bs) ((toks s).map bs) = true) (hh : ∀ (k : Nat) (t : ByteArray), (toks A)[k]? = some t → HeadOK t)
    (hpl : ∀ x ∈ pl, x < (toks A).length) (hrest : (∃ p ∈ ps, p.kind = 11) → (toks s).length ≤ (toks A).length) (hsz : A.size ≤ 2147483647) (hss : s.size ≤ 137438953472)
    (hs0 : bs s ≠ []) (hD0 : bs (mk (joinD (texts ps))) ≠ []) (hall : bs s = [62] → bs (mk (joinD (texts ps))) = [62] → outT (toks A) pl (toks s).length ps = (toks A).map bs) :
    Calls Tryz.prog 15 #[v, .string A] w fun e w' => e = .returned (.tuple #[.string (mk (joinD (outT (toks A) pl (toks s).length ps))), .int .i64 0]) ∧ Below w.heap.size w w' := by
  have hmap := fun w' (hb : Below w.heap.size w w') => mapping46_any v s _ ps pl w' (hv.keep hb) hps.2.2.2
  have Hmap := Lib.hid hmap; clear hmap
  obtain ⟨sv, dv, kv, pv, nv, tv, pvs, xs, rfl, hs, hd, hk, hp, hn, ht, hpn, hpr⟩ := hv.is
  obtain ⟨sa, sc, rfl⟩ := hs.form
  obtain ⟨da, dc, rfl⟩ := hd.form
  obtain ⟨ka, kc, rfl⟩ := hk.form
  obtain ⟨pa, pc, rfl⟩ := hp.form
  obtain ⟨na, nc, rfl⟩ := hn.form
  obtain ⟨ta, tc, rfl⟩ := ht.form
  clear hs hd hk hp hn ht hpn hpr hv
  go_enter Tryz.func15, Tryz.ntmps15
  go_wp2_with fail
  have hb0 := (Below.refl w.heap.size w).alloc (Nat.le_refl _) (.cells #[.string s, .string (mk (joinD (texts ps))), .slice sa (toks s).length sc, .slice da (toks (mk (joinD (texts ps)))).length dc, .slice ka ps.length kc, .slice pa ps.length pc, .slice na ps.length nc, .slice ta ps.length tc] 36)
  refine (Hmap.out _ hb0).mono ?_
  rintro e w1 ⟨u, rfl, hM, hb1⟩
  have hb01 := bel2 hb0 hb1
  obtain ⟨mb, hu⟩ : ∃ mb, u = .pointer (some ⟨mb, 0, none⟩) := by obtain ⟨mb, _, _, _, _, _, _, _, h, -⟩ := hM; exact ⟨mb, h⟩
  subst hu
  go_wp2_with fail
  refine (match47_any s A ps pl wn mb w1 hM hps hm hh hpl hrest hsz hss hs0 hD0 hall).mono ?_
  rintro e w2 ⟨rfl, hb2⟩
  go_wp2_with (go_at_call 48; go_must (refine (one_nil _).mono ?_); rintro e w3 ⟨rfl, rfl⟩)
  go_ret2
  exact ⟨rfl, bel2 hb01 hb2⟩
end Go.Proofs.YtehlmjecbljafaaGreatDoor
