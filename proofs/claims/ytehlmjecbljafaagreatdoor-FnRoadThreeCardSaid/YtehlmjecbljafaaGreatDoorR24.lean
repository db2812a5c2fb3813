/- The tree's filters: parts against a fragment, whatever they are. -/
import Derived.Test.YtehlmjecbljafaaGreatDoorR15
import Derived.Test.YtehlmjecbljafaaGreatDoorR18
import Derived.Test.YtehlmjecbljafaaGreatDoorR23
namespace Go.Proofs.YtehlmjecbljafaaGreatDoor
open Go Go.RowKit
/-- What a filter's parts show against a fragment. -/
def MpC (ps : List (List UInt8)) (x : List UInt8) (b r o n : Nat) (w : World) (e : Ending) (w' : World) : Prop :=
 Only (· = r) w w' ∧ KeepTo r (o + n) w w' ∧ match mpF ps x with
 | none => ∃ v, e = .returned (.tuple #[v, .bool false])
 | some [] => e = .returned (.tuple #[.slice none 0 0, .bool true])
 | some (q :: qs) => ∃ r' o' cap' us', e = .returned (.tuple #[.slice (some ⟨r', o', none⟩) (qs.length + 1) cap', .bool true]) ∧ PV w' r' o' cap' us' ∧ PartsF w' b us' (q :: qs) ∧ (r' = r ∧ o + n ≤ o' + (qs.length + 1) ∨ w.heap.size ≤ r')
section
variable {ps : List (List UInt8)} {x : List UInt8} {b r o n : Nat} {w w' : World}
theorem MpC.none' (hm : mpF ps x = none) (ho : Only (· = r) w w') (hk : KeepTo r (o + n) w w') (v : Value) : MpC ps x b r o n w (.returned (.tuple #[v, .bool false])) w' := by
 refine ⟨ho, hk, ?_⟩
 rw [hm]; exact ⟨v, rfl⟩
theorem MpC.nil' (hm : mpF ps x = some []) (ho : Only (· = r) w w') (hk : KeepTo r (o + n) w w') : MpC ps x b r o n w (.returned (.tuple #[.slice none 0 0, .bool true])) w' := by
 refine ⟨ho, hk, ?_⟩
 rw [hm]
theorem MpC.some' {qs : List (List UInt8)} {r' o' cap' m : Nat} {us' : List Value} (hm : mpF ps x = some qs) (hq : 0 < qs.length) (hl : m = qs.length) (h1 : PV w' r' o' cap' us') (h2 : PartsF w' b us' qs) (h3 : r' = r ∧ o + n ≤ o' + m ∨ w.heap.size ≤ r')
  (ho : Only (· = r) w w') (hk : KeepTo r (o + n) w w') : MpC ps x b r o n w (.returned (.tuple #[.slice (some ⟨r', o', none⟩) m cap', .bool true])) w' := by
 refine ⟨ho, hk, ?_⟩
 rw [hm]
 cases qs with
 | nil => exact absurd hq (Nat.lt_irrefl _)
 | cons q qs => subst hl; exact ⟨r', o', cap', us', rfl, h1, h2, h3⟩
end
theorem elem141 : Tryz.prog.elem 141 = 94 := by kernel_rfl
theorem size94 (w : World) : (sizeOf 94).run Tryz.prog w = .ok 1 w := by kernel_rfl
theorem dropRun (r o n cap k : Nat) (hk : k < n) (hn : n ≤ cap) (w : World) : (Instr.slice 141 (.slice (some ⟨r, o, none⟩) n cap) (some (.int .i64 k)) none none).run Tryz.prog w = .ok (.slice (some ⟨r, o + k, none⟩) (n - k) (cap - k)) w := by
 rw [run_slice_l w 141 _ n cap (by rw [elem141]; exact Tryz.underlying141) .i64 k (by omega) (by omega), elem141, size94]
 have : ¬ cap = k := by omega
 simp [Result.andThen, sliced, Addr.add, this]
theorem endRun (r o n cap : Nat) (_hn : n ≤ cap) (w : World) : (Instr.slice 141 (.slice (some ⟨r, o, none⟩) n cap) (some (.int .i64 n)) none none).run Tryz.prog w = .ok (.slice (if cap = n then some ⟨r, o, none⟩ else some ⟨r, o + n, none⟩) 0 (cap - n)) w := by
 rw [run_slice_l w 141 _ n cap (by rw [elem141]; exact Tryz.underlying141) .i64 n (by omega) (by omega), elem141, size94]
 simp [Result.andThen, sliced, Addr.add]
 split <;> simp_all
theorem headRun (r o n cap : Nat) (hn : n ≤ cap) (w : World) : (Instr.slice 141 (.slice (some ⟨r, o, none⟩) n cap) none (some (.int .i64 n)) none).run Tryz.prog w = .ok (.slice (some ⟨r, o, none⟩) n cap) w := by
 rw [run_slice_h w 141 _ n cap (by rw [elem141]; exact Tryz.underlying141) .i64 n (by omega) (by omega), elem141, size94]
 simp [Result.andThen, sliced, Addr.add]
theorem cutRun (b o n cap s j : Nat) (hj : j ≤ s) (h : s - j ≤ cap) (w : World) : (Instr.slice 94 (.slice (some ⟨b, o, none⟩) n cap) none (some (.int .i64 ((s : Int) - (j : Int)))) none).run Tryz.prog w = .ok (.slice (some ⟨b, o, none⟩) (s - j) cap) w := by
 rw [run_slice_h w 94 _ n cap (by rw [elem94]; exact Tryz.underlying94) .i64 ((s : Int) - (j : Int)) (by omega) (by omega)]
 have : ((s : Int) - (j : Int)).toNat = s - j := by omega
 rw [elem94, size5]
 simp [Result.andThen, sliced, Addr.add, this]
theorem restRun (b o n cap s j : Nat) (hj : j ≤ s) (h : s - j < n) (hn : n ≤ cap) (w : World) : (Instr.slice 94 (.slice (some ⟨b, o, none⟩) n cap) (some (.int .i64 ((s : Int) - (j : Int)))) none none).run Tryz.prog w = .ok (.slice (some ⟨b, o + (s - j), none⟩) (n - (s - j)) (cap - (s - j))) w := by
 rw [run_slice_l w 94 _ n cap (by rw [elem94]; exact Tryz.underlying94) .i64 ((s : Int) - (j : Int)) (by omega) (by omega), elem94, size5]
 have : ((s : Int) - (j : Int)).toNat = s - j := by omega
 have h2 : ¬ cap = s - j := by omega
 simp [Result.andThen, sliced, Addr.add, this, h2]
theorem PartsF.bel {w w' : World} {b : Nat} {us : List Value} {ps : List (List UInt8)} (h : PartsF w b us ps) (hbw : b < w.heap.size) (hb : Below w.heap.size w w') : PartsF w' b us ps := h.keep (hb.block b hbw)
theorem runs_copy {o : Oper} {a : Act} {K : Value → World → Prop} {w : World} (s x : Operand)
  (ho : o.op = .call { callee := .builtin .append, args := #[s, x], argTypes := #[141, 141] }) (r of cap n : Nat) (us : List Value) (hln : us.length = n) (h : PV w r of cap us) (hpos : 0 < n) (hsm : n ≤ 200000) (h1 : ∀ u ∈ us, u.oneCell' = true)
  (A0 : Option Addr) (hA : A0 = if cap = n then some ⟨r, of, none⟩ else some ⟨r, of + n, none⟩) (hs : a.eval s = .slice A0 0 (cap - n)) (hx : a.eval x = .slice (some ⟨r, of, none⟩) n cap)
  (hh : ∀ r' o' cap' w', PV w' r' o' cap' us → (r' = r ∧ of + n ≤ o' ∨ w.heap.size ≤ r') → Only (· = r) w w' → KeepTo r (of + n) w w' → K (.slice (some ⟨r', o', none⟩) n cap') w') : runsTo Tryz.prog K ((execOp a.eval o).run Tryz.prog w) := by
 subst hln hA
 obtain ⟨r', o', cap', w', hr, h2, h3, h4, h5⟩ := app_copy o.type w r of cap us h hpos hsm h1
 unfold execOp
 simp only [ho, resolve, invoke, builtin, Sem.run_bind, Sem.run_pure, Result.andThen_ok, List.map_toArray, List.map_cons, List.map_nil, hs, hx, hr]
 exact hh r' o' cap' w' h2 h3 h4 h5
theorem PartsF.one {w : World} {b : Nat} {us : List Value} {ps : List (List UInt8)} (h : PartsF w b us ps) : ∀ u ∈ us, u.oneCell' = true := fun u hu => by
 obtain ⟨j, hj, rfl⟩ := List.getElem_of_mem hu
 obtain ⟨o, c, e, -⟩ := h.2 j _ _ (List.getElem?_eq_getElem hj) (List.getElem?_eq_getElem (by rw [← h.1]; exact hj))
 rw [e]; rfl
theorem mpF_nil {ps : List (List UInt8)} (h : ps ≠ []) : mpF ps [] = some ps := by
 cases ps with
 | nil => exact absurd rfl h
 | cons p ps => rw [mpF, if_pos rfl]
theorem mp_long {w wr wq w1 : World} {b r o n k ob c m r' o' cap' : Nat} {us : List Value} {ps : List (List UInt8)} {p x : List UInt8} (_hu : us[k]? = some (.slice (some ⟨b, ob, none⟩) p.length c)) (hps : PartsF wr b us ps) (hpl : p.length ≤ c) (hcm : c ≤ maxLen) (hbs : BsAt wr b ob p)
  (hm0 : 0 < m) (hm : m < p.length) (hln : us.length = n) (hpn : ps.length = n) (hlt : k < n) (hbw : b < w.heap.size) (hbr : b ≠ r) (hb : Below w.heap.size w wr) (KT : KeepTo r (o + n) w wr) (hmp : mpF ps x = some (p.drop m :: ps.drop (k + 1)))
  (hpv1 : PV w1 r' o' cap' us) (hpl1 : r' = r ∧ o + n ≤ o' ∨ wq.heap.size ≤ r') (ho1 : Only (· = r) wq w1) (hk1 : KeepTo r (o + n) wq w1) (hrw : r < wr.heap.size) (hq : Below wr.heap.size wr wq) :
  MpC ps x b r o n w (.returned (.tuple #[.slice (some ⟨r', o' + k, none⟩) (n - k) (cap' - k), .bool true])) (w1.setCell ⟨r', o' + k, none⟩ (.slice (some ⟨b, ob + m, none⟩) (p.length - m) (c - m))) := by
 have hbq := hb.trans (hq.mono hb.size)
 have hrr : b ≠ r' := by
  rintro rfl
  rcases hpl1 with ⟨h, -⟩ | h
  ·exact hbr h
  ·have := hbq.size; omega
 have hset := heap_setCell_other w1 ⟨r', o' + k, none⟩ b (.slice (some ⟨b, ob + m, none⟩) (p.length - m) (c - m)) hrr
 have hbh : w1.heap[b]? = wr.heap[b]? := (ho1.block b (Nat.lt_of_lt_of_le hbw hbq.size) hbr).trans (hq.block b (Nat.lt_of_lt_of_le hbw hb.size))
 have hpf := (hps.keep (hset.trans hbh)).set (k := k) (u := .slice (some ⟨b, ob + m, none⟩) (p.length - m) (c - m)) (p := p.drop m) ⟨ob + m, c - m, by rw [List.length_drop], by rw [List.length_drop]; omega, by omega, fun j d hj => by
  rw [List.getElem?_drop] at hj
  rw [Nat.add_assoc]
  exact (World.cell?_of_block (hset.trans hbh)).trans (hbs (m + j) d hj)⟩
 have hdr : (ps.set k (p.drop m)).drop k = p.drop m :: ps.drop (k + 1) := by
  rw [List.drop_eq_getElem_cons (by rw [List.length_set, hpn]; exact hlt), List.getElem_set_self, List.drop_set_of_lt (by omega)]
 have hpd := hpf.drop (k := k)
 rw [hdr] at hpd
 have honly : Only (· = r) w w1 := (Only.of hbq).trans ho1 fun b hb => .inl hb
 have hkeep : KeepTo r (o + n) w w1 := by
  exact (KT.trans (m' := o + n) (KeepTo.of (hq.block r hrw)) (Nat.le_refl _)).trans hk1 (Nat.le_refl _)
 refine MpC.some' hmp (by simp) (by rw [List.length_cons, List.length_drop, hpn]; omega) ((hpv1.set (by omega)).drop (by simp; omega)) hpd ?_ ?_ ?_
 ·rcases hpl1 with ⟨h, h2⟩ | h
  ·exact .inl ⟨h, by omega⟩
  ·exact .inr (Nat.le_trans hbq.size h)
 ·refine honly.set ?_ _
  rcases hpl1 with ⟨h, h2⟩ | h
  ·exact .inl h
  ·exact .inr (Nat.le_trans hbq.size h)
 ·refine hkeep.trans (m' := o + n) ?_ (Nat.le_refl _)
  by_cases e : r = r'
  ·subst e
   rcases hpl1 with ⟨h, h2⟩ | h
   ·exact KeepTo.set (by omega)
   ·have := hq.size; omega
  ·exact KeepTo.of (heap_setCell_other _ _ _ _ e)
set_option maxRecDepth 100000 in
set_option maxHeartbeats 6400000 in
theorem matchPartsF_any (b r o cap n : Nat) (us : List Value) (ps : List (List UInt8)) (s : ByteArray) (w : World) (hln : us.length = n) (hv : PV w r o cap us) (hps : PartsF w b us ps) (hbw : b < w.heap.size) (hbr : b ≠ r) (hs0 : 0 < s.size) (hs : s.size ≤ 100000) (hn : n ≤ 200000) (hpl : ∀ p ∈ ps, p.length ≤ 100000) :
  Calls Tryz.prog 126 #[.slice (some ⟨r, o, none⟩) n cap, .string s] w (MpC ps (bs s) b r o n w) := by
 have hpn : ps.length = n := by rw [← hln]; exact hps.1.symm
 have hnc : n ≤ cap := hln ▸ hv.n
 have HPL := Lib.hid hpl; clear hpl
 have HPN := Lib.hid hpn; clear hpn
 have HV := Lib.hid hv; clear hv
 have HP := Lib.hid hps; clear hps
 have HL := Lib.hid hln; clear hln
 have HB := Lib.hid hbr; clear hbr
 have es0 : ((s.size : Int) == 0) = false := by rw [beq_eq_false_iff_ne]; omega
 go_enter Tryz.func126, Tryz.ntmps126
 go_wp2
 go_loopw [0, 7, 25] (fun v si i wr => ∃ (k j : Nat), v = .slice (some ⟨r, o, none⟩) n cap ∧ si = .int .i64 j ∧ i = .int .i64 k ∧ j ≤ s.size ∧ k ≤ n ∧ Hid (mpF ps (bs s) = mpF (ps.drop k) ((bs s).drop j)) ∧ Below w.heap.size w wr) (fun _ _ i _ => n - (intOf i).toNat)
 case atStart => exact ⟨0, 0, rfl, rfl, rfl, Nat.zero_le _, Nat.zero_le _, rfl, Below.refl _ _⟩
 case round =>
  obtain ⟨k, j, rfl, rfl, rfl, hj, hk, hm, hb⟩ := hrel
  have KT : KeepTo r (o + n) w wr := KeepTo.of (hb.block r HV.out.lt)
  by_cases hlt : k < n
  ·have Hps : PartsF wr b us ps := PartsF.bel HP.out hbw hb
   have hpv : PV wr r o cap us := HV.out.keep (HL.out.symm ▸ KT)
   obtain ⟨u, p, hu, hp, hpc⟩ := Hps.at' (k := k) (by rw [HPN.out]; exact hlt)
   obtain ⟨ob, c, rfl, hpl, hcm, hbs⟩ := hpc
   obtain ⟨cu, -⟩ := hpv.cell hu
   have hd : ps.drop k = p :: ps.drop (k + 1) := by
    obtain ⟨h1, h2⟩ := List.getElem?_eq_some_iff.1 hp
    rw [List.drop_eq_getElem_cons h1, h2]
   have hp1 := HPL.out p (List.mem_of_getElem? hp)
   have hm' := hm.out
   rw [hd] at hm'
   have hdl : (ps.drop (k + 1)).length + 1 = n - k := by rw [List.length_drop, HPN.out]; omega
   have hkk0 : k + 1 = n → ps.drop (k + 1) = [] := fun h => List.drop_of_length_le (by rw [HPN.out]; omega)
   have hkk1 : ps.drop (k + 1) = [] → k + 1 = n := fun h => by rw [h] at hdl; simp at hdl; omega
   have hrun := fun w => dropRun r o n cap k hlt hnc w
   have hpd := hpv.drop (k := k) (by rw [HL.out]; omega)
   have hpf := Hps.drop (k := k)
   have same : mpF ps (bs s) = some (ps.drop k) → ∀ wr', Below wr.heap.size wr wr' → MpC ps (bs s) b r o n w (.returned (.tuple #[.slice (some ⟨r, o + k, none⟩) (n - k) (cap - k), .bool true])) wr' := fun h wr' hb' => by
    have hbb := hb.trans (hb'.mono hb.size)
    refine MpC.some' h (by rw [hd]; simp) (by rw [hd, List.length_cons]; exact hdl.symm) (hpd.keep (KeepTo.of (hb'.block r (Nat.lt_of_lt_of_le HV.out.lt hb.size)))) (hpf.keep (hb'.block b (Nat.lt_of_lt_of_le hbw hb.size))) (.inl ⟨rfl, by omega⟩) (Only.of hbb) (KeepTo.of (hbb.block r HV.out.lt))
   have nil0 : mpF ps (bs s) = some [] → ∀ wr', Below wr.heap.size wr wr' → MpC ps (bs s) b r o n w (.returned (.tuple #[.slice none 0 0, .bool true])) wr' := fun h wr' hb' => by
    have hbb := hb.trans (hb'.mono hb.size)
    exact MpC.nil' h (Only.of hbb) (KeepTo.of (hbb.block r HV.out.lt))
   have none0 : mpF ps (bs s) = none → ∀ v wr', Below wr.heap.size wr wr' → MpC ps (bs s) b r o n w (.returned (.tuple #[v, .bool false])) wr' := fun h v wr' hb' => by
    have hbb := hb.trans (hb'.mono hb.size)
    exact MpC.none' h (Only.of hbb) (KeepTo.of (hbb.block r HV.out.lt)) v
   have HSAME := Lib.hid same; clear same
   have HNIL := Lib.hid nil0; clear nil0
   have HNONE := Lib.hid none0; clear none0
   have HSL : Hid (Sl wr 1 (.slice (some ⟨b, ob, none⟩) p.length c) p.length (u8s p)) := hbs.sl rfl hpl hcm
   have HBS := Lib.hid hbs; clear hbs
   have HPD := Lib.hid hpd; clear hpd
   have HPF := Lib.hid hpf; clear hpf
   have HPV := Lib.hid hpv; clear hpv
   have HPS := Lib.hid Hps; clear Hps
   have HD := Lib.hid hd; clear hd
   have HDL := Lib.hid hdl; clear hdl
   have HK0 := Lib.hid hkk0; clear hkk0
   have HK1 := Lib.hid hkk1; clear hkk1
   have HM := Lib.hid hm'; clear hm' hm
   have HU := Lib.hid hu; clear hu
   have HPK := Lib.hid hp; clear hp
   by_cases hjs : s.size ≤ j
   ·have e : mpF ps (bs s) = some (ps.drop k) := by
     rw [HM.out, HD.out, show (bs s).drop j = [] from List.drop_of_length_le (by rw [bs_len]; exact hjs), mpF, if_pos rfl]
    have HE := Lib.hid e; clear e
    go_wp2
    go_ret2
    exact HSAME.out HE.out _ (Below.refl _ _)
   ·have hjs : j < s.size := by omega
    have hrne : (bs s).drop j ≠ [] := by
     intro e; have := congrArg List.length e; rw [List.length_drop, bs_len, List.length_nil] at this; omega
    have hrl : ((bs s).drop j).length = s.size - j := by rw [List.length_drop, bs_len]
    have hm := HM.out
    rw [mpF, if_neg hrne] at hm
    by_cases h42 : p = [42]
    ·subst h42
     rw [if_pos rfl] at hm
     have cp : wr.cell? ⟨b, ob, none⟩ = some (.int .u8 42) := HBS.out 0 42 rfl
     have hbe : (s.extract j s.size).data.toList = (bs s).drop j := bs_extract_end s j
     have hix := Tryz.strings_IndexByte (s.extract j s.size) 46 wr
     rw [hbe] at hix
     by_cases hdot : 46 ∈ (bs s).drop j
     ·rw [if_pos hdot] at hm
      obtain ⟨t, r2, er, ht⟩ := first_dot hdot
      have hdw : (((bs s).drop j).dropWhile (· ≠ 46)).drop 1 = r2 := by rw [er]; exact dropWhile_dot ht
      rw [hdw] at hm
      have hr2 : r2 = (bs s).drop (j + (t.length + 1)) := by
       rw [← List.drop_drop, er, List.drop_append, List.drop_of_length_le (by omega)]
       rw [show t.length + 1 - t.length = 1 by omega]; rfl
      have hj2 : j + (t.length + 1) ≤ s.size := by
       have h1 := congrArg List.length er
       rw [hrl, List.length_append, List.length_cons] at h1
       omega
      rw [show Lib.indexByte ((bs s).drop j) ((46 : Int).toNat.toUInt8) = (t.length : Int) from indexByte_at er ht] at hix
      rw [hr2] at hm
      have HMM := Lib.hid hm; clear hm er hdw hbe hr2 hrl hrne hdot
      go_wp2_with fail
      refine hix.mono ?_
      rintro e w2 ⟨rfl, rfl⟩
      clear hix
      go_wp2
      go_roundw
      case rel => exact ⟨k + 1, j + (t.length + 1), rfl, by go_num, by go_num, hj2, hlt, HMM.out, hb⟩
      case measure => simp [intOf]; omega
     ·rw [if_neg hdot] at hm
      rw [show Lib.indexByte ((bs s).drop j) ((46 : Int).toNat.toUInt8) = -1 from indexByte_no hdot] at hix
      by_cases hke : k + 1 = n
      ·rw [if_pos (HK0.out hke)] at hm
       have hkk : (((k : Int)) == (n : Int) - 1) = true := by rw [beq_iff_eq]; omega
       have HMM := Lib.hid hm; clear hm hbe hrl hrne hdot hke
       go_wp2_with fail
       refine hix.mono ?_
       rintro e w2 ⟨rfl, rfl⟩
       clear hix
       go_wp2
       go_ret2
       exact HNIL.out HMM.out _ (Below.refl _ _)
      ·rw [if_neg fun h => hke (HK1.out h), ← HD.out] at hm
       have hkk : (((k : Int)) == (n : Int) - 1) = false := by rw [beq_eq_false_iff_ne]; omega
       have HMM := Lib.hid hm; clear hm hbe hrl hrne hdot
       go_wp2_with fail
       refine hix.mono ?_
       rintro e w2 ⟨rfl, rfl⟩
       clear hix
       go_wp2
       go_ret2
       exact HSAME.out HMM.out _ (Below.refl _ _)
    ·rw [if_neg h42] at hm
     by_cases h62 : p = [62]
     ·subst h62
      rw [if_pos rfl] at hm
      have cp : wr.cell? ⟨b, ob, none⟩ = some (.int .u8 62) := HBS.out 0 62 rfl
      have HMM := Lib.hid hm; clear hm hrl hrne
      go_wp2
      go_ret2
      exact HNIL.out HMM.out _ (Below.refl _ _)
     ·rw [if_neg h62, hrl] at hm
      have hcq := conv_quiet HSL.out
      by_cases hlong : s.size - j < p.length
      ·rw [if_pos hlong] at hm
       have e1 : ((p.length : Int) == 1) = false := by rw [beq_eq_false_iff_ne]; omega
       have hmin : min ((j : Int) + (p.length : Int)) (s.size : Int) = (s.size : Int) := by omega
       have hcut := fun w => cutRun b ob p.length c s.size j (by omega) (by omega) w
       have hcut2 := fun w => restRun b ob p.length c s.size j (by omega) hlong hpl w
       have hpt : Sl wr 1 (.slice (some ⟨b, ob, none⟩) (s.size - j) c) (s.size - j) (u8s (p.take (s.size - j))) := by
        have h := HBS.out.sub 0 (s.size - j)
        rw [List.drop_zero, Nat.add_zero] at h
        exact h.sl (by rw [List.length_take]; omega) (by omega) hcm
       have hcq2 := conv_quiet hpt
       have hex : s.extract j s.size = mk ((bs s).drop j) := by apply bs_inj; rw [bs_extract_end, bs_mk]
       by_cases hpre : (bs s).drop j <+: p
       ·rw [if_pos hpre] at hm
        have htk : p.take (s.size - j) = (bs s).drop j := by rw [← hrl]; exact (List.prefix_iff_eq_take.1 hpre).symm
        rw [htk] at hcq2
        have HMM := Lib.hid hm; clear hm hrne htk hpt hcq h42 h62 hpre hrl
        have h1c := HPS.out.one
        have hpos : 0 < n := by omega
        obtain ⟨A0, hA0⟩ : ∃ A0 : Option Addr, A0 = if cap = n then some ⟨r, o, none⟩ else some ⟨r, o + n, none⟩ := ⟨_, rfl⟩
        have hend := fun w => endRun r o n cap hnc w
        have hhead := fun w => headRun r o n cap hnc w
        rw [← hA0] at hend
        have HA := Lib.hid hA0; clear hA0
        have HOC := Lib.hid h1c; clear h1c
        have hlw : r < wr.heap.size := HPV.out.lt
        go_wp2
        go_quiet (fail)
        go_wp2
        refine wp_region_L [0, 1, 2, 3, 4, 5] (fun _ => True) (by kernel_rfl) (by kernel_rfl) trivial (fun ne => ?_)
        repeat (refine wpCL_q rfl rfl ?_; go_big_quiet_step (fail); refine wpQuiet_nil ?_)
        refine wpCL_ch rfl rfl (fun K hK => ?_)
        refine runs_copy _ _ rfl r o cap n us HL.out (HPV.out.keep (KeepTo.of ((below_drewN (Below.refl _ wr) nq).block r hlw))) hpos hn HOC.out A0 HA.out rfl rfl ?_
        intro r' o' cap' w1 hpv1 hpl1 honly1 hkt1
        refine hK _ _ ⟨⟨w1, trivial⟩, rfl⟩ ?_
        clear hK K
        obtain ⟨hc1, hf1⟩ := hpv1.cell HU.out
        have hn1 : n ≤ cap' := HL.out ▸ hpv1.n
        have hrun1 := fun w => dropRun r' o' n cap' k hlt hn1 w
        have HPV1 := Lib.hid hpv1; clear hpv1
        have HPL1 := Lib.hid hpl1; clear hpl1
        have HK1 := Lib.hid hkt1; clear hkt1
        have HO1 := Lib.hid honly1; clear honly1
        go_simp
        refine wpCL_last ?_
        go_wp2
        go_ret2
        exact mp_long HU.out HPS.out hpl hcm HBS.out (by omega) hlong HL.out HPN.out hlt hbw HB.out hb KT HMM.out HPV1.out HPL1.out HO1.out HK1.out hlw (below_drewN (Below.refl _ wr) nq).drew
       ·rw [if_neg hpre] at hm
        have hne : ((mk (p.take (s.size - j))).toList == (mk ((bs s).drop j)).toList) = false := by
         rw [toList_bs, toList_bs, bs_mk, bs_mk, beq_eq_false_iff_ne]
         intro this; exact hpre (by rw [List.prefix_iff_eq_take, hrl]; exact this.symm)
        have HMM := Lib.hid hm; clear hm hrne hpt hcq h42 h62 hpre hrl
        go_wp2
        go_quiet (fail)
        go_wp2
        go_ret2
        exact HNONE.out HMM.out _ _ (below_drewN (Below.refl _ _) _)
      ·rw [if_neg hlong] at hm
       by_cases h1 : p.length = 1
       ·obtain ⟨c0, rfl⟩ := List.length_eq_one_iff.1 h1
        have cp : wr.cell? ⟨b, ob, none⟩ = some (.int .u8 (c0.toNat : Int)) := HBS.out 0 c0 rfl
        have e42 : ((c0.toNat : Int) == 42) = false := by
         rw [beq_eq_false_iff_ne]; intro e; have h3 : c0 = 42 := UInt8.toNat_inj.1 (show c0.toNat = 42 by omega); exact h42 (by rw [h3])
        have e62 : ((c0.toNat : Int) == 62) = false := by
         rw [beq_eq_false_iff_ne]; intro e; have h3 : c0 = 62 := UInt8.toNat_inj.1 (show c0.toNat = 62 by omega); exact h62 (by rw [h3])
        have hcq1 : ∀ m, (convert 94 9 (.slice (some ⟨b, ob, none⟩) 1 c)).run Tryz.prog (wr.drewN m) = .ok (.string (mk [c0])) (wr.drewN m) := hcq
        simp only [List.length_cons, List.length_nil, Nat.zero_add] at hlong hp1 hpl hm
        have hmin : min ((j : Int) + 1) (s.size : Int) = (j : Int) + 1 := by omega
        have hex : s.extract j (j + 1) = mk (((bs s).drop j).take 1) := by
         apply bs_inj; rw [bs_extract, bs_mk, List.drop_take, show j + 1 - j = 1 by omega]
        by_cases hpre : [c0] <+: (bs s).drop j
        ·rw [if_pos hpre] at hm
         have htk : ((bs s).drop j).take 1 = [c0] := (List.prefix_iff_eq_take.1 hpre).symm
         rw [htk] at hex
         by_cases hall : 1 = s.size - j
         ·rw [if_pos hall] at hm
          have hall2 : s.size ≤ j + 1 := by omega
          clear hall
          by_cases hke : k + 1 = n
          ·rw [if_pos (HK0.out hke)] at hm
           have hkk : (((k : Int)) == (n : Int) - 1) = true := by rw [beq_iff_eq]; omega
           have HMM := Lib.hid hm; clear hm hrne htk h42 h62 hpre hrl hke hcq h1
           go_wp2
           go_quiet (fail)
           go_wp2
           go_ret2
           exact HNIL.out HMM.out _ (below_drewN (Below.refl _ _) _)
          ·rw [if_neg fun h => hke (HK1.out h)] at hm
           have hkk : (((k : Int)) == (n : Int) - 1) = false := by rw [beq_eq_false_iff_ne]; omega
           have hdne : ps.drop (k + 1) ≠ [] := fun h => hke (HK1.out h)
           rw [← mpF_nil hdne, ← show (bs s).drop (j + 1) = [] from List.drop_of_length_le (by rw [bs_len]; omega)] at hm
           have HMM := Lib.hid hm; clear hm hrne htk h42 h62 hpre hrl hdne hcq h1
           go_wp2
           go_quiet (fail)
           go_wp2
           go_roundw
           case rel => exact ⟨k + 1, j + 1, rfl, by go_num, by go_num, by omega, hlt, HMM.out, below_drewN hb _⟩
           case measure => simp [intOf]; omega
         ·rw [if_neg hall, List.drop_drop] at hm
          have hj2 : j + 1 < s.size := by omega
          have HMM := Lib.hid hm; clear hm hrne htk h42 h62 hpre hrl hall hcq h1
          go_wp2
          go_quiet (fail)
          go_wp2
          go_roundw
          case rel => exact ⟨k + 1, j + 1, rfl, by go_num, by go_num, by omega, hlt, HMM.out, below_drewN hb _⟩
          case measure => simp [intOf]; omega
        ·rw [if_neg hpre] at hm
         have hne : ((mk [c0]).toList == (mk (((bs s).drop j).take 1)).toList) = false := by
          rw [toList_bs, toList_bs, bs_mk, bs_mk, beq_eq_false_iff_ne]
          intro this; exact hpre (List.prefix_iff_eq_take.2 this)
         have HMM := Lib.hid hm; clear hm hrne h42 h62 hpre hrl hcq h1
         go_wp2
         go_quiet (fail)
         go_wp2
         go_ret2
         exact HNONE.out HMM.out _ _ (below_drewN (Below.refl _ _) _)
       ·have e1 : ((p.length : Int) == 1) = false := by rw [beq_eq_false_iff_ne]; omega
        have hmin : min ((j : Int) + (p.length : Int)) (s.size : Int) = (j : Int) + (p.length : Int) := by omega
        have hex : s.extract j (j + p.length) = mk (((bs s).drop j).take p.length) := by
         apply bs_inj; rw [bs_extract, bs_mk, List.drop_take, show j + p.length - j = p.length by omega]
        by_cases hpre : p <+: (bs s).drop j
        ·rw [if_pos hpre] at hm
         have htk : ((bs s).drop j).take p.length = p := (List.prefix_iff_eq_take.1 hpre).symm
         rw [htk] at hex
         by_cases hall : p.length = s.size - j
         ·rw [if_pos hall] at hm
          have hall2 : s.size ≤ j + p.length := by omega
          clear hall
          by_cases hke : k + 1 = n
          ·rw [if_pos (HK0.out hke)] at hm
           have hkk : (((k : Int)) == (n : Int) - 1) = true := by rw [beq_iff_eq]; omega
           have HMM := Lib.hid hm; clear hm hrne htk h42 h62 hpre hrl hke h1
           go_wp2
           go_quiet (fail)
           go_wp2
           go_ret2
           exact HNIL.out HMM.out _ (below_drewN (Below.refl _ _) _)
          ·rw [if_neg fun h => hke (HK1.out h)] at hm
           have hkk : (((k : Int)) == (n : Int) - 1) = false := by rw [beq_eq_false_iff_ne]; omega
           have hdne : ps.drop (k + 1) ≠ [] := fun h => hke (HK1.out h)
           rw [← mpF_nil hdne, ← show (bs s).drop (j + p.length) = [] from List.drop_of_length_le (by rw [bs_len]; omega)] at hm
           have HMM := Lib.hid hm; clear hm hrne htk h42 h62 hpre hrl hdne h1
           go_wp2
           go_quiet (fail)
           go_wp2
           go_roundw
           case rel => exact ⟨k + 1, j + p.length, rfl, by go_num, by go_num, by omega, hlt, HMM.out, below_drewN hb _⟩
           case measure => simp [intOf]; omega
         ·rw [if_neg hall, List.drop_drop] at hm
          have hj2 : j + p.length < s.size := by omega
          have HMM := Lib.hid hm; clear hm hrne htk h42 h62 hpre hrl hall h1
          go_wp2
          go_quiet (fail)
          go_wp2
          go_roundw
          case rel => exact ⟨k + 1, j + p.length, rfl, by go_num, by go_num, by omega, hlt, HMM.out, below_drewN hb _⟩
          case measure => simp [intOf]; omega
        ·rw [if_neg hpre] at hm
         have hne : ((mk p).toList == (mk (((bs s).drop j).take p.length)).toList) = false := by
          rw [toList_bs, toList_bs, bs_mk, bs_mk, beq_eq_false_iff_ne]
          intro this; exact hpre (List.prefix_iff_eq_take.2 this)
         have HMM := Lib.hid hm; clear hm hrne h42 h62 hpre hrl h1
         go_wp2
         go_quiet (fail)
         go_wp2
         go_ret2
         exact HNONE.out HMM.out _ _ (below_drewN (Below.refl _ _) _)
  ·have e : mpF ps (bs s) = none := by
    rw [hm.out, List.drop_of_length_le (by rw [HPN.out]; omega), mpF]
   have HE := Lib.hid e; clear e hm
   go_wp2
   go_ret2
   exact MpC.none' HE.out (Only.of hb) KT _
end Go.Proofs.YtehlmjecbljafaaGreatDoor
