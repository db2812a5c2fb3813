/- Whether a subject may be published: zzIndex, zzSplit, zzIndexAny, IsValidPublishSubject. A good subject may be published. The list of interest: HasInterest. The list of interest: made by deeds, and asked. -/
import Derived.Test.YtehlmjecbljafaaGreatDoorM13
import Derived.Test.YtehlmjecbljafaaGreatDoorM18
import Derived.Lib.OthersKept
namespace Go.Proofs.YtehlmjecbljafaaGreatDoor
open Go Go.RowKit
theorem bs_one_at (s : ByteArray) (k : Nat) (h : k < s.size) : bs (s.extract k (k + 1)) = [s[k]] := by
  rw [bs_extract, take_succ_bs s k h, List.drop_left' (by rw [List.length_take, bs_len]; omega)]
/-- The first dot. -/
def DotAt (l : List UInt8) (r : Int) : Prop := (r = -1 ∧ 46 ∉ l) ∨ ∃ pre rest, l = pre ++ 46 :: rest ∧ 46 ∉ pre ∧ r = pre.length
set_option maxRecDepth 100000 in
set_option maxHeartbeats 800000 in
theorem zzIndex_any (s : ByteArray) (w : World) (hs : s.size ≤ 274877906944) : Calls Tryz.prog 171 #[.string s, .string ⟨#[46]⟩] w fun e w' => ∃ r, e = .returned (.int .i64 r) ∧ DotAt (bs s) r ∧ w = w' := by
  have hd : (⟨#[46]⟩ : ByteArray).size = 1 := rfl
  go_enter Tryz.func171, Tryz.ntmps171
  go_wp2
  go_loop [5] (fun i => ∃ k : Nat, k ≤ s.size ∧ i = .int .i64 k ∧ Hid (46 ∉ (bs s).take k)) (fun i => s.size - (intOf i).toNat)
  case atStart => exact ⟨0, Nat.zero_le _, rfl, by simp [Hid]⟩
  case round =>
    obtain ⟨k, hk, rfl, HF⟩ := hrel
    by_cases hlt : k < s.size
    · cases g : ((s.extract k (k + 1)).toList == [46])
      · have hc : s[k] ≠ 46 := by
          intro e
          rw [toList_bs, bs_one_at s k hlt, e] at g
          simp at g
        have HF2 : Hid (46 ∉ (bs s).take (k + 1)) := by
          have := HF.out
          unfold Hid
          rw [take_succ_bs s k hlt]
          simp only [List.mem_append, List.mem_singleton, not_or]
          exact ⟨this, fun e => hc e.symm⟩
        clear hc
        go_wp2
        go_round
        case rel => exact ⟨k + 1, hlt, by go_num, HF2.out⟩
        case measure => simp [intOf]; omega
      · have hc : s[k] = 46 := by
          have := eq_of_beq g
          rw [toList_bs, bs_one_at s k hlt] at this
          simpa using this
        have HD : Hid (DotAt (bs s) k) := .inr ⟨(bs s).take k, (bs s).drop (k + 1), by
          conv => lhs; rw [← List.take_append_drop k (bs s)]
          rw [List.drop_eq_getElem_cons (by rw [bs_len]; exact hlt)]
          have := bs_at? s k hlt
          rw [List.getElem?_eq_getElem (by rw [bs_len]; exact hlt)] at this
          rw [Option.some.inj this, hc], HF.out, by rw [List.length_take, bs_len]; omega⟩
        clear hc
        go_wp2
        go_ret
        exact ⟨_, rfl, HD.out, rfl⟩
    · obtain rfl : k = s.size := by omega
      go_wp2
      go_ret
      refine ⟨_, rfl, .inl ⟨rfl, ?_⟩, rfl⟩
      have := HF.out
      rwa [List.take_of_length_le (by rw [bs_len]; omega)] at this
def sizeOfV : Value → Nat
  | .string s => s.size
  | _ => 0
theorem split_at {cur : ByteArray} {pre rest : List UInt8} (h : bs cur = pre ++ 46 :: rest) (hp : 46 ∉ pre) :
    toks cur = cur.extract 0 pre.length :: toks (cur.extract (pre.length + 1) cur.size) ∧ pre.length + 1 ≤ cur.size := by
  have hsz : pre.length + 1 ≤ cur.size := by
    rw [← bs_len, h]; simp
  refine ⟨?_, hsz⟩
  have h1 : bs (cur.extract 0 pre.length) = pre := by rw [bs_extract, h]; simp
  have h2 : bs (cur.extract (pre.length + 1) cur.size) = rest := by
    rw [bs_extract_end, h]; simp
  have e : cur.extract 0 pre.length = mk pre := by
    conv => rhs; rw [← h1]
    rw [mk_bs]
  unfold toks
  rw [h2, h, splitDot_dot _ _ hp, List.map_cons, e]
theorem split_none {cur : ByteArray} (h : 46 ∉ bs cur) : toks cur = [cur] := by
  unfold toks; rw [splitDot_none _ h]; simp [mk_bs]
set_option maxRecDepth 100000 in
set_option maxHeartbeats 800000 in
theorem zzSplit_any (s : ByteArray) (w : World) (hs : s.size ≤ 137438953472) :
    Calls Tryz.prog 120 #[.string s, .string ⟨#[46]⟩] w fun e w' => ∃ v, e = .returned v ∧ Own w' w.heap.size 1 v (toks s).length ((toks s).map Value.string) ∧ Below w.heap.size w w' := by
  have hd : (⟨#[46]⟩ : ByteArray).size = 1 := rfl
  have hl := toks_len s
  go_enter Tryz.func120, Tryz.ntmps120
  go_wp2
  go_loopw [0, 5] (fun c v wr => ∃ (cur : ByteArray) (ss : List ByteArray), c = .string cur ∧ cur.size ≤ s.size ∧ Hid (toks s = ss ++ toks cur) ∧ Own wr w.heap.size 1 v ss.length (ss.map Value.string) ∧ Below w.heap.size w wr) (fun c _ _ => sizeOfV c)
  case atStart => exact ⟨s, [], rfl, Nat.le_refl _, rfl, Own.nil _ _ _, Below.refl _ _⟩
  case round =>
    obtain ⟨cur, ss, rfl, hc, HT, hown, hb⟩ := hrel
    have hssl : ss.length ≤ 137438953474 := by
      have := congrArg List.length HT.out
      rw [List.length_append] at this; omega
    have hbz := hb.size
    go_wp2_with fail
    refine (zzIndex_any cur _ (by omega)).mono ?_
    rintro e w1 ⟨r, rfl, hr, rfl⟩
    rcases hr with ⟨rfl, hno⟩ | ⟨pre, rest, h1, h2, rfl⟩
    · have H1 := Lib.hid (split_none hno); clear hno
      go_wp2_with (at_builtin; go_must (refine wpList_app1 et32 rfl _ _ rfl w.heap.size rfl hown [_] rfl rfl (by simp [Value.oneCell']) (by omega) hbz ?_); intro v' w1 hown1 hgrow)
      go_ret
      refine ⟨_, rfl, ?_, bel_app hb hgrow hown hbz⟩
      rw [HT.out, H1.out]
      simpa using hown1
    · obtain ⟨h3, h4⟩ := split_at h1 h2
      have H3 := Lib.hid h3; clear h3 h1 h2
      go_wp2_with (at_builtin; go_must (refine wpList_app1 et32 rfl _ _ rfl w.heap.size rfl hown [_] rfl rfl (by simp [Value.oneCell']) (by omega) hbz ?_); intro v' w1 hown1 hgrow)
      have hes : (cur.extract (pre.length + 1) cur.size).size = cur.size - (pre.length + 1) := by rw [← bs_len, bs_extract_end, List.length_drop, bs_len]
      go_roundw
      case rel => exact ⟨_, ss ++ [cur.extract 0 pre.length], rfl, by omega, by unfold Hid; rw [HT.out, H3.out]; simp, by simpa using hown1, bel_app hb hgrow hown hbz⟩
      case measure => simp only [sizeOfV]; omega
theorem width_pos (s : ByteArray) (pos : Nat) (h : pos < s.size) : 1 ≤ (Utf8.decode s pos).2 := by
  by_cases ha : (s[pos]'h).toNat < 128
  · rw [decode_ascii s pos h ha]
    exact Nat.le_refl _
  · exact (decode_high s pos h (by omega)).2
/-- A rune that is an ASCII character is that byte. -/
theorem decode_byte (s : ByteArray) (pos : Nat) (h : pos < s.size) {d : Nat} (hd : d < 128) (he : (Utf8.decode s pos).1 = d) : (s[pos]'h).toNat = d := by
  by_cases ha : (s[pos]'h).toNat < 128
  · rw [decode_ascii s pos h ha] at he; exact he
  · have := (decode_high s pos h (by omega)).1; omega
set_option maxRecDepth 100000 in
set_option maxHeartbeats 800000 in
theorem zzIndexAny_any (s cs : ByteArray) (w : World) (hs : s.size ≤ 274877906944) (hcs : cs.size ≤ 100) (hasc : ∀ (j : Nat) (h : j < cs.size), (cs[j]).toNat < 128) (hno : ∀ (i j : Nat) (h : i < s.size) (h' : j < cs.size), (s[i]).toNat ≠ (cs[j]).toNat) :
    Calls Tryz.prog 210 #[.string s, .string cs] w fun e w' => e = .returned (.int .i64 (-1)) ∧ Below w.heap.size w w' := by
  go_enter Tryz.func210, Tryz.ntmps210
  go_wp2
  go_loopw [] (fun wr => ∃ pos : Nat, wr.heap[w.heap.size]? = some (.stringIter s pos) ∧ Below w.heap.size w wr) (fun wr => s.size - wr.iterPos w.heap.size)
  case atStart => exact ⟨0, World.iter_heap w s 0, (Below.refl _ w).alloc (Nat.le_refl _) _⟩
  case round =>
    obtain ⟨pos, hit, hb⟩ := hrel
    have hsz : w.heap.size < wr.heap.size := (Array.getElem?_eq_some_iff.1 hit).1
    by_cases hp : pos < s.size
    · have hnx : ∀ ty, (Instr.next (.pointer (some ⟨w.heap.size, 0, none⟩)) true ty).run Tryz.prog wr = _ := fun ty => Lib.run_next_any_at wr w.heap.size s pos ty hit hp
      have hwd := width_pos s pos hp
      have hit2 := Lib.iterAt_heap wr w.heap.size s pos (pos + (Utf8.decode s pos).2) hit
      have hb2 := Lib.below_iterAt hb (k := w.heap.size) (Nat.le_refl _) s (pos + (Utf8.decode s pos).2)
      have hsz2 : (wr.iterAt w.heap.size s (pos + (Utf8.decode s pos).2)).heap.size = wr.heap.size := Lib.iterAt_size _ _ _ _
      have hr : ∀ j (h : j < cs.size), (Utf8.decode s pos).1 ≠ (cs[j]).toNat := fun j h he => hno pos j hp h (decode_byte s pos hp (hasc j h) he)
      have HR := Lib.hid hr; clear hr
      have hdle := decode_le s pos
      go_wp2
      generalize hW1 : wr.iterAt w.heap.size s (pos + (Utf8.decode s pos).2) = W1 at *
      clear hnx hW1
      generalize hN : wr.heap.size = N at *
      go_loopw [] (fun wr2 => ∃ q : Nat, wr2.heap[N]? = some (.stringIter cs q) ∧ q ≤ cs.size ∧ Below N W1 wr2) (fun wr2 => cs.size - wr2.iterPos N)
      case atStart => exact ⟨0, by rw [← hsz2]; exact World.iter_heap W1 cs 0, Nat.zero_le _, (Below.refl _ W1).alloc (by omega) _⟩
      case round =>
        obtain ⟨q, hiq, hq, hbq⟩ := hrel
        by_cases hql : q < cs.size
        · have hnx : ∀ ty, (Instr.next (.pointer (some ⟨N, 0, none⟩)) true ty).run Tryz.prog wr = _ := fun ty => Lib.run_next_ascii_at wr N cs q ty hiq hql (hasc q hql)
          have hi2 := Lib.iterAt_heap wr N cs q (q + 1) hiq
          have hb3 := Lib.below_iterAt hbq (k := N) (Nat.le_refl _) cs (q + 1)
          have hne : (((Utf8.decode s pos).1 : Int) == ((cs[q]).toNat : Int)) = false := by
            have := HR.out q hql
            rw [beq_eq_false_iff_ne]; omega
          go_wp2
          go_roundw
          case rel => exact ⟨q + 1, hi2, hql, hb3⟩
          case measure => simp only [World.iterPos, hi2, hiq]; omega
        · have hnx : ∀ ty, (Instr.next (.pointer (some ⟨N, 0, none⟩)) true ty).run Tryz.prog wr = _ := fun ty => Lib.run_next_end_at wr N cs q ty hiq hql
          go_wp2
          go_roundw
          case rel => exact ⟨pos + (Utf8.decode s pos).2, by rw [hbq.block _ (by omega)]; exact hit2, hb2.trans (hbq.mono (by omega))⟩
          case measure => simp only [World.iterPos, hbq.block w.heap.size (by omega), hit2, hit]; omega
    · have hnx : ∀ ty, (Instr.next (.pointer (some ⟨w.heap.size, 0, none⟩)) true ty).run Tryz.prog wr = _ := fun ty => Lib.run_next_end_at wr w.heap.size s pos ty hit hp
      go_wp2
      go_ret
      exact ⟨rfl, hb⟩
set_option maxRecDepth 100000 in
set_option maxHeartbeats 800000 in
theorem zzContainsAny_any (s cs : ByteArray) (w : World) (hs : s.size ≤ 274877906944) (hcs : cs.size ≤ 100) (hasc : ∀ (j : Nat) (h : j < cs.size), (cs[j]).toNat < 128) (hno : ∀ (i j : Nat) (h : i < s.size) (h' : j < cs.size), (s[i]).toNat ≠ (cs[j]).toNat) :
    Calls Tryz.prog 173 #[.string s, .string cs] w fun e w' => e = .returned (.bool false) ∧ Below w.heap.size w w' := by
  have hh := zzIndexAny_any s cs w hs hcs hasc hno
  clear hasc hno
  go_enter Tryz.func173, Tryz.ntmps173
  go_wp2_with fail
  refine hh.mono ?_
  rintro e w1 ⟨rfl, hb⟩
  go_wp2
  go_ret
  exact ⟨rfl, hb⟩
def blanks : ByteArray := ⟨#[9, 10, 12, 13, 32]⟩
theorem blanks_asc : ∀ (j : Nat) (h : j < blanks.size), (blanks[j]).toNat < 128 ∧ (blanks[j]).toNat ≤ 32 := by decide
/-- A subject of tokens that are neither empty nor wildcards, without blanks. -/
structure GoodS (s : ByteArray) : Prop where
  heads : ∀ (k : Nat) (t : ByteArray), (toks s)[k]? = some t → HeadOK t
  clean : ∀ c ∈ bs s, 32 < c.toNat
theorem splitDot_app : ∀ (a b : List UInt8), splitDot (a ++ 46 :: b) = splitDot a ++ splitDot b
  | [], b => by simp [splitDot]
  | c :: a, b => by
    have ih := splitDot_app a b
    simp only [List.cons_append, splitDot, ih]
    split
    · rfl
    · cases h : splitDot a with
      | nil => exact absurd h (splitDot_ne a)
      | cons t ts => rfl
theorem splitDot_cons {c : UInt8} (hc : c ≠ 46) (r : List UInt8) : ∃ t ts, splitDot (c :: r) = (c :: t) :: ts := by
  unfold splitDot
  rw [if_neg hc]
  cases h : splitDot r with
  | nil => exact ⟨[], [], rfl⟩
  | cons t ts => exact ⟨t, ts, rfl⟩
/-- The head of a token is no wildcard. -/
theorem goodS_head {s : ByteArray} (h : GoodS s) {i : Nat} (hi : i < s.size) (hd : s[i] ≠ 46) (hp : i = 0 ∨ ∃ h' : i - 1 < s.size, s[i - 1] = 46) : (s[i]).toNat ≠ 42 ∧ (s[i]).toNat ≠ 62 := by
  obtain ⟨t, ts, ht⟩ := splitDot_cons hd ((bs s).drop (i + 1))
  have e : (bs s).drop i = s[i] :: (bs s).drop (i + 1) := by
    rw [List.drop_eq_getElem_cons (by rw [bs_len]; exact hi)]
    have := bs_at? s i hi
    rw [List.getElem?_eq_getElem (by rw [bs_len]; exact hi)] at this
    rw [Option.some.inj this]
  have hmem : (s[i] :: t) ∈ splitDot (bs s) := by
    rcases hp with rfl | ⟨h', hp⟩
    · rw [List.drop_zero] at e
      rw [e, ht]; simp
    · by_cases hz : i = 0
      · subst hz
        rw [List.drop_zero] at e
        rw [e, ht]; simp
      · have e2 : bs s = (bs s).take (i - 1) ++ 46 :: (bs s).drop i := by
          conv => lhs; rw [← List.take_append_drop (i - 1) (bs s)]
          rw [List.drop_eq_getElem_cons (by rw [bs_len]; exact h')]
          have := bs_at? s (i - 1) h'
          rw [List.getElem?_eq_getElem (by rw [bs_len]; exact h')] at this
          rw [Option.some.inj this, hp, show i - 1 + 1 = i by omega]
        rw [e2, splitDot_app, e, ht]; simp
  have hm2 : mk (s[i] :: t) ∈ toks s := List.mem_map_of_mem hmem
  obtain ⟨k, hk, ek⟩ := List.mem_iff_getElem.1 hm2
  obtain ⟨h0, h42, h62⟩ := h.heads k _ (by rw [List.getElem?_eq_getElem hk, ek])
  exact ⟨h42, h62⟩
end Go.Proofs.YtehlmjecbljafaaGreatDoor
namespace Go.Proofs.YtehlmjecbljafaaGreatDoor
open Go Go.RowKit
theorem toks_byte {s t : ByteArray} (ht : t ∈ toks s) {c : UInt8} (hc : c ∈ bs t) : c ∈ bs s := by
  have hj := joinD_splitDot (bs s)
  have hm : bs t ∈ splitDot (bs s) := by
    obtain ⟨u, hu, rfl⟩ := List.mem_map.1 ht
    rw [bs_mk]; exact hu
  rw [← hj]
  generalize splitDot (bs s) = l at hm
  induction l with
  | nil => cases hm
  | cons x r ih =>
    cases r with
    | nil =>
      simp only [List.mem_cons, List.not_mem_nil, or_false] at hm
      subst hm; exact hc
    | cons y ys =>
      simp only [joinD, List.mem_append, List.mem_cons]
      rcases List.mem_cons.1 hm with rfl | hm
      · exact .inl hc
      · exact .inr (.inr (ih hm))
theorem GoodS.byte {s : ByteArray} (h : GoodS s) {k : Nat} {t : ByteArray} (ht : (toks s)[k]? = some t) : ∀ (i : Nat) (hi : i < t.size), 32 < (t[i]).toNat := fun i hi =>
  h.clean _ (toks_byte (List.mem_of_getElem? ht) (List.mem_of_getElem? (bs_at? t i hi)))
set_option maxRecDepth 100000 in
set_option maxHeartbeats 800000 in
theorem validSubject_any (s : ByteArray) (w : World) (hg : GoodS s) (hs : s.size ≤ 137438953472) : Calls Tryz.prog 125 #[.string s, .bool false] w fun e w' => e = .returned (.bool true) ∧ Below w.heap.size w w' := by
  have hl := toks_len s
  have hne : (s.toList == ([] : List UInt8)) = false := by
    rw [toList_bs]
    have : bs s ≠ [] := by
      intro e
      have ht : toks s = [⟨#[]⟩] := by unfold toks; rw [e]; rfl
      have := (hg.heads 0 ⟨#[]⟩ (by rw [ht]; rfl)).pos
      exact absurd this (by decide)
    simpa using this
  have HG := Lib.hid hg; clear hg
  go_enter Tryz.func125, Tryz.ntmps125
  go_wp2_with (go_at_call 120; go_must (refine (zzSplit_any s _ (by omega)).mono ?_); rintro e w1 ⟨v, rfl, hown, hbel⟩; obtain ⟨-, a, cap, rfl, h2, h3, h4⟩ := hown.sl; have H4 := Lib.hid hown.sl; clear h4 hown)
  go_loopw [7, 28] (fun z i wr => ∃ k : Nat, k ≤ (toks s).length ∧ z = .bool false ∧ i = .int .i64 k ∧ Below w1.heap.size w1 wr) (fun _ i _ => (toks s).length - (intOf i).toNat)
  case atStart => exact ⟨0, Nat.zero_le _, rfl, rfl, Below.refl _ _⟩
  case round =>
    obtain ⟨k, hk, rfl, rfl, hbr⟩ := hrel
    by_cases hlt : k < (toks s).length
    · obtain ⟨b, o, t, rfl, Ht, hc⟩ := H4.out.str hbr hlt
      have ⟨h0, h42, h62⟩ := HG.out.heads k t Ht.out
      have hby := HG.out.byte Ht.out
      have es0 : ((t.size : Int) == 0) = false := by rw [beq_eq_false_iff_ne]; omega
      by_cases h1 : 1 < t.size
      · have hno : ∀ (i j : Nat) (h : i < t.size) (h' : j < blanks.size), (t[i]).toNat ≠ (blanks[j]).toNat := fun i j h h' => by
          have := hby i h; have := (blanks_asc j h').2; omega
        have hts : t.size ≤ s.size := toks_mem (List.mem_of_getElem? Ht.out)
        clear hby
        go_wp2_with fail
        refine (zzContainsAny_any t blanks _ (by omega) (by decide) (fun j h => (blanks_asc j h).1) hno).mono ?_
        rintro e w2 ⟨rfl, hb2⟩
        go_wp2
        go_roundw
        case rel => exact ⟨k + 1, hlt, rfl, by go_num, hbr.trans (hb2.mono hbr.size)⟩
        case measure => simp [intOf]; omega
      · have hb0 := hby 0 h0
        clear hby
        have e62 : (((t[0]).toNat : Int) == 62) = false := by rw [beq_eq_false_iff_ne]; omega
        have e32 : (((t[0]).toNat : Int) == 32) = false := by rw [beq_eq_false_iff_ne]; omega
        have e9 : (((t[0]).toNat : Int) == 9) = false := by rw [beq_eq_false_iff_ne]; omega
        have e10 : (((t[0]).toNat : Int) == 10) = false := by rw [beq_eq_false_iff_ne]; omega
        have e13 : (((t[0]).toNat : Int) == 13) = false := by rw [beq_eq_false_iff_ne]; omega
        have e12 : (((t[0]).toNat : Int) == 12) = false := by rw [beq_eq_false_iff_ne]; omega
        go_wp2
        go_roundw
        case rel => exact ⟨k + 1, hlt, rfl, by go_num, hbr⟩
        case measure => simp [intOf]; omega
    · obtain rfl : k = (toks s).length := by omega
      go_wp2
      go_ret
      exact ⟨rfl, bel2 hbel hbr⟩
set_option maxRecDepth 100000 in
set_option maxHeartbeats 800000 in
theorem isValidSubject_any (s : ByteArray) (w : World) (hg : GoodS s) (hs : s.size ≤ 137438953472) : Calls Tryz.prog 89 #[.string s] w fun e w' => e = .returned (.bool true) ∧ Below w.heap.size w w' := by
  have hh := validSubject_any s w hg hs
  go_enter Tryz.func89, Tryz.ntmps89
  go_wp2_with fail
  refine hh.mono ?_
  rintro e w1 ⟨rfl, hb⟩
  go_wp2
  go_ret
  exact ⟨rfl, hb⟩
set_option maxRecDepth 100000 in
set_option maxHeartbeats 1600000 in
theorem isLiteral_any (s : ByteArray) (w : World) (hg : GoodS s) (hs : s.size ≤ 137438953472) : Calls Tryz.prog 90 #[.string s] w fun e w' => e = .returned (.bool true) ∧ Below w.heap.size w w' := by
  have HG := Lib.hid hg; clear hg
  go_enter Tryz.func90, Tryz.ntmps90
  go_wp2
  generalize hN : w.heap.size = N at *
  go_loopw [] (fun wr => ∃ pos : Nat, wr.heap[N]? = some (.stringIter s pos) ∧ Below N w wr) (fun wr => s.size - wr.iterPos N)
  case atStart => exact ⟨0, by rw [← hN]; exact World.iter_heap w s 0, (Below.refl _ w).alloc (by omega) _⟩
  case round =>
    obtain ⟨pos, hit, hb⟩ := hrel
    have hsz : N < wr.heap.size := (Array.getElem?_eq_some_iff.1 hit).1
    by_cases hp : pos < s.size
    · have hnx : ∀ ty, (Instr.next (.pointer (some ⟨N, 0, none⟩)) true ty).run Tryz.prog wr = _ := fun ty => Lib.run_next_any_at wr N s pos ty hit hp
      have hwd := width_pos s pos hp
      have hit2 := Lib.iterAt_heap wr N s pos (pos + (Utf8.decode s pos).2) hit
      have hb2 := Lib.below_iterAt hb (k := N) (Nat.le_refl _) s (pos + (Utf8.decode s pos).2)
      have hdle := decode_le s pos
      by_cases hw : (Utf8.decode s pos).1 = 42 ∨ (Utf8.decode s pos).1 = 62
      · have hby : (s[pos]).toNat = 42 ∨ (s[pos]).toNat = 62 := by
          rcases hw with e | e
          · exact .inl (decode_byte s pos hp (by decide) e)
          · exact .inr (decode_byte s pos hp (by decide) e)
        have hnd : s[pos] ≠ 46 := by intro e; rw [e] at hby; revert hby; decide
        have hpos : pos ≠ 0 := by
          rintro rfl
          have := goodS_head HG.out hp hnd (.inl rfl)
          omega
        have hpr : pos - 1 < s.size := by omega
        have hprev : (((s[pos - 1]).toNat : Int) == 46) = false := by
          rw [beq_eq_false_iff_ne]
          intro e
          have := goodS_head HG.out hp hnd (.inr ⟨hpr, UInt8.toNat_inj.1 (show (s[pos - 1]).toNat = 46 by omega)⟩)
          omega
        have hz : (((pos : Int)) == 0) = false := by rw [beq_eq_false_iff_ne]; omega
        generalize hW1 : wr.iterAt N s (pos + (Utf8.decode s pos).2) = W1 at *
        clear hby hnd
        rcases hw with e | e
        · rw [e] at hnx
          go_wp2
          go_roundw
          case rel => exact ⟨pos + (Utf8.decode s pos).2, hit2, hb2⟩
          case measure => simp only [World.iterPos, hit2, hit]; omega
        · rw [e] at hnx
          go_wp2
          go_roundw
          case rel => exact ⟨pos + (Utf8.decode s pos).2, hit2, hb2⟩
          case measure => simp only [World.iterPos, hit2, hit]; omega
      · have h42 : (((Utf8.decode s pos).1 : Int) == 42) = false := by rw [beq_eq_false_iff_ne]; omega
        have h62 : (((Utf8.decode s pos).1 : Int) == 62) = false := by rw [beq_eq_false_iff_ne]; omega
        generalize hW1 : wr.iterAt N s (pos + (Utf8.decode s pos).2) = W1 at *
        clear hw
        go_wp2
        go_roundw
        case rel => exact ⟨pos + (Utf8.decode s pos).2, hit2, hb2⟩
        case measure => simp only [World.iterPos, hit2, hit]; omega
    · have hnx : ∀ ty, (Instr.next (.pointer (some ⟨N, 0, none⟩)) true ty).run Tryz.prog wr = _ := fun ty => Lib.run_next_end_at wr N s pos ty hit hp
      go_wp2
      go_ret
      exact ⟨rfl, by rw [hN]; exact hb⟩
set_option maxRecDepth 100000 in
set_option maxHeartbeats 800000 in
theorem validPublish_any (s : ByteArray) (w : World) (hg : GoodS s) (hs : s.size ≤ 137438953472) : Calls Tryz.prog 52 #[.string s] w fun e w' => e = .returned (.bool true) ∧ Below w.heap.size w w' := by
  have h1 := isValidSubject_any s w hg hs
  go_enter Tryz.func52, Tryz.ntmps52
  go_wp2_with fail
  refine h1.mono ?_
  rintro e w1 ⟨rfl, hb⟩
  have h2 := isLiteral_any s w1 hg hs
  go_wp2_with fail
  refine h2.mono ?_
  rintro e w2 ⟨rfl, hb2⟩
  go_wp2
  go_ret
  exact ⟨rfl, bel2 hb hb2⟩
set_option maxRecDepth 100000 in
set_option maxHeartbeats 800000 in
/-- A good subject may be published. -/
theorem publish_any (s : ByteArray) (w : World) (hg : GoodS s) (hs : s.size ≤ 137438953472) : Calls Tryz.prog 17 #[.string s] w fun e w' => e = .returned (.bool true) ∧ Below w.heap.size w w' := by
  have h1 := validPublish_any s w hg hs
  go_enter Tryz.func17, Tryz.ntmps17
  go_wp2_with fail
  refine h1.mono ?_
  rintro e w1 ⟨rfl, hb⟩
  go_wp2
  go_ret
  exact ⟨rfl, hb⟩
end Go.Proofs.YtehlmjecbljafaaGreatDoor
namespace Go.Proofs.YtehlmjecbljafaaGreatDoor
open Go Go.RowKit
theorem split_more : ∀ (b a : List UInt8) (A : List (List UInt8)) (c : List UInt8), splitDot a = A ++ [c] → ∃ r, splitDot (a ++ b) = A ++ r
  | [], a, A, c, h => ⟨[c], by rw [List.append_nil]; exact h⟩
  | x :: b, a, A, c, h => by
    have e : a ++ x :: b = (a ++ [x]) ++ b := by simp
    rw [e]
    by_cases hx : x = 46
    · obtain ⟨r, hr⟩ := split_more b (a ++ [x]) (A ++ [c]) [] (by rw [hx, splitDot_snoc_dot, h])
      exact ⟨c :: r, by rw [hr]; simp⟩
    · exact split_more b (a ++ [x]) A (c ++ [x]) (splitDot_snoc hx h)
theorem done_toks {s : ByteArray} {f i : Nat} {out : List ByteArray} (h : Done s f i out) : ∃ r, toks s = out ++ r := by
  obtain ⟨r, hr⟩ := split_more ((bs s).drop i) _ _ _ h
  rw [List.take_append_drop] at hr
  refine ⟨r.map mk, ?_⟩
  unfold toks
  rw [hr, List.map_append, List.map_map]
  congr 1
  conv => rhs; rw [← List.map_id out]
  apply List.map_congr_left
  intro t _
  exact mk_bs t
theorem good_at {s : ByteArray} (hg : GoodS s) {out : List ByteArray} {x : ByteArray} {r : List ByteArray} (h : toks s = out ++ [x] ++ r) : 0 < x.size := by
  refine (hg.heads out.length x ?_).pos
  rw [h, List.append_assoc, List.getElem?_append_right (Nat.le_refl _), Nat.sub_self]; rfl
theorem wrap_up : wrap32 (0 + 1) = 1 := by simp [wrap32]
theorem wrap_down : wrap32 (1 + -1) = 0 := by simp [wrap32]
set_option maxRecDepth 100000 in
set_option maxHeartbeats 3200000 in
theorem hasInterest_any (b : Nat) (s : ByteArray) (c : Int) (T : Trie) (F : Nat → Prop) (n : Nat) (w : World) (hb : w.heap[b]? = some (.cells (gslCells (T.aL []) c) 178 (0, 0))) (hT : TrieOK T F n w) (hF : ∀ k, F k → k < w.heap.size) (hFb : ¬ F b)
    (hg : GoodS s) (hs : s.size ≤ 100000) :
    Calls Tryz.prog 97 #[.pointer (some ⟨b, 0, none⟩), .string s, .bool true, .pointer none] w fun e w' => ∃ bl, e = .returned (.bool bl) ∧ (bl = true ↔ hasT T [] ((toks s).map bs)) ∧ Only (· = b) w w' := by
  have hlb := (Array.getElem?_eq_some_iff.1 hb).1
  have HG := Lib.hid hg; clear hg
  go_enter_defers Tryz.func97, Tryz.ntmps97
  go_wp2_with (refine wpList_zero3 180 zero32 32 _ _ z32b z32i z32s z32o rfl rfl rfl rfl rfl rfl (by rfl) (by rfl) ?_)
  have hown0 := own32 w
  have hb0 := (Below.refl w.heap.size w).alloc (Nat.le_refl _) (.cells zero32 180)
  go_loopw [10, 11, 12] (fun v f i wr => ∃ (k kf : Nat) (ss : List ByteArray), k ≤ s.size ∧ kf ≤ k ∧ i = .int .i64 k ∧ f = .int .i64 kf ∧ Hid (Done s kf k ss) ∧ Own wr w.heap.size 1 v ss.length (ss.map Value.string) ∧ Below w.heap.size w wr) (fun _ _ i _ => s.size - (intOf i).toNat)
  case atStart => exact ⟨0, 0, [], by omega, by omega, rfl, rfl, done_start s, hown0, hb0⟩
  case round =>
    obtain ⟨k, kf, ss, hk, hkf, rfl, rfl, HD, hown, hbel⟩ := hrel
    have hB := hbel.size
    have hssl := done_len HD.out hk
    by_cases hlt : k < s.size
    · by_cases hc : s[k] = 46
      · have hd2 := done_dot HD.out hlt hc
        obtain ⟨r, hr⟩ := done_toks hd2
        have hpos := good_at HG.out hr
        have hne : kf < k := by
          rcases Nat.lt_or_ge kf k with h | h
          · exact h
          · rw [← bs_len, bs_extract] at hpos
            simp at hpos
            omega
        have hcb : (((s[k]).toNat : Int) == 46) = true := by rw [hc]; rfl
        have HD2 := Lib.hid hd2; clear hd2 hr hpos hc
        go_wp2_with (at_builtin; go_must (refine wpList_app1 et32 rfl _ _ rfl w.heap.size rfl hown [_] rfl rfl (by simp [Value.oneCell']) (by omega) hB ?_); intro v' w1 hown1 hgrow)
        go_roundw
        case rel => exact ⟨k+1, k+1, _, hlt, Nat.le_refl _, by go_num, by go_num, HD2.out, by simpa using hown1, bel_app hbel hgrow hown hB⟩
        case measure => simp [intOf]; omega
      · have hcb : (((s[k]).toNat : Int) == 46) = false := by
          rw [beq_eq_false_iff_ne]; intro e; exact hc (UInt8.toNat_inj.1 (show (s[k]).toNat = 46 by omega))
        have hd2 := done_no HD.out hlt hkf hc
        have HD2 := Lib.hid hd2; clear hd2 hc
        go_wp2
        go_roundw
        case rel => exact ⟨k+1, kf, ss, hlt, by omega, by go_num, rfl, HD2.out, hown, hbel⟩
        case measure => simp [intOf]; omega
    · obtain rfl : k = s.size := by omega
      have hend := done_end HD.out
      have hpos := good_at HG.out (r := []) (by rw [List.append_nil]; exact hend.symm)
      have hlt2 : kf < s.size := by
        rw [← bs_len, bs_extract_end, List.length_drop, bs_len] at hpos
        omega
      clear hpos
      have HE := Lib.hid hend; clear hend
      go_wp2_with (at_builtin; go_must (refine wpList_app1 et32 rfl _ _ rfl w.heap.size rfl hown [_] rfl rfl (by simp [Value.oneCell']) (by omega) hB ?_); intro v' w1 hown1 hgrow)
      have hbw := bel_app hbel hgrow hown hB
      have hbk := (hbw.block b hlb).trans hb
      have hT1 := hT.keep (w' := w1) fun x hx => hbw.block x (hF x hx)
      have hrl := RwLone.rlock_open rwRLib b 0 0 _ _ w1 ((cell_row (j := 0) hbk).trans (show _ = some (Value.int .i32 0) from rfl)) ((cell_row (j := 3) hbk).trans (show _ = some (Value.int .u32 0) from rfl)) ((cell_row (j := 4) hbk).trans (show _ = some (Value.int .i32 0) from rfl)) (frozen_row (j := 4) hbk) (by rw [wrap_up]; decide)
      have h4 : (w1.setCell ⟨b, 4, none⟩ (.int .i32 1)).heap[b]? = some (.cells #[.int .i32 0, .int .u32 0, .int .u32 0, .int .u32 0, .int .i32 1, .int .i32 0, .pointer (some ⟨T.aL [], 0, none⟩), .int .u32 c] 178 (0, 0)) := heap_setCell_same w1 b 4 _ 178 (.int .i32 1) hbk
      have ho4 : Only (· = b) w1 (w1.setCell ⟨b, 4, none⟩ (.int .i32 1)) := (Only.refl (· = b) w1).set (.inl rfl) _
      refine hrl.mono ?_
      rintro e w3 ⟨rfl, hw3⟩
      rw [wrap_up] at hw3
      simp only [Nat.zero_add] at hw3
      rw [← hw3] at h4 ho4
      have hzz := hbw.size
      have hT3 := hT1.keep (w' := w3) fun x hx => ho4.block x (by have := hF x hx; omega) (fun e => hFb (e ▸ hx))
      have hF3 : ∀ k, F k → k < w3.heap.size := fun k hk => by have := hF k hk; have := ho4.size; omega
      have hsl3 := (hown1.only ho4 (fun k hk e => by have := (hown1.lt k hk).1; omega)).sl
      have hlen : ss.length + 1 = (toks s).length := by
        have := congrArg List.length HE.out
        simpa using this
      have hts : ss.map Value.string ++ [Value.string (s.extract kf s.size)] = (toks s).map Value.string := by rw [← HE.out]; simp
      rw [hts, hlen] at hsl3
      clear hts hlen
      have r6 := (cell_row (j := 6) h4).trans (show _ = some (Value.pointer (some ⟨T.aL [], 0, none⟩)) from rfl)
      have hma := matchAny_any (toks s).length [] (toks s) v' T F n w3 rfl hT3.root hT3 hF3 hsl3 (fun t ht => by
        obtain ⟨k, hk, e⟩ := List.mem_iff_getElem.1 ht
        have hh := HG.out.heads k t (by rw [List.getElem?_eq_getElem hk, e])
        refine ⟨fun e => ?_, fun e => ?_, by have := toks_mem ht; unfold maxLen; omega⟩
        · have := (bs_one e).2 hh.pos; exact hh.star (by rw [this]; rfl)
        · have := (bs_one e).2 hh.pos; exact hh.rest (by rw [this]; rfl)) (by have := toks_len s; omega)
      clear hT3 hF3 hsl3 hT1 hrl hw3
      go_wp2_with fail
      refine hma.mono ?_
      rintro e w5 ⟨bl, rfl, hbl, hb5⟩
      have h5 := (hb5.block b (Array.getElem?_eq_some_iff.1 h4).1).trans h4
      clear hma
      go_wp2
      refine leaves_cons (f := 113) (args := #[.pointer (some ⟨b, 0, none⟩)]) (by simp) (by simp [go_sem]) ?_
      refine (RwLone.runlock_deferred rwRLib b 0 1 _ _ .returning w5 ((cell_row (j := 0) h5).trans (show _ = some (Value.int .i32 0) from rfl)) ((cell_row (j := 2) h5).trans (show _ = some (Value.int .u32 0) from rfl)) ((cell_row (j := 4) h5).trans (show _ = some (Value.int .i32 1) from rfl)) (frozen_row (j := 4) h5) (by rw [wrap_down]; decide)).mono ?_
      rintro e u' w9 ⟨rfl, rfl, rfl⟩
      refine ⟨_, results_tmp rfl _ _ _, bl, rfl, hbl, ?_⟩
      have o1 : Only (· = b) w w1 := ⟨hbw.os, hbw.tape, hbw.output, hbw.size, fun k hk _ => hbw.block k hk⟩
      have o3 := o1.trans ho4 fun k hk => .inl hk
      have o5 := o3.trans (Only.of (F := (· = b)) hb5) fun k hk => .inl hk
      exact o5.set (.inl rfl) _
end Go.Proofs.YtehlmjecbljafaaGreatDoor
namespace Go.Proofs.YtehlmjecbljafaaGreatDoor
open Go Go.RowKit
def pathOf (d : Deed) : Path := (toks d.subj).map bs
/-- What k deeds have made of a list. -/
structure ListSt (ds : List Deed) (b B : Nat) (w : World) (k : Nat) (T : Trie) (F : Nat → Prop) (n : Nat) (wr : World) : Prop where
  ok : TrieOK T F n wr
  n : n ≤ k * 200000
  N : ∀ q, T.N q ↔ q = [] ∨ ∃ d ∈ ds.take k, q <+: pathOf d
  V : ∀ q, 0 < T.V q ↔ ∃ d ∈ ds.take k, q = pathOf d
  head : wr.heap[b]? = some (.cells (gslCells (T.aL []) k) 178 (0, 0))
  range : ∀ x, F x → B ≤ x ∧ x < wr.heap.size
  nb : ¬ F b
  bel : Below B w wr
open Classical in
/-- An empty trie. -/
noncomputable def trie0 (l m : Nat) : Trie := { N := fun q => q = [], aL := fun _ => l, aM := fun _ => m, aN := fun _ => 0, aS := fun _ => m + 1, V := fun _ => 0 }
theorem trie0_ok {l m n : Nat} {F : Nat → Prop} {w : World} (hL : w.heap[l]? = some (.cells #[.map (some m), .pointer none, .pointer none] 215 (0, 0))) (hM : MapS w m n (.pointer none) (fun _ => .pointer none)) (fl : F l) (fm : F m) : TrieOK (trie0 l m) F n w := by
  have hp : ∀ (p : Path) (t : List UInt8), (trie0 l m).ptr (p ++ [t]) = .pointer none := fun p t => Trie.ptr_no (fun h => snoc_ne p t h)
  refine ⟨rfl, fun p t h => absurd h (snoc_ne p t), fun p _ => by rw [hp, hp]; exact hL, fun p _ => ⟨_, hM, fun t _ _ => (hp p t).symm⟩, fun p t h => absurd h (snoc_ne p t), fun p t h => absurd h (snoc_ne p t), fun p q h1 h2 _ => ?_, fun p q h1 h2 _ => ?_, fun p q h1 _ h3 => absurd h1 h3, fun p q _ h2 h3 => absurd h2 h3, fun p _ => fl, fun p _ => fm, fun p t h => absurd h (snoc_ne p t), fun p t h => absurd h (snoc_ne p t)⟩
  · have h1 : p = [] := h1
    have h2 : q = [] := h2
    rw [h1, h2]
  · have h1 : p = [] := h1
    have h2 : q = [] := h2
    rw [h1, h2]
set_option maxRecDepth 100000 in
set_option maxHeartbeats 3200000 in
theorem list_any (v : Value) (ds : List Deed) (w : World) (hd : DeedsAt w v ds) (hop : ∀ d ∈ ds, d.op = 0 ∧ d.subj.size ≤ 100000 ∧ PatP (pathOf d) ∧ (Lit.int .i64 d.val).wf = true) (hn : ds.length ≤ 1000) :
    Calls Tryz.prog 56 #[v] w fun e w' => ∃ b u xs T F n, e = .returned (.tuple #[.pointer (some ⟨b, 0, none⟩), u]) ∧ w.heap.size ≤ b ∧ ListSt ds b w.heap.size w ds.length T F n w' ∧ Own w' w.heap.size 1 u ds.length xs ∧ (∀ x ∈ xs, x = .int .i64 0) ∧ (∀ x, u.ownBlock = some x → x ≠ b) := by
  obtain ⟨a, cap, rfl⟩ := Sl.form hd
  have HD := Lib.hid hd; clear hd
  have HO := Lib.hid hop; clear hop
  go_enter Tryz.func56, Tryz.ntmps56
  go_wp2_with fail
  refine (newSublist_any w).mono ?_
  rintro e w1 ⟨rfl, hw1⟩
  have hz1 : (w.alloc (.map #[] 0)).heap.size = w.heap.size + 1 := by simp
  have hz2 : ((w.alloc (.map #[] 0)).alloc (.cells #[.map (some w.heap.size), .pointer none, .pointer none] 215)).heap.size = w.heap.size + 2 := by simp
  have hz3 : w1.heap.size = w.heap.size + 3 := by rw [hw1]; simp
  have k0 : MapS w1 w.heap.size 0 (.pointer none) (fun _ => .pointer none) := by
    rw [hw1]
    exact (MapS.made w _).keep ((((Below.refl (w.heap.size + 1) _).alloc (by omega) _).alloc (by omega) _).block _ (by omega))
  have k1 : w1.heap[w.heap.size + 1]? = some (.cells #[.map (some w.heap.size), .pointer none, .pointer none] 215 (0, 0)) := by
    have h := heap_alloc_new (w.alloc (.map #[] 0)) (.cells #[.map (some w.heap.size), .pointer none, .pointer none] 215)
    rw [hz1] at h
    rw [hw1, ((Below.refl (w.heap.size + 2) _).alloc (by omega) _).block _ (by omega)]
    exact h
  have k2 : w1.heap[w.heap.size + 2]? = some (.cells (gslCells (w.heap.size + 1) 0) 178 (0, 0)) := by
    have h := heap_alloc_new ((w.alloc (.map #[] 0)).alloc (.cells #[.map (some w.heap.size), .pointer none, .pointer none] 215)) (.cells (gslCells (w.heap.size + 1) 0) 178)
    rw [hz2] at h
    rw [hw1]; exact h
  have kb : Below w.heap.size w w1 := by
    rw [hw1]; exact (((Below.refl _ w).alloc (Nat.le_refl _) _).alloc (by omega) _).alloc (by omega) _
  clear hw1 hz1 hz2
  have hI : ListSt ds (w.heap.size + 2) w.heap.size w 0 (trie0 (w.heap.size + 1) w.heap.size) (fun x => x = w.heap.size ∨ x = w.heap.size + 1) 0 w1 :=
    ⟨trie0_ok k1 k0 (.inr rfl) (.inl rfl), by omega, fun q => by simp [trie0], fun q => by simp [trie0], k2, fun x hx => by omega, fun h => by omega, kb⟩
  clear k0 k1 k2 kb
  go_wp2
  go_loopw [5, 6] (fun o i wr => ∃ (k : Nat) (T : Trie) (F : Nat → Prop) (n : Nat) (xs : List Value), k ≤ ds.length ∧ i = .int .i64 k ∧ ListSt ds (w.heap.size + 2) w.heap.size w k T F n wr ∧ Own wr w.heap.size 1 o k xs ∧ (∀ x ∈ xs, x = .int .i64 0) ∧ (∀ x, o.ownBlock = some x → ¬ (F x ∨ x = w.heap.size + 2))) (fun _ i _ => ds.length - (intOf i).toNat)
  case atStart => exact ⟨0, _, _, 0, [], Nat.zero_le _, rfl, hI, Own.nil _ _ _, (fun x h => by cases h), (fun x h => by cases h)⟩
  case round =>
    obtain ⟨k, T, F, n, xs, hk, rfl, hL, hown, hxs, hob⟩ := hrel
    obtain ⟨oa, oc, rfl, -⟩ := hown.form
    by_cases hlt : k < ds.length
    · obtain ⟨bd, od, d, rfl, Hd, c0, c1, c2⟩ := HD.out.at' hL.bel hlt
      have hlb := World.block_lt_of_cell? _ _ c0
      obtain ⟨e0, esz, hP, hwf⟩ := HO.out d (List.mem_of_getElem? Hd.out)
      rw [e0] at c0
      have hW := (Below.refl wr.heap.size wr).alloc (Nat.le_refl _) (.cells #[.int .i64 0, .string d.subj, .int .i64 d.val] 39)
      have hnb : n ≤ 1000000000 := by have := hL.n; have := Nat.mul_le_mul_right 200000 (show k ≤ 1000 by omega); omega
      have hins := insert_any (w.heap.size + 2) d.subj d.val k T F n (wr.alloc (.cells #[.int .i64 0, .string d.subj, .int .i64 d.val] 39)) ((hW.block _ (Array.getElem?_eq_some_iff.1 hL.head).1).trans hL.head)
        (hL.ok.keep fun x hx => hW.block x (hL.range x hx).2) (fun q hq => (hL.N q).2 (.inr (by obtain ⟨d', h1, h2⟩ := (hL.V q).1 hq; exact ⟨d', h1, by rw [h2]; exact List.prefix_refl _⟩)))
        (fun x hx => Nat.lt_of_lt_of_le (hL.range x hx).2 hW.size) hL.nb hP esz hnb hwf ⟨by omega, by omega⟩
      have HL := Lib.hid hL; clear hL
      go_wp2_with fail
      refine hins.mono ?_
      rintro e W2 ⟨rfl, T', F', n', q1, q2, q3, q4, q5, q6, q7, q8, q9⟩
      have hown2 := (hown.keep hW).only q7 (fun x hx h => hob x hx h)
      have hnbF : ¬ F' (w.heap.size + 2) := fun h => by
        rcases q8 _ h with h | h
        · exact HL.out.nb h
        · have := hW.size
          have := (Array.getElem?_eq_some_iff.1 HL.out.head).1
          omega
      have hzW := hW.size
      have hwr := HL.out.bel.size
      have hL2 : ListSt ds (w.heap.size + 2) w.heap.size w (k + 1) T' F' n' W2 := by
        have etk : ∀ q : Path, (∃ d' ∈ ds.take (k + 1), q <+: pathOf d') ↔ (∃ d' ∈ ds.take k, q <+: pathOf d') ∨ q <+: pathOf d := fun q => by
          rw [List.take_add_one, Hd.out]
          simp only [Option.toList_some, List.mem_append, List.mem_singleton]
          constructor
          · rintro ⟨d', h | rfl, h2⟩
            · exact .inl ⟨d', h, h2⟩
            · exact .inr h2
          · rintro (⟨d', h, h2⟩ | h2)
            · exact ⟨d', .inl h, h2⟩
            · exact ⟨d, .inr rfl, h2⟩
        have etv : ∀ q : Path, (∃ d' ∈ ds.take (k + 1), q = pathOf d') ↔ (∃ d' ∈ ds.take k, q = pathOf d') ∨ q = pathOf d := fun q => by
          rw [List.take_add_one, Hd.out]
          simp only [Option.toList_some, List.mem_append, List.mem_singleton]
          constructor
          · rintro ⟨d', h | rfl, h2⟩
            · exact .inl ⟨d', h, h2⟩
            · exact .inr h2
          · rintro (⟨d', h, h2⟩ | h2)
            · exact ⟨d', .inl h, h2⟩
            · exact ⟨d, .inr rfl, h2⟩
        refine ⟨q1, by have := HL.out.n; rw [Nat.succ_mul]; omega, fun q => ?_, fun q => ?_, ?_, fun x hx => ⟨?_, q9 x hx⟩, hnbF, ?_⟩
        · rw [q3 q, HL.out.N q, etk q, or_assoc]; exact Iff.rfl
        · rw [q4 q, HL.out.V q, etv q]; exact Iff.rfl
        · rw [q5]; exact q6
        · rcases q8 x hx with h | h
          · exact (HL.out.range x h).1
          · omega
        · exact (HL.out.bel.trans (hW.mono hwr)).trans (q7.below (fun x hx => by rcases hx with h | h; exact (HL.out.range x h).1; omega) (by omega))
      have hob2 : ∀ x, (Value.slice oa k oc).ownBlock = some x → ¬ (F' x ∨ x = w.heap.size + 2) := fun x hx h => by
        rcases h with h | h
        · rcases q8 x h with h | h
          · exact hob x hx (.inl h)
          · have := (hown.lt x hx).2; omega
        · exact hob x hx (.inr h)
      have HL2 := Lib.hid hL2; clear hL2 q1 q2 q3 q4 q5 q6 hins hown hob q7 q8 q9
      go_wp2_with fail
      refine (one_nil W2).mono ?_
      rintro e W3 ⟨rfl, rfl⟩
      have hlt3 : ∀ x, (F' x ∨ x = w.heap.size + 2) → x < W2.heap.size := fun x hx => by
        rcases hx with h | rfl
        · exact (HL2.out.range x h).2
        · exact (Array.getElem?_eq_some_iff.1 HL2.out.head).1
      have hB2 := HL2.out.bel.size
      go_wp2_with (at_builtin; go_must (refine wpList_appX et33 rfl _ _ rfl w.heap.size (fun x => F' x ∨ x = w.heap.size + 2) (v := .slice oa k oc) (n := k) (xs := xs) (by rfl) hown2 hob2 hlt3 [.int .i64 0] (by rfl) rfl (by simp [Value.oneCell']) (by omega) hB2 ?_); intro v' w5 hown5 hF5 honly5)
      go_roundw
      case rel =>
        refine ⟨k + 1, T', F', n', _, hlt, by go_num, ⟨HL2.out.ok.keep fun x hx => ?_, HL2.out.n, HL2.out.N, HL2.out.V, ?_, fun x hx => ⟨(HL2.out.range x hx).1, ?_⟩, HL2.out.nb, ?_⟩, hown5, ?_, hF5⟩
        · exact honly5.block x (HL2.out.range x hx).2 (fun h => hob2 x h (.inl hx))
        · exact (honly5.block _ (Array.getElem?_eq_some_iff.1 HL2.out.head).1 (fun h => hob2 _ h (.inr rfl))).trans HL2.out.head
        · have := (HL2.out.range x hx).2; have := honly5.size; omega
        · exact HL2.out.bel.trans (honly5.below (fun x hx => (hown2.lt x hx).1) hB2)
        · intro x hx
          rcases List.mem_append.1 hx with h | h
          · exact hxs x h
          · exact List.mem_singleton.1 h
      case measure => simp [intOf]; omega
    · obtain rfl : k = ds.length := by omega
      go_wp2
      go_ret2
      exact ⟨_, _, xs, T, F, n, rfl, by omega, hL, hown, hxs, fun x hx e => hob x hx (.inr e)⟩
set_option maxRecDepth 100000 in
set_option maxHeartbeats 800000 in
theorem hasInt_any (b : Nat) (s : ByteArray) (c : Int) (T : Trie) (F : Nat → Prop) (n : Nat) (w : World) (hb : w.heap[b]? = some (.cells (gslCells (T.aL []) c) 178 (0, 0))) (hT : TrieOK T F n w) (hF : ∀ k, F k → k < w.heap.size) (hFb : ¬ F b)
    (hg : GoodS s) (hs : s.size ≤ 100000) :
    Calls Tryz.prog 57 #[.pointer (some ⟨b, 0, none⟩), .string s] w fun e w' => ∃ bl, e = .returned (.bool bl) ∧ (bl = true ↔ hasT T [] ((toks s).map bs)) ∧ Only (· = b) w w' := by
  have hh := hasInterest_any b s c T F n w hb hT hF hFb hg hs
  clear hb hT hF hFb hg
  go_enter Tryz.func57, Tryz.ntmps57
  go_wp2_with fail
  refine hh.mono ?_
  rintro e w1 ⟨bl, rfl, h1, h2⟩
  go_wp2
  go_ret
  exact ⟨bl, rfl, h1, h2⟩
/-- The trie behind deeds, and interest in a subject. -/
def HasIn (ds : List Deed) (P : Path) : Prop := ∃ T : Trie, (∀ q, T.N q ↔ q = [] ∨ ∃ d ∈ ds, q <+: pathOf d) ∧ (∀ q, 0 < T.V q ↔ ∃ d ∈ ds, q = pathOf d) ∧ hasT T [] P
set_option maxRecDepth 100000 in
set_option maxHeartbeats 800000 in
theorem listHas_any (v : Value) (ds : List Deed) (s : ByteArray) (w : World) (hd : DeedsAt w v ds) (hop : ∀ d ∈ ds, d.op = 0 ∧ d.subj.size ≤ 100000 ∧ PatP (pathOf d) ∧ (Lit.int .i64 d.val).wf = true) (hn : ds.length ≤ 1000) (hg : GoodS s) (hs : s.size ≤ 100000) :
    Calls Tryz.prog 19 #[v, .string s] w fun e w' => ∃ bl, e = .returned (.bool bl) ∧ (∃ T : Trie, (∀ q, T.N q ↔ q = [] ∨ ∃ d ∈ ds, q <+: pathOf d) ∧ (∀ q, 0 < T.V q ↔ ∃ d ∈ ds, q = pathOf d) ∧ (bl = true ↔ hasT T [] ((toks s).map bs))) ∧ Below w.heap.size w w' := by
  have hl := list_any v ds w hd hop hn
  have HG := Lib.hid hg; clear hg
  clear hop hd
  go_enter Tryz.func19, Tryz.ntmps19
  go_wp2_with fail
  refine hl.mono ?_
  rintro e w1 ⟨b, u, xs, T, F, n, rfl, hb, hL, -, -, -⟩
  have HL := Lib.hid hL; clear hL hl
  go_wp2_with fail
  refine (hasInt_any b s _ T F n w1 HL.out.head HL.out.ok (fun k hk => (HL.out.range k hk).2) HL.out.nb HG.out hs).mono ?_
  rintro e w2 ⟨bl, rfl, h1, h2⟩
  go_wp2
  go_ret
  refine ⟨bl, rfl, ⟨T, fun q => ?_, fun q => ?_, h1⟩, HL.out.bel.trans (h2.below (fun x hx => by omega) HL.out.bel.size)⟩
  · rw [HL.out.N q, List.take_length]
  · rw [HL.out.V q, List.take_length]
end Go.Proofs.YtehlmjecbljafaaGreatDoor
