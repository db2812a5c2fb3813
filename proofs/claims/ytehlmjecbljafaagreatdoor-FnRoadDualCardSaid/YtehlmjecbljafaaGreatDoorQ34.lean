/- The server's list: a node's subscriptions are put down. The server's list: all nodes below a level. -/
import Derived.Test.YtehlmjecbljafaaGreatDoorQ10
import Derived.Test.YtehlmjecbljafaaGreatDoorQ33
import Derived.Laws.IdiomRangeMap
namespace Go.Proofs.YtehlmjecbljafaaGreatDoor
open Go Go.RowKit
/-- What has been found: the subscriptions l; nothing of F has turned. -/
def ResS (F : Nat → Prop) (R : Nat) (l : List Nat) (w0 w : World) : Prop := (∃ ov, w.heap[R]? = some (.cells #[ov, .slice none 0 0, .slice none 0 0] 247 (0, 0)) ∧ Own w (R + 1) 1 ov l.length (l.map atBlk) ∧ ∀ k, ov.ownBlock = some k → ¬ F k) ∧ Only (fun k => ¬ F k ∧ R ≤ k) w0 w
theorem ResS.start {F : Nat → Prop} {R : Nat} {l : List Nat} {w0 w : World} (h : ResS F R l w0 w) : ResS F R l w w := ⟨h.1, Only.refl _ _⟩
theorem ResS.trans {F : Nat → Prop} {R : Nat} {l l' : List Nat} {w0 w w' : World} (h : ResS F R l w0 w) (k : ResS F R l' w w') : ResS F R l' w0 w' := ⟨k.1, h.2.trans k.2 fun _b hb => .inl hb⟩
theorem ResS.bel {F : Nat → Prop} {R : Nat} {l : List Nat} {w0 w w' : World} (h : ResS F R l w0 w) (hb : Below w.heap.size w w') : ResS F R l w0 w' := by
  obtain ⟨⟨ov, h1, h2, h3⟩, h4⟩ := h
  exact ⟨⟨ov, (hb.block _ (Array.getElem?_eq_some_iff.1 h1).1).trans h1, h2.keep hb, h3⟩, h4.trans (Only.of (F := fun _ => False) hb) fun k hk => hk.elim⟩
theorem ResS.kept {F : Nat → Prop} {R : Nat} {l : List Nat} {w0 w : World} (h : ResS F R l w0 w) (hF : ∀ k, F k → k < w0.heap.size) {k : Nat} (hk : F k) : w.heap[k]? = w0.heap[k]? := h.2.block k (hF k hk) fun e => e.1 hk
theorem ResS.size {F : Nat → Prop} {R : Nat} {l : List Nat} {w0 w : World} (h : ResS F R l w0 w) : w0.heap.size ≤ w.heap.size := h.2.size
theorem ResS.lt {F : Nat → Prop} {R : Nat} {l : List Nat} {w0 w : World} (h : ResS F R l w0 w) : R < w.heap.size := by obtain ⟨⟨ov, h1, -⟩, -⟩ := h; exact (Array.getElem?_eq_some_iff.1 h1).1
theorem ResS.more {F : Nat → Prop} {R r : Nat} {l : List Nat} {w w0 : World} (h : ResS F R l w w) (hb : Below w.heap.size w w0) (hr : w.heap.size ≤ r) : ResS (fun k => F k ∨ k = r) R l w0 w0 := by
  obtain ⟨⟨ov, h1, h2, h3⟩, -⟩ := h
  refine ⟨⟨ov, (hb.block R (Array.getElem?_eq_some_iff.1 h1).1).trans h1, h2.keep hb, fun k hk => ?_⟩, Only.refl _ _⟩
  rintro (e | rfl)
  · exact h3 k hk e
  · have := (h2.lt _ hk).2; omega
theorem ResS.turn {F : Nat → Prop} {R r : Nat} {l : List Nat} {w w1 : World} (h : ResS (fun k => F k ∨ k = r) R l w w) (ho : Only (· = r) w w1) (hr : R ≠ r) : ResS (fun k => F k ∨ k = r) R l w1 w1 := by
  obtain ⟨⟨ov, h1, h2, h3⟩, -⟩ := h
  exact ⟨⟨ov, (ho.block R (Array.getElem?_eq_some_iff.1 h1).1 hr).trans h1, h2.only ho (fun k hk e => h3 k hk (.inr e)), h3⟩, Only.refl _ _⟩
theorem ResS.less {F : Nat → Prop} {R r : Nat} {l : List Nat} {w w1 : World} (h : ResS (fun k => F k ∨ k = r) R l w w) (ho : Only (fun k => ¬ F k ∧ R ≤ k) w1 w) : ResS F R l w1 w := by
  obtain ⟨⟨ov, h1, h2, h3⟩, -⟩ := h
  exact ⟨⟨ov, h1, h2, fun k hk e => h3 k hk (.inl e)⟩, ho⟩
/-- One subscription more. -/
theorem ResS.put {F : Nat → Prop} {R : Nat} {l : List Nat} {w w1 : World} (h : ResS F R l w w) (hF : ∀ k, F k → k < w.heap.size) (hR : ¬ F R) {ov v' : Value} (b : Nat) (h1 : w.heap[R]? = some (.cells #[ov, .slice none 0 0, .slice none 0 0] 247 (0, 0)))
    (o1 : Own w1 (R + 1) 1 v' (l.length + 1) (l.map atBlk ++ [atBlk b])) (o2 : ∀ k, v'.ownBlock = some k → ov.ownBlock = some k ∨ w.heap.size ≤ k) (o3 : Only (fun k => ov.ownBlock = some k) w w1) : ResS F R (l ++ [b]) w (w1.setCell ⟨R, 0, none⟩ v') := by
  obtain ⟨⟨ov0, k1, k2, k3⟩, -⟩ := h
  rw [h1] at k1
  injection k1 with k1; injection k1 with k1
  have e0 : ov = ov0 := congrArg (fun a : Array Value => a[0]!) k1
  subst e0
  have hlo := (Array.getElem?_eq_some_iff.1 h1).1
  have r1 : w1.heap[R]? = some (.cells #[ov, .slice none 0 0, .slice none 0 0] 247 (0, 0)) := (o3.block R hlo (fun e => by have := (k2.lt R e).1; omega)).trans h1
  refine ⟨⟨v', heap_setCell_same w1 R 0 _ 247 _ r1, ?_, fun k hk hFk => ?_⟩, ?_⟩
  · rw [List.length_append, List.map_append]
    exact o1.kept fun k hk => heap_setCell_other _ _ _ _ (by have := (o1.lt k hk).1; show k ≠ R; omega)
  · rcases o2 k hk with h | h
    · exact k3 k h hFk
    · have := hF k hFk; omega
  · refine (o3.mono fun k hk => ?_).set (.inl ⟨hR, Nat.le_refl _⟩) _
    exact ⟨k3 k hk, by have := (k2.lt k hk).1; omega⟩
def blkOf : Value → Nat
  | .pointer (some ⟨b, _, _⟩) => b
  | _ => 0
theorem subKV_back (l : List Nat) : (subKV l).map (fun p => blkOf p.1) = l := by
  unfold subKV
  rw [List.map_map]
  conv => rhs; rw [← List.map_id l]
  exact List.map_congr_left fun _ _ => rfl
theorem subKV_perm {l m : List Nat} (h : (subKV l).Perm (subKV m)) : l.Perm m := by
  have := h.map (fun p => blkOf p.1)
  rwa [subKV_back, subKV_back] at this
theorem subKV_len (l : List Nat) : (subKV l).length = l.length := by simp [subKV]
theorem nil116q (w : World) : (binOp .neq 116 (.slice none 0 0) (.slice none 0 0)).run Tryz.prog w = .ok (.bool false) w := nil116 w
set_option maxRecDepth 100000 in
set_option maxHeartbeats 3200000 in
theorem addNode_any (a lv s : Nat) (S : List Nat) (F : Nat → Prop) (R : Nat) (l : List Nat) (w : World) (ha : w.heap[a]? = some (.cells #[.pointer (some ⟨lv, 0, none⟩), .map (some s), .map none, .slice none 0 0] 287 (0, 0))) (hs : MapE w s (subKV S)) (hFa : F a) (hFs : F s) (h : ResS F R l w w) (hF : ∀ k, F k → k < w.heap.size) (hR : ¬ F R) (hn : l.length + S.length < 1000000) :
    Calls Tryz.prog 226 #[.pointer (some ⟨a, 0, none⟩), .pointer (some ⟨R, 0, none⟩)] w fun e w' => e = .returned (.tuple #[]) ∧ ∃ l2, l2.Perm S ∧ ResS F R (l ++ l2) w w' := by
  have hm : (subKV S).length = S.length := by simp [subKV]
  have HM := Lib.hid hm; clear hm
  have c3 := (cell_row (j := 3) ha).trans (show _ = some (Value.slice none 0 0) from rfl)
  have c1 := (cell_row (j := 1) ha).trans (show _ = some (Value.map (some s)) from rfl)
  have HA := Lib.hid ha
  have H := Lib.hid h
  have q2 := fun w => nil116q w
  clear ha h
  go_enter Tryz.func226, Tryz.ntmps226
  go_wp2_with (at_range; refine wpList_rangeE _ rfl _ 284 rfl _ _ Tryz.underlying284 s (subKV S) rfl hs ?_; intro w0 hit hb0 hz0)
  go_frame
  have HB0 := Lib.hid (And.intro hb0 hz0)
  have hz1 : w.heap.size < w0.heap.size := by omega
  clear hb0 hz0
  have HINV := Lib.hid (show ∀ p ∈ subKV S, ∃ (x : Nat) (y : Unit), p = (atBlk x, (fun _ => unitV) y) from fun p hp => by
    obtain ⟨x, hx, rfl⟩ := List.mem_map.1 hp
    exact ⟨x, (), rfl⟩)
  have hrF : ¬ F w.heap.size := fun e => by have := hF _ e; omega
  have hRl := H.out.lt
  have hrg : ∀ wx : World, (Instr.range 285 (.map none)).run Tryz.prog wx = _ := fun wx => run_range_nilMap wx 285 _ _ Tryz.underlying285
  have hnx : ∀ (wx : World) ty, (Instr.next (.pointer (some ⟨wx.heap.size, 0, none⟩)) false ty).run Tryz.prog (wx.alloc (.mapIter none 0 #[] 0)) = _ := fun wx ty => run_next_nilMap wx ty 0 0 #[]
  go_loopw [4] (fun _ wr => ∃ (done : List Nat) (left : List (Value × Value)), (subKV S).Perm (subKV done ++ left) ∧ IterE wr s w.heap.size (subKV S) left ∧ ResS (fun k => F k ∨ k = w.heap.size) R (l ++ done) wr wr ∧ Only (fun k => ¬ F k ∧ R ≤ k) w wr) (fun _ wr => wr.rangeLeft s w.heap.size)
  case atStart =>
    refine ⟨[], subKV S, List.Perm.refl _, hit, ?_, Only.of HB0.out.1⟩
    rw [List.append_nil]
    exact H.out.more HB0.out.1 (Nat.le_refl _)
  case round =>
    obtain ⟨done, left, hpm, hitr, hout, honw⟩ := hrel
    have hlen := hpm.length_eq
    rw [List.length_append, subKV_len, subKV_len] at hlen
    have HLEN := Lib.hid hlen; clear hlen
    have HPM := Lib.hid hpm; clear hpm
    have HO := Lib.hid (And.intro hout honw); clear hout honw
    have HI := Lib.hid hitr
    have hk2 := (HO.out.2.block a (Array.getElem?_eq_some_iff.1 HA.out).1 (fun e => e.1 hFa)).trans HA.out
    have d2 := (cell_row (j := 2) hk2).trans (show _ = some (Value.map none) from rfl)
    clear hk2
    go_wp2_with (at_next; refine wpList_nextKV _ atBlk (fun _ : Unit => unitV) rfl _ rfl s w.heap.size (subKV S) left HINV.out rfl hitr ?_ ?_)
    · intro hl0
      have HL := Lib.hid hl0; clear hl0
      go_wp2
      go_loopw [5] (fun _ wz => wz = wr.alloc (Obj.mapIter none 0 #[] 0)) (fun _ _ => 0)
      case atStart => rfl
      case round =>
        obtain rfl := hrel
        go_wp2
        go_end0
        refine ⟨rfl, done, ?_, ?_⟩
        · have hp := HPM.out
          rw [HL.out, List.append_nil] at hp
          exact (subKV_perm hp).symm
        · have ho := HO.out.1.less HO.out.2
          exact ho.bel ((Below.refl _ _).alloc (Nat.le_refl _) _)
    · intro x left' w1 hperm hit1 hon1 hz1' hen
      have hl2 := hperm.length_eq
      rw [List.length_cons] at hl2
      have hzw := HO.out.2.size
      have hz2 : w.heap.size ≤ w1.heap.size := by omega
      have hF1 : ∀ k, (F k ∨ k = w.heap.size) → k < w1.heap.size := fun k hk => by
        rcases hk with hk | rfl
        · have := hF k hk; omega
        · have := hit1.lt; omega
      have hR1 : ¬ (F R ∨ R = w.heap.size) := by rintro (e | e); exact hR e; omega
      have hres := HO.out.1.turn hon1 (by omega)
      obtain ⟨⟨ov, r1, r2, r3⟩, -⟩ := id hres
      obtain ⟨oa, oc, rfl, -⟩ := r2.form
      have hdl : (l ++ done).length < 1000000 := by rw [List.length_append]; have := HLEN.out; omega
      have hlR := (Array.getElem?_eq_some_iff.1 r1).1
      have hRl2 : R + 1 ≤ w1.heap.size := hlR
      have k0 := (cell_row (j := 0) r1).trans (show _ = some (Value.slice oa (l ++ done).length oc) from rfl)
      have HP := Lib.hid (And.intro hperm (And.intro hit1 (And.intro hon1 (And.intro hz1' hl2))))
      have HF1 := Lib.hid hF1
      have HRES := Lib.hid hres
      have HR1 := Lib.hid r1
      have HR2 := Lib.hid r2
      clear hperm hit1 hon1 hz1' hl2 hF1 hres r1 r3
      generalize hnl : (l ++ done).length = nl at *
      go_wp2_with (at_builtin; go_must (refine wpList_appZ et116 rfl _ _ rfl (R + 1) rfl r2 [_] rfl rfl (by simp [Value.oneCell']) (by omega) hRl2 ?_); intro v' w2 hown1 hf1 hon2; obtain ⟨va, vc, rfl, -⟩ := hown1.form; have k1 := (hon2.block R hlR (fun e => by have := (HR2.out.lt R e).1; omega)).trans HR1.out; have kc := (cell_row (j := 0) k1).trans (show _ = some (Value.slice oa nl oc) from rfl); have kf := frozen_row (j := 0) k1; have HO2 := Lib.hid (And.intro hown1 (And.intro hf1 hon2)); clear hown1 hf1 hon2)
      have hput : ResS (fun k => F k ∨ k = w.heap.size) R (l ++ done ++ [x]) w1 (w2.setCell ⟨R, 0, none⟩ (.slice va (nl + 1) vc)) :=
        ResS.put HRES.out HF1.out hR1 x HR1.out (by rw [hnl]; exact HO2.out.1) HO2.out.2.1 HO2.out.2.2
      have HPUT := Lib.hid hput
      clear hput hen
      go_roundw
      case rel =>
        obtain ⟨p1, p2, p3, p4, p5⟩ := HP.out
        refine ⟨done ++ [x], left', ?_, p2.keep (HPUT.out.kept HF1.out (.inl hFs)) (HPUT.out.kept HF1.out (.inr rfl)), ?_, ?_⟩
        · refine HPM.out.trans ?_
          unfold subKV
          rw [List.map_append, List.append_assoc]
          exact p1.append_left _
        · rw [← List.append_assoc]; exact HPUT.out.start
        · have q1 := HO.out.2.trans (p3.mono (F' := fun k => ¬ F k ∧ R ≤ k) fun k hk => by subst hk; exact ⟨hrF, by omega⟩) fun k hk => .inl hk
          exact q1.trans HPUT.out.2 fun k hk => .inl ⟨fun e => hk.1 (.inl e), hk.2⟩
      case measure =>
        obtain ⟨p1, p2, p3, p4, p5⟩ := HP.out
        rw [(p2.keep (HPUT.out.kept HF1.out (.inl hFs)) (HPUT.out.kept HF1.out (.inr rfl))).left_eq, HI.out.left_eq]
        omega
end Go.Proofs.YtehlmjecbljafaaGreatDoor
namespace Go.Proofs.YtehlmjecbljafaaGreatDoor
open Go Go.RowKit
/-- A tree of plain subjects; all its subscriptions lie in all. -/
structure STL (T : STrie) (D : Nat) (all : List Nat) : Prop where
  lit : ∀ p t, T.N (p ++ [t]) → t ≠ [42] ∧ t ≠ [62]
  mem : ∀ q b, b ∈ T.S q → T.N q ∧ q ≠ [] ∧ b ∈ all
  nd : ∀ q, (T.S q).Nodup
  dis : ∀ q q' b, b ∈ T.S q → b ∈ T.S q' → q = q'
  deep : ∀ q, T.N q → q.length ≤ D
  few : all.length ≤ 100000
theorem STrieOK.wider {T : STrie} {F F' : Nat → Prop} {w : World} (h : STrieOK T F w) (hF : ∀ k, F k → F' k) : STrieOK T F' w :=
  { h with fL := fun p hp => hF _ (h.fL p hp), fM := fun p hp => hF _ (h.fM p hp), fN := fun p t hp => hF _ (h.fN p t hp), fS := fun p t hp => hF _ (h.fS p t hp) }
theorem STrieOK.pre {T : STrie} {F : Nat → Prop} {w : World} (h : STrieOK T F w) : ∀ (r p : Path), T.N (p ++ r) → T.N p := by
  intro r
  induction r with
  | nil => intro p hp; rwa [List.append_nil] at hp
  | cons t r ih => intro p hp; exact h.pref p t (ih (p ++ [t]) (by rw [List.append_assoc]; exact hp))
/-- What has been found of a tree: just the subscriptions at paths of Q. -/
def FoundS (T : STrie) (Q : Path → Prop) (l : List Nat) : Prop := l.Nodup ∧ ∀ b, b ∈ l ↔ ∃ q, Q q ∧ b ∈ T.S q
theorem FoundS.congr {T : STrie} {Q Q' : Path → Prop} {l : List Nat} (h : FoundS T Q l) (e : ∀ q b, b ∈ T.S q → (Q q ↔ Q' q)) : FoundS T Q' l :=
  ⟨h.1, fun b => (h.2 b).trans ⟨fun ⟨q, h1, h2⟩ => ⟨q, (e q b h2).1 h1, h2⟩, fun ⟨q, h1, h2⟩ => ⟨q, (e q b h2).2 h1, h2⟩⟩⟩
theorem FoundS.add {T : STrie} {D : Nat} {all : List Nat} {Q : Path → Prop} {l l2 : List Nat} {q0 : Path} (h : FoundS T Q l) (hT : STL T D all) (hq : ¬ Q q0) (hp : l2.Perm (T.S q0)) : FoundS T (fun q => Q q ∨ q = q0) (l ++ l2) := by
  refine ⟨List.nodup_append.2 ⟨h.1, hp.nodup_iff.2 (hT.nd q0), fun a ha b hb e => ?_⟩, fun b => ?_⟩
  · subst e
    obtain ⟨q, h1, h2⟩ := (h.2 a).1 ha
    exact hq (hT.dis q q0 a h2 (hp.mem_iff.1 hb) ▸ h1)
  · rw [List.mem_append, h.2 b, hp.mem_iff]
    constructor
    · rintro (⟨q, h1, h2⟩ | h2)
      · exact ⟨q, .inl h1, h2⟩
      · exact ⟨q0, .inr rfl, h2⟩
    · rintro ⟨q, h1 | rfl, h2⟩
      · exact .inl ⟨q, h1, h2⟩
      · exact .inr h2
theorem FoundS.room {T : STrie} {D : Nat} {all : List Nat} {Q : Path → Prop} {l : List Nat} {q0 : Path} (h : FoundS T Q l) (hT : STL T D all) (hq : ¬ Q q0) : l.length + (T.S q0).length < 1000000 := by
  have h2 := h.add hT hq (List.Perm.refl (T.S q0))
  have := nd_sub h2.1 (m := all) fun b hb => by
    obtain ⟨q, -, hq⟩ := (h2.2 b).1 hb
    exact (hT.mem q b hq).2.2
  rw [List.length_append] at this
  have := hT.few
  omega
/-- What has been found, in memory. -/
def FndR (T : STrie) (F : Nat → Prop) (R : Nat) (Q : Path → Prop) (w0 w : World) : Prop := ∃ l, FoundS T Q l ∧ ResS F R l w0 w
section
variable {T : STrie} {F : Nat → Prop} {R : Nat} {Q Q' : Path → Prop} {w0 w w' : World}
theorem FndR.start (h : FndR T F R Q w0 w) : FndR T F R Q w w := by obtain ⟨l, h1, h2⟩ := h; exact ⟨l, h1, h2.start⟩
theorem FndR.trans (h : FndR T F R Q w0 w) (k : FndR T F R Q' w w') : FndR T F R Q' w0 w' := by obtain ⟨l, h1, h2⟩ := h; obtain ⟨m, k1, k2⟩ := k; exact ⟨m, k1, h2.trans k2⟩
theorem FndR.bel (h : FndR T F R Q w0 w) (hb : Below w.heap.size w w') : FndR T F R Q w0 w' := by obtain ⟨l, h1, h2⟩ := h; exact ⟨l, h1, h2.bel hb⟩
theorem FndR.kept (h : FndR T F R Q w0 w) (hF : ∀ k, F k → k < w0.heap.size) {k : Nat} (hk : F k) : w.heap[k]? = w0.heap[k]? := by obtain ⟨l, h1, h2⟩ := h; exact h2.kept hF hk
theorem FndR.only (h : FndR T F R Q w0 w) : Only (fun k => ¬ F k ∧ R ≤ k) w0 w := by obtain ⟨l, h1, h2⟩ := h; exact h2.2
theorem FndR.size (h : FndR T F R Q w0 w) : w0.heap.size ≤ w.heap.size := h.only.size
theorem FndR.lt (h : FndR T F R Q w0 w) : R < w.heap.size := by obtain ⟨l, h1, h2⟩ := h; exact h2.lt
theorem FndR.more {r : Nat} (h : FndR T F R Q w w) (hb : Below w.heap.size w w0) (hr : w.heap.size ≤ r) : FndR T (fun k => F k ∨ k = r) R Q w0 w0 := by obtain ⟨l, h1, h2⟩ := h; exact ⟨l, h1, h2.more hb hr⟩
theorem FndR.turn {r : Nat} (h : FndR T (fun k => F k ∨ k = r) R Q w w) (ho : Only (· = r) w w') (hr : R ≠ r) : FndR T (fun k => F k ∨ k = r) R Q w' w' := by obtain ⟨l, h1, h2⟩ := h; exact ⟨l, h1, h2.turn ho hr⟩
theorem FndR.less {r : Nat} (h : FndR T (fun k => F k ∨ k = r) R Q w w) (ho : Only (fun k => ¬ F k ∧ R ≤ k) w0 w) : FndR T F R Q w0 w := by obtain ⟨l, h1, h2⟩ := h; exact ⟨l, h1, h2.less ho⟩
theorem FndR.congr (h : FndR T F R Q w0 w) (e : ∀ q b, b ∈ T.S q → (Q q ↔ Q' q)) : FndR T F R Q' w0 w := by obtain ⟨l, h1, h2⟩ := h; exact ⟨l, h1.congr e, h2⟩
end
/-- What a function does that adds the paths of Q'. -/
def AddC (T : STrie) (F : Nat → Prop) (R : Nat) (Q : Path → Prop) (w : World) (e : Ending) (w' : World) : Prop := e = .returned (.tuple #[]) ∧ FndR T F R Q w w'
theorem addNodeF_any (T : STrie) (D : Nat) (all : List Nat) (F : Nat → Prop) (R : Nat) (Q : Path → Prop) (p : Path) (t : List UInt8) (w : World) (hT : STrieOK T F w) (hL : STL T D all) (hN : T.N (p ++ [t])) (hq : ¬ Q (p ++ [t])) (h : FndR T F R Q w w) (hF : ∀ k, F k → k < w.heap.size) (hR : ¬ F R) :
    Calls Tryz.prog 226 #[.pointer (some ⟨T.aN (p ++ [t]), 0, none⟩), .pointer (some ⟨R, 0, none⟩)] w (AddC T F R (fun q => Q q ∨ q = p ++ [t]) w) := by
  obtain ⟨l, h1, h2⟩ := h
  refine (addNode_any _ _ _ _ F R l w (hT.nod p t hN) (hT.sub p t hN) (hT.fN p t hN) (hT.fS p t hN) h2 hF hR (h1.room hL hq)).mono ?_
  rintro e w' ⟨rfl, l2, hp, hr⟩
  exact ⟨rfl, _, h1.add hL hq hp, hr⟩
/-- A kid's entry. -/
def kidE (T : STrie) (p : Path) (t : List UInt8) : Value × Value := (strV t, atBlk (T.aN (p ++ [t])))
theorem STrie.Kids.inv {T : STrie} {p : Path} {kv : List (Value × Value)} (h : T.Kids p kv) : ∀ e ∈ kv, ∃ (t : List UInt8) (y : Nat), e = (strV t, atBlk y) := fun e he => by
  obtain ⟨x, v⟩ := e
  obtain ⟨t, rfl, -, -, -, rfl⟩ := (h x v).1 he
  exact ⟨t, _, rfl⟩
theorem STrie.Kids.at' {T : STrie} {p : Path} {kv : List (Value × Value)} (h : T.Kids p kv) {t : List UInt8} {y : Nat} (he : (strV t, atBlk y) ∈ kv) : T.N (p ++ [t]) ∧ y = T.aN (p ++ [t]) := by
  obtain ⟨u, e, -, -, hN, e2⟩ := (h _ _).1 he
  have := strV_inj e
  subst this
  refine ⟨hN, ?_⟩
  injection e2 with e2; injection e2 with e2; injection e2
theorem lev_lit {T : STrie} {D : Nat} {all : List Nat} {F : Nat → Prop} {w : World} (hT : STrieOK T F w) (hL : STL T D all) {p : Path} (hp : T.N p) : w.heap[T.aL p]? = some (.cells #[.map (some (T.aM p)), .pointer none, .pointer none] 279 (0, 0)) := by
  have := hT.lev p hp
  rwa [STrie.ptr_no (fun h => (hL.lit p _ h).1 rfl), STrie.ptr_no (fun h => (hL.lit p _ h).2 rfl)] at this
set_option maxRecDepth 100000 in
set_option maxHeartbeats 3200000 in
theorem getAll_any (T : STrie) (D : Nat) (all : List Nat) (R : Nat) (hL : STL T D all) : ∀ (d : Nat) (p : Path) (F : Nat → Prop) (Q : Path → Prop) (w : World), D - p.length = d → T.N p → STrieOK T F w → (∀ q, Q q → p <+: q → q = p) → FndR T F R Q w w → (∀ k, F k → k < w.heap.size) → ¬ F R →
    Calls Tryz.prog 225 #[.pointer (some ⟨T.aL p, 0, none⟩), .pointer (some ⟨R, 0, none⟩)] w (AddC T F R (fun q => Q q ∨ (p <+: q ∧ q ≠ p)) w) := by
  intro d
  induction d using Nat.strongRecOn with
  | _ d ih =>
  intro p F Q w hd hp hT hQ h hF hR
  have HL := Lib.hid hL; clear hL
  have IH := Lib.hid ih; clear ih
  have hlev := lev_lit hT HL.out hp
  have c0 := (cell_row (j := 0) hlev).trans (show _ = some (Value.map (some (T.aM p))) from rfl)
  have c1 := (cell_row (j := 1) hlev).trans (show _ = some (Value.pointer none) from rfl)
  have c2 := (cell_row (j := 2) hlev).trans (show _ = some (Value.pointer none) from rfl)
  obtain ⟨kv, hm, hk⟩ := hT.map p hp
  have HT := Lib.hid hT; clear hT
  have H := Lib.hid h; clear h
  have HQ := Lib.hid hQ; clear hQ
  have HD := Lib.hid hd; clear hd
  have HK := Lib.hid hk
  have hFM := HT.out.fM p hp
  clear hlev
  go_enter Tryz.func225, Tryz.ntmps225
  go_wp2_with (at_range; refine wpList_rangeE _ rfl _ 276 rfl _ _ Tryz.underlying276 (T.aM p) kv rfl hm ?_; intro w0 hit hb0 hz0)
  go_frame
  have HB0 := Lib.hid (And.intro hb0 hz0)
  have hz1 : w.heap.size < w0.heap.size := by omega
  clear hb0 hz0
  have HINV := Lib.hid hk.inv
  have hrF : ¬ F w.heap.size := fun e => by have := hF _ e; omega
  have hRl := H.out.lt
  have HND := Lib.hid hm.nd
  clear hk hm
  go_loopw [5] (fun _ wr => ∃ (done : List (List UInt8)) (left : List (Value × Value)), kv.Perm (done.map (kidE T p) ++ left) ∧ IterE wr (T.aM p) w.heap.size kv left ∧ FndR T (fun k => F k ∨ k = w.heap.size) R (fun q => Q q ∨ ∃ t ∈ done, p ++ [t] <+: q) wr wr ∧ Only (fun k => ¬ F k ∧ R ≤ k) w wr) (fun _ wr => wr.rangeLeft (T.aM p) w.heap.size)
  case atStart =>
    refine ⟨[], kv, List.Perm.refl _, hit, ?_, Only.of HB0.out.1⟩
    exact (H.out.more HB0.out.1 (Nat.le_refl _)).congr fun q b hb => by simp
  case round =>
    obtain ⟨done, left, hpm, hitr, hout, honw⟩ := hrel
    have HPM := Lib.hid hpm; clear hpm
    have HO := Lib.hid (And.intro hout honw); clear hout honw
    have HI := Lib.hid hitr
    go_wp2_with (at_next; refine wpList_nextKV _ strV atBlk rfl _ rfl (T.aM p) w.heap.size kv left HINV.out rfl hitr ?_ ?_)
    · intro hl0
      have HL0 := Lib.hid hl0; clear hl0
      go_wp2
      go_end0
      refine ⟨rfl, ?_⟩
      refine (HO.out.1.less HO.out.2).congr fun q b hb => ?_
      have hpm := HPM.out
      rw [HL0.out, List.append_nil] at hpm
      have hq := HL.out.mem q b hb
      refine or_congr Iff.rfl ⟨?_, ?_⟩
      · rintro ⟨t, -, r, rfl⟩
        refine ⟨⟨[t] ++ r, by simp⟩, fun e => ?_⟩
        have := congrArg List.length e; simp at this
      · rintro ⟨⟨r, rfl⟩, hne⟩
        cases r with
        | nil => simp at hne
        | cons t r =>
          have hN : T.N (p ++ [t]) := HT.out.pre r (p ++ [t]) (by rw [List.append_assoc]; exact hq.1)
          obtain ⟨n1, n2⟩ := HL.out.lit p t hN
          have hin : kidE T p t ∈ kv := (HK.out _ _).2 ⟨t, rfl, n1, n2, hN, rfl⟩
          obtain ⟨t', ht', e⟩ := List.mem_map.1 (hpm.mem_iff.1 hin)
          have e2 := strV_inj (congrArg Prod.fst e)
          exact ⟨t, e2 ▸ ht', r, by simp⟩
    · intro t y left' w1 hperm hit1 hon1 hz1' hen
      have hl2 := hperm.length_eq
      rw [List.length_cons] at hl2
      have hzw := HO.out.2.size
      have hz2 : w.heap.size ≤ w1.heap.size := by omega
      have hF1 : ∀ k, (F k ∨ k = w.heap.size) → k < w1.heap.size := fun k hk => by
        rcases hk with hk | rfl
        · have := hF k hk; omega
        · have := hit1.lt; omega
      have hR1 : ¬ (F R ∨ R = w.heap.size) := by rintro (e | e); exact hR e; omega
      obtain ⟨hNt, rfl⟩ := HK.out.at' (hitr.sub _ (hperm.mem_iff.2 (List.mem_cons_self ..)))
      have honw1 : Only (fun k => ¬ F k ∧ R ≤ k) w w1 := HO.out.2.trans (hon1.mono (F' := fun k => ¬ F k ∧ R ≤ k) fun k hk => by subst hk; exact ⟨hrF, by omega⟩) fun k hk => .inl hk
      have hTw : STrieOK T (fun k => F k ∨ k = w.heap.size) w1 := (HT.out.keep fun k hk => honw1.block k (hF k hk) fun e => e.1 hk).wider fun k => .inl
      have hnd : t ∉ done := fun ht => by
        have h1 := HND.out
        have h2 : kv.Perm (done.map (kidE T p) ++ kidE T p t :: left') := HPM.out.trans (hperm.append_left _)
        have h3 := (h2.map (·.1)).nodup_iff.1 h1
        rw [List.map_append, List.map_cons] at h3
        have h4 := (List.nodup_append.1 h3).2.2
        exact h4 (kidE T p t).1 (List.mem_map.2 ⟨_, List.mem_map.2 ⟨t, ht, rfl⟩, rfl⟩) _ (List.mem_cons_self ..) rfl
      have hno : ∀ q, (Q q ∨ ∃ t' ∈ done, p ++ [t'] <+: q) → p ++ [t] <+: q → False := fun q hq hp2 => by
        rcases hq with hq | ⟨t', ht', hp3⟩
        · have := HQ.out q hq ((List.prefix_append p [t]).trans hp2)
          have := hp2.length_le
          subst q; rw [List.length_append] at this; simp at this; omega
        · have e := List.prefix_of_prefix_length_le hp2 hp3 (by simp)
          have e := e.eq_of_length (by simp)
          have e := List.append_cancel_left e
          injection e with e; subst e
          exact hnd ht'
      have hcb := addNodeF_any T D all _ R _ p t w1 hTw HL.out hNt (fun hq => hno _ hq (List.prefix_refl _)) (HO.out.1.turn hon1 (by omega)) hF1 hR1
      have HP := Lib.hid (And.intro hperm (And.intro hit1 (And.intro hon1 (And.intro hz1' hl2))))
      have HF1 := Lib.hid hF1
      have HNO := Lib.hid hno
      have HTw := Lib.hid hTw
      have HON1 := Lib.hid honw1
      have hnod := (cell_row (j := 0) (hTw.nod p t hNt)).trans (show _ = some (Value.pointer (some ⟨T.aL (p ++ [t]), 0, none⟩)) from rfl)
      clear hperm hit1 hon1 hz1' hl2 hF1 hno hTw honw1
      go_wp2_with fail
      refine hcb.mono ?_
      rintro e w2 ⟨rfl, hr2⟩
      have hnod2 := (cell_row (j := 0) ((HTw.out.keep fun k hk => hr2.kept HF1.out hk).nod p t hNt)).trans (show _ = some (Value.pointer (some ⟨T.aL (p ++ [t]), 0, none⟩)) from rfl)
      have hrec := IH.out (D - (p ++ [t]).length) (by have := HL.out.deep _ hNt; have := HD.out; simp at *; omega) (p ++ [t]) _ _ w2 rfl hNt (HTw.out.keep fun k hk => hr2.kept HF1.out hk) (fun q hq hp2 => by
        rcases hq with hq | hq
        · exact (HNO.out q hq hp2).elim
        · exact hq) hr2.start (fun k hk => by have := HF1.out k hk; have := hr2.size; omega) hR1
      have HR2 := Lib.hid hr2
      clear hcb hr2 hnod
      go_wp2_with fail
      refine hrec.mono ?_
      rintro e w3 ⟨rfl, hr3⟩
      have HR3 := Lib.hid (HR2.out.trans hr3)
      clear hrec hr3 hnod2
      go_wp2
      go_roundw
      case rel =>
        obtain ⟨p1, p2, p3, p4, p5⟩ := HP.out
        refine ⟨done ++ [t], left', ?_, p2.keep (HR3.out.kept HF1.out (.inl hFM)) (HR3.out.kept HF1.out (.inr rfl)), ?_, ?_⟩
        · refine HPM.out.trans ?_
          rw [List.map_append, List.append_assoc]
          exact p1.append_left _
        · refine HR3.out.start.congr fun q b hb => ?_
          constructor
          · rintro (((h | ⟨t', h1, h2⟩) | rfl) | ⟨h1, h2⟩)
            · exact .inl h
            · exact .inr ⟨t', List.mem_append_left _ h1, h2⟩
            · exact .inr ⟨t, by simp, List.prefix_refl _⟩
            · exact .inr ⟨t, by simp, h1⟩
          · rintro (h | ⟨t', h1, h2⟩)
            · exact .inl (.inl (.inl h))
            · rcases List.mem_append.1 h1 with h1 | h1
              · exact .inl (.inl (.inr ⟨t', h1, h2⟩))
              · obtain rfl := List.mem_singleton.1 h1
                by_cases e : q = p ++ [t']
                · exact .inl (.inr e)
                · exact .inr ⟨h2, e⟩
        · exact HON1.out.trans HR3.out.only fun k hk => .inl ⟨fun e => hk.1 (.inl e), hk.2⟩
      case measure =>
        obtain ⟨p1, p2, p3, p4, p5⟩ := HP.out
        rw [(p2.keep (HR3.out.kept HF1.out (.inl hFM)) (HR3.out.kept HF1.out (.inr rfl))).left_eq, HI.out.left_eq]
        omega
end Go.Proofs.YtehlmjecbljafaaGreatDoor
