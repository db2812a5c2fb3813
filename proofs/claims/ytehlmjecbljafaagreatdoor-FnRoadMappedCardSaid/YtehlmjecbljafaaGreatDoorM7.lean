/- Words on what a call owns: a list of blocks with what they hold (Holds), rows among them (RowIn), append, new blocks, stores. What the texts of a mapping come to: Digits, kind, text, Dest. -/
import Derived.Test.YtehlmjecbljafaaGreatDoorM5
import Derived.Test.YtehlmjecbljafaaGreatDoorM6
namespace Go.Proofs.YtehlmjecbljafaaGreatDoor
open Go Go.RowKit

/-- The blocks of H, each another one, all from B on, hold what H says. -/
structure Holds (w : World) (B : Nat) (H : List (Nat × Obj)) : Prop where
  nd : (H.map (·.1)).Nodup
  at' : ∀ p ∈ H, B ≤ p.1 ∧ w.heap[p.1]? = some p.2

theorem Holds.nil (w : World) (B : Nat) : Holds w B [] := ⟨by simp, fun _ h => by cases h⟩
theorem Holds.lt {w : World} {B : Nat} {H : List (Nat × Obj)} (h : Holds w B H) {p : Nat × Obj} (hp : p ∈ H) : p.1 < w.heap.size := (Array.getElem?_eq_some_iff.1 (h.at' p hp).2).1
theorem Holds.perm {w : World} {B : Nat} {H H' : List (Nat × Obj)} (h : Holds w B H) (hp : H.Perm H') : Holds w B H' :=
  ⟨(hp.map _).nodup_iff.1 h.nd, fun p hm => h.at' p (hp.mem_iff.2 hm)⟩
theorem Holds.sub {w : World} {B : Nat} {H H' : List (Nat × Obj)} (h : Holds w B (H ++ H')) : Holds w B H :=
  ⟨by have := h.nd; rw [List.map_append] at this; exact (List.nodup_append.1 this).1, fun p hm => h.at' p (List.mem_append_left _ hm)⟩
theorem Holds.sub' {w : World} {B : Nat} {H H' : List (Nat × Obj)} (h : Holds w B (H ++ H')) : Holds w B H' :=
  ⟨by have := h.nd; rw [List.map_append] at this; exact (List.nodup_append.1 this).2.1, fun p hm => h.at' p (List.mem_append_right _ hm)⟩
theorem Holds.mono {w : World} {B B' : Nat} {H : List (Nat × Obj)} (h : Holds w B H) (hB : B' ≤ B) : Holds w B' H := ⟨h.nd, fun p hm => ⟨Nat.le_trans hB (h.at' p hm).1, (h.at' p hm).2⟩⟩
/-- The world has changed, but for blocks of H. -/
theorem Holds.keepIf {w w' : World} {B : Nat} {H : List (Nat × Obj)} (h : Holds w B H) (hk : ∀ p ∈ H, w'.heap[p.1]? = w.heap[p.1]?) : Holds w' B H := ⟨h.nd, fun p hm => ⟨(h.at' p hm).1, by rw [hk p hm]; exact (h.at' p hm).2⟩⟩
theorem Holds.keep {w w' : World} {B : Nat} {H : List (Nat × Obj)} (h : Holds w B H) (hb : Below w.heap.size w w') : Holds w' B H := h.keepIf fun _ hp => hb.block _ (h.lt hp)
theorem Holds.alloc {w : World} {B : Nat} {H : List (Nat × Obj)} (h : Holds w B H) (o : Obj) : Holds (w.alloc o) B H := h.keep ((Below.refl _ _).alloc (Nat.le_refl _) o)
theorem Holds.new {w : World} {B : Nat} {H : List (Nat × Obj)} (h : Holds w B H) (o : Obj) (hB : B ≤ w.heap.size) : Holds (w.alloc o) B ((w.heap.size, o) :: H) := by
  refine ⟨?_, fun p hp => ?_⟩
  · rw [List.map_cons, List.nodup_cons]
    refine ⟨fun hm => ?_, h.nd⟩
    obtain ⟨p, hp, e⟩ := List.mem_map.1 hm
    have := h.lt hp
    omega
  · rcases List.mem_cons.1 hp with rfl | hp
    · exact ⟨hB, heap_alloc_new w o⟩
    · exact (h.alloc o).at' p hp
theorem Holds.other {w w' : World} {B b : Nat} {H : List (Nat × Obj)} {o : Obj} (h : Holds w B ((b, o) :: H)) (hk : ∀ k, k ≠ b → k < w.heap.size → w'.heap[k]? = w.heap[k]?) : Holds w' B H := by
  have hnd := h.nd
  rw [List.map_cons, List.nodup_cons] at hnd
  refine Holds.keepIf (w := w) ⟨hnd.2, fun p hp => h.at' p (List.mem_cons_of_mem _ hp)⟩ fun p hp => hk _ (fun e => hnd.1 ?_) (h.lt (List.mem_cons_of_mem _ hp))
  exact List.mem_map.2 ⟨p, hp, e⟩
theorem Holds.cons {w : World} {B b : Nat} {H H0 : List (Nat × Obj)} {o o0 : Obj} (h0 : Holds w B ((b, o0) :: H0)) (h : Holds w B H) (hH : H.map (·.1) = H0.map (·.1)) (ho : w.heap[b]? = some o) : Holds w B ((b, o) :: H) := by
  have hnd := h0.nd
  rw [List.map_cons, List.nodup_cons] at hnd
  refine ⟨by rw [List.map_cons, List.nodup_cons, hH]; exact hnd, fun p hp => ?_⟩
  rcases List.mem_cons.1 hp with rfl | hp
  · exact ⟨(h0.at' (b, o0) (by simp)).1, ho⟩
  · exact h.at' p hp
/-- A store into the first block. -/
theorem Holds.set {w : World} {B b i : Nat} {H : List (Nat × Obj)} {cs : Array Value} {t : TypeId} (h : Holds w B ((b, .cells cs t (0, 0)) :: H)) (v : Value) : Holds (w.setCell ⟨b, i, none⟩ v) B ((b, .cells (cs.setIfInBounds i v) t (0, 0)) :: H) := by
  have hb := (h.at' (b, .cells cs t (0, 0)) (by simp)).2
  have ho := h.other (w' := w.setCell ⟨b, i, none⟩ v) fun k hk _ => Below.heap_setCell w _ v k hk
  have hnd := h.nd
  refine ⟨hnd, fun p hp => ?_⟩
  rcases List.mem_cons.1 hp with rfl | hp
  · exact ⟨(h.at' (b, .cells cs t (0, 0)) (by simp)).1, heap_setCell_same w b i cs t v hb⟩
  · exact ho.at' p hp
theorem Holds.head {w : World} {B b : Nat} {H : List (Nat × Obj)} {o : Obj} (h : Holds w B ((b, o) :: H)) : w.heap[b]? = some o := (h.at' (b, o) (by simp)).2
theorem frozen_row {w : World} {g j : Nat} {cur : Array Value} {t : TypeId} (h : w.heap[g]? = some (.cells cur t (0, 0))) : w.frozen? ⟨g, j, none⟩ = false := by simp [World.frozen?, h]

/-- v is nil and owns nothing, or it begins at the head of the one block of H, and reads as xs. -/
def RowIn (sz : Nat) (v : Value) (n : Nat) (xs : List Value) (H : List (Nat × Obj)) : Prop :=
  xs.length = n * sz ∧ ((v = .slice none 0 0 ∧ n = 0 ∧ H = []) ∨
    ∃ g cap cur t, v = .slice (some ⟨g, 0, none⟩) n cap ∧ H = [(g, .cells cur t (0, 0))] ∧ n ≤ cap ∧ cap ≤ maxLen ∧ cap * sz ≤ cur.size ∧ cur.toList.take (n * sz) = xs)
theorem RowIn.nil (sz : Nat) : RowIn sz (.slice none 0 0) 0 [] [] := ⟨by simp, .inl ⟨rfl, rfl, rfl⟩⟩
theorem RowIn.own {w : World} {B sz n : Nat} {v : Value} {xs : List Value} {H : List (Nat × Obj)} (h : RowIn sz v n xs H) (hh : Holds w B H) : Own w B sz v n xs := by
  refine ⟨h.1, ?_⟩
  rcases h.2 with ⟨rfl, rfl, rfl⟩ | ⟨g, cap, cur, t, rfl, rfl, r⟩
  · exact .inl ⟨rfl, rfl⟩
  · have := hh.at' (g, .cells cur t (0, 0)) (by simp)
    exact .inr ⟨g, cap, cur, t, rfl, this.1, this.2, r⟩
theorem RowIn.sl {w : World} {B sz n : Nat} {v : Value} {xs : List Value} {H : List (Nat × Obj)} (h : RowIn sz v n xs H) (hh : Holds w B H) : Sl w sz v n xs := (h.own hh).sl
theorem RowIn.keys {sz n : Nat} {v : Value} {xs : List Value} {H : List (Nat × Obj)} (h : RowIn sz v n xs H) {k : Nat} : k ∈ H.map (·.1) ↔ v.ownBlock = some k := by
  rcases h.2 with ⟨rfl, rfl, rfl⟩ | ⟨g, cap, cur, t, rfl, rfl, r⟩
  · simp [Value.ownBlock]
  · simp [Value.ownBlock, eq_comm]
/-- What is owned, as a list of at most one block. -/
theorem own_rowIn {w : World} {B sz n : Nat} {v : Value} {xs : List Value} (h : Own w B sz v n xs) : ∃ H, RowIn sz v n xs H ∧ Holds w B H := by
  rcases h.2 with ⟨rfl, rfl⟩ | ⟨g, cap, cur, t, rfl, hb, hg, r⟩
  · exact ⟨[], ⟨h.1, .inl ⟨rfl, rfl, rfl⟩⟩, Holds.nil _ _⟩
  · exact ⟨[(g, .cells cur t (0, 0))], ⟨h.1, .inr ⟨g, cap, cur, t, rfl, rfl, r⟩⟩, ⟨by simp, fun p hp => by rw [List.mem_singleton] at hp; subst hp; exact ⟨hb, hg⟩⟩⟩

section
variable {P : Program} (w : World)
theorem run_app' {T E sz bytes : Nat} {z : Value} (et : ET P T E sz bytes z) (ty : TypeId) (base : Nat)
    (v : Value) (n : Nat) (xs : List Value) (hown : Own w base sz v n xs)
    (a : Addr) (m c : Nat) (news : List Value) (hl : news.length = m * sz) (hnews : ∀ j u, news[j]? = some u → w.cell? (a.add j) = some u) (h1 : ∀ u ∈ news, u.oneCell' = true)
    (hsm : n + m ≤ 549755813888) (hbase : base ≤ w.heap.size) :
    ∃ v' w', (Builtin.append_ #[T, T] ty #[v, .slice (some a) m c]).run P w = .ok v' w' ∧ Own w' base sz v' (n + m) (xs ++ news) ∧ w.grownBy w' v.ownBlock ∧
      (v'.ownBlock = v.ownBlock ∨ ∃ b, v'.ownBlock = some b ∧ w.heap.size ≤ b) := by
  obtain ⟨i, hi, hz, rfl, rfl⟩ := info_parts et.inf
  have hmax : n + m ≤ maxLen := by unfold maxLen; omega
  have hbytes : (n + m) * i.bytes ≤ 140737488355328 := by
    have := Nat.mul_le_mul hsm et.small
    omega
  have hlen : (xs ++ news).length = (n + m) * i.size := by rw [List.length_append, hown.1, hl, Nat.add_mul]
  have grown : ∀ (old : Nat), old < n + m → ∀ (row : Option Nat),
      Own (w.drew.alloc (.cells (xs.toArray ++ news.toArray ++ Builtin.zeroCells z.cells (grownCap w (n + m) old E - (n + m))) E)) base i.size
        (.slice (some ⟨w.heap.size, 0, none⟩) (n + m) (grownCap w (n + m) old E)) (n + m) (xs ++ news) ∧
      w.grownBy (w.drew.alloc (.cells (xs.toArray ++ news.toArray ++ Builtin.zeroCells z.cells (grownCap w (n + m) old E - (n + m))) E)) row := by
    intro old ho row
    have hge := grownCap_ge w (n + m) old E
    have hcm : grownCap w (n + m) old E ≤ maxLen := grownCap_le_maxLen w (n + m) old E hmax
    refine ⟨⟨hlen, .inr ⟨w.heap.size, _, _, E, rfl, hbase, heap_alloc_new w.drew _, hge, hcm, ?_, ?_⟩⟩, ⟨rfl, rfl, rfl, by simp, fun k hk _ => Below.heap_alloc w.drew _ k hk⟩⟩
    · simp only [Array.size_append, List.size_toArray, size_zeroCells, et.zs, hown.1, hl, ← Nat.add_mul]
      apply Nat.le_of_eq
      congr 1
      omega
    · simp only [Array.toList_append, List.append_assoc]
      rw [← List.append_assoc, ← hlen]
      exact List.take_left
  rcases hown.2 with ⟨rfl, rfl⟩ | ⟨g, cap, cur, t, rfl, hbg, hg, hnc, hcm, hcs, htake⟩
  · have hx : xs = [] := List.eq_nil_of_length_eq_zero (by simpa using hown.1)
    subst hx
    by_cases hm : m = 0
    · subst hm
      have hn : news = [] := List.eq_nil_of_length_eq_zero (by simpa using hl)
      subst hn
      refine ⟨.slice none 0 0, w, ?_, Own.nil w base i.size, ⟨rfl, rfl, rfl, Nat.le_refl _, fun _ _ _ => rfl⟩, .inl rfl⟩
      simp [Builtin.append_, run_underlying et.un, sizeOf, typeInfo, hi, Builtin.lenOf, Builtin.firstCells, loadCells, loadCellsFrom]
    · have hr := run_append_nil (P := P) w T ty E i z et.un hi hz a m c news hl hnews (by omega) (by omega) (by simp only [Nat.zero_add] at hbytes; omega)
      have hgr := grown 0 (by omega) (Value.ownBlock (.slice none 0 0))
      simp only [Nat.zero_add, List.nil_append, Array.empty_append] at hgr ⊢
      exact ⟨_, _, hr, hgr.1, hgr.2, .inr ⟨_, rfl, Nat.le_refl _⟩⟩
  · by_cases hroom : n + m ≤ cap
    · have hfit : 0 + n * i.size + news.length ≤ cur.size := by rw [Nat.zero_add, hl, ← Nat.add_mul]; exact Nat.le_trans (Nat.mul_le_mul_right _ hroom) hcs
      have hr := run_room (P := P) w T ty E t i et.un hi g 0 n cap cur hg a m c news hl hnews h1 hroom hfit
      simp only [Nat.zero_add] at hr hfit
      refine ⟨_, _, hr, ⟨hlen, .inr ⟨g, cap, _, t, rfl, hbg, setRow_heap w g cur _ t _ hg, hroom, hcm, ?_, ?_⟩⟩, ⟨rfl, rfl, rfl, by simp, fun k _ hk => setRow_other w g k _ (fun e => hk (by simp [Value.ownBlock, e]))⟩, .inl rfl⟩
      · simp only [List.size_toArray, List.length_append, List.length_take, List.length_drop, Array.length_toList]
        omega
      · rw [htake, ← hlen]
        exact List.take_left
    · have holds : ∀ j u, xs[j]? = some u → w.cell? ((⟨g, 0, none⟩ : Addr).add j) = some u := by
        intro j u hu
        rw [add0, Nat.zero_add, cell_row hg]
        rw [← htake, List.getElem?_take] at hu
        split at hu
        · simpa using hu
        · cases hu
      have hr := run_append_grow (P := P) w T ty E i z et.un hi hz ⟨g, 0, none⟩ n cap xs hown.1 holds a m c news hl hnews (by omega) (by omega) (growslice_fits (by omega) hbytes)
      have hgr := grown cap (by omega) (Value.ownBlock (.slice (some ⟨g, 0, none⟩) n cap))
      exact ⟨_, _, hr, hgr.1, hgr.2, .inr ⟨_, rfl, Nat.le_refl _⟩⟩
end

/-- What an append does to what a call owns. -/
theorem holds_app {W w' : World} {B sz n n' : Nat} {v v' : Value} {xs xs' : List Value} {H R : List (Nat × Obj)} (h : RowIn sz v n xs H) (hh : Holds W B (H ++ R)) (hown : Own w' B sz v' n' xs') (hg : W.grownBy w' v.ownBlock)
    (hl : v'.ownBlock = v.ownBlock ∨ ∃ b, v'.ownBlock = some b ∧ W.heap.size ≤ b) : ∃ H', RowIn sz v' n' xs' H' ∧ Holds w' B (H' ++ R) := by
  obtain ⟨H', hr, hh'⟩ := own_rowIn hown
  have hnd := hh.nd
  rw [List.map_append] at hnd
  have hR : Holds w' B R := hh.sub'.keepIf fun p hp => hg.block _ (hh.sub'.lt hp) (fun e => by
    have : p.1 ∈ H.map (·.1) := h.keys.2 e.symm
    exact (List.nodup_append.1 hnd).2.2 p.1 this p.1 (List.mem_map_of_mem hp) rfl)
  refine ⟨H', hr, ⟨?_, fun p hp => ?_⟩⟩
  · rw [List.map_append]
    refine List.nodup_append.2 ⟨hh'.nd, hR.nd, fun a ha b hb e => ?_⟩
    subst e
    rw [hr.keys] at ha
    rcases hl with hl | ⟨c, hc, hlt⟩
    · rw [hl] at ha
      exact (List.nodup_append.1 hnd).2.2 a (h.keys.2 ha) a hb rfl
    · rw [hc] at ha; cases ha
      obtain ⟨p, hp, rfl⟩ := List.mem_map.1 hb
      have := hh.sub'.lt hp
      omega
  · rcases List.mem_append.1 hp with hp | hp
    · exact hh'.at' p hp
    · exact hR.at' p hp

/-- append(v, x), x in its box; v among what the call owns. -/
theorem wpList_appH {P : Program} {ops : Array Oper} {rest : List Oper} {o : Oper} {a : Act} {Q : Exit → Act → World → Prop} {W : World} {T E sz bytes : Nat} {z : Value} (et : ET P T E sz bytes z) (hgd : o.guard = none) (s x : Operand)
    (ho : o.op = .call { callee := .builtin .append, args := #[s, x], argTypes := #[T, T] })
    (B : Nat) {v : Value} {n : Nat} {xs : List Value} {H R : List (Nat × Obj)} (hs : a.eval s = v) (hr : RowIn sz v n xs H) (hh : Holds W B (H ++ R))
    (news : List Value) (hx : a.eval x = .slice (some ⟨W.heap.size, 0, none⟩) 1 1) (hl : news.length = sz) (h1 : ∀ u ∈ news, u.oneCell' = true)
    (hsm : n < 549755813888) (hbase : B ≤ W.heap.size)
    (h : ∀ v' w' H', RowIn sz v' (n + 1) (xs ++ news) H' → Holds w' B (H' ++ R) → Below B W w' → wpList P ops Q rest (a.put o.dst v') w') : wpList P ops Q (o :: rest) a (W.alloc (.cells news.toArray E)) := by
  refine wpList_plain hgd fun K hK => ?_
  have hh2 := hh.alloc (.cells news.toArray E)
  have hown := hr.own hh2.sub
  obtain ⟨v', w', hrun, h2, h3, h4⟩ := run_app' (P := P) (W.alloc (.cells news.toArray E)) et o.type B v n xs hown ⟨W.heap.size, 0, none⟩ 1 1 news (by omega) (cells_new W news E) h1 (by omega) (by simp; omega)
  unfold Oper.wp execOp
  simp only [ho, resolve, invoke, builtin, Sem.run_bind, Sem.run_pure, Result.andThen_ok, List.map_toArray, List.map_cons, List.map_nil, hs, hx, hrun]
  obtain ⟨H', hr', hh'⟩ := holds_app hr hh2 h2 h3 h4
  exact hK _ _ (h v' w' H' hr' hh' (bel_app ((Below.refl B W).alloc hbase _) h3 hown (by simp; omega)))

end Go.Proofs.YtehlmjecbljafaaGreatDoor
namespace Go.Proofs.YtehlmjecbljafaaGreatDoor
open Go Go.RowKit
def chB (x : Int) : UInt8 := UInt8.ofNat x.toNat
def dig (n : Nat) : UInt8 := chB (48 + (n : Int) % 10)
def digitsL (n : Nat) : List UInt8 := if n < 10 then [dig n] else [dig (n / 10), dig n]
theorem conv_box (x : Int) (w : World) : (Go.convert 94 9 (.slice (some ⟨w.heap.size, 0, none⟩) 1 1)).run Tryz.prog (w.alloc (.cells #[.int .u8 x] 5)) = .ok (.string (mk [chB x])) (w.alloc (.cells #[.int .u8 x] 5)) := by
  have := run_convert_bytes_arg (P := Tryz.prog) (w.alloc (.cells #[.int .u8 x] 5)) 94 5 Tryz.underlying94 Tryz.underlying5 w.heap.size 0 1 1 [x] rfl (by
    intro i hi
    obtain rfl : i = 0 := by omega
    rw [World.cell?_alloc_at _ _ _ _ rfl]; rfl) 9 Tryz.underlying9
  simpa [strOfNums, mk, chB] using this
def DigR (n m : Nat) (x : ByteArray) : Prop := (m = n ∧ bs x = [dig n]) ∨ (10 ≤ n ∧ m = n / 10 ∧ bs x = [dig (n / 10), dig n])
set_option maxRecDepth 100000 in
set_option maxHeartbeats 800000 in
theorem digits_any (n : Nat) (w : World) (hn : n ≤ 99) : Calls Tryz.prog 123 #[.int .i64 n] w fun e w' => e = .returned (.string (mk (digitsL n))) ∧ Below w.heap.size w w' := by
  have hcv := conv_box
  have hsz : ∀ c, (mk [c]).size = 1 := fun c => by rw [mk_size]; rfl
  go_enter Tryz.func123, Tryz.ntmps123
  go_wp2
  go_loopw [0, 3] (fun v s wr => ∃ (m : Nat) (x : ByteArray), v = .int .i64 m ∧ s = .string x ∧ m ≤ 99 ∧ x.size ≤ 2 ∧ Hid (DigR n m x) ∧ Below w.heap.size w wr) (fun v _ _ => (intOf v).toNat)
  case atStart => exact ⟨n, _, rfl, rfl, hn, by rw [mk_size]; simp, .inl ⟨rfl, by
    rw [bs_mk]; rfl⟩, (Below.refl _ _).alloc (Nat.le_refl _) _⟩
  case round =>
    obtain ⟨m, x, rfl, rfl, hm, hx, HD, hb⟩ := hrel
    by_cases h : 10 ≤ m
    · go_wp2
      go_roundw
      case rel =>
        rcases HD.out with ⟨rfl, hx1⟩ | ⟨h1, h2, -⟩
        · refine ⟨m / 10, _, by go_num, rfl, by omega, ?_, .inr ⟨h, rfl, ?_⟩, hb.alloc hb.size _⟩
          · rw [← bs_len, bs_append, hx1, bs_mk]; simp
          · rw [bs_append, hx1, bs_mk]; rfl
        · omega
      case measure => simp [intOf]; omega
    · go_wp2
      go_ret
      refine ⟨?_, hb⟩
      rw [← mk_bs x]
      rcases HD.out with ⟨rfl, hx1⟩ | ⟨h1, h2, h3⟩
      · rw [hx1, digitsL, if_pos (by omega)]; rfl
      · rw [h3, digitsL, if_neg (by omega)]; rfl
def kindN (k : Int) : Int := if k = 1 ∨ k = 2 then 1 else 0
set_option maxRecDepth 100000 in
set_option maxHeartbeats 800000 in
theorem kind_any (k : Int) (w : World) (hk : (k = 0 ∨ k = 11) ∨ (k = 1 ∨ k = 2)) : Calls Tryz.prog 51 #[.int .i64 k] w fun e w' => e = .returned (.int .i64 (kindN k)) ∧ w = w' := by
  rcases hk with (rfl | rfl) | (rfl | rfl)
  all_goals
    go_enter Tryz.func51, Tryz.ntmps51
    go_wp2
    go_ret
    exact ⟨rfl, rfl⟩
def textL (kind : Int) (word : ByteArray) (n : Nat) : List UInt8 :=
  if kind = 0 then bs word else if kind = 11 then [62] else if kind = 1 then 36 :: digitsL n else [123, 123, 119, 105, 108, 100, 99, 97, 114, 100, 40] ++ digitsL n ++ [41, 125, 125]
set_option maxRecDepth 100000 in
set_option maxHeartbeats 800000 in
theorem text_any (kind : Int) (word : ByteArray) (n : Nat) (m : Int) (aa : Option Addr) (la ca : Nat) (w : World) (hk : (kind = 0 ∨ kind = 11) ∨ (kind = 1 ∨ kind = 2)) (hn : n ≤ 99) (hw : word.size ≤ 140737488351232) :
    Calls Tryz.prog 88 #[.agg #[.int .i64 kind, .string word, .int .i64 n, .int .i64 m, .slice aa la ca]] w fun e w' => e = .returned (.string (mk (textL kind word n))) ∧ Below w.heap.size w w' := by
  have hdl : (mk (digitsL n)).size ≤ 2 := by rw [mk_size]; unfold digitsL; split <;> simp
  have hb1 := (Below.refl w.heap.size w).alloc (Nat.le_refl _) (.cells #[.int .i64 kind, .string word, .int .i64 n, .int .i64 m, .slice aa la ca] 70)
  have HB := Lib.hid hb1; clear hb1
  rcases hk with (rfl | rfl) | (rfl | rfl)
  · go_enter Tryz.func88, Tryz.ntmps88
    go_wp2
    go_ret
    exact ⟨by simp [textL], HB.out⟩
  · go_enter Tryz.func88, Tryz.ntmps88
    go_wp2
    go_ret
    exact ⟨by simp [textL]; rfl, HB.out⟩
  · go_enter Tryz.func88, Tryz.ntmps88
    go_wp2_with (go_at_call 123; go_must (refine (digits_any n _ hn).mono ?_); rintro e w1 ⟨rfl, hb2⟩)
    go_ret
    refine ⟨?_, below_up HB.out (by simp) hb2⟩
    congr 2
  · go_enter Tryz.func88, Tryz.ntmps88
    go_wp2_with (go_at_call 123; go_must (refine (digits_any n _ hn).mono ?_); rintro e w1 ⟨rfl, hb2⟩)
    go_ret
    refine ⟨?_, below_up HB.out (by simp) hb2⟩
    congr 2
/-- A part of a mapping that can be turned round. -/
structure PartOK (wn : Nat) (p : Part) : Prop where
  kind : (p.kind = 0 ∨ p.kind = 11) ∨ (p.kind = 1 ∨ p.kind = 2)
  n0 : 0 ≤ p.n
  n1 : p.n ≤ 99
  wild : p.kind = 1 ∨ p.kind = 2 → 1 ≤ p.n ∧ p.n ≤ wn
  word : p.word.size ≤ 2147483647
def textP (p : Part) : List UInt8 := textL p.kind p.word p.n.toNat
def texts (ps : List Part) : List (List UInt8) := ps.map textP
theorem text_len {wn : Nat} {p : Part} (h : PartOK wn p) : (textP p).length ≤ 2147483647 := by
  have hd : (digitsL p.n.toNat).length ≤ 2 := by unfold digitsL; split <;> simp
  have hw := h.word
  unfold textP textL
  split
  · rw [bs_len]; exact hw
  · split
    · simp
    · split
      · simp; omega
      · simp; omega
theorem texts_sum {wn : Nat} {ps : List Part} (h : ∀ p ∈ ps, PartOK wn p) (hl : ps.length ≤ 10) : sumL (texts ps) ≤ 137438953472 := by
  have key : ∀ l : List Part, (∀ p ∈ l, PartOK wn p) → sumL (texts l) ≤ l.length * 2147483648 := by
    intro l
    induction l with
    | nil => intro _; simp [texts, sumL]
    | cons x r ih =>
      intro hh
      have := ih fun p hp => hh p (List.mem_cons_of_mem _ hp)
      have := text_len (hh x (by simp))
      simp only [texts, sumL, List.map_cons, List.foldr_cons, List.length_cons] at *
      omega
  have := key ps h
  omega
set_option maxRecDepth 100000 in
set_option maxHeartbeats 800000 in
theorem dest_any (v : Value) (ps : List Part) (wn : Nat) (w : World) (hps : PartsAt w v ps) (hok : ∀ p ∈ ps, PartOK wn p) (hl : ps.length ≤ 10) :
    Calls Tryz.prog 50 #[v] w fun e w' => e = .returned (.string (mk (joinD (texts ps)))) ∧ Below w.heap.size w w' := by
  obtain ⟨a, cap, rfl⟩ := hps.1.form
  have HP := Lib.hid hps; clear hps
  have hsum := texts_sum hok hl
  have Hok := Lib.hid hok; clear hok
  go_enter Tryz.func50, Tryz.ntmps50
  go_wp2
  go_loopw [3, 4] (fun l i wr => ∃ (k : Nat) (ss : List ByteArray), k ≤ ps.length ∧ i = .int .i64 k ∧ Own wr w.heap.size 1 l ss.length (ss.map Value.string) ∧ Hid (ss.map bs = (texts ps).take k) ∧ Below w.heap.size w wr) (fun _ i _ => ps.length - (intOf i).toNat)
  case atStart => exact ⟨0, [], Nat.zero_le _, rfl, Own.nil _ _ _, rfl, Below.refl _ _⟩
  case round =>
    obtain ⟨k, ss, hk, rfl, hown, HT, hb⟩ := hrel
    have hssl : ss.length = k := by
      have := congrArg List.length HT.out
      simp [texts] at this; omega
    have hssl' : ss.length ≤ 10 := by omega
    have HSL := Lib.hid hssl; clear hssl
    by_cases hlt : k < ps.length
    · obtain ⟨b, o, p, rfl, Hp, c0, c1, c2, c3, c4, hpo⟩ := HP.out.at' hb hlt
      clear hpo
      have hpk := Hok.out p (List.mem_of_getElem? Hp.out)
      have HT2 : Hid ((ss ++ [mk (textP p)]).map bs = (texts ps).take (k + 1)) := by
        unfold Hid
        rw [List.map_append, HT.out, List.take_add_one]
        congr 1
        simp [texts, Hp.out]
      obtain ⟨kind, word, n, m, aa, ca, ats⟩ := p
      obtain ⟨hk1, hn0, hn1, -, hw1⟩ := hpk
      simp only at *
      obtain ⟨q, rfl⟩ := Int.eq_ofNat_of_zero_le hn0
      go_wp2_with fail
      refine (text_any kind word q m aa ats.length ca _ hk1 (by omega) (by omega)).mono ?_
      rintro e w1 ⟨rfl, hb1⟩
      have hb2 := below_up hb hb.size hb1
      have hown2 := hown.keep hb1
      have e2 : textP ⟨kind, word, q, m, aa, ca, ats⟩ = textL kind word q := rfl
      rw [e2] at HT2
      have HT3 := HT2; clear HT2 e2
      go_wp2_with (at_builtin; go_must (refine wpList_app1 et32 rfl _ _ rfl w.heap.size rfl hown2 [_] rfl rfl (by simp [Value.oneCell']) (by omega) hb2.size ?_); intro v' w2 hown3 hgrow)
      go_roundw
      case rel => exact ⟨k + 1, ss ++ [mk (textL kind word q)], hlt, by go_num, by simpa using hown3, HT3.out, bel_app hb2 hgrow hown2 hb2.size⟩
      case measure => simp [intOf]; omega
    · obtain rfl : k = ps.length := by omega
      have hT : ss.map bs = texts ps := by rw [HT.out, List.take_of_length_le (by simp [texts])]
      have HT' := Lib.hid hT; clear hT
      go_wp2_with fail
      refine (join_any _ ss _ hown.sl (by omega) (by rw [HT'.out]; exact hsum)).mono ?_
      rintro e w' ⟨rfl, rfl⟩
      rw [HT'.out]
      go_wp2
      go_ret
      exact ⟨rfl, hb⟩
end Go.Proofs.YtehlmjecbljafaaGreatDoor
