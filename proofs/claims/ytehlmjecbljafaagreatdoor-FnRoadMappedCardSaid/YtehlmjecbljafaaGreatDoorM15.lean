/- Plain words: a filter is cut into parts at its wildcards, and a matching text runs through them. The list of interest: an insertion. -/
import Derived.Test.YtehlmjecbljafaaGreatDoorM12
import Derived.Test.YtehlmjecbljafaaGreatDoorM14
import Derived.WalkSpells
namespace Go.Proofs.YtehlmjecbljafaaGreatDoor
open Go Go.RowKit
/-- What a pattern's tokens must be. -/
structure PatP (P : List (List UInt8)) : Prop where
  ne : ∀ t ∈ P, t ≠ []
  nodot : ∀ t ∈ P, 46 ∉ t
  last : ∀ k : Nat, P[k]? = some [62] → k + 1 = P.length
  tame : ∀ t ∈ P, TameT t
  some' : P ≠ []
/-- The parts of a filter: run is what stands since the last wildcard. -/
def gB (run : List UInt8) : List UInt8 → List (List UInt8)
  | [] => if run = [] then [] else [run]
  | c :: r =>
    if c = 46 ∧ r.head? = some 42 then (run ++ [46]) :: [42] :: gB [] (r.drop 2)
    else if c = 46 ∧ r.head? = some 62 then [run ++ [46], [62]]
    else if c = 42 then [42] :: gB [] (r.drop 1)
    else if c = 62 then [[62]]
    else gB (run ++ [c]) r
termination_by l => l.length
decreasing_by all_goals (simp only [List.length_drop, List.length_cons]; omega)
/-- A text runs through all parts. -/
def okP : List (List UInt8) → List UInt8 → Prop
  | [], _ => False
  | p :: ps, r =>
    if p = [42] then (46 ∈ r → (r.dropWhile (· ≠ 46)).drop 1 ≠ [] ∧ okP ps ((r.dropWhile (· ≠ 46)).drop 1)) ∧ (46 ∉ r → ps = [])
    else if p = [62] then True
    else p.length ≤ r.length ∧ r.take p.length = p ∧ (p.length < r.length → okP ps (r.drop p.length)) ∧ (p.length = r.length → ps = [])
theorem gB_lit : ∀ (q run r : List UInt8), (∀ c ∈ q, c ≠ 46 ∧ c ≠ 42 ∧ c ≠ 62) → gB run (q ++ r) = gB (run ++ q) r
  | [], run, r, _ => by simp
  | c :: q, run, r, h => by
    obtain ⟨h1, h2, h3⟩ := h c (by simp)
    rw [List.cons_append, gB, if_neg (fun h => h1 h.1), if_neg (fun h => h1 h.1), if_neg h2, if_neg h3, gB_lit q _ r fun x hx => h x (by simp [hx])]
    rw [List.append_assoc]; rfl
/-- Wildcards stand alone between points; no token is empty. -/
structure WildB (f : List UInt8) : Prop where
  alone : ∀ (i : Nat) (c : UInt8), f[i]? = some c → c = 42 ∨ c = 62 → (i = 0 ∨ f[i - 1]? = some 46) ∧ (f.length = i + 1 ∨ f[i + 1]? = some 46)
  last : ∀ i : Nat, f[i]? = some 62 → i + 1 = f.length
  dot : ∀ i : Nat, f[i]? = some 46 → ∃ c, f[i + 1]? = some c ∧ c ≠ 46
  first : f[0]? ≠ some 46
  ne : f ≠ []
def isWildT (t : List UInt8) : Prop := t = [42] ∨ t = [62]
theorem PatP.lit {P : List (List UInt8)} (h : PatP P) {t : List UInt8} (ht : t ∈ P) (hw : ¬ isWildT t) : ∀ c ∈ t, c ≠ 46 ∧ c ≠ 42 ∧ c ≠ 62 := by
  intro c hc
  refine ⟨fun e => h.nodot t ht (e ▸ hc), ?_⟩
  rcases h.tame t ht with h1 | h1
  · have hne := h.ne t ht
    cases t with
    | nil => cases hc
    | cons a r =>
      cases r with
      | cons b r => simp at h1
      | nil =>
        rw [List.mem_singleton] at hc
        subst hc
        exact ⟨fun e => hw (.inl (by rw [e])), fun e => hw (.inr (by rw [e]))⟩
  · exact h1 c hc
theorem PatP.tail {q : List UInt8} {P : List (List UInt8)} (h : PatP (q :: P)) (hP : P ≠ []) : PatP P :=
  ⟨fun t ht => h.ne t (by simp [ht]), fun t ht => h.nodot t (by simp [ht]), fun k hk => by
    have := h.last (k + 1) (by simpa using hk)
    simpa using this, fun t ht => h.tame t (by simp [ht]), hP⟩
theorem joinD_head {q : List UInt8} (hq : q ≠ []) (P : List (List UInt8)) : ∃ c r, q = c :: r ∧ (joinD (q :: P)).head? = some c := by
  cases q with
  | nil => exact absurd rfl hq
  | cons c r => exact ⟨c, r, rfl, by cases P <;> rfl⟩
theorem joinD_cons (q : List UInt8) {P : List (List UInt8)} (h : P ≠ []) : joinD (q :: P) = q ++ 46 :: joinD P := by
  cases P with
  | nil => exact absurd rfl h
  | cons t r => rfl
theorem PatP.wild {P : List (List UInt8)} (h : PatP P) : WildB (joinD P) := by
  induction P with
  | nil => exact absurd rfl h.some'
  | cons q P ih =>
    have hq := h.ne q (by simp)
    have hql : 0 < q.length := List.length_pos_iff.2 hq
    have hnd := h.nodot q (by simp)
    by_cases hP : P = []
    · subst hP
      rw [joinD_one]
      have hw : ∀ (i : Nat) (c : UInt8), q[i]? = some c → c = 42 ∨ c = 62 → q.length = 1 ∧ i = 0 := by
        intro i c hc hw
        have hi := (List.getElem?_eq_some_iff.1 hc).1
        rcases h.tame q (by simp) with h1 | h1
        · omega
        · have := h1 c (List.mem_of_getElem? hc); rcases hw with e | e
          · exact absurd e this.1
          · exact absurd e this.2
      refine ⟨fun i c hc hcw => ?_, fun i hi => ?_, fun i hi => absurd (List.mem_of_getElem? hi) hnd, fun h0 => absurd (List.mem_of_getElem? h0) hnd, hq⟩
      · obtain ⟨h1, h2⟩ := hw i c hc hcw; exact ⟨.inl h2, .inl (by omega)⟩
      · obtain ⟨h1, h2⟩ := hw i 62 hi (.inr rfl); omega
    · have hW := ih (h.tail hP)
      rw [joinD_cons q hP]
      have hJ : 0 < (joinD P).length := List.length_pos_iff.2 hW.ne
      have hlo : ∀ i : Nat, i < q.length → (q ++ 46 :: joinD P)[i]? = q[i]? := fun i hi => List.getElem?_append_left hi
      have hmid : (q ++ 46 :: joinD P)[q.length]? = some 46 := by rw [List.getElem?_append_right (Nat.le_refl _), Nat.sub_self]; rfl
      have hhi : ∀ i : Nat, (q ++ 46 :: joinD P)[q.length + 1 + i]? = (joinD P)[i]? := fun i => by
        rw [List.getElem?_append_right (by omega), show q.length + 1 + i - q.length = i + 1 by omega]; rfl
      have hlen : (q ++ 46 :: joinD P).length = q.length + 1 + (joinD P).length := by simp; omega
      refine ⟨fun i c hc hcw => ?_, fun i hi => ?_, fun i hi => ?_, ?_, by simp⟩
      · rcases Nat.lt_trichotomy i q.length with hi | hi | hi
        · rw [hlo i hi] at hc
          rcases h.tame q (by simp) with h1 | h1
          · have : i = 0 := by omega
            have : q.length = 1 := by omega
            exact ⟨.inl (by omega), .inr (by rw [show i + 1 = q.length by omega]; exact hmid)⟩
          · have := h1 c (List.mem_of_getElem? hc); rcases hcw with e | e
            · exact absurd e this.1
            · exact absurd e this.2
        · subst hi; rw [hmid] at hc; cases hc; rcases hcw with e | e <;> cases e
        · obtain ⟨j, rfl⟩ : ∃ j, i = q.length + 1 + j := ⟨i - (q.length + 1), by omega⟩
          rw [hhi] at hc
          obtain ⟨h1, h2⟩ := hW.alone j c hc hcw
          constructor
          · right
            rcases h1 with rfl | h1
            · rw [show q.length + 1 + 0 - 1 = q.length by omega]; exact hmid
            · by_cases hj : j = 0
              · subst hj; rw [show q.length + 1 + 0 - 1 = q.length by omega]; exact hmid
              · rw [show q.length + 1 + j - 1 = q.length + 1 + (j - 1) by omega, hhi]; exact h1
          · rcases h2 with h2 | h2
            · left; omega
            · right; rw [show q.length + 1 + j + 1 = q.length + 1 + (j + 1) by omega, hhi]; exact h2
      · rcases Nat.lt_trichotomy i q.length with h' | h' | h'
        · rw [hlo i h'] at hi
          exfalso
          rcases h.tame q (by simp) with h1 | h1
          · have hq1 : q = [62] := by
              cases q with
              | nil => cases hql
              | cons a r =>
                cases r with
                | cons b r => simp at h1
                | nil =>
                  have : i = 0 := by simp at h'; omega
                  subst this
                  simp at hi
                  rw [hi]
            have := h.last 0 (by rw [hq1]; rfl)
            simp only [List.length_cons] at this
            exact hP (List.eq_nil_of_length_eq_zero (by omega))
          · exact (h1 62 (List.mem_of_getElem? hi)).2 rfl
        · subst h'; rw [hmid] at hi; cases hi
        · obtain ⟨j, rfl⟩ : ∃ j, i = q.length + 1 + j := ⟨i - (q.length + 1), by omega⟩
          rw [hhi] at hi
          have := hW.last j hi
          omega
      · rcases Nat.lt_trichotomy i q.length with h' | h' | h'
        · rw [hlo i h'] at hi; exact absurd (List.mem_of_getElem? hi) hnd
        · subst h'
          have h0 : (joinD P)[0]? = some (joinD P)[0] := List.getElem?_eq_getElem hJ
          exact ⟨_, by rw [show q.length + 1 = q.length + 1 + 0 by omega, hhi]; exact h0, fun e => hW.first (by rw [h0, e])⟩
        · obtain ⟨j, rfl⟩ : ∃ j, i = q.length + 1 + j := ⟨i - (q.length + 1), by omega⟩
          rw [hhi] at hi
          obtain ⟨c, hc, hne⟩ := hW.dot j hi
          exact ⟨c, by rw [show q.length + 1 + j + 1 = q.length + 1 + (j + 1) by omega, hhi]; exact hc, hne⟩
      · rw [hlo 0 hql]
        intro e; exact hnd (List.mem_of_getElem? e)
theorem dropWhile_dot {t r : List UInt8} (h : 46 ∉ t) : ((t ++ 46 :: r).dropWhile (· ≠ 46)).drop 1 = r := by
  induction t with
  | nil => simp
  | cons a t ih =>
    have ha : a ≠ 46 := fun e => h (by simp [e])
    rw [List.cons_append, List.dropWhile_cons_of_pos (by simpa using ha)]
    exact ih fun hm => h (by simp [hm])
theorem ne_wild_of_dot {l : List UInt8} (h : 46 ∈ l) : l ≠ [42] ∧ l ≠ [62] := by
  constructor <;> rintro rfl <;> simp at h
theorem okP_lit {p r : List UInt8} {ps : List (List UInt8)} (h : 46 ∈ p) (hr : r ≠ []) (hk : okP ps r) : okP (p :: ps) (p ++ r) := by
  obtain ⟨h1, h2⟩ := ne_wild_of_dot h
  have hl : 0 < r.length := List.length_pos_iff.2 hr
  unfold okP
  rw [if_neg h1, if_neg h2]
  refine ⟨by simp, by simp, fun _ => by simpa using hk, fun e => ?_⟩
  simp at e
  exact absurd e hr
theorem okP_star {t : List UInt8} {Tk P : List (List UInt8)} (hm : matchT (t :: Tk) ([42] :: P) = true) (ht : 46 ∉ t) (hne : Tk ≠ [] → joinD Tk ≠ []) (h : P ≠ [] → Tk ≠ [] → okP (gB [] (joinD P)) (joinD Tk)) :
    okP ([42] :: gB [] (joinD P)) (joinD (t :: Tk)) := by
  rw [matchT, if_neg (by decide), if_neg (by rintro ⟨h, -⟩; exact h rfl)] at hm
  unfold okP
  rw [if_pos rfl]
  by_cases hT : Tk = []
  · subst hT
    have hP : P = [] := by
      cases P with
      | nil => rfl
      | cons a b => simp [matchT] at hm
    subst hP
    exact ⟨fun h => absurd h ht, fun _ => by rw [joinD, gB, if_pos rfl]⟩
  · have hP : P ≠ [] := by
      rintro rfl
      cases Tk with
      | nil => exact hT rfl
      | cons a b => simp [matchT] at hm
    rw [joinD_cons t hT]
    exact ⟨fun _ => by rw [dropWhile_dot ht]; exact ⟨hne hT, h hP hT⟩, fun hn => absurd (by simp) hn⟩
theorem joinD_ne0 {t : List UInt8} {r : List (List UInt8)} (h : t ≠ []) : joinD (t :: r) ≠ [] := by
  cases r with
  | nil => exact h
  | cons u r => simp [joinD]
theorem joinD_neT {Tk : List (List UInt8)} (h : ∀ u ∈ Tk, u ≠ [] ∧ 46 ∉ u) (h0 : Tk ≠ []) : joinD Tk ≠ [] := by
  cases Tk with
  | nil => exact absurd rfl h0
  | cons t r => exact joinD_ne0 (h t (by simp)).1
/-- A subject that matches runs through the parts. -/
theorem ok_parts : ∀ (P cur Tk : List (List UInt8)), PatP P → (∀ t ∈ cur, 46 ∉ t) → (cur = [] ∨ ∀ q, P.head? = some q → ¬ isWildT q) → (∀ t ∈ Tk, t ≠ [] ∧ 46 ∉ t) → matchT Tk P = true →
    okP (gB (dots cur) (joinD P)) (dots cur ++ joinD Tk)
  | [], _, _, h, _, _, _, _ => absurd rfl h.some'
  | q :: P, cur, [], _, _, _, _, hm => by simp [matchT] at hm
  | q :: P, cur, t :: Tk, h, hcur, hw, hT, hm => by
    obtain ⟨ht0, htd⟩ := hT t (by simp)
    have hT' : ∀ u ∈ Tk, u ≠ [] ∧ 46 ∉ u := fun u hu => hT u (by simp [hu])
    by_cases hwq : isWildT q
    · have hc0 : cur = [] := by
        rcases hw with h | h
        · exact h
        · exact absurd hwq (h q rfl)
      subst hc0
      rw [show dots [] = [] from rfl, List.nil_append]
      rcases hwq with rfl | rfl
      · have e : gB [] (joinD ([42] :: P)) = [42] :: gB [] (joinD P) := by
          by_cases hP : P = []
          · subst hP; simp [joinD, gB]
          · rw [joinD_cons _ hP, List.singleton_append, gB, if_neg (by simp), if_neg (by simp), if_pos rfl]; rfl
        rw [e]
        refine okP_star hm htd (joinD_neT hT') fun hP hTk => ?_
        have hm' := hm
        rw [matchT, if_neg (by decide), if_neg (by rintro ⟨h, -⟩; exact h rfl)] at hm'
        have := ok_parts P [] Tk (h.tail hP) (by simp) (.inl rfl) hT' hm'
        simpa [dots] using this
      · have e : gB [] (joinD ([62] :: P)) = [[62]] := by
          by_cases hP : P = []
          · subst hP; simp [joinD, gB]
          · rw [joinD_cons _ hP, List.singleton_append, gB, if_neg (by simp), if_neg (by simp), if_neg (by simp), if_pos rfl]
        rw [e]
        unfold okP
        rw [if_neg (by decide), if_pos rfl]; trivial
    · have hq62 : q ≠ [62] := fun e => hwq (.inr e)
      have hq42 : q ≠ [42] := fun e => hwq (.inl e)
      have hm' := hm
      rw [matchT, if_neg hq62] at hm'
      by_cases hqt : q ≠ [42] ∧ q ≠ t
      · rw [if_pos hqt] at hm'; cases hm'
      rw [if_neg hqt] at hm'
      have hqt : q = t := by by_cases e : q = t; exact e; exact absurd ⟨hq42, e⟩ hqt
      subst hqt
      have hlit := h.lit (t := q) (by simp) hwq
      by_cases hP : P = []
      · subst hP
        have hTk : Tk = [] := by
          cases Tk with
          | nil => rfl
          | cons a b => simp [matchT] at hm'
        subst hTk
        have e : gB (dots cur) (joinD [q]) = [dots cur ++ q] := by
          have := gB_lit q (dots cur) [] hlit
          rw [List.append_nil] at this
          rw [joinD_one, this, gB, if_neg (by simp [ht0])]
        rw [e, joinD_one]
        have hx : dots cur ++ q ≠ [42] ∧ dots cur ++ q ≠ [62] := by
          cases cur with
          | nil => exact ⟨hq42, hq62⟩
          | cons a b => exact ne_wild_of_dot (by simp [dots])
        unfold okP
        rw [if_neg hx.1, if_neg hx.2]
        exact ⟨Nat.le_refl _, List.take_length, fun h => absurd h (Nat.lt_irrefl _), fun _ => rfl⟩
      · have hTk : Tk ≠ [] := by
          rintro rfl
          cases P with
          | nil => exact hP rfl
          | cons a b => simp [matchT] at hm'
        rw [joinD_cons q hP, joinD_cons q hTk, gB_lit q (dots cur) _ hlit]
        have e2 : dots cur ++ (q ++ 46 :: joinD Tk) = (dots cur ++ q ++ [46]) ++ joinD Tk := by simp
        rw [e2]
        have hd : 46 ∈ dots cur ++ q ++ [46] := by simp
        obtain ⟨q', P', rfl⟩ : ∃ q' P', P = q' :: P' := by
          cases P with
          | nil => exact absurd rfl hP
          | cons a b => exact ⟨a, b, rfl⟩
        obtain ⟨t', Tk', rfl⟩ : ∃ t' Tk', Tk = t' :: Tk' := by
          cases Tk with
          | nil => exact absurd rfl hTk
          | cons a b => exact ⟨a, b, rfl⟩
        have hq' := h.ne q' (by simp)
        obtain ⟨ht'0, ht'd⟩ := hT' t' (by simp)
        have hJne := joinD_ne0 (r := Tk') ht'0
        by_cases hw' : isWildT q'
        · rcases hw' with rfl | rfl
          · have e3 : gB (dots cur ++ q) (46 :: joinD ([42] :: P')) = (dots cur ++ q ++ [46]) :: [42] :: gB [] (joinD P') := by
              by_cases hP' : P' = []
              · subst hP'; simp [joinD, gB]
              · rw [joinD_cons _ hP', gB, if_pos ⟨rfl, rfl⟩]; rfl
            rw [e3]
            refine okP_lit hd hJne ?_
            refine okP_star hm' ht'd (joinD_neT fun u hu => hT' u (by simp [hu])) fun hP' hTk' => ?_
            have hm2 := hm'
            rw [matchT, if_neg (by decide), if_neg (by rintro ⟨h, -⟩; exact h rfl)] at hm2
            have := ok_parts P' [] Tk' ((h.tail hP).tail hP') (by simp) (.inl rfl) (fun u hu => hT' u (by simp [hu])) hm2
            simpa [dots] using this
          · have e3 : gB (dots cur ++ q) (46 :: joinD ([62] :: P')) = [dots cur ++ q ++ [46], [62]] := by
              by_cases hP' : P' = []
              · subst hP'; simp [joinD, gB]
              · rw [joinD_cons _ hP', gB, if_neg (by simp), if_pos ⟨rfl, rfl⟩]
            rw [e3]
            refine okP_lit hd hJne ?_
            unfold okP
            rw [if_neg (by decide), if_pos rfl]; trivial
        · obtain ⟨c, r, e, hh⟩ := joinD_head hq' P'
          have hc := (h.lit (t := q') (by simp) hw') c (by rw [e]; simp)
          have e3 : gB (dots cur ++ q) (46 :: joinD (q' :: P')) = gB (dots (cur ++ [q])) (joinD (q' :: P')) := by
            rw [gB, hh, if_neg (by rintro ⟨-, h⟩; exact hc.2.1 (Option.some.inj h)), if_neg (by rintro ⟨-, h⟩; exact hc.2.2 (Option.some.inj h)), if_neg (by decide), if_neg (by decide), dots_snoc]
          rw [e3, ← dots_snoc]
          exact ok_parts (q' :: P') (cur ++ [q]) (t' :: Tk') (h.tail hP) (by
            intro u hu
            rcases List.mem_append.1 hu with hu | hu
            · exact hcur u hu
            · rw [List.mem_singleton] at hu; subst hu; exact htd) (.inr fun x hx => by
              simp only [List.head?_cons, Option.some.injEq] at hx; subst hx; exact hw') hT' hm'
end Go.Proofs.YtehlmjecbljafaaGreatDoor
namespace Go.Proofs.YtehlmjecbljafaaGreatDoor
open Go Go.RowKit
theorem newLevel_abs (w : World) : Calls Tryz.prog 129 #[] w fun e w' => ∃ l m, e = .returned (.pointer (some ⟨l, 0, none⟩)) ∧ w.heap.size ≤ l ∧ w.heap.size ≤ m ∧ w'.heap[l]? = some (.cells #[.map (some m), .pointer none, .pointer none] 215 (0, 0)) ∧
    MapS w' m 0 (.pointer none) (fun _ => .pointer none) ∧ Below w.heap.size w w' := by
  refine (newLevel_any w).mono ?_
  rintro e w' ⟨rfl, rfl⟩
  have h := heap_alloc_new (w.alloc (.map #[] 0)) (.cells #[.map (some w.heap.size), .pointer none, .pointer none] 215)
  have hz : (w.alloc (.map #[] 0)).heap.size = w.heap.size + 1 := by simp
  rw [hz] at h
  exact ⟨_, w.heap.size, rfl, by omega, Nat.le_refl _, h, (MapS.made w _).keep (((Below.refl _ _).alloc (Nat.le_refl _) _).block _ (by rw [hz]; omega)), ((Below.refl _ w).alloc (Nat.le_refl _) _).alloc (by rw [hz]; omega) _⟩
theorem newNode_abs (w : World) : Calls Tryz.prog 133 #[] w fun e w' => ∃ a s, e = .returned (.pointer (some ⟨a, 0, none⟩)) ∧ w.heap.size ≤ a ∧ w.heap.size ≤ s ∧ w'.heap[a]? = some (.cells #[.pointer none, .map (some s)] 219 (0, 0)) ∧
    MapN w' s 0 0 ∧ Below w.heap.size w w' := by
  refine (newNode_any w).mono ?_
  rintro e w' ⟨rfl, rfl⟩
  have h := heap_alloc_new (w.alloc (.map #[] 0)) (.cells #[.pointer none, .map (some w.heap.size)] 219)
  have hz : (w.alloc (.map #[] 0)).heap.size = w.heap.size + 1 := by simp
  rw [hz] at h
  exact ⟨_, w.heap.size, rfl, by omega, Nat.le_refl _, h, (MapN.made w).keep (((Below.refl _ _).alloc (Nat.le_refl _) _).block _ (by rw [hz]; omega)), ((Below.refl _ w).alloc (Nat.le_refl _) _).alloc (by rw [hz]; omega) _⟩
theorem wpList_upd {P : Program} (w : World) {ops : Array Oper} {rest : List Oper} {o : Oper} {a : Act} {Q : Exit → Act → World → Prop} (hg : o.guard = none) (m x v : Operand) (t : TypeId) (hop : o.op = Op.mapUpdate t m x v) (b : Nat) (key val : Value)
    (hm : a.eval m = .map (some b)) (hx : a.eval x = key) (hv : a.eval v = val) (R : World → Prop) (hr : ∃ w', (Instr.mapUpdate t (.map (some b)) key val).run P w = .ok () w' ∧ R w') (hK : ∀ w', R w' → wpList P ops Q rest (a.put o.dst undef) w') :
    wpList P ops Q (o :: rest) a w := by
  refine wpList_plain hg fun K' hK' => ?_
  obtain ⟨w', hrun, r1⟩ := hr
  unfold Oper.wp
  simp [execOp, hop, hm, hx, hv, hrun, Result.andThen]
  exact hK' _ _ (hK w' r1)
/-- The trie behind a new path. -/
theorem grow_done {T : Trie} {F : Nat → Prop} {n : Nat} {wr w1 w2 w3 : World} {p : Path} {t : List UInt8} {l m a s : Nat} (h : TrieOK T F n wr) (hp : T.N p) (hnew : ¬ T.N (p ++ [t])) (hF : ∀ k, F k → k < wr.heap.size)
    (b1 : Below wr.heap.size wr w1) (a1 : wr.heap.size ≤ a) (s1 : wr.heap.size ≤ s) (ha : w1.heap[a]? = some (.cells #[.pointer none, .map (some s)] 219 (0, 0))) (hs : MapN w1 s 0 0)
    (o2 : Only (fun k => k = T.aL p ∨ k = T.aM p) w1 w2)
    (hlev : w2.heap[T.aL p]? = some (.cells #[.map (some (T.aM p)), if t = [42] then .pointer (some ⟨a, 0, none⟩) else T.ptr (p ++ [[42]]), if t = [62] then .pointer (some ⟨a, 0, none⟩) else T.ptr (p ++ [[62]])] 215 (0, 0)))
    (hmap : ∃ f, MapS w2 (T.aM p) (n + 1) (.pointer none) f ∧ ∀ u, u ≠ [42] → u ≠ [62] → f u = if u = t then .pointer (some ⟨a, 0, none⟩) else T.ptr (p ++ [u]))
    (b3 : Below w2.heap.size w2 w3) (l1 : w2.heap.size ≤ l) (m1 : w2.heap.size ≤ m) (hL : w3.heap[l]? = some (.cells #[.map (some m), .pointer none, .pointer none] 215 (0, 0))) (hM : MapS w3 m 0 (.pointer none) (fun _ => .pointer none)) :
    TrieOK (T.add (p ++ [t]) l m a s) (fun k => F k ∨ k = l ∨ k = m ∨ k = a ∨ k = s) (n + 1) (w3.setCell ⟨a, 0, none⟩ (.pointer (some ⟨l, 0, none⟩))) ∧ Only F wr (w3.setCell ⟨a, 0, none⟩ (.pointer (some ⟨l, 0, none⟩))) := by
  have hla := (Array.getElem?_eq_some_iff.1 ha).1
  have hls := hs.lt
  have hLp := hF _ (h.fL p hp)
  have hMp := hF _ (h.fM p hp)
  have z1 := b1.size
  have z2 := o2.size
  have z3 := b3.size
  have haL : a ≠ T.aL p := by omega
  have haM : a ≠ T.aM p := by omega
  have ha3 : w3.heap[a]? = some (.cells #[.pointer none, .map (some s)] 219 (0, 0)) := ((b3.block a (by omega)).trans (o2.block a hla (by rintro (e | e); exact haL e; exact haM e))).trans ha
  have set1 : ∀ k, k ≠ a → (w3.setCell ⟨a, 0, none⟩ (.pointer (some ⟨l, 0, none⟩))).heap[k]? = w3.heap[k]? := fun k hk => heap_setCell_other _ _ _ _ hk
  have hsa : s ≠ a := hs.ne ha
  refine ⟨h.grow hp hnew hF (by omega) (by omega) a1 s1 (by omega) ?_ ?_ ?_ ?_ ?_ ?_ ?_, ?_⟩
  · rw [set1 _ haL.symm, b3.block _ (by omega)]; exact hlev
  · obtain ⟨f, h1, h2⟩ := hmap
    exact ⟨f, h1.keep ((set1 _ haM.symm).trans (b3.block _ (by omega))), h2⟩
  · have := heap_setCell_same w3 a 0 _ 219 (.pointer (some ⟨l, 0, none⟩)) ha3
    exact this
  · exact ((hs.keep (o2.block s hls (by rintro (e | e) <;> omega))).keep ((set1 s hsa).trans (b3.block s (by omega)))).more (by omega)
  · rw [set1 _ (by omega)]; exact hL
  · exact (hM.keep (set1 m (by omega))).more (by omega)
  · intro k hk h1 h2
    have hk' := hF k hk
    rw [set1 k (by omega), b3.block k (by omega), o2.block k (by omega) (by rintro (e | e); exact h1 e; exact h2 e), b1.block k hk']
  · refine ⟨b3.os.trans (o2.os.trans b1.os), b3.tape.trans (o2.tape.trans b1.tape), b3.output.trans (o2.output.trans b1.output), by rw [size_setCell]; omega, fun k hk hf => ?_⟩
    rw [set1 k (by omega), b3.block k (by omega), o2.block k (by omega) (by rintro (e | e); exact hf (e ▸ h.fL p hp); exact hf (e ▸ h.fM p hp)), b1.block k hk]
end Go.Proofs.YtehlmjecbljafaaGreatDoor
