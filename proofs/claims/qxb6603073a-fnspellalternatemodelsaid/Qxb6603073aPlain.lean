import Derived.Test.Qxb6603073aWa
import Derived.Lib.SlicesCompact
import Derived.Lib.RowBridge
namespace Go.Proofs.Qxb6603073a
open Go.Lib

/-! ### NO Go IN SIGHT: a set of strings as a strictly rising list -/
def Strict (l : List Byts) : Prop := l.Pairwise (· < ·)

theorem by_lt_irrefl (x : Byts) : ¬ x < x := List.lt_irrefl x
theorem by_lt_trans {x y z : Byts} (h : x < y) (h' : y < z) : x < z := List.lt_trans h h'
theorem by_lt_of_le_ne {x y : Byts} (h : x ≤ y) (hn : x ≠ y) : x < y := by
  by_cases hc : x < y
  · exact hc
  · exact absurd (List.le_antisymm h (List.not_lt.1 hc)) hn
theorem by_lt_of_le_lt {x y z : Byts} (h : x ≤ y) (h' : y < z) : x < z := by
  by_cases e : x = y
  · exact e ▸ h'
  · exact by_lt_trans (by_lt_of_le_ne h e) h'

theorem strict_unique : ∀ {l l' : List Byts}, Strict l → Strict l' → (∀ x, x ∈ l ↔ x ∈ l') → l = l'
  | [], [], _, _, _ => rfl
  | [], y :: t, _, _, h => absurd ((h y).2 List.mem_cons_self) (by simp)
  | x :: s, [], _, _, h => absurd ((h x).1 List.mem_cons_self) (by simp)
  | x :: s, y :: t, hl, hl', h => by
    have hl := List.pairwise_cons.1 hl
    have hl' := List.pairwise_cons.1 hl'
    have hxy : x = y := by
      rcases List.mem_cons.1 ((h x).1 List.mem_cons_self) with e | e
      · exact e
      · rcases List.mem_cons.1 ((h y).2 List.mem_cons_self) with e' | e'
        · exact e'.symm
        · exact absurd (by_lt_trans (hl.1 y e') (hl'.1 x e)) (by_lt_irrefl x)
    subst hxy
    have : s = t := strict_unique hl.2 hl'.2 fun z => by
      constructor
      · intro hz
        rcases List.mem_cons.1 ((h z).1 (List.mem_cons_of_mem _ hz)) with e | e
        · exact absurd (e ▸ hl.1 z hz) (by_lt_irrefl _)
        · exact e
      · intro hz
        rcases List.mem_cons.1 ((h z).2 (List.mem_cons_of_mem _ hz)) with e | e
        · exact absurd (e ▸ hl'.1 z hz) (by_lt_irrefl _)
        · exact e
    rw [this]

theorem nodup_length_le : ∀ {l l' : List Byts}, l.Nodup → (∀ x ∈ l, x ∈ l') → l.length ≤ l'.length
  | [], _, _, _ => Nat.zero_le _
  | x :: s, l', hn, h => by
    have hn := List.nodup_cons.1 hn
    have hx : x ∈ l' := h x List.mem_cons_self
    have := nodup_length_le (l := s) (l' := l'.erase x) hn.2 fun z hz =>
      (List.mem_erase_of_ne (fun e : z = x => hn.1 (e ▸ hz))).2 (h z (List.mem_cons_of_mem _ hz))
    rw [List.length_erase_of_mem hx] at this
    have : 0 < l'.length := List.length_pos_of_mem hx
    simp only [List.length_cons]
    omega

theorem Strict.nodup {l : List Byts} (h : Strict l) : l.Nodup := List.pairwise_iff_getElem.2 fun i j hi hj hij e => by_lt_irrefl _ (by
  have := List.pairwise_iff_getElem.1 h i j hi hj hij
  rw [e] at this
  exact this)

/-! ### Sort and Compact -/
theorem compactUpTo_strict (d : Array Byts) (hs : ∀ i j, i ≤ j → j < d.size → d[i]! ≤ d[j]!) : ∀ m, m ≤ d.size →
    Strict (compactUpTo d m) ∧ ∀ x, x ∈ compactUpTo d m ↔ ∃ j, j < m ∧ d[j]! = x
  | 0, _ => ⟨by simp [compactUpTo, Strict], fun x => by simp [compactUpTo]⟩
  | m + 1, hm => by
    obtain ⟨h1, h2⟩ := compactUpTo_strict d hs m (by omega)
    rw [compactUpTo_succ]
    by_cases hk : keeps d m = true
    · rw [if_pos hk]
      constructor
      · refine List.pairwise_append.2 ⟨h1, by simp, fun a ha b hb => ?_⟩
        obtain ⟨j, hj, rfl⟩ := (h2 a).1 ha
        simp at hb
        subst hb
        simp only [keeps, decide_eq_true_eq] at hk
        have hne : d[m]! ≠ d[m - 1]! := hk.resolve_left (by omega)
        exact by_lt_of_le_lt (hs j (m - 1) (by omega) (by omega)) (by_lt_of_le_ne (hs (m - 1) m (by omega) (by omega)) (fun e => hne e.symm))
      · intro x
        rw [List.mem_append, h2 x]
        constructor
        · rintro (⟨j, hj, e⟩ | h)
          · exact ⟨j, by omega, e⟩
          · simp at h
            exact ⟨m, by omega, h.symm⟩
        · rintro ⟨j, hj, e⟩
          by_cases hjm : j = m
          · subst hjm; right; simp [e]
          · exact .inl ⟨j, by omega, e⟩
    · have hk' : ¬ (m = 0 ∨ d[m]! ≠ d[m - 1]!) := by simpa [keeps] using hk
      have hm0 : m ≠ 0 := fun e => hk' (.inl e)
      have heq : d[m]! = d[m - 1]! := Classical.byContradiction fun e => hk' (.inr e)
      rw [if_neg hk, List.append_nil]
      refine ⟨h1, fun x => ?_⟩
      rw [h2 x]
      constructor
      · rintro ⟨j, hj, e⟩; exact ⟨j, by omega, e⟩
      · rintro ⟨j, hj, e⟩
        by_cases hjm : j = m
        · subst hjm; exact ⟨j - 1, by omega, by rw [← heq]; exact e⟩
        · exact ⟨j, by omega, e⟩

/-- What the sort and the compaction make of a row. -/
def uniq (E : List Byts) : List Byts := Lib.compact (E.mergeSort fun x y => decide (x ≤ y))

theorem uniq_both (E : List Byts) : Strict (uniq E) ∧ ∀ x, x ∈ uniq E ↔ x ∈ E := by
  have hp := List.mergeSort_perm E (fun x y : Byts => decide (x ≤ y))
  have hs : (E.mergeSort fun x y : Byts => decide (x ≤ y)).Pairwise fun x y => decide (x ≤ y) = true :=
    List.pairwise_mergeSort (fun a b c h1 h2 => by simp only [decide_eq_true_eq] at *; exact List.le_trans h1 h2)
      (fun a b => by simp only [Bool.or_eq_true, decide_eq_true_eq]; exact List.le_total a b) E
  unfold uniq Lib.compact
  generalize (E.mergeSort fun x y : Byts => decide (x ≤ y)) = T at hp hs
  have hget : ∀ i, i < T.length → ∀ h, T.toArray[i]! = T[i]'h := fun i hi h => by simp [getElem!_pos, hi]
  have := compactUpTo_strict T.toArray (fun i j hij hj => by
    have hj' : j < T.length := by simpa using hj
    rw [hget i (by omega) (by omega), hget j hj' hj']
    by_cases e : i = j
    · subst e; exact List.le_refl _
    · simpa using (List.pairwise_iff_getElem.1 hs) i j (by omega) hj' (by omega)) T.length (by simp)
  refine ⟨this.1, fun x => ?_⟩
  rw [this.2 x, ← hp.mem_iff, List.mem_iff_getElem]
  constructor
  · rintro ⟨j, hj, e⟩; exact ⟨j, hj, by rw [← e, hget j hj hj]⟩
  · rintro ⟨j, hj, e⟩; exact ⟨j, hj, by rw [hget j hj hj, e]⟩

theorem uniq_nil : uniq [] = [] := by
  have := (uniq_both []).2
  cases h : uniq [] with
  | nil => rfl
  | cons x t => exact absurd ((this x).1 (by rw [h]; exact List.mem_cons_self)) (by simp)

theorem uniq_eq_nil {E : List Byts} : uniq E = [] ↔ E = [] := by
  constructor
  · intro h
    cases E with
    | nil => rfl
    | cons x t => exact absurd (((uniq_both (x :: t)).2 x).2 List.mem_cons_self) (by rw [h]; simp)
  · rintro rfl; exact uniq_nil

/-! ### The model's set -/
/-- S is what the capped insertions have made of E. -/
structure Built (E S : List Byts) (over : Bool) : Prop where
  strict : Strict S
  len : S.length ≤ 64
  sub : ∀ x ∈ S, x ∈ E
  all : over = false → ∀ x ∈ E, x ∈ S
  more : over = true → S.length = 64 ∧ ∃ x ∈ E, x ∉ S

theorem Built.nil : Built [] [] false := ⟨by simp [Strict], by simp, by simp, by simp, by simp⟩

theorem Built.skip {E S : List Byts} (h : Built E S true) (X : List Byts) : Built (E ++ X) S true :=
  ⟨h.strict, h.len, fun x hx => List.mem_append.2 (.inl (h.sub x hx)), by simp, fun e => ⟨(h.more e).1, by
    obtain ⟨x, hx, hn⟩ := (h.more e).2
    exact ⟨x, List.mem_append.2 (.inl hx), hn⟩⟩⟩

theorem Built.eq {E S : List Byts} (h : Built E S false) : S = uniq E :=
  strict_unique h.strict (uniq_both E).1 fun x => ⟨fun hx => ((uniq_both E).2 x).2 (h.sub x hx), fun hx => h.all rfl x (((uniq_both E).2 x).1 hx)⟩

theorem Built.over {E S : List Byts} (h : Built E S true) : 64 < (uniq E).length := by
  obtain ⟨hl, x, hx, hn⟩ := h.more rfl
  have := nodup_length_le (l := x :: S) (l' := uniq E) (List.nodup_cons.2 ⟨hn, h.strict.nodup⟩) fun z hz => by
    rcases List.mem_cons.1 hz with rfl | hz
    · exact ((uniq_both E).2 z).2 hx
    · exact ((uniq_both E).2 z).2 (h.sub z hz)
  simp only [List.length_cons] at this
  omega

/-- The place of x in S: all before it are less, and the one there (if any) is not. -/
structure Place (S : List Byts) (x : Byts) (i : Nat) : Prop where
  le : i ≤ S.length
  lo : ∀ j, j < i → S.getD j [] < x
  hi : i < S.length → ¬ S.getD i [] < x

theorem getD_eq {S : List Byts} {j : Nat} (h : j < S.length) : S.getD j [] = S[j] := by simp [List.getD, List.getElem?_eq_getElem h]

theorem Strict.at {S : List Byts} (h : Strict S) {i j : Nat} (hij : i < j) (hj : j < S.length) : S.getD i [] < S.getD j [] := by
  rw [getD_eq (by omega), getD_eq hj]
  exact (List.pairwise_iff_getElem.1 h) i j (by omega) hj hij

theorem Place.above {S : List Byts} {x : Byts} {i : Nat} (hs : Strict S) (h : Place S x i) (hne : i < S.length → S.getD i [] ≠ x) : ∀ j, i ≤ j → j < S.length → x < S.getD j [] := by
  intro j hij hj
  have hi : i < S.length := by omega
  have h0 : x < S.getD i [] := by_lt_of_le_ne (List.not_lt.1 (h.hi hi)) (fun e => hne hi e.symm)
  by_cases e : i = j
  · exact e ▸ h0
  · exact by_lt_trans h0 (hs.at (by omega) hj)

theorem Place.not_mem {S : List Byts} {x : Byts} {i : Nat} (hs : Strict S) (h : Place S x i) (hne : i < S.length → S.getD i [] ≠ x) : x ∉ S := by
  intro hx
  obtain ⟨j, hj, e⟩ := List.mem_iff_getElem.1 hx
  rw [← getD_eq hj] at e
  by_cases hji : j < i
  · have := h.lo j hji; rw [e] at this; exact by_lt_irrefl _ this
  · have := h.above hs hne j (by omega) hj; rw [e] at this; exact by_lt_irrefl _ this

theorem Built.there {E S : List Byts} {x : Byts} (h : Built E S false) (hx : x ∈ S) : Built (E ++ [x]) S false :=
  ⟨h.strict, h.len, fun y hy => List.mem_append.2 (.inl (h.sub y hy)), fun _ y hy => by
    rcases List.mem_append.1 hy with hy | hy
    · exact h.all rfl y hy
    · simp at hy; exact hy ▸ hx, by simp⟩

theorem Built.full {E S : List Byts} {x : Byts} {i : Nat} (h : Built E S false) (hp : Place S x i) (hne : i < S.length → S.getD i [] ≠ x) (hl : S.length = 64) (X : List Byts) (hX : x ∈ X) : Built (E ++ X) S true :=
  ⟨h.strict, h.len, fun y hy => List.mem_append.2 (.inl (h.sub y hy)), by simp, fun _ => ⟨hl, x, List.mem_append.2 (.inr hX), hp.not_mem h.strict hne⟩⟩

theorem Built.insert {E S : List Byts} {x : Byts} {i : Nat} (h : Built E S false) (hp : Place S x i) (hne : i < S.length → S.getD i [] ≠ x) (hl : S.length ≠ 64) : Built (E ++ [x]) (S.take i ++ x :: S.drop i) false := by
  have hmem : ∀ y, y ∈ S.take i ++ x :: S.drop i ↔ y ∈ S ∨ y = x := fun y => by
    have hS : y ∈ S ↔ y ∈ S.take i ∨ y ∈ S.drop i := by rw [← List.mem_append, List.take_append_drop]
    rw [hS]
    simp only [List.mem_append, List.mem_cons]
    constructor
    · rintro (h | h | h)
      · exact .inl (.inl h)
      · exact .inr h
      · exact .inl (.inr h)
    · rintro ((h | h) | h)
      · exact .inl h
      · exact .inr (.inr h)
      · exact .inr (.inl h)
  refine ⟨?_, ?_, fun y hy => ?_, fun _ y hy => ?_, by simp⟩
  · have hs := h.strict
    unfold Strict at hs
    rw [← List.take_append_drop i S] at hs
    obtain ⟨h1, h2, h3⟩ := List.pairwise_append.1 hs
    have lo : ∀ a ∈ S.take i, a < x := fun a ha => by
      obtain ⟨j, hj, e⟩ := List.mem_iff_getElem.1 ha
      have hj1 : j < i := by have := hj; simp only [List.length_take] at this; omega
      have hj2 : j < S.length := by have := hj; simp only [List.length_take] at this; omega
      have := hp.lo j hj1
      rw [getD_eq hj2] at this
      rw [← e, List.getElem_take]
      exact this
    have hi : ∀ b ∈ S.drop i, x < b := fun b hb => by
      obtain ⟨j, hj, e⟩ := List.mem_iff_getElem.1 hb
      have hj1 : i + j < S.length := by have := hj; simp only [List.length_drop] at this; omega
      have := hp.above h.strict hne (i + j) (by omega) (by omega)
      rw [getD_eq (by omega)] at this
      rw [← e, List.getElem_drop]
      exact this
    refine List.pairwise_append.2 ⟨h1, List.pairwise_cons.2 ⟨hi, h2⟩, fun a ha b hb => ?_⟩
    rcases List.mem_cons.1 hb with rfl | hb
    · exact lo a ha
    · exact h3 a ha b hb
  · have := h.len
    have := hp.le
    simp only [List.length_append, List.length_take, List.length_cons, List.length_drop]
    omega
  · rcases (hmem y).1 hy with hy | rfl
    · exact List.mem_append.2 (.inl (h.sub y hy))
    · simp
  · refine (hmem y).2 ?_
    rcases List.mem_append.1 hy with hy | hy
    · exact .inl (h.all rfl y hy)
    · simp at hy; exact .inr hy

/-! ### The whole answer -/
def mb (a b : Int) : Int := if a < 0 ∨ b < 0 then -1 else max a b

def Part.tx (p : Part) : List Byts := if p.ea.isSome then (if [] ∈ p.es then [] else p.es) else p.ns
def Part.tno (p : Part) : Bool := if p.ea.isSome then decide ([] ∈ p.es) else p.na.isNone
def Part.lead (p : Part) : Int := if p.ea.isSome then 0 else p.ld

def catE (ps : List Part) : List Byts := ps.flatMap (·.es)
def catN (ps : List Part) : List Byts := ps.flatMap (·.tx)
def allE (ps : List Part) : Bool := ps.all fun p => p.ea.isSome
def allN (ps : List Part) : Bool := ps.all fun p => !p.tno
def wids (ps : List Part) : Int := ps.foldl (fun a p => mb a p.wd) 0
def leads (ps : List Part) : Int := ps.foldl (fun a p => mb a p.lead) 0

def alt (ps : List Part) : List Byts × List Byts × Int × Int :=
  if allE ps = true ∧ (uniq (catE ps)).length ≤ 64 then (uniq (catE ps), [], 0, wids ps)
  else if allN ps = true ∧ (uniq (catN ps)).length ≤ 64 then ([], uniq (catN ps), leads ps, wids ps)
  else ([], [], 0, wids ps)

theorem take_step {ps : List Part} {k : Nat} (h : k < ps.length) : ps.take (k + 1) = ps.take k ++ [ps.getD k noPart] := by
  rw [List.take_succ_eq_append_getElem h]
  simp [List.getD, List.getElem?_eq_getElem h]

theorem catE_snoc (ps : List Part) (p : Part) : catE (ps ++ [p]) = catE ps ++ p.es := by simp [catE]
theorem catN_snoc (ps : List Part) (p : Part) : catN (ps ++ [p]) = catN ps ++ p.tx := by simp [catN]
theorem allE_snoc (ps : List Part) (p : Part) : allE (ps ++ [p]) = (allE ps && p.ea.isSome) := by simp [allE]
theorem allN_snoc (ps : List Part) (p : Part) : allN (ps ++ [p]) = (allN ps && !p.tno) := by simp [allN]
theorem wids_snoc (ps : List Part) (p : Part) : wids (ps ++ [p]) = mb (wids ps) p.wd := by simp [wids]
theorem leads_snoc (ps : List Part) (p : Part) : leads (ps ++ [p]) = mb (leads ps) p.lead := by simp [leads]

/-- The model's two words for a bound. -/
def bound (opn : Bool) (x : Int) : Int := if opn then -1 else x

theorem bound_neg {opn : Bool} {x y : Int} (hy : y < 0) : mb (bound opn x) y = bound true x := by simp [mb, bound, hy]
theorem bound_up {opn : Bool} {x y : Int} (hx : 0 ≤ x) (hy : x < y) : mb (bound opn x) y = bound opn y := by
  cases opn <;> simp [mb, bound] <;> omega
theorem bound_same {opn : Bool} {x y : Int} (hx : 0 ≤ x) (hy0 : ¬ y < 0) (hy : ¬ x < y) : mb (bound opn x) y = bound opn x := by
  cases opn <;> simp [mb, bound] <;> omega

end Go.Proofs.Qxb6603073a
