/-
  The plain side of the 'replaced' laws: a replace table as a list of entries. No Go in sight.
-/
namespace Go.Proofs.Qxb6603385a

structure Ent where
  op : ByteArray
  ov : ByteArray
  np : ByteArray
  nv : ByteArray

def noEnt : Ent := ⟨ByteArray.empty, ByteArray.empty, ByteArray.empty, ByteArray.empty⟩

def isExact (p v : ByteArray) (e : Ent) : Bool := (e.op.toList == p.toList) && (e.ov.toList == v.toList)
def isWild (p : ByteArray) (e : Ent) : Bool := (e.op.toList == p.toList) && e.ov.toList.isEmpty

/-- What 'replaced' answers. -/
def repl (es : List Ent) (p v : ByteArray) : ByteArray × ByteArray :=
  match es.find? (isExact p v) with
  | some e => (e.np, e.nv)
  | none => match es.find? (isWild p) with
    | some e => (e.np, e.nv)
    | none => (p, v)

theorem find_first {α : Type} (d : α) (f : α → Bool) : ∀ (es : List α) (k : Nat), k < es.length → (∀ j, j < k → f (es.getD j d) = false) → f (es.getD k d) = true → es.find? f = some (es.getD k d)
  | [], k, hk, _, _ => by simp at hk
  | e :: es, 0, _, _, h => by simp at h; simp [h]
  | e :: es, k + 1, hk, hj, h => by
    have h0 := hj 0 (by omega)
    simp at h0
    rw [List.find?_cons_of_neg (by simp [h0])]
    have := find_first d f es k (by simpa using hk) (fun j hjk => by simpa using hj (j + 1) (by omega)) (by simpa using h)
    simpa using this

theorem find_none {α : Type} (d : α) (f : α → Bool) (es : List α) (h : ∀ j, j < es.length → f (es.getD j d) = false) : es.find? f = none := by
  rw [List.find?_eq_none]
  intro x hx
  obtain ⟨j, hj, rfl⟩ := List.getElem_of_mem hx
  have := h j hj
  simp [hj] at this
  simp [this]

theorem repl_exact {es : List Ent} {p v : ByteArray} {k : Nat} (hk : k < es.length) (hj : ∀ j, j < k → isExact p v (es.getD j noEnt) = false) (h : isExact p v (es.getD k noEnt) = true) :
    repl es p v = ((es.getD k noEnt).np, (es.getD k noEnt).nv) := by
  unfold repl
  rw [find_first noEnt _ es k hk hj h]

theorem repl_wild {es : List Ent} {p v : ByteArray} {k : Nat} (hk : k < es.length) (hx : ∀ j, j < es.length → isExact p v (es.getD j noEnt) = false) (hj : ∀ j, j < k → isWild p (es.getD j noEnt) = false) (h : isWild p (es.getD k noEnt) = true) :
    repl es p v = ((es.getD k noEnt).np, (es.getD k noEnt).nv) := by
  unfold repl
  rw [find_none noEnt _ es hx, find_first noEnt _ es k hk hj h]

theorem repl_self {es : List Ent} {p v : ByteArray} (hx : ∀ j, j < es.length → isExact p v (es.getD j noEnt) = false) (hj : ∀ j, j < es.length → isWild p (es.getD j noEnt) = false) :
    repl es p v = (p, v) := by
  unfold repl
  rw [find_none noEnt _ es hx, find_none noEnt _ es hj]

theorem step_false {f : Nat → Bool} {k : Nat} (h : ∀ j, j < k → f j = false) (hk : f k = false) : ∀ j, j < k + 1 → f j = false := by
  intro j hj
  by_cases e : j = k
  · subst e; exact hk
  · exact h j (by omega)

/-- What a scan from the back has found when it stands at j: x is the least index from j on at which f holds, or -1. -/
def Scan (f : Nat → Bool) (n j : Nat) (x : Int) : Prop :=
  (x = -1 ∧ ∀ t, j ≤ t → t < n → f t = false) ∨ ∃ m : Nat, x = (m : Int) ∧ j ≤ m ∧ m < n ∧ f m = true ∧ ∀ t, j ≤ t → t < m → f t = false

theorem Scan.start (f : Nat → Bool) (n : Nat) : Scan f n n (-1) := .inl ⟨rfl, fun t h1 h2 => by omega⟩

theorem Scan.hit {f : Nat → Bool} {n j : Nat} (hj : j < n) (h : f j = true) : Scan f n j (j : Int) := .inr ⟨j, rfl, Nat.le_refl _, hj, h, fun t h1 h2 => by omega⟩

theorem Scan.miss {f : Nat → Bool} {n j : Nat} {x : Int} (h : f j = false) (hs : Scan f n (j + 1) x) : Scan f n j x := by
  rcases hs with ⟨rfl, ha⟩ | ⟨m, rfl, h1, h2, h3, h4⟩
  · refine .inl ⟨rfl, fun t ht1 ht2 => ?_⟩
    by_cases e : t = j
    · subst e; exact h
    · exact ha t (by omega) ht2
  · refine .inr ⟨m, rfl, by omega, h2, h3, fun t ht1 ht2 => ?_⟩
    by_cases e : t = j
    · subst e; exact h
    · exact h4 t (by omega) ht2

theorem Scan.bounds {f : Nat → Bool} {n j : Nat} {x : Int} (hs : Scan f n j x) : -1 ≤ x ∧ x ≤ n := by
  rcases hs with ⟨rfl, _⟩ | ⟨m, rfl, h1, h2, _⟩ <;> omega

end Go.Proofs.Qxb6603385a
