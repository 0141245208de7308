/-
  The plain side of the second 'replaced' law: the entries for the path alone.
-/
import Derived.Test.Qxb6603385aWf
namespace Go.Proofs.Qxb6603385a

def isPath (p : ByteArray) (e : Ent) : Bool := e.op.toList == p.toList

theorem exact_path (p v : ByteArray) : (fun e => decide (isPath p e = true ∧ isExact p v e = true)) = isExact p v := by
  funext e
  rw [Bool.eq_iff_iff]
  simp only [isPath, isExact, decide_eq_true_eq, Bool.and_eq_true]
  exact ⟨fun h => h.2, fun h => ⟨h.1, h⟩⟩
theorem wild_path (p : ByteArray) : (fun e => decide (isPath p e = true ∧ isWild p e = true)) = isWild p := by
  funext e
  rw [Bool.eq_iff_iff]
  simp only [isPath, isWild, decide_eq_true_eq, Bool.and_eq_true]
  exact ⟨fun h => h.2, fun h => ⟨h.1, h⟩⟩

/-- Dropping every entry for another path leaves the answer as it was. -/
theorem repl_filter (es : List Ent) (p v : ByteArray) : repl (es.filter (isPath p)) p v = repl es p v := by
  unfold repl
  rw [List.find?_filter, List.find?_filter, exact_path, wild_path]

/-- The places among the first k at which the path stands. -/
def idx (s0 : List ByteArray) (p : ByteArray) (k : Nat) : List Nat := (List.range k).filter fun i => (s0.getD i ByteArray.empty).toList == p.toList

/-- A column, the entries for the path alone. -/
def col (s s0 : List ByteArray) (p : ByteArray) (k : Nat) : List ByteArray := (idx s0 p k).map fun i => s.getD i ByteArray.empty

theorem idx_hit {s0 : List ByteArray} {p : ByteArray} {k : Nat} (h : ((s0.getD k ByteArray.empty).toList == p.toList) = true) : idx s0 p (k + 1) = idx s0 p k ++ [k] := by
  rw [idx, List.range_succ, List.filter_append]; simp only [List.filter_cons, h, List.filter_nil]; rfl
theorem idx_miss {s0 : List ByteArray} {p : ByteArray} {k : Nat} (h : ((s0.getD k ByteArray.empty).toList == p.toList) = false) : idx s0 p (k + 1) = idx s0 p k := by
  rw [idx, List.range_succ, List.filter_append]; simp only [List.filter_cons, h, List.filter_nil]; simp [idx]

theorem idx_mono {s0 : List ByteArray} {p : ByteArray} {k n : Nat} (h : k ≤ n) : (idx s0 p k).length ≤ (idx s0 p n).length := by
  obtain ⟨d, rfl⟩ := Nat.exists_eq_add_of_le h
  rw [idx, idx, List.range_add, List.filter_append, List.length_append]
  omega

theorem idx_le (s0 : List ByteArray) (p : ByteArray) (k : Nat) : (idx s0 p k).length ≤ k := by
  have := List.length_filter_le (fun i => (s0.getD i ByteArray.empty).toList == p.toList) (List.range k)
  simpa [idx] using this

theorem col_length (s s0 : List ByteArray) (p : ByteArray) (k : Nat) : (col s s0 p k).length = (idx s0 p k).length := by simp [col]
theorem col_hit {s s0 : List ByteArray} {p : ByteArray} {k : Nat} (h : ((s0.getD k ByteArray.empty).toList == p.toList) = true) : col s s0 p (k + 1) = col s s0 p k ++ [s.getD k ByteArray.empty] := by
  rw [col, idx_hit h]; simp [col]
theorem col_miss {s s0 : List ByteArray} {p : ByteArray} {k : Nat} (h : ((s0.getD k ByteArray.empty).toList == p.toList) = false) : col s s0 p (k + 1) = col s s0 p k := by
  rw [col, idx_miss h]; rfl

theorem table_col (s0 s1 s2 s3 : List ByteArray) (p : ByteArray) (n : Nat) :
    table (col s0 s0 p n) (col s1 s0 p n) (col s2 s0 p n) (col s3 s0 p n) (idx s0 p n).length = (table s0 s1 s2 s3 n).filter (isPath p) := by
  have h1 : (table s0 s1 s2 s3 n).filter (isPath p) = (idx s0 p n).map fun i => (⟨s0.getD i ByteArray.empty, s1.getD i ByteArray.empty, s2.getD i ByteArray.empty, s3.getD i ByteArray.empty⟩ : Ent) := by
    rw [table, List.filter_map]; rfl
  rw [h1]
  apply List.ext_getElem
  · simp [table]
  · intro i ha hb
    simp at hb
    simp [table, col, hb]

theorem repl_col (s0 s1 s2 s3 : List ByteArray) (p v : ByteArray) (n : Nat) :
    repl (table (col s0 s0 p n) (col s1 s0 p n) (col s2 s0 p n) (col s3 s0 p n) (idx s0 p n).length) p v = repl (table s0 s1 s2 s3 n) p v := by
  rw [table_col, repl_filter]

theorem repl_zero {s0 s1 s2 s3 : List ByteArray} {p v : ByteArray} {n : Nat} (h : (idx s0 p n).length = 0) : repl (table s0 s1 s2 s3 n) p v = (p, v) := by
  rw [← repl_col, h]; rfl

end Go.Proofs.Qxb6603385a
