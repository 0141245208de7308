import Derived.Test.Qxb6603385aWl
import Derived.Test.Qxb6603385aWm
import Derived.Laws.IdiomStrings
namespace Go.Proofs.Qxb6603385a
open Go.RowKit

/-- Bytes of s, from i on, w of them. -/
def bytesOf (s : ByteArray) (i w : Nat) : List UInt8 := (List.range w).map fun k => s.get! (i + k)

theorem bytesOf_succ (s : ByteArray) (i k : Nat) : bytesOf s i (k + 1) = bytesOf s i k ++ [s.get! (i + k)] := by
  simp [bytesOf, List.range_succ]

theorem bAt_lt (s : ByteArray) (k : Nat) : bAt s k < 256 := (s.get! k).toNat_lt

/-- What the byte model writes at place i. -/
def chunk (s : ByteArray) (i : Nat) : List UInt8 :=
  if vw s i = 0 then [239, 191, 189]
  else if vw s i = 1 ∧ 65 ≤ bAt s i ∧ bAt s i ≤ 90 then [33, (bAt s i + 32).toUInt8]
  else bytesOf s i (vw s i)
/-- How far it goes on. -/
def stride (s : ByteArray) (i : Nat) : Nat := if vw s i = 0 then 1 else vw s i

theorem decode_bAt (s : ByteArray) (i : Nat) : Utf8.decode s i = Lib.decodeN (s.size - i) (bAt s i) (bAt s (i + 1)) (bAt s (i + 2)) (bAt s (i + 3)) := Lib.decode_at s i

theorem firstN_bytes (s : ByteArray) (i w : Nat) (hw : w ≤ 4) : (firstN w (bAt s i) (bAt s (i + 1)) (bAt s (i + 2)) (bAt s (i + 3))).map (fun x => x.toNat.toUInt8) = bytesOf s i w := by
  have h : w = 0 ∨ w = 1 ∨ w = 2 ∨ w = 3 ∨ w = 4 := by omega
  rcases h with rfl | rfl | rfl | rfl | rfl <;> simp [firstN, bytesOf, bAt, List.range_succ]

theorem stride_eq (s : ByteArray) (i : Nat) : stride s i = (Utf8.decode s i).2 := by
  unfold stride
  rw [decode_bAt]
  by_cases h : vw s i = 0
  · rw [if_pos h, vwN_zero _ _ _ _ _ (bAt_lt _ _) (bAt_lt _ _) (bAt_lt _ _) (bAt_lt _ _) h]
  · rw [if_neg h, (vwN_pos _ _ _ _ _ (bAt_lt _ _) (bAt_lt _ _) (bAt_lt _ _) h).1]; rfl

theorem vw_le (s : ByteArray) (i : Nat) (h : i < s.size) : vw s i ≤ s.size - i ∧ vw s i ≤ 4 := vwN_le _ _ _ _ _ (by omega)

theorem chunk_eq (s : ByteArray) (i : Nat) (hi : i < s.size) : chunk s i = escRune (Utf8.decode s i).1 := by
  unfold chunk
  rw [decode_bAt]
  by_cases h : vw s i = 0
  · rw [if_pos h, vwN_zero _ _ _ _ _ (bAt_lt _ _) (bAt_lt _ _) (bAt_lt _ _) (bAt_lt _ _) h]
    decide
  · obtain ⟨h1, h2, h3⟩ := vwN_pos (s.size - i) (bAt s i) (bAt s (i + 1)) (bAt s (i + 2)) (bAt s (i + 3)) (bAt_lt _ _) (bAt_lt _ _) (bAt_lt _ _) h
    have hv : vwN (s.size - i) (bAt s i) (bAt s (i + 1)) (bAt s (i + 2)) (bAt s (i + 3)) = vw s i := rfl
    rw [hv] at h1 h2 h3
    rw [if_neg h]
    by_cases hc : vw s i = 1 ∧ 65 ≤ bAt s i ∧ bAt s i ≤ 90
    · rw [if_pos hc]
      have hd : (Lib.decodeN (s.size - i) (bAt s i) (bAt s (i + 1)) (bAt s (i + 2)) (bAt s (i + 3))).1 = bAt s i := by
        rcases h3 with ⟨_, e, _⟩ | ⟨_, _, e⟩
        · exact e
        · omega
      rw [hd, escRune_cap ⟨hc.2.1, hc.2.2⟩, Lib.encodeRune, Lib.encodeRuneZ_one (by omega) (by omega)]
      simp only [List.map_cons, List.map_nil, List.cons_append, List.nil_append, List.cons.injEq, and_true, true_and]
      congr 1
    · rw [if_neg hc]
      have hn : ¬ (65 ≤ (Lib.decodeN (s.size - i) (bAt s i) (bAt s (i + 1)) (bAt s (i + 2)) (bAt s (i + 3))).1 ∧ (Lib.decodeN (s.size - i) (bAt s i) (bAt s (i + 1)) (bAt s (i + 2)) (bAt s (i + 3))).1 ≤ 90) := by
        rcases h3 with ⟨_, e, e'⟩ | ⟨_, e, _⟩
        · rw [e]; omega
        · omega
      rw [escRune_not hn, Lib.encodeRune, h2, firstN_bytes s i _ (vw_le s i hi).2]

theorem escFrom_chunk {s : ByteArray} {pos : Nat} (hp : pos < s.size) (f : Nat) : escFrom s (f + 1) pos = chunk s pos ++ escFrom s f (pos + stride s pos) := by
  rw [escFrom_step hp, chunk_eq s pos hp, stride_eq]

theorem chunk_bad {s : ByteArray} {i : Nat} (h : vw s i = 0) : chunk s i = [239, 191, 189] ∧ stride s i = 1 := by simp [chunk, stride, h]
theorem chunk_cap {s : ByteArray} {i : Nat} (h : vw s i = 1) (h1 : 65 ≤ bAt s i) (h2 : bAt s i ≤ 90) : chunk s i = [33, (bAt s i + 32).toUInt8] ∧ stride s i = 1 := by simp [chunk, stride, h, h1, h2]
theorem chunk_copy {s : ByteArray} {i : Nat} (h : vw s i ≠ 0) (hc : ¬ (vw s i = 1 ∧ 65 ≤ bAt s i ∧ bAt s i ≤ 90)) : chunk s i = bytesOf s i (vw s i) ∧ stride s i = vw s i := by
  simp only [chunk, stride, if_neg h, if_neg hc]; exact ⟨trivial, trivial⟩

end Go.Proofs.Qxb6603385a
