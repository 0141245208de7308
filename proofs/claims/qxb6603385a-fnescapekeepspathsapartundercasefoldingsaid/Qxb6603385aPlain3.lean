/-
  The plain side of the 'escape' laws: the decoder by ranges and the widths by ranges agree; numbers alone.
-/
import Derived.Lib.DecodeN
import Derived.Lib.RuneBytes
namespace Go.Proofs.Qxb6603385a

/-- The width of the well-formed sequence that begins b0 b1 b2 b3, n bytes at hand; 0: none. -/
def vwN (n b0 b1 b2 b3 : Nat) : Nat :=
  if b0 < 128 then 1
  else if 194 ≤ b0 ∧ b0 ≤ 223 then (if 2 ≤ n ∧ 128 ≤ b1 ∧ b1 ≤ 191 then 2 else 0)
  else if 224 ≤ b0 ∧ b0 ≤ 239 then (if 3 ≤ n ∧ (if b0 = 224 then 160 else 128) ≤ b1 ∧ b1 ≤ (if b0 = 237 then 159 else 191) ∧ 128 ≤ b2 ∧ b2 ≤ 191 then 3 else 0)
  else if 240 ≤ b0 ∧ b0 ≤ 244 then (if 4 ≤ n ∧ (if b0 = 240 then 144 else 128) ≤ b1 ∧ b1 ≤ (if b0 = 244 then 143 else 191) ∧ 128 ≤ b2 ∧ b2 ≤ 191 ∧ 128 ≤ b3 ∧ b3 ≤ 191 then 4 else 0)
  else 0

theorem vwN_le (n b0 b1 b2 b3 : Nat) (hn : 1 ≤ n) : vwN n b0 b1 b2 b3 ≤ n ∧ vwN n b0 b1 b2 b3 ≤ 4 := by
  unfold vwN
  repeat' split
  all_goals omega

set_option maxRecDepth 100000 in
set_option maxHeartbeats 4000000 in
/-- No well-formed sequence: U+FFFD, one byte on. -/
theorem vwN_zero (n b0 b1 b2 b3 : Nat) (h0 : b0 < 256) (h1 : b1 < 256) (h2 : b2 < 256) (h3 : b3 < 256) (h : vwN n b0 b1 b2 b3 = 0) : Lib.decodeN n b0 b1 b2 b3 = (65533, 1) := by
  unfold vwN at h
  unfold Lib.decodeN
  by_cases c0 : b0 < 128
  · simp [c0] at h
  rw [if_neg c0] at h ⊢
  by_cases c1 : 194 ≤ b0 ∧ b0 ≤ 223
  · rw [if_pos c1] at h
    split at h
    · omega
    · repeat' split
      all_goals first | rfl | (exfalso; omega)
  rw [if_neg c1] at h
  by_cases c2 : 224 ≤ b0 ∧ b0 ≤ 239
  · rw [if_pos c2] at h
    have hc : ¬ (3 ≤ n ∧ 128 ≤ b1 ∧ b1 ≤ 191 ∧ (b0 = 224 → 160 ≤ b1) ∧ (b0 = 237 → b1 ≤ 159) ∧ 128 ≤ b2 ∧ b2 ≤ 191) := by
      rintro ⟨a1, a2, a3, a4, a5, a6, a7⟩
      rw [if_pos ⟨a1, by (split <;> omega), by (split <;> omega), a6, a7⟩] at h
      omega
    clear h
    by_cases k0 : b0 / 16 = 14 ∧ (1 < n ∧ b1 / 64 = 2) ∧ (2 < n ∧ b2 / 64 = 2)
    · rw [if_neg (by omega), if_pos k0, if_neg (by omega)]
    · rw [if_neg (by omega), if_neg k0, if_neg (by omega)]
  rw [if_neg c2] at h
  by_cases c3 : 240 ≤ b0 ∧ b0 ≤ 244
  · rw [if_pos c3] at h
    have hc : ¬ (4 ≤ n ∧ 128 ≤ b1 ∧ b1 ≤ 191 ∧ (b0 = 240 → 144 ≤ b1) ∧ (b0 = 244 → b1 ≤ 143) ∧ 128 ≤ b2 ∧ b2 ≤ 191 ∧ 128 ≤ b3 ∧ b3 ≤ 191) := by
      rintro ⟨a1, a2, a3, a4, a5, a6⟩
      rw [if_pos ⟨a1, by (split <;> omega), by (split <;> omega), a6⟩] at h
      omega
    clear h
    by_cases k0 : b0 / 8 = 30 ∧ (1 < n ∧ b1 / 64 = 2) ∧ (2 < n ∧ b2 / 64 = 2) ∧ (3 < n ∧ b3 / 64 = 2)
    · rw [if_neg (by omega), if_neg (by omega), if_pos k0, if_neg (by omega)]
    · rw [if_neg (by omega), if_neg (by omega), if_neg k0]
  repeat' split
  all_goals first | rfl | (exfalso; omega)

/-- The first w of four bytes, as numbers. -/
def firstN (w b0 b1 b2 b3 : Nat) : List Int := ([b0, b1, b2, b3].take w).map fun x : Nat => (x : Int)

set_option maxRecDepth 100000 in
set_option maxHeartbeats 4000000 in
/-- A well-formed sequence: its width; the rune's bytes are the bytes that stand there; an ASCII byte is itself, any other rune is beyond ASCII. -/
theorem vwN_pos (n b0 b1 b2 b3 : Nat) (h1 : b1 < 256) (h2 : b2 < 256) (h3 : b3 < 256) (h : vwN n b0 b1 b2 b3 ≠ 0) :
    (Lib.decodeN n b0 b1 b2 b3).2 = vwN n b0 b1 b2 b3 ∧ Lib.encodeRuneZ ((Lib.decodeN n b0 b1 b2 b3).1 : Int) = firstN (vwN n b0 b1 b2 b3) b0 b1 b2 b3 ∧
    ((b0 < 128 ∧ (Lib.decodeN n b0 b1 b2 b3).1 = b0 ∧ vwN n b0 b1 b2 b3 = 1) ∨ (128 ≤ b0 ∧ 128 ≤ (Lib.decodeN n b0 b1 b2 b3).1 ∧ 2 ≤ vwN n b0 b1 b2 b3)) := by
  by_cases c0 : b0 < 128
  · have e : vwN n b0 b1 b2 b3 = 1 := by simp [vwN, c0]
    have d : Lib.decodeN n b0 b1 b2 b3 = (b0, 1) := by simp [Lib.decodeN, c0]
    rw [e, d]
    refine ⟨rfl, ?_, .inl ⟨c0, rfl, rfl⟩⟩
    rw [Lib.encodeRuneZ_one (by simp only; omega) (by simp only; omega)]
    rfl
  by_cases c1 : 194 ≤ b0 ∧ b0 ≤ 223
  · by_cases k1 : 2 ≤ n ∧ 128 ≤ b1 ∧ b1 ≤ 191
    · have e : vwN n b0 b1 b2 b3 = 2 := by simp only [vwN, if_neg c0, if_pos c1, if_pos k1]
      have d : Lib.decodeN n b0 b1 b2 b3 = (b0 % 32 * 64 + b1 % 64, 2) := by
        unfold Lib.decodeN
        rw [if_neg c0, if_pos (by omega), if_pos (by omega)]
      rw [e, d]
      refine ⟨rfl, ?_, .inr ⟨by omega, by simp only; omega, by omega⟩⟩
      rw [Lib.encodeRuneZ_two (by simp only; omega) (by simp only; omega)]
      simp only [firstN, List.take, List.map, List.cons.injEq, and_true]
      omega
    · exact absurd (by simp only [vwN, if_neg c0, if_pos c1, if_neg k1]) h
  by_cases c2 : 224 ≤ b0 ∧ b0 ≤ 239
  · by_cases k1 : 3 ≤ n ∧ (if b0 = 224 then 160 else 128) ≤ b1 ∧ b1 ≤ (if b0 = 237 then 159 else 191) ∧ 128 ≤ b2 ∧ b2 ≤ 191
    · have e : vwN n b0 b1 b2 b3 = 3 := by simp only [vwN, if_neg c0, if_neg c1, if_pos c2, if_pos k1]
      have k2 : 3 ≤ n ∧ 128 ≤ b1 ∧ b1 ≤ 191 ∧ (b0 = 224 → 160 ≤ b1) ∧ (b0 = 237 → b1 ≤ 159) ∧ 128 ≤ b2 ∧ b2 ≤ 191 := by
        obtain ⟨a, b, c, d, e⟩ := k1
        refine ⟨a, ?_, ?_, ?_, ?_, d, e⟩
        · split at b <;> omega
        · split at c <;> omega
        · intro h; rw [if_pos h] at b; exact b
        · intro h; rw [if_pos h] at c; exact c
      clear k1
      have d : Lib.decodeN n b0 b1 b2 b3 = (b0 % 16 * 4096 + b1 % 64 * 64 + b2 % 64, 3) := by
        unfold Lib.decodeN
        rw [if_neg c0, if_neg (by omega), if_pos (by omega), if_pos (by omega)]
      rw [e, d]
      refine ⟨rfl, ?_, .inr ⟨by omega, by simp only; omega, by omega⟩⟩
      rw [Lib.encodeRuneZ_three (by simp only; omega)]
      simp only [firstN, List.take, List.map, List.cons.injEq, and_true]
      omega
    · exact absurd (by simp only [vwN, if_neg c0, if_neg c1, if_pos c2, if_neg k1]) h
  by_cases c3 : 240 ≤ b0 ∧ b0 ≤ 244
  · by_cases k1 : 4 ≤ n ∧ (if b0 = 240 then 144 else 128) ≤ b1 ∧ b1 ≤ (if b0 = 244 then 143 else 191) ∧ 128 ≤ b2 ∧ b2 ≤ 191 ∧ 128 ≤ b3 ∧ b3 ≤ 191
    · have e : vwN n b0 b1 b2 b3 = 4 := by simp only [vwN, if_neg c0, if_neg c1, if_neg c2, if_pos c3, if_pos k1]
      have k2 : 4 ≤ n ∧ 128 ≤ b1 ∧ b1 ≤ 191 ∧ (b0 = 240 → 144 ≤ b1) ∧ (b0 = 244 → b1 ≤ 143) ∧ 128 ≤ b2 ∧ b2 ≤ 191 ∧ 128 ≤ b3 ∧ b3 ≤ 191 := by
        obtain ⟨a, b, c, d⟩ := k1
        refine ⟨a, ?_, ?_, ?_, ?_, d⟩
        · split at b <;> omega
        · split at c <;> omega
        · intro h; rw [if_pos h] at b; exact b
        · intro h; rw [if_pos h] at c; exact c
      clear k1
      have d : Lib.decodeN n b0 b1 b2 b3 = (b0 % 8 * 262144 + b1 % 64 * 4096 + b2 % 64 * 64 + b3 % 64, 4) := by
        unfold Lib.decodeN
        rw [if_neg c0, if_neg (by omega), if_neg (by omega), if_pos (by omega), if_pos (by omega)]
      rw [e, d]
      refine ⟨rfl, ?_, .inr ⟨by omega, by simp only; omega, by omega⟩⟩
      rw [Lib.encodeRuneZ_four (by simp only; omega) (by simp only; omega)]
      simp only [firstN, List.take, List.map, List.cons.injEq, and_true]
      omega
    · exact absurd (by simp only [vwN, if_neg c0, if_neg c1, if_neg c2, if_pos c3, if_neg k1]) h
  exact absurd (by simp only [vwN, if_neg c0, if_neg c1, if_neg c2, if_neg c3]) h

end Go.Proofs.Qxb6603385a
