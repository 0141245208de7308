import Derived.Test.Qxb6603385aWo
import Derived.Test.Qxb6603385aPlain4
namespace Go.Proofs.Qxb6603385a
open Go.RowKit

def validFrom (s : ByteArray) : Nat → Nat → Bool
  | 0, _ => true
  | fuel + 1, pos => if pos < s.size then (if vw s pos = 0 then false else validFrom s fuel (pos + vw s pos)) else true
def validB (s : ByteArray) : Bool := validFrom s s.size 0

theorem validFrom_end (s : ByteArray) (fuel pos : Nat) (h : ¬ pos < s.size) : validFrom s fuel pos = true := by
  cases fuel with
  | zero => rfl
  | succ f => simp [validFrom, h]

theorem get_list (s : ByteArray) (k : Nat) (h : k < s.size) : s.data.toList[k]? = some (s.get! k) := by
  obtain ⟨d⟩ := s
  have h' : k < d.size := h
  show d.toList[k]? = some (d[k]!)
  rw [getElem!_pos d k h']
  simp [h']

theorem drop_one (s : ByteArray) (k : Nat) (h : k < s.size) : s.data.toList.drop k = s.get! k :: s.data.toList.drop (k + 1) := by
  have hl := get_list s k h
  have hk : k < s.data.toList.length := (List.getElem?_eq_some_iff.1 hl).1
  rw [List.drop_eq_getElem_cons hk, (List.getElem?_eq_some_iff.1 hl).2]

theorem drop_bytes (s : ByteArray) (i w : Nat) (h : i + w ≤ s.size) : s.data.toList.drop i = bytesOf s i w ++ s.data.toList.drop (i + w) := by
  induction w with
  | zero => simp [bytesOf]
  | succ k ih =>
    rw [ih (by omega), bytesOf_succ, drop_one s (i + k) (by omega), List.append_assoc]
    rfl

theorem vwN_high (n b0 b1 b2 b3 k : Nat) (hv : vwN n b0 b1 b2 b3 = k) (h : 2 ≤ k) : 128 ≤ b0 ∧ 128 ≤ b1 ∧ (3 ≤ k → 128 ≤ b2) ∧ (4 ≤ k → 128 ≤ b3) := by
  unfold vwN at hv
  by_cases c0 : b0 < 128
  · rw [if_pos c0] at hv; omega
  rw [if_neg c0] at hv
  by_cases c1 : 194 ≤ b0 ∧ b0 ≤ 223
  · rw [if_pos c1] at hv
    split at hv <;> omega
  rw [if_neg c1] at hv
  by_cases c2 : 224 ≤ b0 ∧ b0 ≤ 239
  · rw [if_pos c2] at hv
    by_cases k1 : 3 ≤ n ∧ (if b0 = 224 then 160 else 128) ≤ b1 ∧ b1 ≤ (if b0 = 237 then 159 else 191) ∧ 128 ≤ b2 ∧ b2 ≤ 191
    · rw [if_pos k1] at hv
      have : 128 ≤ b1 := by have := k1.2.1; split at this <;> omega
      omega
    · rw [if_neg k1] at hv; omega
  rw [if_neg c2] at hv
  by_cases c3 : 240 ≤ b0 ∧ b0 ≤ 244
  · rw [if_pos c3] at hv
    by_cases k1 : 4 ≤ n ∧ (if b0 = 240 then 144 else 128) ≤ b1 ∧ b1 ≤ (if b0 = 244 then 143 else 191) ∧ 128 ≤ b2 ∧ b2 ≤ 191 ∧ 128 ≤ b3 ∧ b3 ≤ 191
    · rw [if_pos k1] at hv
      have : 128 ≤ b1 := by have := k1.2.1; split at this <;> omega
      omega
    · rw [if_neg k1] at hv; omega
  rw [if_neg c3] at hv
  omega

theorem escB_high {l : List UInt8} (h : ∀ c ∈ l, 128 ≤ c.toNat) : escB l = l := by
  induction l with
  | nil => rfl
  | cons c l ih =>
    have hc := h c List.mem_cons_self
    have e : escB (c :: l) = c :: escB l := by
      have : ¬ (65 ≤ c.toNat ∧ c.toNat ≤ 90) := by omega
      simp only [escB, List.flatMap_cons, escByte, if_neg this]
      rfl
    rw [e, ih (fun x hx => h x (List.mem_cons_of_mem _ hx))]

theorem chunk_escB (s : ByteArray) (i : Nat) (hi : i < s.size) (h : vw s i ≠ 0) : chunk s i = escB (bytesOf s i (vw s i)) := by
  have hle := (vw_le s i hi).2
  by_cases h1 : vw s i = 1
  · have hb : bytesOf s i 1 = [s.get! i] := by simp [bytesOf]
    rw [h1, hb]
    by_cases hc : 65 ≤ bAt s i ∧ bAt s i ≤ 90
    · rw [(chunk_cap h1 hc.1 hc.2).1]
      have hc' : 65 ≤ (s.get! i).toNat ∧ (s.get! i).toNat ≤ 90 := hc
      simp only [escB, List.flatMap_cons, List.flatMap_nil, escByte, if_pos hc']
      rfl
    · rw [(chunk_copy h (fun hh => hc hh.2)).1, h1, hb]
      have hc' : ¬ (65 ≤ (s.get! i).toNat ∧ (s.get! i).toNat ≤ 90) := hc
      simp only [escB, List.flatMap_cons, List.flatMap_nil, escByte, if_neg hc']
      rfl
  · rw [(chunk_copy h (fun hh => h1 hh.1)).1]
    obtain ⟨h0, hb1, hb2, hb3⟩ := vwN_high _ _ _ _ _ (vw s i) rfl (by omega)
    rw [escB_high]
    intro c hc
    simp only [bytesOf, List.mem_map, List.mem_range] at hc
    obtain ⟨k, hk, rfl⟩ := hc
    show 128 ≤ bAt s (i + k)
    have hk4 : k = 0 ∨ k = 1 ∨ k = 2 ∨ k = 3 := by omega
    rcases hk4 with rfl | rfl | rfl | rfl
    · exact h0
    · exact hb1
    · exact hb2 (by omega)
    · exact hb3 (by omega)

theorem escFrom_valid (s : ByteArray) : ∀ (fuel pos : Nat), pos ≤ s.size → s.size ≤ pos + fuel → validFrom s fuel pos = true → escFrom s fuel pos = escB (s.data.toList.drop pos)
  | 0, pos, hp, hf, _ => by
    have hl : s.data.toList.length = s.size := by obtain ⟨d⟩ := s; simp; rfl
    rw [List.drop_eq_nil_of_le (by omega)]; rfl
  | fuel + 1, pos, hp, hf, hv => by
    by_cases h : pos < s.size
    · have hv' : vw s pos ≠ 0 ∧ validFrom s fuel (pos + vw s pos) = true := by
        rw [validFrom, if_pos h] at hv
        by_cases h0 : vw s pos = 0
        · simp [h0] at hv
        · rw [if_neg h0] at hv; exact ⟨h0, hv⟩
      have hw := vw_le s pos h
      rw [escFrom_chunk h, chunk_escB s pos h hv'.1, drop_bytes s pos (vw s pos) (by omega)]
      have hst : stride s pos = vw s pos := by simp [stride, hv'.1]
      rw [hst, escFrom_valid s fuel (pos + vw s pos) (by omega) (by omega) hv'.2]
      simp [escB]
    · have hl : s.data.toList.length = s.size := by obtain ⟨d⟩ := s; simp; rfl
      rw [escFrom_end s _ pos h, List.drop_eq_nil_of_le (by omega)]; rfl

theorem esc_valid (s : ByteArray) (h : validB s = true) : esc s = escB s.data.toList := by
  have := escFrom_valid s s.size 0 (Nat.zero_le _) (by omega) h
  rw [List.drop_zero] at this
  exact this

end Go.Proofs.Qxb6603385a
