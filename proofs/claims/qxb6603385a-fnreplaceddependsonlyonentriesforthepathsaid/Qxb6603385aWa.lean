import Derived.Test.Qxb6603385aRows
import Derived.WalkKit
import Derived.WalkSpells
import Derived.WalkLawsBesides
import Derived.SliceStrings
namespace Go.Proofs.Qxb6603385a
open Go.RowKit

/-- A slice of strings that came in: 'len' strings, each in its cell. -/
def StrsAt (w : World) (a : Option Addr) (len : Nat) (ss : List ByteArray) : Prop :=
  ss.length = len ∧ ∀ i, i < len → ∃ b off, a = some ⟨b, off, none⟩ ∧ b < w.heap.size ∧ w.cell? ⟨b, off + i, none⟩ = some (.string (ss.getD i ByteArray.empty))

theorem StrsAt.cases {w : World} {a : Option Addr} {len : Nat} {ss : List ByteArray} (h : StrsAt w a len ss) :
    (len = 0 ∧ ss = []) ∨ ∃ b off, a = some ⟨b, off, none⟩ ∧ b < w.heap.size ∧ 0 < len ∧ ss.length = len ∧ ∀ i, i < len → w.cell? ⟨b, off + i, none⟩ = some (.string (ss.getD i ByteArray.empty)) := by
  obtain ⟨hl, hc⟩ := h
  by_cases h0 : len = 0
  · subst h0
    exact .inl ⟨rfl, List.length_eq_zero_iff.1 hl⟩
  · obtain ⟨b, off, rfl, hb, _⟩ := hc 0 (by omega)
    refine .inr ⟨b, off, rfl, hb, by omega, hl, fun i hi => ?_⟩
    obtain ⟨b', off', he, _, hcell⟩ := hc i hi
    simp at he
    obtain ⟨rfl, rfl⟩ := he
    exact hcell

/-- It returned some bool. -/
def SomeBool (e : Ending) : Prop := ∃ r, e = .returned (.bool r)
theorem SomeBool.mk (r : Bool) : SomeBool (.returned (.bool r)) := ⟨r, rfl⟩

theorem Try.eqnil22 : ∀ (w : World) (a : Option Addr) (n c n' c' : Nat), (binOp .eql 22 (.slice a n c) (.slice none n' c')).run Try.prog w = .ok (.bool a.isNone) w :=
  fun w a n c n' c' => Lib.run_eql_slice_nil w _ _ a n c n' c' Try.underlying22
theorem Try.info9 : (Try.prog.info? 9).map (fun i => (i.zero, i.size, i.bytes)) = some (some (.string ByteArray.empty), 1, 16) := by kernel_rfl

/-- The strings as values. -/
def strVals (ss : List ByteArray) : List Value := ss.map Value.string

/-- The clone's row when k strings are copied. -/
def cloned (ss : List ByteArray) (len k : Nat) : Array Value := ((ss.take k).map Value.string ++ List.replicate (len - k) (Value.string ByteArray.empty)).toArray

theorem size_cloned {ss : List ByteArray} {len k : Nat} (hl : ss.length = len) (hk : k ≤ len) : (cloned ss len k).size = len := by
  simp [cloned]; omega

theorem madeCells_one (z : Value) (n : Nat) : madeCells #[z] n = Array.replicate n z := by
  unfold madeCells
  apply Array.ext
  · simp
  · intro i h1 h2
    simp [Nat.mod_one]

theorem cloned_zero (ss : List ByteArray) (len : Nat) : madeCells #[.string ByteArray.empty] len = cloned ss len 0 := by
  rw [madeCells_one]
  simp [cloned]

theorem cloned_step {ss : List ByteArray} {len k : Nat} (hl : ss.length = len) (hk : k < len) :
    (cloned ss len k).setIfInBounds k (.string (ss.getD k ByteArray.empty)) = cloned ss len (k + 1) := by
  have hlt : k < ss.length := by omega
  apply Array.ext'
  simp only [cloned, Array.toList_setIfInBounds]
  rw [show len - k = (len - (k + 1)) + 1 by omega, List.replicate_succ, List.take_succ_eq_append_getElem hlt, List.set_append_right _ _ (by simp; omega)]
  simp [hlt, Nat.min_eq_left (Nat.le_of_lt hlt), -List.map_take]
  rw [List.take_succ_eq_append_getElem hlt, List.map_append, List.append_assoc]
  rfl

theorem cloned_at {ss : List ByteArray} {len k : Nat} (hl : ss.length = len) (hk : k < len) : (cloned ss len k)[k]? = some (.string ByteArray.empty) := by
  have hlt : k < ss.length := by omega
  simp only [cloned, List.getElem?_toArray]
  rw [List.getElem?_append_right (by simp; omega)]
  simp [Nat.min_eq_left (Nat.le_of_lt hlt), List.getElem?_replicate]
  omega

theorem cloned_full {ss : List ByteArray} {len : Nat} (hl : ss.length = len) : cloned ss len len = (strVals ss).toArray := by
  subst hl
  simp [cloned, strVals]

theorem make22 (w : World) (ss : List ByteArray) (len : Nat) (h : len ≤ 1048576) :
    Sem.run Try.prog (Instr.makeSlice 22 (.int .i64 len) (.int .i64 len)) w = .ok (.slice (some ⟨w.heap.size, 0, none⟩) len len) (w.alloc (.cells (cloned ss len 0) 9)) := by
  obtain ⟨i0, hi, hz0, hz1, hz2⟩ := info_parts Try.info9
  rw [run_make w 22 9 i0 (.string ByteArray.empty) Try.underlying22 hi hz0 .i64 .i64 len len (by omega) (by omega) (by rw [hz2]; omega) (by omega), hz1]
  simp only [Value.cells, Int.toNat_natCast, Nat.mul_one]
  rw [cloned_zero ss]

set_option maxHeartbeats 400000 in
theorem clone_any (b off : Nat) (len cap : Nat) (ss : List ByteArray) (w : World) (hlen : len ≤ 1048576) (hb : b < w.heap.size) (hl : ss.length = len)
    (hcell : ∀ i, i < len → w.cell? ⟨b, off + i, none⟩ = some (.string (ss.getD i ByteArray.empty))) :
    Calls Try.prog 10 #[.slice (some ⟨b, off, none⟩) len cap] w fun e w' => e = .returned (.slice (some ⟨w.heap.size, 0, none⟩) len len) ∧ w' = w.alloc (.cells (strVals ss).toArray 9) := by
  have q22 := Try.eqnil22
  have hmk := make22 w ss len hlen
  go_enter Try.func10, Try.ntmps10
  go_wp2
  go_loopw [4] (fun i wr => ∃ (k : Nat), k ≤ len ∧ i = .int .i64 k ∧ wr = w.alloc (.cells (cloned ss len k) 9)) (fun i _ => len - (intOf i).toNat)
  case atStart => exact ⟨0, Nat.zero_le _, rfl, rfl⟩
  case round =>
    obtain ⟨k, hk, rfl, rfl⟩ := hrel
    by_cases hlt : k < len
    · have hck := hcell k hlt
      have hst := cloned_step hl hlt
      have hat := cloned_at hl hlt
      generalize ss.getD k ByteArray.empty = s at hck hst
      have Hst : Hid ((cloned ss len k).setIfInBounds k (.string s) = cloned ss len (k + 1)) := hst
      clear hcell hst
      go_wp2
      go_roundw
      case rel => exact ⟨k + 1, by omega, by go_num, by rw [Hst.out]⟩
      case measure => simp [intOf]; omega
    · have hkl : k = len := by omega
      subst hkl
      go_wp2
      go_ret
      exact ⟨rfl, by rw [cloned_full hl]⟩

set_option maxHeartbeats 400000 in
theorem clone_nil (w : World) : Calls Try.prog 10 #[.slice none 0 0] w fun e w' => e = .returned (.slice none 0 0) ∧ w' = w := by
  have q22 := Try.eqnil22
  go_enter Try.func10, Try.ntmps10
  go_wp2
  go_ret
  exact ⟨rfl, rfl⟩

set_option maxHeartbeats 400000 in
theorem clone_empty (a : Addr) (cap : Nat) (w : World) : Calls Try.prog 10 #[.slice (some a) 0 cap] w fun e w' => e = .returned (.slice (some ⟨w.heap.size, 0, none⟩) 0 0) ∧ w' = w.alloc (.cells #[] 9) := by
  have q22 := Try.eqnil22
  have hmk : Sem.run Try.prog (Instr.makeSlice 22 (.int .i64 0) (.int .i64 0)) w = .ok (.slice (some ⟨w.heap.size, 0, none⟩) 0 0) (w.alloc (.cells #[] 9)) := make22 w [] 0 (by omega)
  go_enter Try.func10, Try.ntmps10
  go_wp2
  refine wp_loop_rounds 1 ?_; rw [rounds_succ]
  go_wp2
  go_ret
  exact ⟨rfl, rfl⟩

/-- Three kinds of clone: nil, empty, some strings. -/
theorem clone_all (a : Option Addr) (len cap : Nat) (ss : List ByteArray) (w : World) (hnil : a = none → len = 0 ∧ cap = 0) (hs : StrsAt w a len ss) (hlen : len ≤ 65536) :
    Calls Try.prog 10 #[.slice a len cap] w fun e w' => (a = none ∧ e = .returned (.slice none 0 0) ∧ w' = w) ∨
      (a ≠ none ∧ e = .returned (.slice (some ⟨w.heap.size, 0, none⟩) len len) ∧ w' = w.alloc (.cells (strVals ss).toArray 9)) := by
  rcases hs.cases with ⟨rfl, rfl⟩ | ⟨b, off, rfl, hb, hpos, hl, hcell⟩
  · cases a with
    | none =>
      obtain ⟨_, rfl⟩ := hnil rfl
      exact (clone_nil w).mono fun e w' ⟨he, hw⟩ => .inl ⟨rfl, he, hw⟩
    | some x => exact (clone_empty x cap w).mono fun e w' ⟨he, hw⟩ => .inr ⟨by simp, he, hw⟩
  · exact (clone_any b off len cap ss w (by omega) hb hl hcell).mono fun e w' ⟨he, hw⟩ => .inr ⟨by simp, he, hw⟩

/-- The list of the call's own that lies at the heap's end. -/
theorem own_cell (w : World) (ss : List ByteArray) (i : Nat) (hi : i < ss.length) : (w.alloc (.cells (strVals ss).toArray 9)).cell? ⟨w.heap.size, i, none⟩ = some (.string (ss.getD i ByteArray.empty)) := by
  simp [strVals, hi]

end Go.Proofs.Qxb6603385a
