import Derived.Test.Qxb6603385aRows
import Derived.WalkKit
import Derived.WalkSpells
import Derived.WalkLawsBesides
import Derived.Test.Qxb6603385aPlain3
import Derived.Deep.Light
namespace Go.Proofs.Qxb6603385a
open Go.RowKit

def bAt (s : ByteArray) (k : Nat) : Nat := (s.get! k).toNat
theorem bAt_eq (s : ByteArray) (k : Nat) (h : k < s.size) : bAt s k = (s[k]'h).toNat := by
  obtain ⟨d⟩ := s
  have h' : k < d.size := h
  show (d[k]!).toNat = (d[k]'h').toNat
  rw [getElem!_pos d k h']

def vw (s : ByteArray) (i : Nat) : Nat := vwN (s.size - i) (bAt s i) (bAt s (i + 1)) (bAt s (i + 2)) (bAt s (i + 3))

theorem ret_int {k : IntKind} {a b : Int} (h : a = b) : Ending.returned (.int k a) = .returned (.int k b) := by rw [h]

set_option linter.unusedSimpArgs false in
set_option maxHeartbeats 4000000 in
set_option maxRecDepth 100000 in
theorem vw_any (s : ByteArray) (i : Nat) (w : World) (hi : i < s.size) (hs : s.size ≤ 1073741824) :
    Calls Try.prog 25 #[.string s, .int .i64 (i : Int)] w fun e w' => e = .returned (.int .i64 (vw s i : Int)) ∧ w' = w := by
  have e0 : Hid (bAt s i = (s[i]'hi).toNat) := bAt_eq s i hi
  have e1 : Hid (∀ h : i + 1 < s.size, bAt s (i + 1) = (s[i + 1]'h).toNat) := bAt_eq s (i + 1)
  have e2 : Hid (∀ h : i + 2 < s.size, bAt s (i + 2) = (s[i + 2]'h).toNat) := bAt_eq s (i + 2)
  have e3 : Hid (∀ h : i + 3 < s.size, bAt s (i + 3) = (s[i + 3]'h).toNat) := bAt_eq s (i + 3)
  go_enter Try.func25, Try.ntmps25
  go_wp2
  all_goals
    go_ret
    refine ⟨ret_int ?_, rfl⟩
    go_light
    have a0 := e0.out
    have a1 := e1.out
    have a2 := e2.out
    have a3 := e3.out
    try simp only [beq_iff_eq, beq_eq_false_iff_ne, ne_eq] at *
    unfold vw vwN
    try rw [a1 (by omega)]
    try rw [a2 (by omega)]
    try rw [a3 (by omega)]
    rw [a0]
    clear a0 a1 a2 a3 e0 e1 e2 e3
    repeat' split
    all_goals omega

end Go.Proofs.Qxb6603385a
