import Derived.Test.Qxb6603874aRows
import Derived.WalkKit
import Derived.WalkSpells
import Derived.WalkLawsBesides
namespace Go.Proofs.Qxb6603874a
open Go.RowKit

/-- A slice of strings that came in: 'len' strings, each in its cell. -/
def StrsAt (w : World) (a : Option Addr) (len : Nat) (ss : List ByteArray) : Prop :=
  ss.length = len ∧ ∀ i, i < len → ∃ b off, a = some ⟨b, off, none⟩ ∧ b < w.heap.size ∧ w.cell? ⟨b, off + i, none⟩ = some (.string (ss.getD i ByteArray.empty))

theorem StrsAt.cases {w : World} {a : Option Addr} {len : Nat} {ss : List ByteArray} (h : StrsAt w a len ss) :
    (len = 0 ∧ ss = []) ∨ ∃ b off, a = some ⟨b, off, none⟩ ∧ b < w.heap.size ∧ 0 < len ∧ ss.length = len ∧ ∀ i, i < len → w.cell? ⟨b, off + i, none⟩ = some (.string (ss.getD i ByteArray.empty)) := by
  obtain ⟨hl, hc⟩ := h
  by_cases h0 : len = 0
  · subst h0
    exact .inl ⟨rfl, List.length_eq_zero_iff.1 hl⟩
  · obtain ⟨b, off, rfl, hb, _⟩ := hc 0 (by omega)
    refine .inr ⟨b, off, rfl, hb, by omega, hl, fun i hi => ?_⟩
    obtain ⟨b', off', he, _, hcell⟩ := hc i hi
    simp at he
    obtain ⟨rfl, rfl⟩ := he
    exact hcell

/-- It returned some bool. -/
def SomeBool (e : Ending) : Prop := ∃ r, e = .returned (.bool r)
theorem SomeBool.mk (r : Bool) : SomeBool (.returned (.bool r)) := ⟨r, rfl⟩

set_option maxHeartbeats 400000 in
theorem zzbytes_any (a : Option Addr) (len cap : Nat) (ss : List ByteArray) (w : World) (hlen : len ≤ maxLen) (hs : StrsAt w a len ss) :
    Calls Try.prog 4 #[.slice a len cap] w fun e w' => SomeBool e ∧ w' = w := by
  unfold maxLen at hlen
  rcases hs.cases with ⟨rfl, rfl⟩ | ⟨b, off, rfl, hb, hpos, hl, hcell⟩
  · go_enter Try.func4, Try.ntmps4
    go_wp2
    refine wp_loop_rounds 1 ?_; rw [rounds_succ]
    go_wp2
    go_ret
    exact ⟨.mk _, rfl⟩
  · by_cases hbig : len ≤ 1048576
    · go_enter Try.func4, Try.ntmps4
      go_wp2
      go_loop [3, 4] (fun n i => ∃ (k : Nat) (x : Int), k ≤ len ∧ 0 ≤ x ∧ x ≤ 1048576 ∧ i = .int .i64 k ∧ n = .int .i64 x) (fun _ i => len - (intOf i).toNat)
      case atStart => exact ⟨0, _, Nat.zero_le _, by omega, by omega, rfl, rfl⟩
      case round =>
        obtain ⟨k, x, hk, hx0, hx1, rfl, rfl⟩ := hrel
        by_cases hlt : k < len
        · have hck := hcell k hlt
          generalize ss.getD k ByteArray.empty = s at hck
          clear hcell hs
          by_cases h1 : s.size ≤ 1048576
          · by_cases h2 : x + s.size ≤ 1048576
            · go_wp2
              go_round
              case rel => exact ⟨k + 1, _, by omega, by omega, h2, by go_num, rfl⟩
              case measure => simp [intOf]; omega
            · go_wp2
              go_ret
              exact ⟨.mk _, rfl⟩
          · go_wp2
            go_ret
            exact ⟨.mk _, rfl⟩
        · go_wp2
          go_ret
          exact ⟨.mk _, rfl⟩
    · go_enter Try.func4, Try.ntmps4
      go_wp2
      go_ret
      exact ⟨.mk _, rfl⟩

end Go.Proofs.Qxb6603874a
