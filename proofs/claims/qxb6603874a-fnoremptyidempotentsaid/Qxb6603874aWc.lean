import Derived.Test.Qxb6603874aWb
import Derived.Deep.QuietTactic
import Derived.BigQuiet
namespace Go.Proofs.Qxb6603874a
open Go.RowKit

set_option maxHeartbeats 400000 in
/-- A list of the call's own against itself: the same. -/
theorem same_any (g n : Nat) (ss : List ByteArray) (w : World) (hn : n ≤ 1048576) (hl : ss.length = n)
    (hcell : ∀ i, i < n → w.cell? ⟨g, i, none⟩ = some (.string (ss.getD i ByteArray.empty))) :
    Calls Try.prog 8 #[.slice (some ⟨g, 0, none⟩) n n, .slice (some ⟨g, 0, none⟩) n n] w fun e w' => e = .returned (.bool true) ∧ ∃ q, w' = w.drewN q := by
  have q22 := Try.eqnil22
  go_enter Try.func8, Try.ntmps8
  go_wp2
  go_loopw [5] (fun i wr => ∃ (k q : Nat), k ≤ n ∧ i = .int .i64 k ∧ wr = w.drewN q) (fun i _ => n - (intOf i).toNat)
  case atStart => exact ⟨0, 0, Nat.zero_le _, rfl, rfl⟩
  case round =>
    obtain ⟨k, q, hk, rfl, rfl⟩ := hrel
    by_cases hlt : k < n
    · have hck := hcell k hlt
      generalize ss.getD k ByteArray.empty = s at hck
      clear hcell
      have hlt' : (k : Int) < (n : Int) := by omega
      go_wp2
      go_quiet (fail)
      go_wp2
      go_roundw
      case rel => exact ⟨k + 1, _, by omega, by go_num, rfl⟩
      case measure => simp [intOf]; omega
    · go_wp2
      go_ret
      exact ⟨rfl, _, rfl⟩

set_option maxHeartbeats 400000 in
theorem writes_none (a : Addr) (w : World) :
    Calls Try.prog 9 #[.slice (some a) 0 0, .slice (some a) 0 0] w fun e w' => e = .returned (.bool true) ∧ w' = w := by
  go_enter Try.func9, Try.ntmps9
  go_wp2
  go_ret
  exact ⟨rfl, rfl⟩

set_option maxHeartbeats 400000 in
theorem writes_some (g n : Nat) (s : ByteArray) (w : World) (hn : 0 < n) (hs : s.size ≤ 1048576) (hc : w.cell? ⟨g, 0, none⟩ = some (.string s)) (hf : w.frozen? ⟨g, 0, none⟩ = false) :
    Calls Try.prog 9 #[.slice (some ⟨g, 0, none⟩) n n, .slice (some ⟨g, 0, none⟩) n n] w fun e w' => e = .returned (.bool true) ∧ ∃ v, w' = w.setCell ⟨g, 0, none⟩ v := by
  have hne : ((n : Int) == 0) = false := by simp; omega
  have hp : (0 : Int) < (n : Int) := by omega
  go_enter Try.func9, Try.ntmps9
  go_wp2
  go_ret
  exact ⟨by simp, _, rfl⟩

end Go.Proofs.Qxb6603874a
