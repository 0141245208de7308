import Derived.Test.Qxb6603464aWa
import Derived.Maps.OwnSet
import Derived.Maps.RangeWalk
import Derived.BigRegion
import Derived.Deep.AppendLies
namespace Go.Proofs.Qxb6603464a
open Go.RowKit Go.Maps

theorem law9 : Keyed Try.prog 9 := string_keyed Try.underlying9
theorem zero30 (w : World) : (zeroValue 30).run Try.prog w = .ok (.int .i64 0) w := by kernel_rfl

/-- The value v is a map that reads as D: nil (nothing), or a block of its own. -/
def MapIs (w : World) (v : Value) (D : DataW Unit) : Prop :=
  (v = .map none ∧ D = .map []) ∨ ∃ B n, v = .map (some B) ∧ w.ownsMap Try.prog 9 (plainElem Try.prog 30) B n D

theorem MapIs.later {w w' : World} {v : Value} {D : DataW Unit} (h : MapIs w v D) (hb : Below w.heap.size w w') : MapIs w' v D := by
  rcases h with h | ⟨B, n, rfl, es, clock, hh, rest⟩
  · exact .inl h
  · exact .inr ⟨B, n, rfl, es, clock, (hb.block B (lt_of_block hh)).trans hh, rest⟩

set_option maxHeartbeats 400000 in
theorem build_nil (a : Option Addr) (n m d : Nat) (w : World) : Calls Try.prog 7 #[.slice none 0 n, .slice a m d] w fun e w' => e = .returned (.map none) ∧ w' = w := by
  have q22 := Try.eqnil22
  go_enter Try.func7, Try.ntmps7
  go_wp2
  go_ret
  exact ⟨rfl, rfl⟩

set_option maxHeartbeats 1000000 in
theorem build_some (ad : Addr) (b : Option Addr) (n c d : Nat) (ss : List ByteArray) (xs : List Int) (w : World) (hn : n ≤ 4096) (hs : StrsAt w (some ad) n ss) (hx : IntsAt w b n xs) (hz : ∀ i, i < n → (ss.getD i ByteArray.empty).size ≤ maxLen) :
    Calls Try.prog 7 #[.slice (some ad) n c, .slice b n d] w fun e w' => ∃ v D, e = .returned v ∧ MapIs w' v D ∧ Below w.heap.size w w' := by
  have q22 := Try.eqnil22
  have hmm := @run_makeMap Try.prog
  go_enter Try.func7, Try.ntmps7
  go_wp2
  clear hmm q22
  go_loopw [6] (fun i wr => ∃ (k : Nat) (D : DataW Unit), k ≤ n ∧ i = .int .i64 k ∧ wr.ownsMap Try.prog 9 (plainElem Try.prog 30) w.heap.size k D ∧ Below w.heap.size w wr) (fun i _ => n - (intOf i).toNat)
  case atStart => exact ⟨0, _, Nat.zero_le _, rfl, World.ownsMap_made _ _ _ _, (Below.refl _ _).alloc (Nat.le_refl _) _⟩
  case round =>
    obtain ⟨k, D, hk, rfl, hown, hbw⟩ := hrel
    have hzz := hbw.size
    by_cases hlt : k < n
    case pos =>
      obtain ⟨b0, o0, ha, hb0, hc0⟩ := hs.2 k hlt
      obtain ⟨b1, o1, rfl, hb1, hc1, hwf⟩ := hx k hlt
      simp only [Option.some.injEq] at ha
      subst ha
      have hzk := hz k hlt
      generalize ss.getD k ByteArray.empty = s at hc0 hzk
      generalize xs.getD k 0 = x at hc1 hwf
      have e0 := (hbw.cell (p := ⟨b0, o0 + k, none⟩) hb0).trans hc0
      have e1 := (hbw.cell (p := ⟨b1, o1 + k, none⟩) hb1).trans hc1
      obtain ⟨w1, hrun, hown1, hg1⟩ := hown.drew.update (t := 26) (val := .int .i64 x) (d := .lit (.int .i64 x)) (ps := []) law9 Try.underlying26 (by unfold maxLen; omega) (WideMaps.keyOf_string_mk Try.underlying9 hzk) (plainElem_int Try.underlying30 hwf)
      have hlt' : (k : Int) < (n : Int) := by omega
      clear hs hx hz
      go_wp2
      go_region
      have B1 : Below w.heap.size w w1 := hbw.drew.grown hg1 (by simpa using hzz) (fun j hj => by cases hj; exact Nat.le_refl _)
      clear hrun hg1 hown
      go_wp2
      go_roundw
      case rel => exact ⟨k + 1, _, by omega, by go_num, hown1, B1⟩
      case measure => simp [intOf]; omega
    go_wp2
    go_ret
    exact ⟨_, D, rfl, .inr ⟨_, _, rfl, hown⟩, hbw⟩

end Go.Proofs.Qxb6603464a
