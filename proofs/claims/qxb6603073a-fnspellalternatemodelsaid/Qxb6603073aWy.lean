import Derived.Test.Qxb6603073aWa
namespace Go.Proofs.Qxb6603073a
open Go.RowKit

theorem hid {p : Prop} (h : Hid p) : p := h

set_option maxHeartbeats 1600000 in
set_option maxRecDepth 100000 in
theorem spellbytes_any (a : Option Addr) (n c : Nat) (ps : List Part) (w : World) (hn : n ≤ maxLen) (hp : PartsAt w a n ps) :
    Calls Try.prog 7 #[.slice a n c] w fun e w' => SomeInt e ∧ Below w.heap.size w w' := by
  unfold maxLen at hn
  go_enter Try.func7, Try.ntmps7
  by_cases q0 : n ≤ 16384
  case neg =>
    go_wp2
    go_ret
    exact ⟨.mk _, by first | exact Below.refl _ _ | assumption | exact hid Hbw | exact below_drewN (hid Hbw) _⟩
  go_wp2
  go_loopw [3, 17] (fun t i wr => ∃ (k : Nat) (x : Int), k ≤ n ∧ 0 ≤ x ∧ x ≤ 1048576 ∧ i = .int .i64 k ∧ t = .int .i64 x ∧ Below w.heap.size w wr) (fun _ i _ => n - (intOf i).toNat)
  case atStart => exact ⟨0, (64 : Int) * n, Nat.zero_le _, by omega, by omega, rfl, by go_num, Below.refl _ _⟩
  case round =>
    obtain ⟨k, x, hk, hx0, hx1, rfl, rfl, hbw⟩ := hrel
    replace hp := hp.later hbw
    by_cases hlt : k < n
    case neg =>
      clear hp
      go_wp2
      go_ret
      exact ⟨.mk _, by first | exact Below.refl _ _ | assumption | exact hid Hbw | exact below_drewN (hid Hbw) _⟩
    obtain ⟨b, off, ha, hb, hpk⟩ := hp.2 k hlt
    subst ha
    have Hbw : Hid (Below w.heap.size w wr) := hbw
    clear hp hbw
    generalize ps.getD k noPart = p at hpk
    obtain ⟨c0, c1, c2, c3, s0, s1, m0, m1⟩ := hpk
    unfold maxLen at m0 m1
    obtain ⟨ea, en, ec, es, na, nn, nc, ns, ld, wd⟩ := p
    dsimp only at c0 c1 c2 c3 s0 s1 m0 m1
    have S0 : Hid (StrsAt wr ea en es) := s0
    have S1 : Hid (StrsAt wr na nn ns) := s1
    clear s0 s1
    have hlt' : (k : Int) < n := by omega
    by_cases e1 : en ≤ 65536
    case neg =>
      go_wp2
      go_ret
      exact ⟨.mk _, by first | exact Below.refl _ _ | assumption | exact hid Hbw | exact below_drewN (hid Hbw) _⟩
    by_cases e2 : nn ≤ 65536
    case neg =>
      go_wp2
      go_ret
      exact ⟨.mk _, by first | exact Below.refl _ _ | assumption | exact hid Hbw | exact below_drewN (hid Hbw) _⟩
    by_cases e3 : x + (16 * en + 16 * nn) ≤ 1048576
    case neg =>
      go_wp2
      go_quiet (fail)
      go_wp2
      go_ret
      exact ⟨.mk _, by first | exact Below.refl _ _ | assumption | exact hid Hbw | exact below_drewN (hid Hbw) _⟩
    go_wp2
    go_quiet (fail)
    go_wp2
    go_loop [3, 62] (fun t i => ∃ (k : Nat) (x : Int), k ≤ en ∧ 0 ≤ x ∧ x ≤ 1048576 ∧ i = .int .i64 k ∧ t = .int .i64 x) (fun _ i => en - (intOf i).toNat)
    case atStart => exact ⟨0, x + (16 * en + 16 * nn), Nat.zero_le _, by omega, by omega, rfl, by go_num⟩
    case round =>
      obtain ⟨j, y, hj, hy0, hy1, rfl, rfl⟩ := hrel
      by_cases hjt : j < en
      case pos =>
        obtain ⟨b', off', ha, hb', hck⟩ := StrsAt.cell S0 j hjt
        subst ha
        generalize (⟨(es.getD j []).toArray⟩ : ByteArray) = s at hck
        by_cases e4 : y + s.size ≤ 1048576
        · go_wp2
          go_round
          case rel => exact ⟨j + 1, _, by omega, by omega, e4, by go_num, rfl⟩
          case measure => simp [intOf]; omega
        · go_wp2
          go_ret
          exact ⟨.mk _, by first | exact Below.refl _ _ | assumption | exact hid Hbw | exact below_drewN (hid Hbw) _⟩
      have hjj : Hid (j = en) := (by omega : j = en)
      go_wp2
      go_loop [3, 82] (fun t i => ∃ (k : Nat) (x : Int), k ≤ nn ∧ 0 ≤ x ∧ x ≤ 1048576 ∧ i = .int .i64 k ∧ t = .int .i64 x) (fun _ i => nn - (intOf i).toNat)
      case atStart => exact ⟨0, _, Nat.zero_le _, by omega, by omega, rfl, rfl⟩
      case round =>
        obtain ⟨l, z, hl, hz0, hz1, rfl, rfl⟩ := hrel
        by_cases hlu : l < nn
        case pos =>
          obtain ⟨b', off', ha, hb', hck⟩ := StrsAt.cell S1 l hlu
          subst ha
          generalize (⟨(ns.getD l []).toArray⟩ : ByteArray) = s at hck
          by_cases e6 : z + s.size ≤ 1048576
          · go_wp2
            go_round
            case rel => exact ⟨l + 1, _, by omega, by omega, e6, by go_num, rfl⟩
            case measure => simp [intOf]; omega
          · go_wp2
            go_ret
            exact ⟨.mk _, by first | exact Below.refl _ _ | assumption | exact hid Hbw | exact below_drewN (hid Hbw) _⟩
        have hll : Hid (l = nn) := (by omega : l = nn)
        go_wp2
        go_round
        case rel => exact ⟨k + 1, _, by omega, by omega, by omega, by go_num, rfl, below_drewN (hid Hbw) _⟩
        case measure => simp [intOf]; omega

end Go.Proofs.Qxb6603073a
