import Derived.Test.Qxb6603073aWa
namespace Go.Proofs.Qxb6603073a
open Go.RowKit

/-- What the byte count's true says: no slice is long. -/
def Short (n : Nat) (ps : List Part) : Prop := n ≤ 1048576 ∧ ∀ i, i < n → (ps.getD i noPart).en ≤ 1048576 ∧ (ps.getD i noPart).nn ≤ 1048576

theorem Short.step {k : Nat} {ps : List Part} {p : Part} (h : Hid (∀ i, i < k → (ps.getD i noPart).en ≤ 1048576 ∧ (ps.getD i noPart).nn ≤ 1048576)) (hg : Hid (ps.getD k noPart = p))
    (h0 : p.en ≤ 1048576) (h1 : p.nn ≤ 1048576) : Hid (∀ i, i < k + 1 → (ps.getD i noPart).en ≤ 1048576 ∧ (ps.getD i noPart).nn ≤ 1048576) := fun i hi => by
  by_cases hik : i < k
  · exact h i hik
  · have : i = k := by omega
    subst this
    rw [hg]; exact ⟨h0, h1⟩

set_option maxHeartbeats 1600000 in
set_option maxRecDepth 100000 in
theorem zzbytes_any (a : Option Addr) (n c : Nat) (ps : List Part) (w : World) (hn : n ≤ maxLen) (hp : PartsAt w a n ps) :
    Calls Try.prog 6 #[.slice a n c] w fun e w' => (e = .returned (.bool false) ∨ (e = .returned (.bool true) ∧ Short n ps)) ∧ w' = w := by
  unfold maxLen at hn
  go_enter Try.func6, Try.ntmps6
  by_cases q0 : n ≤ 1048576
  case neg =>
    go_wp2
    go_ret
    exact ⟨.inl rfl, rfl⟩
  by_cases f0 : (0 : Int) + n ≤ 1048576
  case neg => omega
  go_wp2
  clear f0
  go_loop [3, 4] (fun t i => ∃ (k : Nat) (x : Int), k ≤ n ∧ Hid (∀ i, i < k → (ps.getD i noPart).en ≤ 1048576 ∧ (ps.getD i noPart).nn ≤ 1048576) ∧ 0 ≤ x ∧ x ≤ 1048576 ∧ i = .int .i64 k ∧ t = .int .i64 x) (fun _ i => n - (intOf i).toNat)
  case atStart => exact ⟨0, _, Nat.zero_le _, fun i hi => by omega, by omega, by omega, rfl, rfl⟩
  case round =>
    obtain ⟨k, x, hk, hsh, hx0, hx1, rfl, rfl⟩ := hrel
    by_cases hlt : k < n
    case neg =>
      have hkn : k = n := by omega
      subst hkn
      clear hp
      go_wp2
      go_ret
      exact ⟨.inr ⟨rfl, q0, hsh⟩, rfl⟩
    obtain ⟨b, off, ha, hb, hpk⟩ := hp.2 k hlt
    subst ha
    have Hp : Hid (PartsAt w (some ⟨b, off, none⟩) n ps) := hp
    clear hp
    generalize hg : ps.getD k noPart = p at hpk
    have Hg : Hid (ps.getD k noPart = p) := hg
    clear hg
    obtain ⟨c0, c1, c2, c3, s0, s1, m0, m1⟩ := hpk
    unfold maxLen at m0 m1
    obtain ⟨ea, en, ec, es, na, nn, nc, ns, ld, wd⟩ := p
    dsimp only at c0 c1 c2 c3 s0 s1 m0 m1
    have hlt' : (k : Int) < n := by omega
    by_cases e1 : en ≤ 1048576
    case neg =>
      clear s0 s1
      go_wp2
      go_ret
      exact ⟨.inl rfl, rfl⟩
    by_cases e2 : x + en ≤ 1048576
    case neg =>
      clear s0 s1
      go_wp2
      go_ret
      exact ⟨.inl rfl, rfl⟩
    have S0 : Hid (StrsAt w ea en es) := s0
    have S1 : Hid (StrsAt w na nn ns) := s1
    clear s0 s1
    go_wp2
    go_loop [3, 5] (fun t i => ∃ (k : Nat) (x : Int), k ≤ en ∧ 0 ≤ x ∧ x ≤ 1048576 ∧ i = .int .i64 k ∧ t = .int .i64 x) (fun _ i => en - (intOf i).toNat)
    case atStart => exact ⟨0, _, Nat.zero_le _, by omega, by omega, rfl, rfl⟩
    case round =>
      obtain ⟨j, y, hj, hy0, hy1, rfl, rfl⟩ := hrel
      by_cases hjt : j < en
      case pos =>
        obtain ⟨b', off', ha, hb', hck⟩ := StrsAt.cell S0 j hjt
        subst ha
        generalize (⟨(es.getD j []).toArray⟩ : ByteArray) = s at hck
        by_cases e3 : s.size ≤ 1048576
        · by_cases e4 : y + s.size ≤ 1048576
          · go_wp2
            go_round
            case rel => exact ⟨j + 1, _, by omega, by omega, e4, by go_num, rfl⟩
            case measure => simp [intOf]; omega
          · go_wp2
            go_ret
            exact ⟨.inl rfl, rfl⟩
        · go_wp2
          go_ret
          exact ⟨.inl rfl, rfl⟩
      have hjj : Hid (j = en) := (by omega : j = en)
      by_cases e3 : nn ≤ 1048576
      case neg =>
        go_wp2
        go_ret
        exact ⟨.inl rfl, rfl⟩
      by_cases e4 : y + nn ≤ 1048576
      case neg =>
        go_wp2
        go_ret
        exact ⟨.inl rfl, rfl⟩
      go_wp2
      go_loop [3, 6] (fun t i => ∃ (k : Nat) (x : Int), k ≤ nn ∧ 0 ≤ x ∧ x ≤ 1048576 ∧ i = .int .i64 k ∧ t = .int .i64 x) (fun _ i => nn - (intOf i).toNat)
      case atStart => exact ⟨0, _, Nat.zero_le _, by omega, by omega, rfl, rfl⟩
      case round =>
        obtain ⟨l, z, hl, hz0, hz1, rfl, rfl⟩ := hrel
        by_cases hlu : l < nn
        case pos =>
          obtain ⟨b', off', ha, hb', hck⟩ := StrsAt.cell S1 l hlu
          subst ha
          generalize (⟨(ns.getD l []).toArray⟩ : ByteArray) = s at hck
          by_cases e5 : s.size ≤ 1048576
          · by_cases e6 : z + s.size ≤ 1048576
            · go_wp2
              go_round
              case rel => exact ⟨l + 1, _, by omega, by omega, e6, by go_num, rfl⟩
              case measure => simp [intOf]; omega
            · go_wp2
              go_ret
              exact ⟨.inl rfl, rfl⟩
          · go_wp2
            go_ret
            exact ⟨.inl rfl, rfl⟩
        have hll : Hid (l = nn) := (by omega : l = nn)
        go_wp2
        go_round
        case rel => exact ⟨k + 1, _, by omega, Short.step hsh Hg e1 e3, by omega, by omega, by go_num, rfl⟩
        case measure => simp [intOf]; omega

end Go.Proofs.Qxb6603073a
