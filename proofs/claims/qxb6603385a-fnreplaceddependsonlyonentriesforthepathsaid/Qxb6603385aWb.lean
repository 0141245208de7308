import Derived.Test.Qxb6603385aWa
namespace Go.Proofs.Qxb6603385a
open Go.RowKit

set_option maxHeartbeats 1600000 in
theorem zzbytes8_any (a0 a1 a2 a3 : Option Addr) (n0 n1 n2 n3 c0 c1 c2 c3 : Nat) (s0 s1 s2 s3 : List ByteArray) (p v : ByteArray) (w : World) (h0 : n0 ≤ maxLen) (h1 : n1 ≤ maxLen) (h2 : n2 ≤ maxLen) (h3 : n3 ≤ maxLen) (hp : p.size ≤ maxLen) (hv : v.size ≤ maxLen)
    (r0 : StrsAt w a0 n0 s0) (r1 : StrsAt w a1 n1 s1) (r2 : StrsAt w a2 n2 s2) (r3 : StrsAt w a3 n3 s3) :
    Calls Try.prog 8 #[.slice a0 n0 c0, .slice a1 n1 c1, .slice a2 n2 c2, .slice a3 n3 c3, .string p, .string v] w fun e w' => SomeBool e ∧ w' = w := by
  unfold maxLen at h0 h1 h2 h3 hp hv
  go_enter Try.func8, Try.ntmps8
  by_cases g0 : n0 ≤ 1048576
  case neg =>
    go_wp2
    go_ret
    exact ⟨.mk _, rfl⟩
  by_cases f0 : (0 : Int) + n0 ≤ 1048576
  case neg =>
    omega
  go_wp2
  clear f0
  go_loop [13, 14] (fun n i => ∃ (k : Nat) (x : Int), k ≤ n0 ∧ 0 ≤ x ∧ x ≤ 1048576 ∧ i = .int .i64 k ∧ n = .int .i64 x) (fun _ i => n0 - (intOf i).toNat)
  case atStart => exact ⟨0, _, Nat.zero_le _, by omega, by omega, rfl, rfl⟩
  case round =>
    obtain ⟨k0, x0, hk0, hx00, hx10, rfl, rfl⟩ := hrel
    by_cases hlt0 : k0 < n0
    case pos =>
      obtain ⟨b, off, ha, hb, hck⟩ := r0.2 k0 hlt0
      subst ha
      generalize s0.getD k0 ByteArray.empty = s at hck
      clear r0 r1 r2 r3
      by_cases e1 : s.size ≤ 1048576
      · by_cases e2 : x0 + s.size ≤ 1048576
        · go_wp2
          go_round
          case rel => exact ⟨k0 + 1, _, by omega, by omega, e2, by go_num, rfl⟩
          case measure => simp [intOf]; omega
        · go_wp2
          go_ret
          exact ⟨.mk _, rfl⟩
      · go_wp2
        go_ret
        exact ⟨.mk _, rfl⟩
    have hkk0 : Hid (k0 = n0) := (by omega : k0 = n0)
    by_cases g1 : n1 ≤ 1048576
    case neg =>
      go_wp2
      go_ret
      exact ⟨.mk _, rfl⟩
    by_cases f1 : x0 + n1 ≤ 1048576
    case neg =>
      go_wp2
      go_ret
      exact ⟨.mk _, rfl⟩
    go_wp2
    clear f1
    go_loop [13, 15] (fun n i => ∃ (k : Nat) (x : Int), k ≤ n1 ∧ 0 ≤ x ∧ x ≤ 1048576 ∧ i = .int .i64 k ∧ n = .int .i64 x) (fun _ i => n1 - (intOf i).toNat)
    case atStart => exact ⟨0, _, Nat.zero_le _, by omega, by omega, rfl, rfl⟩
    case round =>
      obtain ⟨k1, x1, hk1, hx01, hx11, rfl, rfl⟩ := hrel
      by_cases hlt1 : k1 < n1
      case pos =>
        obtain ⟨b, off, ha, hb, hck⟩ := r1.2 k1 hlt1
        subst ha
        generalize s1.getD k1 ByteArray.empty = s at hck
        clear r0 r1 r2 r3
        by_cases e1 : s.size ≤ 1048576
        · by_cases e2 : x1 + s.size ≤ 1048576
          · go_wp2
            go_round
            case rel => exact ⟨k1 + 1, _, by omega, by omega, e2, by go_num, rfl⟩
            case measure => simp [intOf]; omega
          · go_wp2
            go_ret
            exact ⟨.mk _, rfl⟩
        · go_wp2
          go_ret
          exact ⟨.mk _, rfl⟩
      have hkk1 : Hid (k1 = n1) := (by omega : k1 = n1)
      by_cases g2 : n2 ≤ 1048576
      case neg =>
        go_wp2
        go_ret
        exact ⟨.mk _, rfl⟩
      by_cases f2 : x1 + n2 ≤ 1048576
      case neg =>
        go_wp2
        go_ret
        exact ⟨.mk _, rfl⟩
      go_wp2
      clear f2
      go_loop [13, 16] (fun n i => ∃ (k : Nat) (x : Int), k ≤ n2 ∧ 0 ≤ x ∧ x ≤ 1048576 ∧ i = .int .i64 k ∧ n = .int .i64 x) (fun _ i => n2 - (intOf i).toNat)
      case atStart => exact ⟨0, _, Nat.zero_le _, by omega, by omega, rfl, rfl⟩
      case round =>
        obtain ⟨k2, x2, hk2, hx02, hx12, rfl, rfl⟩ := hrel
        by_cases hlt2 : k2 < n2
        case pos =>
          obtain ⟨b, off, ha, hb, hck⟩ := r2.2 k2 hlt2
          subst ha
          generalize s2.getD k2 ByteArray.empty = s at hck
          clear r0 r1 r2 r3
          by_cases e1 : s.size ≤ 1048576
          · by_cases e2 : x2 + s.size ≤ 1048576
            · go_wp2
              go_round
              case rel => exact ⟨k2 + 1, _, by omega, by omega, e2, by go_num, rfl⟩
              case measure => simp [intOf]; omega
            · go_wp2
              go_ret
              exact ⟨.mk _, rfl⟩
          · go_wp2
            go_ret
            exact ⟨.mk _, rfl⟩
        have hkk2 : Hid (k2 = n2) := (by omega : k2 = n2)
        by_cases g3 : n3 ≤ 1048576
        case neg =>
          go_wp2
          go_ret
          exact ⟨.mk _, rfl⟩
        by_cases f3 : x2 + n3 ≤ 1048576
        case neg =>
          go_wp2
          go_ret
          exact ⟨.mk _, rfl⟩
        go_wp2
        clear f3
        go_loop [13, 17] (fun n i => ∃ (k : Nat) (x : Int), k ≤ n3 ∧ 0 ≤ x ∧ x ≤ 1048576 ∧ i = .int .i64 k ∧ n = .int .i64 x) (fun _ i => n3 - (intOf i).toNat)
        case atStart => exact ⟨0, _, Nat.zero_le _, by omega, by omega, rfl, rfl⟩
        case round =>
          obtain ⟨k3, x3, hk3, hx03, hx13, rfl, rfl⟩ := hrel
          by_cases hlt3 : k3 < n3
          case pos =>
            obtain ⟨b, off, ha, hb, hck⟩ := r3.2 k3 hlt3
            subst ha
            generalize s3.getD k3 ByteArray.empty = s at hck
            clear r0 r1 r2 r3
            by_cases e1 : s.size ≤ 1048576
            · by_cases e2 : x3 + s.size ≤ 1048576
              · go_wp2
                go_round
                case rel => exact ⟨k3 + 1, _, by omega, by omega, e2, by go_num, rfl⟩
                case measure => simp [intOf]; omega
              · go_wp2
                go_ret
                exact ⟨.mk _, rfl⟩
            · go_wp2
              go_ret
              exact ⟨.mk _, rfl⟩
          have hkk3 : Hid (k3 = n3) := (by omega : k3 = n3)
          go_wp2
          all_goals (go_ret; exact ⟨.mk _, rfl⟩)

end Go.Proofs.Qxb6603385a
