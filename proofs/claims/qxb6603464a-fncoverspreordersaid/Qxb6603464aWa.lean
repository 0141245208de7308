import Derived.Test.Qxb6603464aRows
import Derived.WalkKit
import Derived.WalkSpells
import Derived.WalkLawsBesides
namespace Go.Proofs.Qxb6603464a
open Go.RowKit

/-- A slice of strings that came in: 'len' strings, each in its cell. -/
def StrsAt (w : World) (a : Option Addr) (len : Nat) (ss : List ByteArray) : Prop :=
  ss.length = len ∧ ∀ i, i < len → ∃ b off, a = some ⟨b, off, none⟩ ∧ b < w.heap.size ∧ w.cell? ⟨b, off + i, none⟩ = some (.string (ss.getD i ByteArray.empty))

theorem StrsAt.cases {w : World} {a : Option Addr} {len : Nat} {ss : List ByteArray} (h : StrsAt w a len ss) :
    (len = 0 ∧ ss = []) ∨ ∃ b off, a = some ⟨b, off, none⟩ ∧ b < w.heap.size ∧ 0 < len ∧ ss.length = len ∧ ∀ i, i < len → w.cell? ⟨b, off + i, none⟩ = some (.string (ss.getD i ByteArray.empty)) := by
  obtain ⟨hl, hc⟩ := h
  by_cases h0 : len = 0
  · subst h0
    exact .inl ⟨rfl, List.length_eq_zero_iff.1 hl⟩
  · obtain ⟨b, off, rfl, hb, _⟩ := hc 0 (by omega)
    refine .inr ⟨b, off, rfl, hb, by omega, hl, fun i hi => ?_⟩
    obtain ⟨b', off', he, _, hcell⟩ := hc i hi
    simp at he
    obtain ⟨rfl, rfl⟩ := he
    exact hcell

/-- It returned some bool. -/
def SomeBool (e : Ending) : Prop := ∃ r, e = .returned (.bool r)
theorem SomeBool.mk (r : Bool) : SomeBool (.returned (.bool r)) := ⟨r, rfl⟩

/-- It returned some int. -/
def SomeInt (e : Ending) : Prop := ∃ x : Int, e = .returned (.int .i64 x)
theorem SomeInt.mk (x : Int) : SomeInt (.returned (.int .i64 x)) := ⟨x, rfl⟩

/-- A slice of ints that came in. -/
def IntsAt (w : World) (a : Option Addr) (len : Nat) (xs : List Int) : Prop :=
  ∀ i, i < len → ∃ b off, a = some ⟨b, off, none⟩ ∧ b < w.heap.size ∧ w.cell? ⟨b, off + i, none⟩ = some (.int .i64 (xs.getD i 0)) ∧ (Lit.int .i64 (xs.getD i 0)).wf = true

theorem Try.eqnil22 : ∀ (w : World) (a : Option Addr) (n c n' c' : Nat), (binOp .eql 22 (.slice a n c) (.slice none n' c')).run Try.prog w = .ok (.bool a.isNone) w :=
  fun w a n c n' c' => Lib.run_eql_slice_nil w _ _ a n c n' c' Try.underlying22

set_option maxHeartbeats 1600000 in
theorem zzbytes_any (a0 a1 a2 b0 b1 b2 : Option Addr) (n0 n1 n2 m0 m1 m2 c0 c1 c2 d0 d1 d2 : Nat) (s0 s1 s2 : List ByteArray) (w : World) (h0 : n0 ≤ maxLen) (h1 : n1 ≤ maxLen) (h2 : n2 ≤ maxLen) (g0 : m0 ≤ maxLen) (g1 : m1 ≤ maxLen) (g2 : m2 ≤ maxLen)
    (r0 : StrsAt w a0 n0 s0) (r1 : StrsAt w a1 n1 s1) (r2 : StrsAt w a2 n2 s2) :
    Calls Try.prog 5 #[.slice a0 n0 c0, .slice b0 m0 d0, .slice a1 n1 c1, .slice b1 m1 d1, .slice a2 n2 c2, .slice b2 m2 d2] w fun e w' => SomeBool e ∧ w' = w := by
  unfold maxLen at h0 h1 h2 g0 g1 g2
  go_enter Try.func5, Try.ntmps5
  by_cases q0 : n0 ≤ 1048576
  case neg =>
    go_wp2
    go_ret
    exact ⟨.mk _, rfl⟩
  by_cases f0 : (0 : Int) + n0 ≤ 1048576
  case neg =>
    omega
  go_wp2
  clear f0
  go_loop [13, 14] (fun n i => ∃ (k : Nat) (x : Int), k ≤ n0 ∧ 0 ≤ x ∧ x ≤ 1048576 ∧ i = .int .i64 k ∧ n = .int .i64 x) (fun _ i => n0 - (intOf i).toNat)
  case atStart => exact ⟨0, _, Nat.zero_le _, by omega, by omega, rfl, rfl⟩
  case round =>
    obtain ⟨k0, x0, hk0, hx00, hx10, rfl, rfl⟩ := hrel
    by_cases hlt0 : k0 < n0
    case pos =>
      obtain ⟨b, off, ha, hb, hck⟩ := r0.2 k0 hlt0
      subst ha
      generalize s0.getD k0 ByteArray.empty = s at hck
      clear r0 r1 r2
      by_cases e1 : s.size ≤ 1048576
      · by_cases e2 : x0 + s.size ≤ 1048576
        · go_wp2
          go_round
          case rel => exact ⟨k0 + 1, _, by omega, by omega, e2, by go_num, rfl⟩
          case measure => simp [intOf]; omega
        · go_wp2
          go_ret
          exact ⟨.mk _, rfl⟩
      · go_wp2
        go_ret
        exact ⟨.mk _, rfl⟩
    have hkk0 : Hid (k0 = n0) := (by omega : k0 = n0)
    by_cases v0 : m0 ≤ 1048576
    case neg =>
      go_wp2
      go_ret
      exact ⟨.mk _, rfl⟩
    by_cases u0 : x0 + m0 ≤ 1048576
    case neg =>
      go_wp2
      go_ret
      exact ⟨.mk _, rfl⟩
    obtain ⟨y0, hy0⟩ : ∃ y : Int, y = x0 + m0 := ⟨_, rfl⟩
    have hyb0 : 0 ≤ y0 ∧ y0 ≤ 1048576 := by omega
    have Hy0 : Hid (y0 = x0 + m0) := hy0
    by_cases q1 : n1 ≤ 1048576
    case neg =>
      go_wp2
      go_ret
      exact ⟨.mk _, rfl⟩
    by_cases f1 : y0 + n1 ≤ 1048576
    case neg =>
      go_wp2
      go_ret
      exact ⟨.mk _, rfl⟩
    go_wp2
    clear f1
    go_loop [13, 15] (fun n i => ∃ (k : Nat) (x : Int), k ≤ n1 ∧ 0 ≤ x ∧ x ≤ 1048576 ∧ i = .int .i64 k ∧ n = .int .i64 x) (fun _ i => n1 - (intOf i).toNat)
    case atStart => exact ⟨0, _, Nat.zero_le _, by omega, by omega, rfl, rfl⟩
    case round =>
      obtain ⟨k1, x1, hk1, hx01, hx11, rfl, rfl⟩ := hrel
      by_cases hlt1 : k1 < n1
      case pos =>
        obtain ⟨b, off, ha, hb, hck⟩ := r1.2 k1 hlt1
        subst ha
        generalize s1.getD k1 ByteArray.empty = s at hck
        clear r0 r1 r2
        by_cases e1 : s.size ≤ 1048576
        · by_cases e2 : x1 + s.size ≤ 1048576
          · go_wp2
            go_round
            case rel => exact ⟨k1 + 1, _, by omega, by omega, e2, by go_num, rfl⟩
            case measure => simp [intOf]; omega
          · go_wp2
            go_ret
            exact ⟨.mk _, rfl⟩
        · go_wp2
          go_ret
          exact ⟨.mk _, rfl⟩
      have hkk1 : Hid (k1 = n1) := (by omega : k1 = n1)
      by_cases v1 : m1 ≤ 1048576
      case neg =>
        go_wp2
        go_ret
        exact ⟨.mk _, rfl⟩
      by_cases u1 : x1 + m1 ≤ 1048576
      case neg =>
        go_wp2
        go_ret
        exact ⟨.mk _, rfl⟩
      obtain ⟨y1, hy1⟩ : ∃ y : Int, y = x1 + m1 := ⟨_, rfl⟩
      have hyb1 : 0 ≤ y1 ∧ y1 ≤ 1048576 := by omega
      have Hy1 : Hid (y1 = x1 + m1) := hy1
      by_cases q2 : n2 ≤ 1048576
      case neg =>
        go_wp2
        go_ret
        exact ⟨.mk _, rfl⟩
      by_cases f2 : y1 + n2 ≤ 1048576
      case neg =>
        go_wp2
        go_ret
        exact ⟨.mk _, rfl⟩
      go_wp2
      clear f2
      go_loop [13, 16] (fun n i => ∃ (k : Nat) (x : Int), k ≤ n2 ∧ 0 ≤ x ∧ x ≤ 1048576 ∧ i = .int .i64 k ∧ n = .int .i64 x) (fun _ i => n2 - (intOf i).toNat)
      case atStart => exact ⟨0, _, Nat.zero_le _, by omega, by omega, rfl, rfl⟩
      case round =>
        obtain ⟨k2, x2, hk2, hx02, hx12, rfl, rfl⟩ := hrel
        by_cases hlt2 : k2 < n2
        case pos =>
          obtain ⟨b, off, ha, hb, hck⟩ := r2.2 k2 hlt2
          subst ha
          generalize s2.getD k2 ByteArray.empty = s at hck
          clear r0 r1 r2
          by_cases e1 : s.size ≤ 1048576
          · by_cases e2 : x2 + s.size ≤ 1048576
            · go_wp2
              go_round
              case rel => exact ⟨k2 + 1, _, by omega, by omega, e2, by go_num, rfl⟩
              case measure => simp [intOf]; omega
            · go_wp2
              go_ret
              exact ⟨.mk _, rfl⟩
          · go_wp2
            go_ret
            exact ⟨.mk _, rfl⟩
        have hkk2 : Hid (k2 = n2) := (by omega : k2 = n2)
        by_cases v2 : m2 ≤ 1048576
        case neg =>
          go_wp2
          go_ret
          exact ⟨.mk _, rfl⟩
        by_cases u2 : x2 + m2 ≤ 1048576
        case neg =>
          go_wp2
          go_ret
          exact ⟨.mk _, rfl⟩
        obtain ⟨y2, hy2⟩ : ∃ y : Int, y = x2 + m2 := ⟨_, rfl⟩
        have hyb2 : 0 ≤ y2 ∧ y2 ≤ 1048576 := by omega
        have Hy2 : Hid (y2 = x2 + m2) := hy2
        go_wp2
        all_goals (go_ret; exact ⟨.mk _, rfl⟩)

set_option maxHeartbeats 400000 in
theorem pairbytes_any (a b : Option Addr) (n m c d : Nat) (ss : List ByteArray) (w : World) (hn : n ≤ 4096) (hm : m ≤ 4096) (hs : StrsAt w a n ss) :
    Calls Try.prog 6 #[.slice a n c, .slice b m d] w fun e w' => SomeInt e ∧ w' = w := by
  go_enter Try.func6, Try.ntmps6
  go_wp2
  go_loop [5, 6] (fun t i => ∃ (k : Nat) (x : Int), k ≤ n ∧ i = .int .i64 k ∧ t = .int .i64 x) (fun _ i => n - (intOf i).toNat)
  case atStart => exact ⟨0, _, Nat.zero_le _, rfl, rfl⟩
  case round =>
    obtain ⟨k, x, hk, rfl, rfl⟩ := hrel
    by_cases hlt : k < n
    case pos =>
      obtain ⟨b, off, ha, hb, hck⟩ := hs.2 k hlt
      subst ha
      generalize ss.getD k ByteArray.empty = s at hck
      clear hs
      by_cases hx : 1048576 < x
      · go_wp2
        go_ret
        exact ⟨.mk _, rfl⟩
      · go_wp2
        go_round
        case rel => exact ⟨k + 1, _, by omega, by go_num, rfl⟩
        case measure => simp [intOf]; omega
    by_cases hx : 1048576 < x
    · go_wp2
      go_ret
      exact ⟨.mk _, rfl⟩
    · go_wp2
      go_ret
      exact ⟨.mk _, rfl⟩

end Go.Proofs.Qxb6603464a
