import Derived.Test.Qxb6603385aWa
namespace Go.Proofs.Qxb6603385a
open Go.RowKit

/-- It returned some int. -/
def SomeInt (e : Ending) : Prop := ∃ x : Int, e = .returned (.int .i64 x)
theorem SomeInt.mk (x : Int) : SomeInt (.returned (.int .i64 x)) := ⟨x, rfl⟩

set_option maxHeartbeats 400000 in
theorem strbytes_any (a : Option Addr) (n c : Nat) (ss : List ByteArray) (w : World) (hn : n ≤ 65536) (hs : StrsAt w a n ss) :
    Calls Try.prog 23 #[.slice a n c] w fun e w' => SomeInt e ∧ w' = w := by
  go_enter Try.func23, Try.ntmps23
  go_wp2
  go_loop [3, 4] (fun t i => ∃ (k : Nat) (x : Int), k ≤ n ∧ i = .int .i64 k ∧ t = .int .i64 x) (fun _ i => n - (intOf i).toNat)
  case atStart => exact ⟨0, _, Nat.zero_le _, rfl, rfl⟩
  case round =>
    obtain ⟨k, x, hk, rfl, rfl⟩ := hrel
    by_cases hlt : k < n
    case pos =>
      obtain ⟨b, off, ha, hb, hck⟩ := hs.2 k hlt
      subst ha
      generalize ss.getD k ByteArray.empty = s at hck
      clear hs
      go_wp2
      · go_ret
        exact ⟨.mk _, rfl⟩
      · go_round
        case rel => exact ⟨k + 1, _, by omega, by go_num, rfl⟩
        case measure => simp [intOf]; omega
    go_wp2
    go_ret
    exact ⟨.mk _, rfl⟩

/-- What 'zzReplaceFits' says. -/
def FitsSays (e : Ending) (n0 n1 n2 n3 : Nat) : Prop := e = .returned (.bool false) ∨ (e = .returned (.bool true) ∧ n0 ≤ 65536 ∧ n1 = n0 ∧ n2 = n0 ∧ n3 = n0)

set_option maxHeartbeats 1600000 in
theorem fits_any (a0 a1 a2 a3 : Option Addr) (n0 n1 n2 n3 c0 c1 c2 c3 : Nat) (s0 s1 s2 s3 : List ByteArray) (p v : ByteArray) (w : World) (h0 : n0 ≤ maxLen) (h1 : n1 ≤ maxLen) (h2 : n2 ≤ maxLen) (h3 : n3 ≤ maxLen) (hp : p.size ≤ maxLen) (hv : v.size ≤ maxLen)
    (r0 : StrsAt w a0 n0 s0) (r1 : StrsAt w a1 n1 s1) (r2 : StrsAt w a2 n2 s2) (r3 : StrsAt w a3 n3 s3) :
    Calls Try.prog 9 #[.slice a0 n0 c0, .slice a1 n1 c1, .slice a2 n2 c2, .slice a3 n3 c3, .string p, .string v] w fun e w' => FitsSays e n0 n1 n2 n3 ∧ w' = w := by
  unfold maxLen at h0 h1 h2 h3 hp hv
  by_cases g0 : n0 ≤ 65536
  case neg => go_enter Try.func9, Try.ntmps9; go_wp2; go_ret; exact ⟨.inl rfl, rfl⟩
  by_cases g1 : n1 ≤ 65536
  case neg => go_enter Try.func9, Try.ntmps9; go_wp2; go_ret; exact ⟨.inl rfl, rfl⟩
  by_cases g2 : n2 ≤ 65536
  case neg => go_enter Try.func9, Try.ntmps9; go_wp2; go_ret; exact ⟨.inl rfl, rfl⟩
  by_cases g3 : n3 ≤ 65536
  case neg => go_enter Try.func9, Try.ntmps9; go_wp2; go_ret; exact ⟨.inl rfl, rfl⟩
  by_cases gp : p.size ≤ 1048576
  case neg => go_enter Try.func9, Try.ntmps9; go_wp2; go_ret; exact ⟨.inl rfl, rfl⟩
  by_cases gv : v.size ≤ 1048576
  case neg => go_enter Try.func9, Try.ntmps9; go_wp2; go_ret; exact ⟨.inl rfl, rfl⟩
  go_enter Try.func9, Try.ntmps9
  go_wp2_with fail
  refine (strbytes_any a0 n0 c0 s0 w g0 r0).mono ?_
  rintro e w' ⟨⟨x0, rfl⟩, rfl⟩
  go_wp2_with fail
  refine (strbytes_any a1 n1 c1 s1 _ g1 r1).mono ?_
  rintro e w' ⟨⟨x1, rfl⟩, rfl⟩
  go_wp2_with fail
  refine (strbytes_any a2 n2 c2 s2 _ g2 r2).mono ?_
  rintro e w' ⟨⟨x2, rfl⟩, rfl⟩
  go_wp2_with fail
  refine (strbytes_any a3 n3 c3 s3 _ g3 r3).mono ?_
  rintro e w' ⟨⟨x3, rfl⟩, rfl⟩
  clear r0 r1 r2 r3
  by_cases e1 : n1 = n0
  case neg =>
    have e1' : ((n1 : Int) == (n0 : Int)) = false := by simp; omega
    go_wp2_with fail
    all_goals (go_ret; exact ⟨.inl rfl, rfl⟩)
  have e1' : ((n1 : Int) == (n0 : Int)) = true := by simp; omega
  have E1 : Hid (n1 = n0) := e1
  clear e1
  by_cases e2 : n2 = n0
  case neg =>
    have e2' : ((n2 : Int) == (n0 : Int)) = false := by simp; omega
    go_wp2_with fail
    all_goals (go_ret; exact ⟨.inl rfl, rfl⟩)
  have e2' : ((n2 : Int) == (n0 : Int)) = true := by simp; omega
  have E2 : Hid (n2 = n0) := e2
  clear e2
  by_cases e3 : n3 = n0
  case neg =>
    have e3' : ((n3 : Int) == (n0 : Int)) = false := by simp; omega
    go_wp2_with fail
    all_goals (go_ret; exact ⟨.inl rfl, rfl⟩)
  have e3' : ((n3 : Int) == (n0 : Int)) = true := by simp; omega
  have E3 : Hid (n3 = n0) := e3
  clear e3
  go_wp2_with fail
  · go_ret; exact ⟨.inl rfl, rfl⟩
  · go_ret; exact ⟨.inr ⟨rfl, g0, E1.out, E2.out, E3.out⟩, rfl⟩

end Go.Proofs.Qxb6603385a
