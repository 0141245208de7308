import Derived.Test.Qxb6603464aWc
namespace Go.Proofs.Qxb6603464a
open Go.RowKit Go.Maps

/-- Keys and values that came in, of one length. -/
structure PairIn (w : World) (a b : Option Addr) (n c : Nat) (ss : List ByteArray) (xs : List Int) : Prop where
  nil : a = none → n = 0 ∧ c = 0
  keys : StrsAt w a n ss
  vals : IntsAt w b n xs
  small : ∀ i, i < n → (ss.getD i ByteArray.empty).size ≤ maxLen

theorem PairIn.later {w w' : World} {a b : Option Addr} {n c : Nat} {ss : List ByteArray} {xs : List Int} (h : PairIn w a b n c ss xs) (hb : Below w.heap.size w w') : PairIn w' a b n c ss xs := by
  refine ⟨h.nil, ⟨h.keys.1, fun i hi => ?_⟩, fun i hi => ?_, h.small⟩
  · obtain ⟨b0, off, rfl, hlt, hc⟩ := h.keys.2 i hi
    exact ⟨b0, off, rfl, Nat.lt_of_lt_of_le hlt hb.size, (hb.cell hlt).trans hc⟩
  · obtain ⟨b0, off, rfl, hlt, hc, hw⟩ := h.vals i hi
    exact ⟨b0, off, rfl, Nat.lt_of_lt_of_le hlt hb.size, (hb.cell hlt).trans hc, hw⟩

theorem build_any (a b : Option Addr) (n c d : Nat) (ss : List ByteArray) (xs : List Int) (w : World) (hn : n ≤ 4096) (h : PairIn w a b n c ss xs) :
    Calls Try.prog 7 #[.slice a n c, .slice b n d] w fun e w' => ∃ v D, e = .returned v ∧ MapIs w' v D ∧ Below w.heap.size w w' := by
  cases a with
  | none =>
    obtain ⟨rfl, rfl⟩ := h.nil rfl
    exact (build_nil b 0 0 d w).mono fun e w' ⟨he, hw⟩ => ⟨_, _, he, .inl ⟨rfl, rfl⟩, by rw [hw]; exact Below.refl _ _⟩
  | some ad => exact build_some ad b n c d ss xs w hn h.keys h.vals h.small

set_option maxHeartbeats 4000000 in
set_option maxRecDepth 100000 in
theorem law (a0 a1 a2 b0 b1 b2 : Option Addr) (n0 n1 n2 m0 m1 m2 c0 c1 c2 d0 d1 d2 : Nat) (s0 s1 s2 : List ByteArray) (x0 x1 x2 : List Int) (w : World)
    (h0 : n0 ≤ maxLen) (h1 : n1 ≤ maxLen) (h2 : n2 ≤ maxLen) (g0 : m0 ≤ maxLen) (g1 : m1 ≤ maxLen) (g2 : m2 ≤ maxLen)
    (r0 : StrsAt w a0 n0 s0) (r1 : StrsAt w a1 n1 s1) (r2 : StrsAt w a2 n2 s2)
    (p0 : n0 = m0 → PairIn w a0 b0 n0 c0 s0 x0) (p1 : n1 = m1 → PairIn w a1 b1 n1 c1 s1 x1) (p2 : n2 = m2 → PairIn w a2 b2 n2 c2 s2 x2) :
    Calls Try.prog 3 #[.slice a0 n0 c0, .slice b0 m0 d0, .slice a1 n1 c1, .slice b1 m1 d1, .slice a2 n2 c2, .slice b2 m2 d2] w fun e w' => e = .returned (.bool true) ∧ Below w.heap.size w w' := by
  go_enter Try.func3, Try.ntmps3
  go_wp2_with fail
  refine (zzbytes_any a0 a1 a2 b0 b1 b2 n0 n1 n2 m0 m1 m2 c0 c1 c2 d0 d1 d2 s0 s1 s2 w h0 h1 h2 g0 g1 g2 r0 r1 r2).mono ?_
  rintro e W ⟨⟨r, rfl⟩, rfl⟩
  cases r
  case false => go_wp2_with fail; go_ret; exact ⟨rfl, Below.refl _ _⟩
  unfold maxLen at h0 h1 h2 g0 g1 g2
  by_cases k0 : n0 ≤ 4096
  case neg => go_wp2_with fail; go_ret; exact ⟨rfl, Below.refl _ _⟩
  by_cases l0 : m0 ≤ 4096
  case neg => go_wp2_with fail; go_ret; exact ⟨rfl, Below.refl _ _⟩
  by_cases k1 : n1 ≤ 4096
  case neg => go_wp2_with fail; go_ret; exact ⟨rfl, Below.refl _ _⟩
  by_cases l1 : m1 ≤ 4096
  case neg => go_wp2_with fail; go_ret; exact ⟨rfl, Below.refl _ _⟩
  by_cases k2 : n2 ≤ 4096
  case neg => go_wp2_with fail; go_ret; exact ⟨rfl, Below.refl _ _⟩
  by_cases l2 : m2 ≤ 4096
  case neg => go_wp2_with fail; go_ret; exact ⟨rfl, Below.refl _ _⟩
  go_wp2_with fail
  refine (pairbytes_any a0 b0 n0 m0 c0 d0 s0 _ k0 l0 r0).mono ?_
  rintro e W' ⟨⟨y0, rfl⟩, rfl⟩
  go_wp2_with fail
  refine (pairbytes_any a1 b1 n1 m1 c1 d1 s1 _ k1 l1 r1).mono ?_
  rintro e W' ⟨⟨y1, rfl⟩, rfl⟩
  go_wp2_with fail
  refine (pairbytes_any a2 b2 n2 m2 c2 d2 s2 _ k2 l2 r2).mono ?_
  rintro e W0 ⟨⟨y2, rfl⟩, rfl⟩
  clear r0 r1 r2
  by_cases e0 : n0 = m0
  case neg =>
    have e0' : ((n0 : Int) != (m0 : Int)) = true := by simp; omega
    go_wp2_with fail
    all_goals (go_ret; exact ⟨rfl, Below.refl _ _⟩)
  have e0' : ((n0 : Int) != (m0 : Int)) = false := by simp; omega
  by_cases e1 : n1 = m1
  case neg =>
    have e1' : ((n1 : Int) != (m1 : Int)) = true := by simp; omega
    clear e0
    go_wp2_with fail
    all_goals (go_ret; exact ⟨rfl, Below.refl _ _⟩)
  have e1' : ((n1 : Int) != (m1 : Int)) = false := by simp; omega
  by_cases e2 : n2 = m2
  case neg =>
    have e2' : ((n2 : Int) != (m2 : Int)) = true := by simp; omega
    clear e0 e1
    go_wp2_with fail
    all_goals (go_ret; exact ⟨rfl, Below.refl _ _⟩)
  have e2' : ((n2 : Int) != (m2 : Int)) = false := by simp; omega
  have P0 := p0 e0
  have P1 := p1 e1
  have P2 := p2 e2
  clear p0 p1 p2 e0' e1' e2'
  subst e0 e1 e2
  go_wp2_with fail
  · go_ret; exact ⟨rfl, Below.refl _ _⟩
  refine (build_any a0 b0 n0 c0 d0 s0 x0 _ k0 P0).mono ?_
  rintro e W1 ⟨va, Da, rfl, ma, q1⟩
  go_wp2_with fail
  refine (build_any a1 b1 n1 c1 d1 s1 x1 _ k1 (P1.later q1)).mono ?_
  rintro e W2 ⟨vb, Db, rfl, mb, q2⟩
  have t2 := q1.trans (q2.mono q1.size)
  go_wp2_with fail
  refine (build_any a2 b2 n2 c2 d2 s2 x2 _ k2 (P2.later t2)).mono ?_
  rintro e W3 ⟨vc, Dc, rfl, mc, q3⟩
  have t3 := t2.trans (q3.mono t2.size)
  have ma3 := (ma.later q2).later q3
  have mb3 := mb.later q3
  clear P0 P1 P2 q1 q2 q3 t2 ma mb
  go_wp2_with fail
  refine (zzcovers_any va va Da Da _ ma3 ma3).mono ?_
  rintro e W4 ⟨⟨rfl, _⟩ | ⟨rfl, hn⟩, q4⟩
  case inr => exact absurd (Cov.refl Da) hn
  have t4 := t3.trans (q4.mono t3.size)
  have ma4 := ma3.later q4
  have mb4 := mb3.later q4
  have mc4 := mc.later q4
  clear ma3 mb3 mc t3 q4
  go_wp2_with fail
  refine (zzcovers_any vb vb Db Db _ mb4 mb4).mono ?_
  rintro e W5 ⟨⟨rfl, _⟩ | ⟨rfl, hn⟩, q5⟩
  case inr => exact absurd (Cov.refl Db) hn
  have t5 := t4.trans (q5.mono t4.size)
  have ma5 := ma4.later q5
  have mb5 := mb4.later q5
  have mc5 := mc4.later q5
  clear ma4 mb4 mc4 t4 q5
  go_wp2_with fail
  refine (zzcovers_any vc vc Dc Dc _ mc5 mc5).mono ?_
  rintro e W6 ⟨⟨rfl, _⟩ | ⟨rfl, hn⟩, q6⟩
  case inr => exact absurd (Cov.refl Dc) hn
  have t6 := t5.trans (q6.mono t5.size)
  have ma6 := ma5.later q6
  have mb6 := mb5.later q6
  have mc6 := mc5.later q6
  clear ma5 mb5 mc5 t5 q6
  go_wp2_with fail
  refine (zzcovers_any va vb Da Db _ ma6 mb6).mono ?_
  rintro e W7 ⟨hab, q7⟩
  have t7 := t6.trans (q7.mono t6.size)
  have ma7 := ma6.later q7
  have mb7 := mb6.later q7
  have mc7 := mc6.later q7
  clear ma6 mb6 mc6 t6 q7
  rcases hab with ⟨rfl, hab⟩ | ⟨rfl, hab⟩
  all_goals
    go_wp2_with fail
    refine (zzcovers_any vb vc Db Dc _ mb7 mc7).mono ?_
    rintro e W8 ⟨hbc, q8⟩
    have t8 := t7.trans (q8.mono t7.size)
    have ma8 := ma7.later q8
    have mc8 := mc7.later q8
    clear ma7 mb7 mc7 t7 q8
    rcases hbc with ⟨rfl, hbc⟩ | ⟨rfl, hbc⟩
    all_goals
      go_wp2_with fail
      refine (zzcovers_any va vc Da Dc _ ma8 mc8).mono ?_
      rintro e W9 ⟨hac, q9⟩
      have t9 := t8.trans (q9.mono t8.size)
      clear ma8 mc8 t8 q9
      rcases hac with ⟨rfl, hac⟩ | ⟨rfl, hac⟩
      all_goals first
        | exact absurd (Cov.trans hab hbc) hac
        | (go_wp2_with fail
           go_ret
           exact ⟨rfl, t9⟩)

end Go.Proofs.Qxb6603464a
