import Derived.Test.Qxb6603385aWb
import Derived.Test.Qxb6603385aWc
import Derived.Test.Qxb6603385aWe
namespace Go.Proofs.Qxb6603385a
open Go.RowKit

theorem StrsAt.later {w w' : World} {a : Option Addr} {n : Nat} {ss : List ByteArray} (h : StrsAt w a n ss) (hb : Below w.heap.size w w') : StrsAt w' a n ss := by
  refine ⟨h.1, fun i hi => ?_⟩
  obtain ⟨b, off, rfl, hlt, hc⟩ := h.2 i hi
  exact ⟨b, off, rfl, Nat.lt_of_lt_of_le hlt hb.size, (hb.cell hlt).trans hc⟩

/-- A clone, of whatever kind. -/
theorem clone_uni (a : Option Addr) (n cap : Nat) (ss : List ByteArray) (w : World) (hnil : a = none → n = 0 ∧ cap = 0) (hs : StrsAt w a n ss) (hn : n ≤ 65536) :
    Calls Try.prog 10 #[.slice a n cap] w fun e w' => ∃ a' cap', e = .returned (.slice a' n cap') ∧ StrsAt w' a' n ss ∧ Below w.heap.size w w' := by
  refine (clone_all a n cap ss w hnil hs hn).mono ?_
  rintro e w' (⟨hn', rfl, rfl⟩ | ⟨hn', rfl, rfl⟩)
  · obtain ⟨rfl, rfl⟩ := hnil hn'
    exact ⟨_, _, rfl, ⟨hs.1, by omega⟩, Below.refl _ _⟩
  · refine ⟨_, _, rfl, ⟨hs.1, fun i hi => ⟨_, 0, rfl, by simp, ?_⟩⟩, (Below.refl _ _).alloc (Nat.le_refl _) _⟩
    rw [Nat.zero_add]
    exact own_cell _ ss i (by rw [hs.1]; exact hi)

theorem table_at {s0 s1 s2 s3 : List ByteArray} {n t : Nat} (h : t < n) : (table s0 s1 s2 s3 n).getD t noEnt = ⟨s0.getD t ByteArray.empty, s1.getD t ByteArray.empty, s2.getD t ByteArray.empty, s3.getD t ByteArray.empty⟩ := by
  simp [table, h]

def exactAt (s0 s1 : List ByteArray) (p v : ByteArray) (t : Nat) : Bool := ((s0.getD t ByteArray.empty).toList == p.toList) && ((s1.getD t ByteArray.empty).toList == v.toList)
def wildAt (s0 s1 : List ByteArray) (p : ByteArray) (t : Nat) : Bool := ((s0.getD t ByteArray.empty).toList == p.toList) && (s1.getD t ByteArray.empty).toList.isEmpty

theorem exactAt_eq {s0 s1 : List ByteArray} {p v x0 x1 : ByteArray} {m : Nat} (h0 : s0.getD m ByteArray.empty = x0) (h1 : s1.getD m ByteArray.empty = x1) : exactAt s0 s1 p v m = ((x0.toList == p.toList) && (x1.toList == v.toList)) := by rw [exactAt, h0, h1]
theorem wildAt_eq {s0 s1 : List ByteArray} {p x0 x1 : ByteArray} {m : Nat} (h0 : s0.getD m ByteArray.empty = x0) (h1 : s1.getD m ByteArray.empty = x1) : wildAt s0 s1 p m = ((x0.toList == p.toList) && x1.toList.isEmpty) := by rw [wildAt, h0, h1]
theorem of_not_true {b : Bool} (h : (!b) = true) : b = false := by cases b <;> simp_all
theorem of_not_false {b : Bool} (h : (!b) = false) : b = true := by cases b <;> simp_all

theorem isExact_table {s0 s1 s2 s3 : List ByteArray} {p v : ByteArray} {n t : Nat} (h : t < n) : isExact p v ((table s0 s1 s2 s3 n).getD t noEnt) = exactAt s0 s1 p v t := by rw [table_at h]; rfl
theorem isWild_table {s0 s1 s2 s3 : List ByteArray} {p : ByteArray} {n t : Nat} (h : t < n) : isWild p ((table s0 s1 s2 s3 n).getD t noEnt) = wildAt s0 s1 p t := by rw [table_at h]; rfl

theorem repl_of_exact {s0 s1 s2 s3 : List ByteArray} {p v : ByteArray} {n m : Nat} (hm : m < n) (hf : exactAt s0 s1 p v m = true) (hx : ∀ t, 0 ≤ t → t < m → exactAt s0 s1 p v t = false) :
    repl (table s0 s1 s2 s3 n) p v = (s2.getD m ByteArray.empty, s3.getD m ByteArray.empty) := by
  rw [repl_exact (k := m) (by rw [table_length]; exact hm) (fun j hj => by rw [isExact_table (by omega)]; exact hx j (by omega) hj) (by rw [isExact_table hm]; exact hf), table_at hm]

theorem repl_of_wild {s0 s1 s2 s3 : List ByteArray} {p v : ByteArray} {n m : Nat} (hx : ∀ t, 0 ≤ t → t < n → exactAt s0 s1 p v t = false) (hm : m < n) (hf : wildAt s0 s1 p m = true) (hy : ∀ t, 0 ≤ t → t < m → wildAt s0 s1 p t = false) :
    repl (table s0 s1 s2 s3 n) p v = (s2.getD m ByteArray.empty, s3.getD m ByteArray.empty) := by
  rw [repl_wild (k := m) (by rw [table_length]; exact hm) (fun j hj => by rw [table_length] at hj; rw [isExact_table hj]; exact hx j (by omega) hj) (fun j hj => by rw [isWild_table (by omega)]; exact hy j (by omega) hj) (by rw [isWild_table hm]; exact hf), table_at hm]

theorem repl_of_none {s0 s1 s2 s3 : List ByteArray} {p v : ByteArray} {n : Nat} (hx : ∀ t, 0 ≤ t → t < n → exactAt s0 s1 p v t = false) (hy : ∀ t, 0 ≤ t → t < n → wildAt s0 s1 p t = false) :
    repl (table s0 s1 s2 s3 n) p v = (p, v) :=
  repl_self (fun j hj => by rw [table_length] at hj; rw [isExact_table hj]; exact hx j (by omega) hj) (fun j hj => by rw [table_length] at hj; rw [isWild_table hj]; exact hy j (by omega) hj)

set_option maxHeartbeats 1000000 in
theorem law3 (a0 a1 a2 a3 : Option Addr) (n n1 n2 n3 c0 c1 c2 c3 : Nat) (s0 s1 s2 s3 : List ByteArray) (p v : ByteArray) (w : World) (h0 : n ≤ maxLen) (h1 : n1 ≤ maxLen) (h2 : n2 ≤ maxLen) (h3 : n3 ≤ maxLen) (hp : p.size ≤ maxLen) (hv : v.size ≤ maxLen)
    (l0 : a0 = none → n = 0 ∧ c0 = 0) (l1 : a1 = none → n1 = 0 ∧ c1 = 0) (l2 : a2 = none → n2 = 0 ∧ c2 = 0) (l3 : a3 = none → n3 = 0 ∧ c3 = 0)
    (r0 : StrsAt w a0 n s0) (r1 : StrsAt w a1 n1 s1) (r2 : StrsAt w a2 n2 s2) (r3 : StrsAt w a3 n3 s3) :
    Calls Try.prog 3 #[.slice a0 n c0, .slice a1 n1 c1, .slice a2 n2 c2, .slice a3 n3 c3, .string p, .string v] w fun e w' => e = .returned (.bool true) ∧ Below w.heap.size w w' := by
  go_enter Try.func3, Try.ntmps3
  go_wp2_with fail
  refine (zzbytes8_any a0 a1 a2 a3 n n1 n2 n3 c0 c1 c2 c3 s0 s1 s2 s3 p v w h0 h1 h2 h3 hp hv r0 r1 r2 r3).mono ?_
  rintro e w' ⟨⟨r, rfl⟩, rfl⟩
  cases r
  case false => go_wp2_with fail; go_ret; exact ⟨rfl, Below.refl _ _⟩
  go_wp2_with fail
  refine (fits_any a0 a1 a2 a3 n n1 n2 n3 c0 c1 c2 c3 s0 s1 s2 s3 p v _ h0 h1 h2 h3 hp hv r0 r1 r2 r3).mono ?_
  rintro e W ⟨rfl | ⟨rfl, hn, e1, e2, e3⟩, rfl⟩
  · go_wp2_with fail; go_ret; exact ⟨rfl, Below.refl _ _⟩
  have f1 := e1.symm
  have f2 := e2.symm
  have f3 := e3.symm
  clear e1 e2 e3
  subst f1
  subst f2
  subst f3
  clear h1 h2 h3 h0
  go_wp2_with fail
  refine (clone_uni a0 n c0 s0 _ l0 r0 hn).mono ?_
  rintro e W1 ⟨a0', c0', rfl, q0, b1⟩
  go_wp2_with fail
  refine (clone_uni a1 n c1 s1 _ l1 (r1.later b1) hn).mono ?_
  rintro e W2 ⟨a1', c1', rfl, q1, b2⟩
  have b2' : Below W.heap.size W W2 := b1.trans (b2.mono b1.size)
  go_wp2_with fail
  refine (clone_uni a2 n c2 s2 _ l2 (r2.later b2') hn).mono ?_
  rintro e W3 ⟨a2', c2', rfl, q2, b3⟩
  have b3' : Below W.heap.size W W3 := b2'.trans (b3.mono b2'.size)
  go_wp2_with fail
  refine (clone_uni a3 n c3 s3 _ l3 (r3.later b3') hn).mono ?_
  rintro e W4 ⟨a3', c3', rfl, q3, b4⟩
  have bel : Below W.heap.size W W4 := b3'.trans (b4.mono b3'.size)
  have t0 : StrsAt W4 a0' n s0 := ((q0.later b2).later b3).later b4
  have t1 : StrsAt W4 a1' n s1 := (q1.later b3).later b4
  have t2 : StrsAt W4 a2' n s2 := q2.later b4
  clear b1 b2 b3 b4 b2' b3' q0 q1 q2 r0 r1 r2 r3 l0 l1 l2 l3
  go_wp2_with fail
  go_loop [13, 14, 15] (fun ex wl i => ∃ (j : Nat) (x y : Int), j ≤ n ∧ i = .int .i64 ((j : Int) - 1) ∧ ex = .int .i64 x ∧ wl = .int .i64 y ∧ Scan (exactAt s0 s1 p v) n j x ∧ Scan (wildAt s0 s1 p) n j y) (fun _ _ i => (intOf i + 1).toNat)
  case atStart => exact ⟨n, -1, -1, Nat.le_refl _, rfl, rfl, rfl, Scan.start _ _, Scan.start _ _⟩
  case round =>
    obtain ⟨j, x, y, hj, rfl, rfl, rfl, sx, sy⟩ := hrel
    rcases j with _ | m
    case succ =>
      obtain ⟨b0, o0, rfl, hb0, hc0⟩ := t0.2 m (by omega)
      obtain ⟨b1, o1, rfl, hb1, hc1⟩ := t1.2 m (by omega)
      generalize hg0 : s0.getD m ByteArray.empty = x0 at hc0
      generalize hg1 : s1.getD m ByteArray.empty = x1 at hc1
      have Hg0 : Hid (s0.getD m ByteArray.empty = x0) := hg0
      have Hg1 : Hid (s1.getD m ByteArray.empty = x1) := hg1
      have Sx : Hid (Scan (exactAt s0 s1 p v) n (m + 1) x) := sx
      have Sy : Hid (Scan (wildAt s0 s1 p) n (m + 1) y) := sy
      have hmn : m < n := by omega
      clear sx sy hg0 hg1 t0 t1 t2 q3
      have em : ((m + 1 : Nat) : Int) - 1 = (m : Int) := by omega
      rw [em]
      clear em
      go_wp2
      · have k0 := of_not_true (b := x0.toList == p.toList) (by assumption)
        go_round
        case rel => exact ⟨m, x, y, by omega, rfl, rfl, rfl, Sx.out.miss (by rw [exactAt_eq Hg0.out Hg1.out, k0]; rfl), Sy.out.miss (by rw [wildAt_eq Hg0.out Hg1.out, k0]; rfl)⟩
        case measure => simp [intOf]
      · have k0 := of_not_false (b := x0.toList == p.toList) (by assumption)
        have k1 : (x1.toList == v.toList) = true := by assumption
        have k2 : x1.toList.isEmpty = true := by assumption
        go_round
        case rel => exact ⟨m, _, _, by omega, rfl, rfl, rfl, Scan.hit hmn (by rw [exactAt_eq Hg0.out Hg1.out, k0, k1]; rfl), Scan.hit hmn (by rw [wildAt_eq Hg0.out Hg1.out, k0, k2]; rfl)⟩
        case measure => simp [intOf]
      · have k0 := of_not_false (b := x0.toList == p.toList) (by assumption)
        have k1 : (x1.toList == v.toList) = true := by assumption
        have k2 : x1.toList.isEmpty = false := by assumption
        go_round
        case rel => exact ⟨m, _, _, by omega, rfl, rfl, rfl, Scan.hit hmn (by rw [exactAt_eq Hg0.out Hg1.out, k0, k1]; rfl), Sy.out.miss (by rw [wildAt_eq Hg0.out Hg1.out, k0, k2]; rfl)⟩
        case measure => simp [intOf]
      · have k0 := of_not_false (b := x0.toList == p.toList) (by assumption)
        have k1 : (x1.toList == v.toList) = false := by assumption
        have k2 : x1.toList.isEmpty = true := by assumption
        go_round
        case rel => exact ⟨m, _, _, by omega, rfl, rfl, rfl, Sx.out.miss (by rw [exactAt_eq Hg0.out Hg1.out, k0, k1]; rfl), Scan.hit hmn (by rw [wildAt_eq Hg0.out Hg1.out, k0, k2]; rfl)⟩
        case measure => simp [intOf]
      · have k0 := of_not_false (b := x0.toList == p.toList) (by assumption)
        have k1 : (x1.toList == v.toList) = false := by assumption
        have k2 : x1.toList.isEmpty = false := by assumption
        go_round
        case rel => exact ⟨m, _, _, by omega, rfl, rfl, rfl, Sx.out.miss (by rw [exactAt_eq Hg0.out Hg1.out, k0, k1]; rfl), Sy.out.miss (by rw [wildAt_eq Hg0.out Hg1.out, k0, k2]; rfl)⟩
        case measure => simp [intOf]
    rcases sx with ⟨rfl, hx⟩ | ⟨m, rfl, _, hm, hf, hx⟩
    case inr =>
      have Hr : Hid (repl (table s0 s1 s2 s3 n) p v = (s2.getD m ByteArray.empty, s3.getD m ByteArray.empty)) := repl_of_exact hm hf hx
      clear hf hx sy
      have hz := zzreplaced_any a0' a1' a2' a3' n c0' c1' c2' c3' s0 s1 s2 s3 p v W4 hn t0 t1 t2 q3
      rw [Hr.out] at hz
      obtain ⟨d2, o2, rfl, hd2, hc2⟩ := t2.2 m hm
      obtain ⟨d3, o3, rfl, hd3, hc3⟩ := q3.2 m hm
      generalize s2.getD m ByteArray.empty = x2 at hc2 hz
      generalize s3.getD m ByteArray.empty = x3 at hc3 hz
      clear t0 t1 t2 q3
      go_wp2_with fail
      refine hz.mono ?_
      clear hz hc2 hc3
      rintro e W5 ⟨rfl, hb5⟩
      go_wp2_with fail
      go_ret
      exact ⟨rfl, bel.trans (hb5.mono bel.size)⟩
    rcases sy with ⟨rfl, hy⟩ | ⟨m, rfl, _, hm, hf, hy⟩
    case inr =>
      have Hr : Hid (repl (table s0 s1 s2 s3 n) p v = (s2.getD m ByteArray.empty, s3.getD m ByteArray.empty)) := repl_of_wild hx hm hf hy
      clear hf hx hy
      have hz := zzreplaced_any a0' a1' a2' a3' n c0' c1' c2' c3' s0 s1 s2 s3 p v W4 hn t0 t1 t2 q3
      rw [Hr.out] at hz
      obtain ⟨d2, o2, rfl, hd2, hc2⟩ := t2.2 m hm
      obtain ⟨d3, o3, rfl, hd3, hc3⟩ := q3.2 m hm
      generalize s2.getD m ByteArray.empty = x2 at hc2 hz
      generalize s3.getD m ByteArray.empty = x3 at hc3 hz
      clear t0 t1 t2 q3
      go_wp2_with fail
      refine hz.mono ?_
      clear hz hc2 hc3
      rintro e W5 ⟨rfl, hb5⟩
      go_wp2_with fail
      go_ret
      exact ⟨rfl, bel.trans (hb5.mono bel.size)⟩
    have Hr : Hid (repl (table s0 s1 s2 s3 n) p v = (p, v)) := repl_of_none hx hy
    clear hx hy
    have hz := zzreplaced_any a0' a1' a2' a3' n c0' c1' c2' c3' s0 s1 s2 s3 p v W4 hn t0 t1 t2 q3
    rw [Hr.out] at hz
    clear t0 t1 t2 q3
    go_wp2_with fail
    refine hz.mono ?_
    clear hz
    rintro e W5 ⟨rfl, hb5⟩
    go_wp2_with fail
    go_ret
    exact ⟨rfl, bel.trans (hb5.mono bel.size)⟩

end Go.Proofs.Qxb6603385a
