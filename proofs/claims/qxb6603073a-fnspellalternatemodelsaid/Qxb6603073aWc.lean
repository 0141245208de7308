import Derived.Test.Qxb6603073aWa
import Derived.Test.Qxb6603073aPlain
import Derived.Test.Qxb6603073aShelf
namespace Go.Proofs.Qxb6603073a
open Go.RowKit

theorem Try.eqnil26 : ∀ (w : World) (a : Option Addr) (n c n' c' : Nat), (binOp .eql 26 (.slice a n c) (.slice none n' c')).run Try.prog w = .ok (.bool a.isNone) w :=
  fun w a n c n' c' => Lib.run_eql_slice_nil w _ _ a n c n' c' Try.underlying26

/-- A slice of strings, nil just where it has none. -/
def RowOf (w : World) (v : Value) (ss : List Byts) : Prop := ∃ a c, v = .slice a ss.length c ∧ StrsAt w a ss.length ss ∧ a.isNone = ss.isEmpty

theorem RowOf.later {w w' : World} {v : Value} {ss : List Byts} (h : RowOf w v ss) (hb : Below w.heap.size w w') : RowOf w' v ss := by
  obtain ⟨a, c, hv, hs, hn⟩ := h
  exact ⟨a, c, hv, hs.later hb, hn⟩

theorem RowOf.nil (w : World) : RowOf w (.slice none 0 0) [] := ⟨none, 0, rfl, ⟨rfl, fun i hi => by simp at hi⟩, rfl⟩

set_option maxHeartbeats 800000 in
/-- sameStrings of two rows of the same strings. -/
theorem same_any (va vb : Value) (ss : List Byts) (w : World) (hl : ss.length ≤ 64) (ha : RowOf w va ss) (hb : RowOf w vb ss) :
    Calls Try.prog 11 #[va, vb] w fun e w' => e = .returned (.bool true) ∧ Below w.heap.size w w' := by
  obtain ⟨a, c, rfl, sa, na⟩ := ha
  obtain ⟨a', c', rfl, sb, nb⟩ := hb
  have hnn : a'.isNone = a.isNone := by rw [na, nb]
  have e1 := Try.eqnil26 w a ss.length c 0 0
  have e2 := Try.eqnil26 w a' ss.length c' 0 0
  rw [hnn] at e2
  clear na nb
  generalize hq : a.isNone = q at e1 e2
  clear hq hnn
  have hSa : Hid (StrsAt w a ss.length ss) := sa
  have hSb : Hid (StrsAt w a' ss.length ss) := sb
  clear sa sb
  generalize hn : ss.length = n at *
  go_enter Try.func11, Try.ntmps11
  go_wp2
  go_loopw [20] (fun i wr => ∃ (k q : Nat), k ≤ n ∧ i = .int .i64 k ∧ wr = w.drewN q) (fun i _ => n - (intOf i).toNat)
  case atStart => exact ⟨0, 0, Nat.zero_le _, rfl, rfl⟩
  case round =>
    obtain ⟨k, q, hk, rfl, rfl⟩ := hrel
    by_cases hlt : k < n
    case pos =>
      obtain ⟨b, off, ha, hb, hc⟩ := StrsAt.cell hSa k hlt
      obtain ⟨b', off', ha', hb', hc'⟩ := StrsAt.cell hSb k hlt
      subst ha ha'
      generalize (⟨(ss.getD k []).toArray⟩ : ByteArray) = s at hc hc'
      have hlt' : (k : Int) < n := by omega
      go_wp2
      go_quiet (fail)
      go_wp2
      go_roundw
      case rel => exact ⟨k + 1, _, by omega, by go_num, rfl⟩
      case measure => simp [intOf]; omega
    go_wp2
    go_ret
    exact ⟨rfl, below_drewN (Below.refl _ _) _⟩

set_option maxHeartbeats 400000 in
theorem hasempty_any (a : Option Addr) (n c : Nat) (ss : List Byts) (w : World) (hn : n ≤ maxLen) (hs : StrsAt w a n ss) :
    Calls Try.prog 17 #[.slice a n c] w fun e w' => e = .returned (.bool (decide ([] ∈ ss))) ∧ w' = w := by
  unfold maxLen at hn
  have hSa : Hid (StrsAt w a n ss) := hs
  have hlen := hs.1
  clear hs
  go_enter Try.func17, Try.ntmps17
  go_wp2
  go_loop [7] (fun i => ∃ (k : Nat), k ≤ n ∧ i = .int .i64 k ∧ ∀ j, j < k → ss.getD j [] ≠ []) (fun i => n - (intOf i).toNat)
  case atStart => exact ⟨0, Nat.zero_le _, rfl, fun j hj => by omega⟩
  case round =>
    obtain ⟨k, hk, rfl, hbef⟩ := hrel
    have Hbef : Hid (∀ j, j < k → ss.getD j [] ≠ []) := hbef
    clear hbef
    by_cases hlt : k < n
    case pos =>
      obtain ⟨b, off, ha, hb, hc⟩ := StrsAt.cell hSa k hlt
      subst ha
      generalize hg : ss.getD k [] = s at hc
      have Hg : Hid (ss.getD k [] = s) := hg
      clear hg
      have hlt' : (k : Int) < n := by omega
      cases s with
      | nil =>
        go_wp2
        go_ret
        have : [] ∈ ss := List.mem_iff_getElem.2 ⟨k, by omega, by rw [← getD_eq]; exact Hg⟩
        exact ⟨by simp [this], rfl⟩
      | cons x t =>
        go_wp2
        go_round
        case rel => exact ⟨k + 1, by omega, by go_num, fun j hj => by
          by_cases h : j < k
          · exact Hbef j h
          · have : j = k := by omega
            subst this
            rw [show ss.getD j [] = x :: t from Hg]; simp⟩
        case measure => simp [intOf]; omega
    have hkn : k = n := by omega
    go_wp2
    go_ret
    have : [] ∉ ss := fun hm => by
      obtain ⟨j, hj, e⟩ := List.mem_iff_getElem.1 hm
      rw [← getD_eq hj] at e
      exact Hbef j (by omega) e
    exact ⟨by simp [this], rfl⟩

theorem maxbound_any (x y : Int) (w : World) : Calls Try.prog 19 #[.int .i64 x, .int .i64 y] w fun e w' => e = .returned (.int .i64 (mb x y)) ∧ w' = w := by
  go_enter Try.func19, Try.ntmps19
  by_cases h1 : x < 0
  · go_wp2
    go_ret
    exact ⟨by simp [mb, h1], rfl⟩
  by_cases h2 : y < 0
  · go_wp2
    go_ret
    exact ⟨by simp [mb, h2], rfl⟩
  go_wp2
  go_ret
  refine ⟨?_, rfl⟩
  rw [mb, if_neg (by omega)]
  rfl

theorem contains_any (a : Option Addr) (n c : Nat) (ss : List Byts) (w : World) (hn : n ≤ maxLen) (hs : StrsAt w a n ss) :
    Calls Try.prog 26 #[.slice a n c, .string ⟨#[]⟩] w fun e w' => e = .returned (.bool (decide ([] ∈ ss))) ∧ w' = w := by
  unfold maxLen at hn
  by_cases h0 : n = 0
  · subst h0
    have : ss = [] := List.length_eq_zero_iff.1 hs.1
    subst this
    refine (Try.slices_Contains_string_empty a c ⟨#[]⟩ w).mono ?_
    rintro e w' ⟨rfl, rfl⟩
    exact ⟨by simp, rfl⟩
  · obtain ⟨b, off, rfl, hb, _⟩ := hs.2 0 (by omega)
    refine (Try.slices_Contains_string b off n c (ss.map fun l => ⟨l.toArray⟩) ⟨#[]⟩ w (by simp [hs.1]) (by omega) (fun j hj => ?_)).mono ?_
    · simp only [List.length_map] at hj
      obtain ⟨b', off', he, _, hc⟩ := hs.2 j (by have := hs.1; omega)
      simp only [Option.some.injEq, Addr.mk.injEq, and_true] at he
      obtain ⟨rfl, rfl⟩ := he
      rw [hc]
      simp [List.getD, List.getElem?_eq_getElem hj]
    · rintro e w' ⟨rfl, rfl⟩
      refine ⟨?_, rfl⟩
      have : Lib.containsS ((ss.map fun l => (⟨l.toArray⟩ : ByteArray)).take n) ⟨#[]⟩ = decide ([] ∈ ss) := by
        rw [Bool.eq_iff_iff, Lib.containsS_iff, decide_eq_true_eq, List.take_of_length_le (by simp [hs.1])]
        simp only [List.mem_map]
        constructor
        · rintro ⟨l, hl, e⟩
          have : l.toArray = #[] := by injection e
          have : l = [] := by simpa using this
          exact this ▸ hl
        · intro h; exact ⟨[], h, rfl⟩
      rw [this]

set_option maxHeartbeats 400000 in
theorem exactneedles_any (a : Option Addr) (n c : Nat) (ss : List Byts) (w : World) (hn : n ≤ maxLen) (hs : StrsAt w a n ss) :
    Calls Try.prog 23 #[.slice a n c, .int .i64 0] w fun e w' => e = .returned (.agg #[if [] ∈ ss then .slice none 0 0 else .slice a n c, .int .i64 0]) ∧ w' = w.alloc (.cells #[if [] ∈ ss then .slice none 0 0 else .slice a n c, .int .i64 0] 41) := by
  have hSa : Hid (StrsAt w a n ss) := hs
  have hlen := hs.1
  go_enter Try.func23, Try.ntmps23
  go_wp2_with fail
  refine (contains_any a n c ss _ hn (hs.later ((Below.refl _ _).alloc (Nat.le_refl _) _))).mono ?_
  rintro e W ⟨rfl, rfl⟩
  clear hs
  by_cases hm : [] ∈ ss
  · go_wp2_with fail
    exact bodyPost_ret (v := .agg #[.slice none 0 0, .int .i64 0]) (by simp [results, Try.results23, go_sem]) rfl ⟨rfl, rfl⟩
  · go_wp2_with fail
    exact bodyPost_ret (v := .agg #[.slice a n c, .int .i64 0]) (by simp [results, Try.results23, go_sem]) rfl ⟨rfl, rfl⟩

/-- What 'needles' answers. -/
def needVal (p : Part) : Value :=
  if p.ea.isSome then (if [] ∈ p.es then .agg #[.slice none 0 0, .int .i64 0] else .agg #[.slice p.ea p.en p.ec, .int .i64 0]) else .agg #[.slice p.na p.nn p.nc, .int .i64 p.ld]

set_option maxHeartbeats 400000 in
theorem needles_any (ea na : Option Addr) (en ec nn nc : Nat) (es ns : List Byts) (ld wd : Int) (w : World) (hn : en ≤ maxLen) (hs : StrsAt w ea en es) :
    Calls Try.prog 20 #[.agg #[.slice ea en ec, .slice na nn nc, .int .i64 ld, .int .i64 wd]] w fun e w' => e = .returned (needVal ⟨ea, en, ec, es, na, nn, nc, ns, ld, wd⟩) ∧ Below w.heap.size w w' := by
  have hSa : Hid (StrsAt w ea en es) := hs
  have e1 : ∀ W, (binOp .eql 26 (.slice ea en ec) (.slice none 0 0)).run Try.prog W = .ok (.bool ea.isNone) W := fun W => Try.eqnil26 W ea en ec 0 0
  clear hs
  unfold needVal
  cases ea with
  | none =>
    go_enter Try.func20, Try.ntmps20
    go_wp2_with fail
    exact bodyPost_ret (v := .agg #[.slice na nn nc, .int .i64 ld]) (by simp [results, Try.results20, go_sem]) rfl ⟨rfl, ((Below.refl _ _).alloc (Nat.le_refl _) _).alloc (by simp) _⟩
  | some ad =>
    go_enter Try.func20, Try.ntmps20
    go_wp2_with fail
    refine (exactneedles_any _ _ _ es _ hn (StrsAt.later hSa (((Below.refl _ _).alloc (Nat.le_refl _) _).alloc (by simp) _))).mono ?_
    rintro e W ⟨rfl, rfl⟩
    by_cases hm : [] ∈ es
    · simp only [if_pos hm]
      go_wp2_with fail
      exact bodyPost_ret (v := .agg #[.slice none 0 0, .int .i64 0]) (by simp [results, Try.results20, go_sem]) rfl ⟨rfl, (((Below.refl _ _).alloc (Nat.le_refl _) _).alloc (by simp) _).alloc (by simp; omega) _⟩
    · simp only [if_neg hm]
      go_wp2_with fail
      exact bodyPost_ret (v := .agg #[.slice (some ad) en ec, .int .i64 0]) (by simp [results, Try.results20, go_sem]) rfl ⟨rfl, (((Below.refl _ _).alloc (Nat.le_refl _) _).alloc (by simp) _).alloc (by simp; omega) _⟩

end Go.Proofs.Qxb6603073a
