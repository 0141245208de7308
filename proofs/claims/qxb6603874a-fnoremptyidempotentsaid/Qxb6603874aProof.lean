import Derived.Test.Qxb6603874aRows
import Derived.Test.Qxb6603874aWc
import Derived.WalkKit
import Derived.ProofKit
import Derived.OpenShut
import Derived.ShutString
import Derived.ChangeOld
import Derived.Below
namespace Go.Proofs.Qxb6603874a
open Go.ChangeShapes Go.WideShapes Go.ChangeAt Go.RowKit

theorem Try.own : ownKnob Try.prog.godebug = none := by kernel_rfl
theorem Try.laidOut : laidOutB Try.prog = true := by kernel_rfl

set_option maxHeartbeats 400000 in
theorem clone_nil (w : World) : Calls Try.prog 6 #[.slice none 0 0] w fun e w' => e = .returned (.slice none 0 0) ∧ w' = w := by
  have q22 := Try.eqnil22
  go_enter Try.func6, Try.ntmps6
  go_wp2
  go_ret
  exact ⟨rfl, rfl⟩

set_option maxHeartbeats 400000 in
theorem clone_empty (a : Addr) (cap : Nat) (w : World) : Calls Try.prog 6 #[.slice (some a) 0 cap] w fun e w' => e = .returned (.slice (some ⟨w.heap.size, 0, none⟩) 0 0) ∧ w' = w.alloc (.cells #[] 9) := by
  have q22 := Try.eqnil22
  have hmk : Sem.run Try.prog (Instr.makeSlice 22 (.int .i64 0) (.int .i64 0)) w = .ok (.slice (some ⟨w.heap.size, 0, none⟩) 0 0) (w.alloc (.cells #[] 9)) := make22 w [] 0 (by omega)
  go_enter Try.func6, Try.ntmps6
  go_wp2
  refine wp_loop_rounds 1 ?_; rw [rounds_succ]
  go_wp2
  go_ret
  exact ⟨rfl, rfl⟩

/-- Three kinds of clone: nil, empty, some strings. -/
theorem clone_all (a : Option Addr) (len cap : Nat) (ss : List ByteArray) (w : World) (hnil : a = none → len = 0 ∧ cap = 0) (hs : StrsAt w a len ss) (hlen : len ≤ 65536) :
    Calls Try.prog 6 #[.slice a len cap] w fun e w' => (a = none ∧ e = .returned (.slice none 0 0) ∧ w' = w) ∨
      (a ≠ none ∧ e = .returned (.slice (some ⟨w.heap.size, 0, none⟩) len len) ∧ w' = w.alloc (.cells (strVals ss).toArray 9)) := by
  rcases hs.cases with ⟨rfl, rfl⟩ | ⟨b, off, rfl, hb, hpos, hl, hcell⟩
  · cases a with
    | none =>
      obtain ⟨_, rfl⟩ := hnil rfl
      exact (clone_nil w).mono fun e w' ⟨he, hw⟩ => .inl ⟨rfl, he, hw⟩
    | some x => exact (clone_empty x cap w).mono fun e w' ⟨he, hw⟩ => .inr ⟨by simp, he, hw⟩
  · exact (clone_any b off len cap ss w (by omega) hb hl hcell).mono fun e w' ⟨he, hw⟩ => .inr ⟨by simp, he, hw⟩

/-- The list of the call's own that lies at the heap's end. -/
theorem own_cell (w : World) (ss : List ByteArray) (i : Nat) (hi : i < ss.length) : (w.alloc (.cells (strVals ss).toArray 9)).cell? ⟨w.heap.size, i, none⟩ = some (.string (ss.getD i ByteArray.empty)) := by
  simp [strVals, hi]

set_option maxHeartbeats 400000 in
theorem walk (a : Option Addr) (len cap : Nat) (ss : List ByteArray) (w : World) (hlen : len ≤ maxLen) (hnil : a = none → len = 0 ∧ cap = 0) (hs : StrsAt w a len ss) :
    Calls Try.prog 3 #[.slice a len cap] w fun e w' => e = .returned (.bool true) ∧ Below w.heap.size w w' := by
  go_enter Try.func3, Try.ntmps3
  go_wp2_with fail
  refine (zzbytes_any a len cap ss w hlen hs).mono ?_
  rintro e w' ⟨⟨r, rfl⟩, rfl⟩
  cases r with
  | false =>
    go_wp2_with fail
    go_ret
    exact ⟨rfl, Below.refl _ _⟩
  | true =>
    go_wp2_with fail
    refine (toobig_any a len cap ss _ hlen hs).mono ?_
    rintro e w' ⟨rfl | ⟨rfl, hsm⟩, rfl⟩
    · go_wp2_with fail
      go_ret
      exact ⟨rfl, Below.refl _ _⟩
    · have hl := hs.1
      go_wp2_with fail
      refine (clone_all a len cap ss _ hnil hs hsm.1).mono ?_
      rintro e w' (⟨hn, rfl, rfl⟩ | ⟨hn, rfl, rfl⟩)
      · go_wp2_with fail
        refine (orempty_nil _).mono ?_
        rintro e w' ⟨rfl, rfl⟩
        go_wp2_with fail
        refine (orempty_some _ _ _ _).mono ?_
        rintro e w' ⟨rfl, rfl⟩
        go_wp2_with fail
        refine (same_any _ 0 [] _ (by omega) rfl (by omega)).mono ?_
        rintro e w' ⟨rfl, q, rfl⟩
        go_wp2_with fail
        refine (writes_none _ _).mono ?_
        rintro e w' ⟨rfl, rfl⟩
        go_wp2_with fail
        go_ret
        exact ⟨rfl, below_drewN ((Below.refl _ _).alloc (Nat.le_refl _) _) _⟩
      · go_wp2_with fail
        refine (orempty_some _ _ _ _).mono ?_
        rintro e w' ⟨rfl, rfl⟩
        go_wp2_with fail
        refine (orempty_some _ _ _ _).mono ?_
        rintro e w' ⟨rfl, rfl⟩
        go_wp2_with fail
        refine (same_any _ len ss _ (by have := hsm.1; omega) hl (fun i hi => own_cell _ ss i (by omega))).mono ?_
        rintro e w' ⟨rfl, q, rfl⟩
        by_cases h0 : len = 0
        · subst h0
          go_wp2_with fail
          refine (writes_none _ _).mono ?_
          rintro e w' ⟨rfl, rfl⟩
          go_wp2_with fail
          go_ret
          exact ⟨rfl, below_drewN ((Below.refl _ _).alloc (Nat.le_refl _) _) _⟩
        · go_wp2_with fail
          refine (writes_some _ len (ss.getD 0 ByteArray.empty) _ (by omega) (hsm.2 0 (by omega)) ?c1 ?c2).mono ?_
          case c1 => have := own_cell ‹World› ss 0 (by omega); simpa using this
          case c2 => simp
          rintro e w' ⟨rfl, v, rfl⟩
          go_wp2_with fail
          go_ret
          exact ⟨rfl, (below_drewN ((Below.refl _ _).alloc (Nat.le_refl _) _) _).setCell (Nat.le_refl _) _⟩

/-- A slice of strings that came in, opened. -/
theorem open_strs {H : Type} {enc : TypeId × Value → H} {W : World} {a : Option Addr} {len cap : Nat} {d : DataW H} {p : List MemPlace}
    (h : DataW.Trod enc Try.prog W 0 (fun _ => true) true 22 (.slice a len cap) d p) : ∃ ss, len ≤ maxLen ∧ (a = none → len = 0 ∧ cap = 0) ∧ StrsAt W a len ss := by
  have lt0 : ∀ x ∈ p, x.block < W.heap.size := by obtain ⟨m, hm⟩ := h; exact DataW.trod_lt m _ _ _ hm
  obtain ⟨fuel, hf⟩ := h
  rcases open_strings Try.underlying22 Try.underlying9 (by kernel_rfl) hf with ⟨hcs, _⟩ | ⟨x, l, c, zs, hcs, _, hl, hm, hz, hx, hcell, hwz⟩
  · simp [Value.cells] at hcs
    obtain ⟨rfl, rfl, rfl⟩ := hcs
    exact ⟨[], by omega, fun _ => ⟨rfl, rfl⟩, rfl, by omega⟩
  · simp [Value.cells] at hcs
    obtain ⟨rfl, rfl, rfl⟩ := hcs
    simp at hz
    refine ⟨zs.take len, by omega, fun h => by simp at h, by simp; omega, fun i hi => ?_⟩
    obtain ⟨b, off, spot⟩ := x
    have hspot : spot = none := by simpa [Addr.add] using World.cell?_spot (hcell 0 (by omega))
    subst hspot
    have hc : W.cell? ⟨b, off + i, none⟩ = some (.string (zs.getD i ByteArray.empty)) := by
      have := hcell i (by omega)
      by_cases hi0 : i = 0
      · subst hi0; simpa [Addr.add] using this
      · simpa [Addr.add, hi0] using this
    refine ⟨b, off, rfl, block_lt_of_cell hc, ?_⟩
    have : (zs.take len).getD i ByteArray.empty = zs.getD i ByteArray.empty := by simp [List.getD, hi]
    rw [this]
    exact hc

/-! ### THE ROW's STEP -/
set_option maxRecDepth 100000 in
theorem lifted (os : Os) (started : os.Started) (H : Type) (enc : TypeId × Value → H) :
    ReturnsInHanded {} Try.checked os 3 .any (Rows.fnOrEmptyIdempotentSpec.pre6 enc Try.prog Try.f3 Rows.fnOrEmptyIdempotentRow.domain false) (Rows.fnOrEmptyIdempotentSpec.post enc Try.prog Try.f3 false true false false) := by
  refine returnsInHanded_of_change (C := Try.checked) Try.own started (by kernel_rfl) Try.func3
    (ChangeSpec.witness6 (enc := enc) (C := Try.checked) false ⟨#[], #[.slice none 0 0], []⟩ 8 (by kernel_rfl) (by kernel_rfl) (by kernel_rfl) (by kernel_rfl)) ?_
  intro W base args ds gs before hval0 hW hcnd _
  have hval : ∀ (j : Nat) t v, Try.f3.params[j]? = some t → args[j]? = some v → Value.okWide Try.prog W .any base t v := hval0
  have hW' := hW
  obtain ⟨p, q, hA0, hV, rfl, hfz, hnd⟩ := hW
  have hA : DataW.TrodAll enc Try.prog W 0 (fun _ => true) true Try.f3.params.toList args.toList ds p := hA0
  rw [Try.params3] at hA hval
  obtain ⟨v0, vs0, d0, ds0, p0, q0, hargs, rfl, rfl, h0, r0⟩ := trodAll_cons hA
  obtain ⟨rfl, rfl, rfl⟩ := trodAll_nil r0
  obtain rfl : args = #[v0] := by cases args; simp_all
  obtain ⟨rfl, rfl⟩ := trodVars_none hV
  obtain ⟨a0, len0, cap0, rfl⟩ := okWide_slice Try.underlying22 (hval 0 22 v0 rfl rfl)
  have k0 := h0
  have lt0 : ∀ x ∈ p0, x.block < W.heap.size := by obtain ⟨m, hm⟩ := k0; exact DataW.trod_lt m _ _ _ hm
  obtain ⟨s0, l0, n0, w0⟩ := open_strs h0
  clear hA0 hval0
  refine (walk a0 len0 cap0 s0 W l0 n0 w0).mono fun e W' ⟨he, bel⟩ => ?_
  subst he
  exact ⟨_, rfl, _, _, _, [], _, [], hW', trodAll_mk1 (shut_bool Try.underlying4 _), (trodAll_cons_mk (Below.trod Try.laidOut (by kernel_rfl) (of_decide_eq_true (by kernel_rfl)) k0 bel lt0) trodAll_mk0), rfl, bel.frame _, fun h => by cases h⟩

theorem over : Rows.fnOrEmptyIdempotentRow.holds Try.pinned (OpenSpec.ofChange Rows.fnOrEmptyIdempotentSpec) :=
  OpenClaim.holds_of_wide 3 Try.f3 rfl rfl rfl rfl rfl rfl rfl ⟨rfl, rfl, rfl, rfl, rfl⟩ rfl rfl rfl rfl rfl (by kernel_rfl) Try.func3 (by kernel_rfl)
    (of_decide_eq_true (by kernel_rfl)) (by unfold Func.isWrapper; first | (rw [if_pos (by decide +kernel)]; kernel_rfl) | (rw [if_neg (by decide +kernel)]; exact ⟨rfl, rfl⟩))
    (fun os started H enc _ => lifted os started H enc)

/-- THE STATEMENT -/
theorem fnOrEmptyIdempotent_proved : Rows.FnOrEmptyIdempotentSaid := over
end Go.Proofs.Qxb6603874a
