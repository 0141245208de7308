import Derived.Test.Qxb6603073aRows
import Derived.Test.Qxb6603073aWk
import Derived.WalkKit
import Derived.ProofKit
import Derived.OpenShut
import Derived.ShutString
import Derived.ChangeOld
import Derived.Below
import Derived.Deep.Slices
namespace Go.Proofs.Qxb6603073a
open Go.ChangeShapes Go.WideShapes Go.ChangeAt Go.RowKit Go.Deep
open Go.ChangeMaps (open_string shut_string)

theorem Try.own : ownKnob Try.prog.godebug = none := by kernel_rfl
theorem Try.laidOut : laidOutB Try.prog = true := by kernel_rfl
theorem Try.cells31 : Try.prog.cellsOf 31 = 4 := by kernel_rfl
theorem Try.cells26 : Try.prog.cellsOf 26 = 1 := by kernel_rfl
theorem Try.cells3 : Try.prog.cellsOf 3 = 1 := by kernel_rfl

/-- A slice of strings that came in, opened. -/
theorem open_strs {H : Type} {enc : TypeId × Value → H} {W : World} {fuel : Nat} {v : Value} {x : DataW H × List MemPlace}
    (hf : DataW.trod enc Try.prog W 0 (fun _ => true) true fuel 26 [v] = some x) : ∃ a len cap ss, v = .slice a len cap ∧ len ≤ maxLen ∧ StrsAt W a len ss := by
  rcases open_strings Try.underlying26 Try.underlying9 (by kernel_rfl) hf with ⟨hcs, _⟩ | ⟨x, l, c, zs, hcs, _, hl, hm, hz, hx, hcell, hwz⟩
  · simp only [List.cons.injEq, and_true] at hcs
    exact ⟨none, 0, 0, [], hcs, by omega, rfl, by omega⟩
  · simp only [List.cons.injEq, and_true] at hcs
    simp at hz
    refine ⟨some x, l, c, (zs.take l).map (fun b => b.data.toList), hcs, by omega, by simp; omega, fun i hi => ?_⟩
    obtain ⟨b, off, spot⟩ := x
    have hspot : spot = none := by simpa [Addr.add] using World.cell?_spot (hcell 0 (by omega))
    subst hspot
    have hc : W.cell? ⟨b, off + i, none⟩ = some (.string (zs.getD i ByteArray.empty)) := by
      have := hcell i (by omega)
      rwa [Addr.add_lit] at this
    refine ⟨b, off, rfl, block_lt_of_cell hc, ?_⟩
    rw [hc]
    have hi' : i < zs.length := by omega
    simp [List.getD, List.getElem?_eq_getElem hi', hi]

theorem open_part {H : Type} {enc : TypeId × Value → H} {W : World} {n b o : Nat} {cs : List Value} {x : DataW H × List MemPlace}
    (hcs : W.cells? 0 ⟨b, o, none⟩ 4 = some cs) (hf : DataW.trod enc Try.prog W 0 (fun _ => true) true n 31 cs = some x) : ∃ p, PartAt W b o p := by
  obtain ⟨_, hlen, hcell⟩ := World.cells?_some hcs
  match cs, hlen with
  | [v0, v1, v2, v3], _ =>
    obtain ⟨xs, m, _, _, _, hxs, hfs⟩ := DataW.trod_struct Try.underlying31 hf
    have get : ∀ i, i < 4 → ∃ y, xs[i]? = some y := fun i hi => ⟨xs[i]'(by rw [hxs]; exact hi), List.getElem?_eq_getElem _⟩
    obtain ⟨y0, h0⟩ := get 0 (by omega)
    obtain ⟨y1, h1⟩ := get 1 (by omega)
    obtain ⟨y2, h2⟩ := get 2 (by omega)
    obtain ⟨y3, h3⟩ := get 3 (by omega)
    have t0 : DataW.trod enc Try.prog W 0 (fun _ => true) true m 26 [v0] = some y0 := by
      have : DataW.trod enc Try.prog W 0 (fun _ => true) true m 26 (([v0, v1, v2, v3].drop 0).take (Try.prog.cellsOf 26)) = some y0 := (hfs 0 _ rfl).trans h0
      rw [Try.cells26] at this
      exact this
    have t1 : DataW.trod enc Try.prog W 0 (fun _ => true) true m 26 [v1] = some y1 := by
      have : DataW.trod enc Try.prog W 0 (fun _ => true) true m 26 (([v0, v1, v2, v3].drop 1).take (Try.prog.cellsOf 26)) = some y1 := (hfs 1 _ rfl).trans h1
      rw [Try.cells26] at this
      exact this
    have t2 : DataW.trod enc Try.prog W 0 (fun _ => true) true m 3 [v2] = some y2 := by
      have : DataW.trod enc Try.prog W 0 (fun _ => true) true m 3 (([v0, v1, v2, v3].drop 2).take (Try.prog.cellsOf 3)) = some y2 := (hfs 2 _ rfl).trans h2
      rw [Try.cells3] at this
      exact this
    have t3 : DataW.trod enc Try.prog W 0 (fun _ => true) true m 3 [v3] = some y3 := by
      have : DataW.trod enc Try.prog W 0 (fun _ => true) true m 3 (([v0, v1, v2, v3].drop 3).take (Try.prog.cellsOf 3)) = some y3 := (hfs 3 _ rfl).trans h3
      rw [Try.cells3] at this
      exact this
    obtain ⟨ea, en, ec, es, rfl, m0, s0⟩ := open_strs t0
    obtain ⟨na, nn, nc, ns, rfl, m1, s1⟩ := open_strs t1
    obtain ⟨ld, hld, _⟩ := DataW.trod_int Try.underlying3 t2
    obtain ⟨wd, hwd, _⟩ := DataW.trod_int Try.underlying3 t3
    simp only [List.cons.injEq, and_true] at hld hwd
    subst hld hwd
    have k0 := hcell 0 (by omega)
    have k1 := hcell 1 (by omega)
    have k2 := hcell 2 (by omega)
    have k3 := hcell 3 (by omega)
    rw [Addr.add_lit] at k0 k1 k2 k3
    exact ⟨⟨ea, en, ec, es, na, nn, nc, ns, ld, wd⟩, k0, k1, k2, k3, s0, s1, m0, m1⟩

theorem open_parts {H : Type} {enc : TypeId × Value → H} {W : World} {a : Option Addr} {len cap : Nat} {d : DataW H} {p : List MemPlace}
    (h : DataW.Trod enc Try.prog W 0 (fun _ => true) true 22 (.slice a len cap) d p) : ∃ ps, len ≤ maxLen ∧ PartsAt W a len ps := by
  obtain ⟨fuel, hf⟩ := h
  rcases open_slice Try.underlying22 hf with ⟨hcs, _⟩ | ⟨x, l, c, m, n, D, Pl, hcs, _, hl, hm, hmm, _, hx⟩
  · simp [Value.cells] at hcs
    obtain ⟨rfl, rfl, rfl⟩ := hcs
    exact ⟨[], by omega, rfl, by omega⟩
  · simp [Value.cells] at hcs
    obtain ⟨rfl, rfl, rfl⟩ := hcs
    simp at hmm
    obtain ⟨b, off, spot⟩ := x
    have key : ∀ i, i < len → ∃ p, (⟨b, off, spot⟩ : Addr) = ⟨b, off, none⟩ ∧ b < W.heap.size ∧ PartAt W b (off + i * 4) p := fun i hi => by
      obtain ⟨cs0, h0, _⟩ := hx 0 (by omega)
      rw [Try.cells31] at h0
      obtain ⟨_, hlen0, hcell0⟩ := World.cells?_some h0
      have hc0 : W.cell? (((⟨b, off, spot⟩ : Addr).add (0 * 4)).add 0) = some (cs0[0]'(by omega)) := by rw [hcell0 0 (by omega)]; exact List.getElem?_eq_getElem _
      have hspot : spot = none := by simpa [Addr.add] using World.cell?_spot hc0
      subst hspot
      obtain ⟨cs', h1, h2⟩ := hx i (by omega)
      rw [Try.cells31, Addr.add_lit] at h1
      obtain ⟨p, hp⟩ := open_part h1 h2
      exact ⟨p, rfl, block_lt_of_cell hp.c0, hp⟩
    obtain ⟨V, hV⟩ := @choose_lt Part ⟨noPart⟩ _ _ key
    refine ⟨(List.range len).map V, by omega, by simp, fun i hi => ?_⟩
    obtain ⟨hs, hb, hp⟩ := hV i hi
    have hg : ((List.range len).map V).getD i noPart = V i := by simp [List.getD, hi]
    exact ⟨b, off, congrArg some hs, hb, by rw [hg]; exact hp⟩

/-! ### THE ROW's STEP -/
set_option maxRecDepth 100000 in
theorem lifted (os : Os) (started : os.Started) (H : Type) (enc : TypeId × Value → H) :
    ReturnsInHanded {} Try.checked os 3 .any (Rows.fnSpellAlternateModelSpec.pre6 enc Try.prog Try.f3 Rows.fnSpellAlternateModelRow.domain false) (Rows.fnSpellAlternateModelSpec.post enc Try.prog Try.f3 false true false false) := by
  refine returnsInHanded_of_change (C := Try.checked) Try.own started (by kernel_rfl) Try.func3
    (ChangeSpec.witness6 (enc := enc) (C := Try.checked) false ⟨#[], #[.slice none 0 0], []⟩ 8 (by kernel_rfl) (by kernel_rfl) (by kernel_rfl) (by kernel_rfl)) ?_
  intro W base args ds gs before hval0 hW hcnd _
  have hval : ∀ (j : Nat) t v, Try.f3.params[j]? = some t → args[j]? = some v → Value.okWide Try.prog W .any base t v := hval0
  have hW' := hW
  obtain ⟨p, q, hA0, hV, rfl, hfz, hnd⟩ := hW
  have hA : DataW.TrodAll enc Try.prog W 0 (fun _ => true) true Try.f3.params.toList args.toList ds p := hA0
  rw [Try.params3] at hA hval
  obtain ⟨v0, vs0, d0, ds0, p0, q0, hargs, rfl, rfl, h0, r0⟩ := trodAll_cons hA
  obtain ⟨rfl, rfl, rfl⟩ := trodAll_nil r0
  obtain rfl : args = #[v0] := by cases args; simp_all
  obtain ⟨rfl, rfl⟩ := trodVars_none hV
  obtain ⟨a0, len0, cap0, rfl⟩ := okWide_slice Try.underlying22 (hval 0 22 v0 rfl rfl)
  have k0 := h0
  have lt0 : ∀ x ∈ p0, x.block < W.heap.size := by obtain ⟨m, hm⟩ := k0; exact DataW.trod_lt m _ _ _ hm
  obtain ⟨ps, l0, w0⟩ := open_parts h0
  clear hA0 hval0
  refine (law a0 len0 cap0 ps W l0 w0).mono fun e W' ⟨he, bel⟩ => ?_
  subst he
  exact ⟨_, rfl, _, _, _, [], _, [], hW', trodAll_mk1 (shut_bool Try.underlying4 _),
    (trodAll_cons_mk (Below.trod Try.laidOut (by kernel_rfl) (of_decide_eq_true (by kernel_rfl)) k0 bel lt0) trodAll_mk0), rfl, bel.frame _, fun h => by cases h⟩

theorem over : Rows.fnSpellAlternateModelRow.holds Try.pinned (OpenSpec.ofChange Rows.fnSpellAlternateModelSpec) :=
  OpenClaim.holds_of_wide 3 Try.f3 rfl rfl rfl rfl rfl rfl rfl ⟨rfl, rfl, rfl, rfl, rfl⟩ rfl rfl rfl rfl rfl (by kernel_rfl) Try.func3 (by kernel_rfl)
    (of_decide_eq_true (by kernel_rfl)) (by unfold Func.isWrapper; first | (rw [if_pos (by decide +kernel)]; kernel_rfl) | (rw [if_neg (by decide +kernel)]; exact ⟨rfl, rfl⟩))
    (fun os started H enc _ => lifted os started H enc)

/-- THE STATEMENT -/
theorem fnSpellAlternateModel_proved : Rows.FnSpellAlternateModelSaid := over
end Go.Proofs.Qxb6603073a
