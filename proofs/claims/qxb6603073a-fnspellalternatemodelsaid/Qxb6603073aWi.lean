import Derived.Test.Qxb6603073aWg
namespace Go.Proofs.Qxb6603073a
open Go.RowKit

theorem Try.info43 : (Try.prog.info? 43).map (fun i => (i.zero, i.size, i.bytes)) = some (some (.agg #[.slice none 0 0, .slice none 0 0, .int .i64 0, .int .i64 0]), 4, 64) := by kernel_rfl

theorem make39 (w : World) (n : Nat) (h : n ≤ 1048576) : ∃ Z : Array Value, Z.size = n * 4 ∧
    Sem.run Try.prog (Instr.makeSlice 39 (.int .i64 n) (.int .i64 n)) w = .ok (.slice (some ⟨w.heap.size, 0, none⟩) n n) (w.alloc (.cells Z 43)) := by
  obtain ⟨i0, hi, hz0, hz1, hz2⟩ := info_parts Try.info43
  refine ⟨madeCells #[.slice none 0 0, .slice none 0 0, .int .i64 0, .int .i64 0] (n * 4), by simp [madeCells], ?_⟩
  rw [run_make w 39 43 i0 _ Try.underlying39 hi hz0 .i64 .i64 n n (by omega) (by omega) (by rw [hz2]; omega) (by omega), hz1]
  simp only [Value.cells, Int.toNat_natCast]

/-- One part out of four columns. -/
structure Cols (w : World) (g0 g1 g2 g3 i : Nat) (p : Part) : Prop where
  c0 : w.cell? ⟨g0, i, none⟩ = some (.slice p.ea p.en p.ec)
  c1 : w.cell? ⟨g1, i, none⟩ = some (.slice p.na p.nn p.nc)
  c2 : w.cell? ⟨g2, i, none⟩ = some (.int .i64 p.ld)
  c3 : w.cell? ⟨g3, i, none⟩ = some (.int .i64 p.wd)
  s0 : StrsAt w p.ea p.en p.es
  s1 : StrsAt w p.na p.nn p.ns
  nil : Nils p

theorem far_of {w : World} {a : Option Addr} {n : Nat} {ss : List Byts} (h : StrsAt w a n ss) : 0 < n → ∀ x, a = some x → x.block ≠ w.heap.size := fun hn x hx => by
  obtain ⟨b, off, he, hlt, _⟩ := h.2 0 hn
  rw [he] at hx
  have : (⟨b, off, none⟩ : Addr) = x := by simpa using hx
  rw [← this]
  exact Nat.ne_of_lt hlt

/-- The four cells in every world that leaves the old blocks alone. -/
theorem mkC {w W : World} {A0 A1 A2 A3 : Addr} {v0 v1 v2 v3 : Value} (h : Hid (w.cell? A0 = some v0 ∧ w.cell? A1 = some v1 ∧ w.cell? A2 = some v2 ∧ w.cell? A3 = some v3)) (hb : Below w.heap.size w W) :
    W.cell? A0 = some v0 ∧ W.cell? A1 = some v1 ∧ W.cell? A2 = some v2 ∧ W.cell? A3 = some v3 ∧ Below w.heap.size w W := by
  obtain ⟨h0, h1, h2, h3⟩ := h
  exact ⟨cell_later hb h0, cell_later hb h1, cell_later hb h2, cell_later hb h3, hb⟩

theorem lastC {w W : World} {A0 A1 A2 A3 : Addr} {v0 v1 v2 v3 : Value} (h : W.cell? A0 = some v0 ∧ W.cell? A1 = some v1 ∧ W.cell? A2 = some v2 ∧ W.cell? A3 = some v3 ∧ Below w.heap.size w W) : Below w.heap.size w W := h.2.2.2.2

set_option linter.unusedSimpArgs false in
set_option maxHeartbeats 4000000 in
set_option maxRecDepth 100000 in
theorem zz_any (g0 g1 g2 g3 n : Nat) (ps : List Part) (w : World) (hl : ps.length = n) (hs : Short n ps) (hp : ∀ i, i < n → Cols w g0 g1 g2 g3 i (ps.getD i noPart)) :
    Calls Try.prog 15 #[.slice (some ⟨g0, 0, none⟩) n n, .slice (some ⟨g1, 0, none⟩) n n, .slice (some ⟨g2, 0, none⟩) n n, .slice (some ⟨g3, 0, none⟩) n n] w fun e w' => AltPost ps w e w' := by
  have hn := hs.1
  obtain ⟨Z, hZ, hmk⟩ := make39 w n hn
  have Hp := (show Hid _ from hp)
  have Hsh : Hid (Short n ps) := hs
  have HZ := (show Hid _ from hZ)
  clear hp hs hZ
  go_enter Try.func15, Try.ntmps15
  go_wp2
  go_loopw [20] (fun i wr => ∃ (k : Nat), k ≤ n ∧ i = .int .i64 k ∧ CRel 43 w w.heap.size n k (ps.take k) wr) (fun i _ => n - (intOf i).toNat)
  case atStart => exact ⟨0, Nat.zero_le _, rfl, rfl, ⟨Z, heap_alloc_new _ _, hout HZ, fun j hj => by omega⟩, fun j hj => by omega, (Below.refl _ _).alloc (Nat.le_refl _) _⟩
  case round =>
    obtain ⟨k, hk, rfl, hC⟩ := hrel
    by_cases hlt : k < n
    case neg =>
      have hkn : k = n := by omega
      subst hkn
      rw [List.take_of_length_le (by omega)] at hC
      have HC : Hid (CRel 43 w w.heap.size k k ps wr) := hC
      clear hC
      go_wp2_with fail
      refine (alternate_any (some ⟨w.heap.size, 0, none⟩) k k ps _ (hout Hsh) (hout HC).parts (fun i hi => ((hout HC).ok i hi).nil)).mono ?_
      rintro e W ⟨ve, vn, rfl, he, hv, hb⟩
      have Hbel : Hid (Below w.heap.size w W) := (hout HC).bel.trans (hb.mono (hout HC).bel.size)
      have He := (show Hid (RowOf W ve (alt ps).1) from he)
      have Hv := (show Hid (RowOf W vn (alt ps).2.1) from hv)
      obtain ⟨ae, ce, rfl, _⟩ := he
      obtain ⟨av, cv, rfl, _⟩ := hv
      generalize hX : (alt ps).2.2.1 = X
      generalize hY : (alt ps).2.2.2 = Y
      have HX := (show Hid _ from hX)
      have HY := (show Hid _ from hY)
      clear hb hX hY HC
      go_wp2_with fail
      go_quiet (fail)
      go_wp2_with fail
      refine bodyPost_ret (v := .tuple #[.slice ae (alt ps).1.length ce, .slice av (alt ps).2.1.length cv, .int .i64 X, .int .i64 Y]) (by simp [results, Try.results15, go_sem]) rfl ?_
      have hb1 := (hout Hbel).alloc (hout Hbel).size (.cells #[.slice ae (alt ps).1.length ce, .slice av (alt ps).2.1.length cv, .int .i64 X, .int .i64 Y] 43)
      have hb2 := (Below.refl W.heap.size W).alloc (Nat.le_refl _) (.cells #[.slice ae (alt ps).1.length ce, .slice av (alt ps).2.1.length cv, .int .i64 X, .int .i64 Y] 43)
      exact ⟨_, _, by rw [hout HX, hout HY], (hout He).later (below_drewN hb2 _), (hout Hv).later (below_drewN hb2 _), below_drewN hb1 _⟩
    have hpk := hout Hp k hlt
    have hsm := (hout Hsh).2 k hlt
    have Ht : Hid (ps.take (k + 1) = ps.take k ++ [ps.getD k noPart]) := take_step (by omega)
    generalize ps.getD k noPart = p at hpk hsm Ht
    have HS : Hid (w.cell? ⟨g0, k, none⟩ = some (.slice p.ea p.en p.ec) ∧ w.cell? ⟨g1, k, none⟩ = some (.slice p.na p.nn p.nc) ∧ w.cell? ⟨g2, k, none⟩ = some (.int .i64 p.ld) ∧ w.cell? ⟨g3, k, none⟩ = some (.int .i64 p.wd)) := ⟨hpk.c0, hpk.c1, hpk.c2, hpk.c3⟩
    have HQ : Hid (QOk wr w.heap.size p) := ⟨hpk.s0.later hC.bel, hpk.s1.later hC.bel, far_of hpk.s0, far_of hpk.s1, hpk.nil, hsm.1, hsm.2⟩
    obtain ⟨z0, z1, z2, z3, q0, q1, q2, q3, f0, f1, f2, f3⟩ := hC.place hlt
    have HC : Hid (CRel 43 w w.heap.size n k (ps.take k) wr) := hC
    have Hbw : Hid (Below w.heap.size w wr.drew) := hC.bel.drew
    obtain ⟨ea, en, ec, es, na, nn, nc, ns, ld, wd⟩ := p
    dsimp only at HS
    clear hpk hC hsm
    have hlt' : (k : Int) < n := by omega
    go_wp2_with fail
    go_region_held3 (fun w' => w'.cell? ⟨g0, k, none⟩ = some (.slice ea en ec) ∧ w'.cell? ⟨g1, k, none⟩ = some (.slice na nn nc) ∧ w'.cell? ⟨g2, k, none⟩ = some (.int .i64 ld) ∧ w'.cell? ⟨g3, k, none⟩ = some (.int .i64 wd) ∧ Below w.heap.size w w')
      (first
        | (exact mkC HS Hbw)
        | (exact mkC HS (((((lastC (by assumption)).setCell (Nat.le_refl _) _).setCell (Nat.le_refl _) _).setCell (Nat.le_refl _) _).setCell (Nat.le_refl _) _)))
      (fail)
    go_wp2_with fail
    go_roundw
    case rel =>
      refine ⟨k + 1, by omega, by go_num, ?_⟩
      rw [hout Ht]
      have hd := (hout HC).later ((Below.refl wr.heap.size wr).drew)
      exact hd.step hlt ((hout HQ).later ((Below.refl wr.heap.size wr).drew)) (Nat.le_refl _)
    case measure => simp [intOf]; omega

end Go.Proofs.Qxb6603073a
