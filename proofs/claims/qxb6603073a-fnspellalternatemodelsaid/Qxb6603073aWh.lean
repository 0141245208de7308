import Derived.Test.Qxb6603073aWg
namespace Go.Proofs.Qxb6603073a
open Go.RowKit

/-- What cloneSpells leaves. -/
def ClonePost (n : Nat) (w : World) (e : Ending) (w' : World) : Prop :=
  ∃ a' c' qs, e = .returned (.slice a' n c') ∧ PartsAt w' a' n qs ∧ (∀ i, i < n → Nils (qs.getD i noPart)) ∧ Short n qs ∧ Below w.heap.size w w'

/-- The part's cells in every world that leaves the old blocks alone. -/
theorem mkS {w W : World} {b o : Nat} {v0 v1 v2 v3 : Value} (h : Hid (b < w.heap.size ∧ w.cell? ⟨b, o, none⟩ = some v0 ∧ w.cell? ⟨b, o + 1, none⟩ = some v1 ∧ w.cell? ⟨b, o + 2, none⟩ = some v2 ∧ w.cell? ⟨b, o + 3, none⟩ = some v3)) (hb : Below w.heap.size w W) :
    W.cell? ⟨b, o, none⟩ = some v0 ∧ W.cell? ⟨b, o + 1, none⟩ = some v1 ∧ W.cell? ⟨b, o + 2, none⟩ = some v2 ∧ W.cell? ⟨b, o + 3, none⟩ = some v3 ∧ Below w.heap.size w W := by
  obtain ⟨hlt, h0, h1, h2, h3⟩ := h
  exact ⟨(hb.cell hlt).trans h0, (hb.cell hlt).trans h1, (hb.cell hlt).trans h2, (hb.cell hlt).trans h3, hb⟩

theorem lastS {w W : World} {A0 A1 A2 A3 : Addr} {v0 v1 v2 v3 : Value} (h : W.cell? A0 = some v0 ∧ W.cell? A1 = some v1 ∧ W.cell? A2 = some v2 ∧ W.cell? A3 = some v3 ∧ Below w.heap.size w W) : Below w.heap.size w W := h.2.2.2.2

theorem stepB {B : Nat} {w w1 w2 : World} {a a' : Option Addr} {c' n : Nat} {ss : List Byts} (hc : CP w1 w2 a a' c' n ss) (h : Below B w w1) (hB : B ≤ w1.heap.size) : Below B w w2 := h.trans (hc.bel.mono hB)

theorem nextB {wr w1 w2 : World} {a a' : Option Addr} {c' n : Nat} {ss : List Byts} (hc : CP w1 w2 a a' c' n ss) (h : Hid (Below wr.heap.size wr w1)) : Hid (Below wr.heap.size wr w2) := stepB hc h (hout h).size

theorem placeB {wr W : World} {G0 G1 G2 G3 : Addr} {z0 z1 z2 z3 : Value} (hb : Hid (Below wr.heap.size wr W))
    (h : Hid (wr.cell? G0 = some z0 ∧ wr.cell? G1 = some z1 ∧ wr.cell? G2 = some z2 ∧ wr.cell? G3 = some z3 ∧ wr.frozen? G0 = false ∧ wr.frozen? G1 = false ∧ wr.frozen? G2 = false ∧ wr.frozen? G3 = false)) :
    W.cell? G0 = some z0 ∧ W.cell? G1 = some z1 ∧ W.cell? G2 = some z2 ∧ W.cell? G3 = some z3 ∧ W.frozen? G0 = false ∧ W.frozen? G1 = false ∧ W.frozen? G2 = false ∧ W.frozen? G3 = false := by
  obtain ⟨g0, g1, g2, g3, f0, f1, f2, f3⟩ := h
  have hb' := hout hb
  have fr : ∀ {G : Addr} {z : Value}, wr.cell? G = some z → wr.frozen? G = false → W.frozen? G = false := fun hg hf => (hb'.frozen (World.block_lt_of_cell? _ _ hg)).trans hf
  exact ⟨cell_later hb' g0, cell_later hb' g1, cell_later hb' g2, cell_later hb' g3, fr g0 f0, fr g1 f1, fr g2 f2, fr g3 f3⟩

/-- Behind both calls. -/
theorem fin1 {w wr w0 w1 w2 : World} {n k : Nat} {qs : List Part} {ea na a0 a1 : Option Addr} {c0 c1 en nn : Nat} {es ns : List Byts} {ld wd : Int} (hC : Hid (CRel 31 w w.heap.size n k qs wr)) (hk : k < n) (m0 : en ≤ 1048576) (m1 : nn ≤ 1048576)
    (hb0 : Hid (Below wr.heap.size wr w0)) (h0 : CP w0 w1 ea a0 c0 en es) (h1 : CP w1 w2 na a1 c1 nn ns) :
    CRel 31 w w.heap.size n (k + 1) (qs ++ [⟨a0, en, c0, es, a1, nn, c1, ns, ld, wd⟩]) ((((w2.setCell ⟨w.heap.size, k * 4, none⟩ (.slice a0 en c0)).setCell ⟨w.heap.size, k * 4 + 1, none⟩ (.slice a1 nn c1)).setCell ⟨w.heap.size, k * 4 + 2, none⟩ (.int .i64 ld)).setCell ⟨w.heap.size, k * 4 + 3, none⟩ (.int .i64 wd)) := by
  have hb2 := nextB h1 (nextB h0 hb0)
  obtain ⟨cur, hcur, _⟩ := (hout hC).row
  have hlt := lt_of_heap hcur
  have s0 := (hout hb0).size
  have s1 := h0.bel.size
  refine ((hout hC).later hb2).step (q := ⟨a0, en, c0, es, a1, nn, c1, ns, ld, wd⟩) hk ⟨h0.at'.later h1.bel, h1.at', fun _ x hx => ?_, fun _ x hx => ?_, ⟨h0.zero, h1.zero⟩, m0, m1⟩ (Nat.le_refl _)
  · have := h0.far x hx; omega
  · have := h1.far x hx; omega

set_option linter.unusedSimpArgs false in
set_option maxHeartbeats 4000000 in
set_option maxRecDepth 100000 in
theorem clonespells_any (a : Option Addr) (n c : Nat) (ps : List Part) (w : World) (hs : Short n ps) (hp : PartsAt w a n ps) :
    Calls Try.prog 8 #[.slice a n c] w fun e w' => ClonePost n w e w' := by
  have hn := hs.1
  have e1 := Try.eqnil22 w a n c 0 0
  cases a with
  | none =>
    have h0 : n = 0 := by
      rcases Nat.eq_zero_or_pos n with h | h
      · exact h
      · obtain ⟨b, off, he, _⟩ := hp.2 0 h; cases he
    subst h0
    go_enter Try.func8, Try.ntmps8
    go_wp2
    go_ret
    exact ⟨none, 0, [], rfl, ⟨rfl, fun i hi => by omega⟩, fun i hi => by omega, ⟨by omega, fun i hi => by omega⟩, Below.refl _ _⟩
  | some ad =>
    obtain ⟨Z, hZ, hmk⟩ := make22 w n hn
    have Hp : Hid (PartsAt w (some ad) n ps) := hp
    have Hsh : Hid (Short n ps) := hs
    have HZ := (show Hid _ from hZ)
    clear hp hs hZ
    go_enter Try.func8, Try.ntmps8
    go_wp2
    go_loopw [12] (fun i wr => ∃ (k : Nat) (qs : List Part), k ≤ n ∧ i = .int .i64 k ∧ CRel 31 w w.heap.size n k qs wr) (fun i _ => n - (intOf i).toNat)
    case atStart => exact ⟨0, [], Nat.zero_le _, rfl, rfl, ⟨Z, heap_alloc_new _ _, hout HZ, fun j hj => by omega⟩, fun j hj => by omega, (Below.refl _ _).alloc (Nat.le_refl _) _⟩
    case round =>
      obtain ⟨k, qs, hk, rfl, hC⟩ := hrel
      by_cases hlt : k < n
      case neg =>
        have hkn : k = n := by omega
        subst hkn
        have Hr : Hid (ClonePost k w (.returned (.slice (some ⟨w.heap.size, 0, none⟩) k k)) wr) := ⟨_, _, qs, rfl, hC.parts, fun i hi => (hC.ok i hi).nil, ⟨hn, fun i hi => ⟨(hC.ok i hi).m0, (hC.ok i hi).m1⟩⟩, hC.bel⟩
        clear hC
        go_wp2
        go_ret
        exact hout Hr
      obtain ⟨b, off, ha, hb, hpk⟩ := (hout Hp).2 k hlt
      have hsm := (hout Hsh).2 k hlt
      obtain rfl : ad = ⟨b, off, none⟩ := by simpa using ha
      generalize ps.getD k noPart = p at hpk hsm
      have HS : Hid (b < w.heap.size ∧ w.cell? ⟨b, off + k * 4, none⟩ = some (.slice p.ea p.en p.ec) ∧ w.cell? ⟨b, off + k * 4 + 1, none⟩ = some (.slice p.na p.nn p.nc) ∧ w.cell? ⟨b, off + k * 4 + 2, none⟩ = some (.int .i64 p.ld) ∧ w.cell? ⟨b, off + k * 4 + 3, none⟩ = some (.int .i64 p.wd)) :=
        ⟨hb, hpk.c0, hpk.c1, hpk.c2, hpk.c3⟩
      have Hs0 : Hid (StrsAt w p.ea p.en p.es) := hpk.s0
      have Hs1 : Hid (StrsAt w p.na p.nn p.ns) := hpk.s1
      obtain ⟨m0, m1⟩ := hsm
      obtain ⟨z0, z1, z2, z3, hplace⟩ := hC.place hlt
      have HG := (show Hid _ from hplace)
      have HC : Hid (CRel 31 w w.heap.size n k qs wr) := hC
      have Hbw : Hid (Below w.heap.size w wr.drew) := hC.bel.drew
      have HB0 : Hid (Below wr.heap.size wr wr.drew) := (Below.refl _ _).drew
      obtain ⟨ea, en, ec, es, na, nn, nc, ns, ld, wd⟩ := p
      dsimp only at HS Hs0 Hs1 m0 m1
      clear hpk hC hplace
      have hlt' : (k : Int) < n := by omega
      go_wp2_with fail
      go_region_held3 (fun w' => w'.cell? ⟨b, off + k * 4, none⟩ = some (.slice ea en ec) ∧ w'.cell? ⟨b, off + k * 4 + 1, none⟩ = some (.slice na nn nc) ∧ w'.cell? ⟨b, off + k * 4 + 2, none⟩ = some (.int .i64 ld) ∧ w'.cell? ⟨b, off + k * 4 + 3, none⟩ = some (.int .i64 wd) ∧ Below w.heap.size w w')
        (first
          | (exact mkS HS (stepB (by assumption) (lastS (by assumption)) (lastS (by assumption)).size))
          | (exact mkS HS Hbw)
          | (exact mkS HS (((((lastS (by assumption)).setCell (Nat.le_refl _) _).setCell (Nat.le_refl _) _).setCell (Nat.le_refl _) _).setCell (Nat.le_refl _) _)))
        (first
          | (go_at_call_of 14 ea; refine (clonestrs_any ea en ec es _ m0 ?_).mono ?_; (exact StrsAt.later Hs0 (lastS ‹_ ∧ _›)); rintro e w' ⟨a', c', rfl, hCP⟩; have hB' := nextB hCP (by assumption); obtain ⟨g0, g1, g2, g3, f0, f1, f2, f3⟩ := placeB hB' HG)
          | (go_at_call_of 14 na; refine (clonestrs_any na nn nc ns _ m1 ?_).mono ?_; (exact StrsAt.later Hs1 (lastS ‹_ ∧ _›)); rintro e w' ⟨a', c', rfl, hCP⟩; have hB' := nextB hCP (by assumption); obtain ⟨g0, g1, g2, g3, f0, f1, f2, f3⟩ := placeB hB' HG))
      go_wp2_with fail
      go_roundw
      case rel => exact ⟨k + 1, _, by omega, by go_num, fin1 HC hlt m0 m1 HB0 (by assumption) (by assumption)⟩
      case measure => simp [intOf]; omega

end Go.Proofs.Qxb6603073a
