import Derived.Test.Qxb6603073aWi
namespace Go.Proofs.Qxb6603073a
open Go.RowKit

theorem Try.info26 : (Try.prog.info? 26).map (fun i => (i.zero, i.size, i.bytes)) = some (some (.slice none 0 0), 1, 24) := by kernel_rfl
theorem Try.info3 : (Try.prog.info? 3).map (fun i => (i.zero, i.size, i.bytes)) = some (some (.int .i64 0), 1, 8) := by kernel_rfl

theorem make33 (n : Nat) (h : n ≤ 1048576) : ∃ Z : Array Value, Z.size = n ∧
    ∀ w, Sem.run Try.prog (Instr.makeSlice 33 (.int .i64 n) (.int .i64 n)) w = .ok (.slice (some ⟨w.heap.size, 0, none⟩) n n) (w.alloc (.cells Z 26)) := by
  obtain ⟨i0, hi, hz0, hz1, hz2⟩ := info_parts Try.info26
  refine ⟨madeCells #[.slice none 0 0] n, by simp [madeCells], fun w => ?_⟩
  rw [run_make w 33 26 i0 _ Try.underlying33 hi hz0 .i64 .i64 n n (by omega) (by omega) (by rw [hz2]; omega) (by omega), hz1]
  simp only [Value.cells, Int.toNat_natCast, Nat.mul_one]

theorem make34 (n : Nat) (h : n ≤ 1048576) : ∃ Z : Array Value, Z.size = n ∧
    ∀ w, Sem.run Try.prog (Instr.makeSlice 34 (.int .i64 n) (.int .i64 n)) w = .ok (.slice (some ⟨w.heap.size, 0, none⟩) n n) (w.alloc (.cells Z 3)) := by
  obtain ⟨i0, hi, hz0, hz1, hz2⟩ := info_parts Try.info3
  refine ⟨madeCells #[.int .i64 0] n, by simp [madeCells], fun w => ?_⟩
  rw [run_make w 34 3 i0 _ Try.underlying34 hi hz0 .i64 .i64 n n (by omega) (by omega) (by rw [hz2]; omega) (by omega), hz1]
  simp only [Value.cells, Int.toNat_natCast, Nat.mul_one]

/-- A column of the call's own, its first k cells laid. -/
def Col (wr : World) (g t n k : Nat) (f : Nat → Value) : Prop := ∃ cur, wr.heap[g]? = some (.cells cur t (0, 0)) ∧ cur.size = n ∧ ∀ j, j < k → cur[j]? = some (f j)

theorem Col.other {wr : World} {g t n k : Nat} {f : Nat → Value} {q o : Nat} {v : Value} (h : Col wr g t n k f) (hne : g ≠ q) : Col (wr.setCell ⟨q, o, none⟩ v) g t n k f := by
  obtain ⟨cur, hc, hs, ha⟩ := h
  exact ⟨cur, (set_other _ hne).trans hc, hs, ha⟩

theorem Col.put {wr : World} {g t n k : Nat} {f : Nat → Value} {v : Value} (h : Col wr g t n k f) (hk : k < n) (hv : f k = v) : Col (wr.setCell ⟨g, k, none⟩ v) g t n (k + 1) f := by
  obtain ⟨cur, hc, hs, ha⟩ := h
  refine ⟨_, set_same hc _, by simpa using hs, fun j hj => ?_⟩
  rw [Array.getElem?_setIfInBounds]
  by_cases e : k = j
  · subst e; rw [if_pos rfl, if_pos (by omega), hv]
  · rw [if_neg e]; exact ha j (by omega)

theorem Col.cell {wr : World} {g t n k : Nat} {f : Nat → Value} (h : Col wr g t n k f) {j : Nat} (hj : j < k) : wr.cell? ⟨g, j, none⟩ = some (f j) := by
  obtain ⟨cur, hc, hs, ha⟩ := h
  rw [cell_of_row wr _ _ _ _ _ hc]; exact ha j hj

theorem Col.room {wr : World} {g t n k : Nat} {f : Nat → Value} (h : Col wr g t n k f) (hk : k < n) : ∃ z, wr.cell? ⟨g, k, none⟩ = some z ∧ wr.frozen? ⟨g, k, none⟩ = false := by
  obtain ⟨cur, hc, hs, ha⟩ := h
  refine ⟨cur[k]'(by omega), ?_, by simp [World.frozen?, hc]⟩
  rw [cell_of_row wr _ _ _ _ _ hc]; exact Array.getElem?_eq_getElem _

/-- The four columns, so many cells of each laid. -/
structure Four (w : World) (n k0 k1 k2 k3 : Nat) (ps : List Part) (wr : World) : Prop where
  e : Col wr w.heap.size 26 n k0 fun j => .slice (ps.getD j noPart).ea (ps.getD j noPart).en (ps.getD j noPart).ec
  m : Col wr (w.heap.size + 1) 26 n k1 fun j => .slice (ps.getD j noPart).na (ps.getD j noPart).nn (ps.getD j noPart).nc
  l : Col wr (w.heap.size + 2) 3 n k2 fun j => .int .i64 (ps.getD j noPart).ld
  d : Col wr (w.heap.size + 3) 3 n k3 fun j => .int .i64 (ps.getD j noPart).wd
  bel : Below w.heap.size w wr

theorem Four.put0 {w wr : World} {n k k1 k2 k3 : Nat} {ps : List Part} {p : Part} (h : Four w n k k1 k2 k3 ps wr) (hk : k < n) (hp : ps.getD k noPart = p) : Four w n (k + 1) k1 k2 k3 ps (wr.setCell ⟨w.heap.size, k, none⟩ (.slice p.ea p.en p.ec)) := by
  subst hp
  exact ⟨h.e.put hk rfl, h.m.other (by omega), h.l.other (by omega), h.d.other (by omega), h.bel.setCell (Nat.le_refl _) _⟩
theorem Four.put1 {w wr : World} {n k k0 k2 k3 : Nat} {ps : List Part} {p : Part} (h : Four w n k0 k k2 k3 ps wr) (hk : k < n) (hp : ps.getD k noPart = p) : Four w n k0 (k + 1) k2 k3 ps (wr.setCell ⟨w.heap.size + 1, k, none⟩ (.slice p.na p.nn p.nc)) := by
  subst hp
  exact ⟨h.e.other (by omega), h.m.put hk rfl, h.l.other (by omega), h.d.other (by omega), h.bel.setCell (Nat.le_add_right _ _) _⟩
theorem Four.put2 {w wr : World} {n k k0 k1 k3 : Nat} {ps : List Part} {p : Part} (h : Four w n k0 k1 k k3 ps wr) (hk : k < n) (hp : ps.getD k noPart = p) : Four w n k0 k1 (k + 1) k3 ps (wr.setCell ⟨w.heap.size + 2, k, none⟩ (.int .i64 p.ld)) := by
  subst hp
  exact ⟨h.e.other (by omega), h.m.other (by omega), h.l.put hk rfl, h.d.other (by omega), h.bel.setCell (Nat.le_add_right _ _) _⟩
theorem Four.put3 {w wr : World} {n k k0 k1 k2 : Nat} {ps : List Part} {p : Part} (h : Four w n k0 k1 k2 k ps wr) (hk : k < n) (hp : ps.getD k noPart = p) : Four w n k0 k1 k2 (k + 1) ps (wr.setCell ⟨w.heap.size + 3, k, none⟩ (.int .i64 p.wd)) := by
  subst hp
  exact ⟨h.e.other (by omega), h.m.other (by omega), h.l.other (by omega), h.d.put hk rfl, h.bel.setCell (Nat.le_add_right _ _) _⟩

theorem four_start (w : World) (n : Nat) (ps : List Part) (Z Y : Array Value) (hZ : Z.size = n) (hY : Y.size = n) :
    Four w n 0 0 0 0 ps ((((w.alloc (.cells Z 26)).alloc (.cells Z 26)).alloc (.cells Y 3)).alloc (.cells Y 3)) := by
  have h0 := heap_alloc_new w (.cells Z 26)
  have h1 := heap_alloc_new (w.alloc (.cells Z 26)) (.cells Z 26)
  have h2 := heap_alloc_new ((w.alloc (.cells Z 26)).alloc (.cells Z 26)) (.cells Y 3)
  have h3 := heap_alloc_new (((w.alloc (.cells Z 26)).alloc (.cells Z 26)).alloc (.cells Y 3)) (.cells Y 3)
  have e1 : (w.alloc (.cells Z 26)).heap.size = w.heap.size + 1 := by simp
  have e2 : ((w.alloc (.cells Z 26)).alloc (.cells Z 26)).heap.size = w.heap.size + 2 := by simp
  have e3 : (((w.alloc (.cells Z 26)).alloc (.cells Z 26)).alloc (.cells Y 3)).heap.size = w.heap.size + 3 := by simp
  rw [e1] at h1; rw [e2] at h2; rw [e3] at h3
  refine ⟨⟨Z, ?_, hZ, fun j hj => by omega⟩, ⟨Z, ?_, hZ, fun j hj => by omega⟩, ⟨Y, ?_, hY, fun j hj => by omega⟩, ⟨Y, h3, hY, fun j hj => by omega⟩, ?_⟩
  · rw [Below.heap_alloc _ _ _ (by omega), Below.heap_alloc _ _ _ (by omega), Below.heap_alloc _ _ _ (by omega)]; exact h0
  · rw [Below.heap_alloc _ _ _ (by omega), Below.heap_alloc _ _ _ (by omega)]; exact h1
  · rw [Below.heap_alloc _ _ _ (by omega)]; exact h2
  · exact ((((Below.refl _ _).alloc (Nat.le_refl _) _).alloc (by omega) _).alloc (by omega) _).alloc (by omega) _

set_option linter.unusedSimpArgs false in
set_option maxHeartbeats 4000000 in
set_option maxRecDepth 100000 in
theorem call_any (a : Option Addr) (n c : Nat) (ps : List Part) (w : World) (hs : Short n ps) (hp : PartsAt w a n ps) (hz : ∀ i, i < n → Nils (ps.getD i noPart)) :
    Calls Try.prog 9 #[.slice a n c] w fun e w' => AltPost ps w e w' := by
  have hn := hs.1
  have hlen := hp.1
  obtain ⟨Z, hZ, hmk⟩ := make33 n hn
  obtain ⟨Y, hY, hmk2⟩ := make34 n hn
  have Hp : Hid (PartsAt w a n ps) := hp
  have Hsh : Hid (Short n ps) := hs
  have Hz := (show Hid _ from hz)
  have Hst := (show Hid _ from four_start w n ps Z Y hZ hY)
  clear hp hs hz hZ hY
  go_enter Try.func9, Try.ntmps9
  go_wp2
  go_loopw [25] (fun i wr => ∃ (k : Nat), k ≤ n ∧ i = .int .i64 k ∧ Four w n k k k k ps wr) (fun i _ => n - (intOf i).toNat)
  case atStart => exact ⟨0, Nat.zero_le _, rfl, hout Hst⟩
  case round =>
    clear Hst hmk hmk2
    obtain ⟨k, hk, rfl, hF⟩ := hrel
    have HF : Hid (Four w n k k k k ps wr) := hF
    by_cases hlt : k < n
    case neg =>
      have hkn : k = n := by omega
      subst hkn
      clear hF
      go_wp2_with fail
      refine (zz_any w.heap.size (w.heap.size + 1) (w.heap.size + 2) (w.heap.size + 3) k ps _ hlen (hout Hsh) (fun i hi => ?_)).mono ?_
      · obtain ⟨b, off, _, hb, hpk⟩ := (hout Hp).2 i hi
        exact ⟨(hout HF).e.cell hi, (hout HF).m.cell hi, (hout HF).l.cell hi, (hout HF).d.cell hi, hpk.s0.later (hout HF).bel, hpk.s1.later (hout HF).bel, hout Hz i hi⟩
      rintro e W ⟨ve, vn, rfl, he, hv, hb⟩
      have Hr : Hid (RowOf W ve (alt ps).1 ∧ RowOf W vn (alt ps).2.1 ∧ Below w.heap.size w W) := ⟨he, hv, (hout HF).bel.trans (hb.mono (hout HF).bel.size)⟩
      clear he hv hb
      generalize hX : (alt ps).2.2.1 = X
      generalize hY : (alt ps).2.2.2 = Y
      have HX := (show Hid _ from hX)
      have HY := (show Hid _ from hY)
      clear hX hY
      go_wp2_with fail
      refine bodyPost_ret (v := .tuple #[ve, vn, .int .i64 X, .int .i64 Y]) (by simp [results, Try.results9, go_sem]) rfl ?_
      exact ⟨ve, vn, by rw [hout HX, hout HY], (hout Hr).1, (hout Hr).2.1, (hout Hr).2.2⟩
    obtain ⟨b, off, ha, hb, hpk⟩ := (hout Hp).2 k hlt
    subst ha
    generalize hg : ps.getD k noPart = p at hpk
    have Hg := (show Hid _ from hg)
    have Hpk : Hid (PartAt w b (off + k * 4) p) := hpk
    clear hg hpk
    obtain ⟨ea, en, ec, es, na, nn, nc, ns, ld, wd⟩ := p
    have hlt' : (k : Int) < n := by omega
    obtain ⟨z0, q0, f0⟩ := hF.e.room hlt
    have c0 := (hF.bel.cell (p := ⟨b, off + k * 4, none⟩) hb).trans (hout Hpk).c0
    dsimp only at c0
    clear hF
    go_upto_region 8 with fail
    go_cut [25] from 25 to 60 (fun i wx => i = .int .i64 k ∧ Four w n (k + 1) k k k ps wx)
    case first =>
      go_wp2_with fail
      go_meet
      case rel => exact ⟨rfl, (hout HF).put0 hlt (hout Hg)⟩
    case rest =>
      clear HF z0 q0 f0 c0
      obtain ⟨rfl, hF⟩ := hcut
      obtain ⟨z1, q1, f1⟩ := hF.m.room hlt
      have c1 := (hF.bel.cell (p := ⟨b, off + k * 4 + 1, none⟩) hb).trans (hout Hpk).c1
      dsimp only at c1
      have HF : Hid (Four w n (k + 1) k k k ps wc) := hF
      clear hF
      go_upto_region 9 with fail
      go_cut [25] from 25 to 60 (fun i wx => i = .int .i64 k ∧ Four w n (k + 1) (k + 1) k k ps wx)
      case first =>
        go_wp2_with fail
        go_meet
        case rel => exact ⟨rfl, (hout HF).put1 hlt (hout Hg)⟩
      case rest =>
        clear HF z1 q1 f1 c1
        obtain ⟨rfl, hF⟩ := hcut
        obtain ⟨z2, q2, f2⟩ := hF.l.room hlt
        have c2 := (hF.bel.cell (p := ⟨b, off + k * 4 + 2, none⟩) hb).trans (hout Hpk).c2
        dsimp only at c2
        have HF : Hid (Four w n (k + 1) (k + 1) k k ps wc) := hF
        clear hF
        go_upto_region 10 with fail
        go_cut [25] from 25 to 60 (fun i wx => i = .int .i64 k ∧ Four w n (k + 1) (k + 1) (k + 1) k ps wx)
        case first =>
          go_wp2_with fail
          go_meet
          case rel => exact ⟨rfl, (hout HF).put2 hlt (hout Hg)⟩
        case rest =>
          clear HF z2 q2 f2 c2
          obtain ⟨rfl, hF⟩ := hcut
          obtain ⟨z3, q3, f3⟩ := hF.d.room hlt
          have c3 := (hF.bel.cell (p := ⟨b, off + k * 4 + 3, none⟩) hb).trans (hout Hpk).c3
          dsimp only at c3
          have HF : Hid (Four w n (k + 1) (k + 1) (k + 1) k ps wc) := hF
          clear hF
          go_wp2_with fail
          go_roundw
          case rel => exact ⟨k + 1, by omega, by go_num, (hout HF).put3 hlt (hout Hg)⟩
          case measure => simp [intOf]; omega

end Go.Proofs.Qxb6603073a
