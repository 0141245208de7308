import Derived.Test.Qxb6603073aWb
import Derived.Test.Qxb6603073aWf
import Derived.Deep.RegionHeld3
namespace Go.Proofs.Qxb6603073a
open Go.RowKit

theorem Try.info31 : (Try.prog.info? 31).map (fun i => (i.zero, i.size, i.bytes)) = some (some (.agg #[.slice none 0 0, .slice none 0 0, .int .i64 0, .int .i64 0]), 4, 64) := by kernel_rfl

theorem make22 (w : World) (n : Nat) (h : n ≤ 1048576) : ∃ Z : Array Value, Z.size = n * 4 ∧
    Sem.run Try.prog (Instr.makeSlice 22 (.int .i64 n) (.int .i64 n)) w = .ok (.slice (some ⟨w.heap.size, 0, none⟩) n n) (w.alloc (.cells Z 31)) := by
  obtain ⟨i0, hi, hz0, hz1, hz2⟩ := info_parts Try.info31
  refine ⟨madeCells #[.slice none 0 0, .slice none 0 0, .int .i64 0, .int .i64 0] (n * 4), by simp [madeCells], ?_⟩
  rw [run_make w 22 31 i0 _ Try.underlying22 hi hz0 .i64 .i64 n n (by omega) (by omega) (by rw [hz2]; omega) (by omega), hz1]
  simp only [Value.cells, Int.toNat_natCast]

theorem StrsAt.set {w : World} {a : Option Addr} {n g o : Nat} {ss : List Byts} {v : Value} (h : StrsAt w a n ss) (hf : 0 < n → ∀ x, a = some x → x.block ≠ g) : StrsAt (w.setCell ⟨g, o, none⟩ v) a n ss := by
  refine ⟨h.1, fun i hi => ?_⟩
  obtain ⟨b, off, rfl, hlt, hc⟩ := h.2 i hi
  have hne : b ≠ g := hf (by omega) _ rfl
  exact ⟨b, off, rfl, by simpa using hlt, (World.cell?_of_block (Below.heap_setCell w ⟨g, o, none⟩ v b hne)).trans hc⟩

/-- A cloned part: its strings do not lie in the row's block g. -/
structure QOk (w : World) (g : Nat) (q : Part) : Prop where
  s0 : StrsAt w q.ea q.en q.es
  s1 : StrsAt w q.na q.nn q.ns
  f0 : 0 < q.en → ∀ x, q.ea = some x → x.block ≠ g
  f1 : 0 < q.nn → ∀ x, q.na = some x → x.block ≠ g
  nil : Nils q
  m0 : q.en ≤ 1048576
  m1 : q.nn ≤ 1048576

theorem QOk.later {w w' : World} {g : Nat} {q : Part} (h : QOk w g q) (hb : Below w.heap.size w w') : QOk w' g q := ⟨h.s0.later hb, h.s1.later hb, h.f0, h.f1, h.nil, h.m0, h.m1⟩
theorem QOk.set {w : World} {g o : Nat} {q : Part} {v : Value} (h : QOk w g q) : QOk (w.setCell ⟨g, o, none⟩ v) g q := ⟨h.s0.set h.f0, h.s1.set h.f1, h.f0, h.f1, h.nil, h.m0, h.m1⟩

/-- Four cells of a row hold a part. -/
def At4 (cur : Array Value) (o : Nat) (q : Part) : Prop :=
  cur[o]? = some (.slice q.ea q.en q.ec) ∧ cur[o + 1]? = some (.slice q.na q.nn q.nc) ∧ cur[o + 2]? = some (.int .i64 q.ld) ∧ cur[o + 3]? = some (.int .i64 q.wd)

/-- The first k parts of a row of n are laid. -/
structure CRel (t : TypeId) (w : World) (g n k : Nat) (qs : List Part) (wr : World) : Prop where
  len : qs.length = k
  row : ∃ cur, wr.heap[g]? = some (.cells cur t (0, 0)) ∧ cur.size = n * 4 ∧ ∀ j, j < k → At4 cur (j * 4) (qs.getD j noPart)
  ok : ∀ j, j < k → QOk wr g (qs.getD j noPart)
  bel : Below w.heap.size w wr

theorem CRel.later {t : TypeId} {w wr w' : World} {g n k : Nat} {qs : List Part} (h : CRel t w g n k qs wr) (hb : Below wr.heap.size wr w') : CRel t w g n k qs w' := by
  obtain ⟨cur, hc, hs, ha⟩ := h.row
  exact ⟨h.len, ⟨cur, (hb.block _ (lt_of_heap hc)).trans hc, hs, ha⟩, fun j hj => (h.ok j hj).later hb, h.bel.trans (hb.mono h.bel.size)⟩

theorem getD_snoc_lt {qs : List Part} {q : Part} {j : Nat} (h : j < qs.length) : (qs ++ [q]).getD j noPart = qs.getD j noPart := by
  simp [List.getD, List.getElem?_append_left h]
theorem getD_snoc_eq {qs : List Part} {q : Part} {j : Nat} (h : j = qs.length) : (qs ++ [q]).getD j noPart = q := by
  subst h; simp [List.getD]

theorem CRel.step {t : TypeId} {w wr : World} {g n k : Nat} {qs : List Part} {q : Part} (h : CRel t w g n k qs wr) (hk : k < n) (hq : QOk wr g q) (hg : w.heap.size ≤ g) :
    CRel t w g n (k + 1) (qs ++ [q]) ((((wr.setCell ⟨g, k * 4, none⟩ (.slice q.ea q.en q.ec)).setCell ⟨g, k * 4 + 1, none⟩ (.slice q.na q.nn q.nc)).setCell ⟨g, k * 4 + 2, none⟩ (.int .i64 q.ld)).setCell ⟨g, k * 4 + 3, none⟩ (.int .i64 q.wd)) := by
  obtain ⟨cur, hc, hs, ha⟩ := h.row
  have hl := h.len
  refine ⟨by simp [hl], ⟨_, set_same (set_same (set_same (set_same hc _) _) _) _, by simpa using hs, fun j hj => ?_⟩, fun j hj => ?_, (((h.bel.setCell hg _).setCell hg _).setCell hg _).setCell hg _⟩
  · by_cases hjk : j < k
    · rw [getD_snoc_lt (by omega)]
      obtain ⟨a0, a1, a2, a3⟩ := ha j hjk
      refine ⟨?_, ?_, ?_, ?_⟩ <;> simp only [Array.getElem?_setIfInBounds] <;> (repeat rw [if_neg (by omega)]) <;> assumption
    · have : j = k := by omega
      subst this
      rw [getD_snoc_eq (by omega)]
      refine ⟨?_, ?_, ?_, ?_⟩ <;> simp [Array.getElem?_setIfInBounds] <;> omega
  · by_cases hjk : j < k
    · rw [getD_snoc_lt (by omega)]
      exact (h.ok j hjk).set.set.set.set
    · have : j = k := by omega
      subst this
      rw [getD_snoc_eq (by omega)]
      exact hq.set.set.set.set

/-- The cells of the place k, ahead of the store. -/
theorem CRel.place {t : TypeId} {w wr : World} {g n k : Nat} {qs : List Part} (h : CRel t w g n k qs wr) (hk : k < n) : ∃ z0 z1 z2 z3,
    wr.cell? ⟨g, k * 4, none⟩ = some z0 ∧ wr.cell? ⟨g, k * 4 + 1, none⟩ = some z1 ∧ wr.cell? ⟨g, k * 4 + 2, none⟩ = some z2 ∧ wr.cell? ⟨g, k * 4 + 3, none⟩ = some z3 ∧
    wr.frozen? ⟨g, k * 4, none⟩ = false ∧ wr.frozen? ⟨g, k * 4 + 1, none⟩ = false ∧ wr.frozen? ⟨g, k * 4 + 2, none⟩ = false ∧ wr.frozen? ⟨g, k * 4 + 3, none⟩ = false := by
  obtain ⟨cur, hc, hs, ha⟩ := h.row
  refine ⟨cur[k * 4]'(by omega), cur[k * 4 + 1]'(by omega), cur[k * 4 + 2]'(by omega), cur[k * 4 + 3]'(by omega), ?_, ?_, ?_, ?_, ?_, ?_, ?_, ?_⟩
  · rw [cell_of_row wr _ _ _ _ _ hc]; exact Array.getElem?_eq_getElem _
  · rw [cell_of_row wr _ _ _ _ _ hc]; exact Array.getElem?_eq_getElem _
  · rw [cell_of_row wr _ _ _ _ _ hc]; exact Array.getElem?_eq_getElem _
  · rw [cell_of_row wr _ _ _ _ _ hc]; exact Array.getElem?_eq_getElem _
  all_goals simp [World.frozen?, hc]

/-- A whole row of parts. -/
theorem CRel.parts {t : TypeId} {w wr : World} {g n : Nat} {qs : List Part} (h : CRel t w g n n qs wr) : PartsAt wr (some ⟨g, 0, none⟩) n qs := by
  obtain ⟨cur, hc, hs, ha⟩ := h.row
  refine ⟨h.len, fun i hi => ⟨g, 0, rfl, lt_of_heap hc, ?_⟩⟩
  obtain ⟨a0, a1, a2, a3⟩ := ha i hi
  have ho := h.ok i hi
  have hm0 := ho.m0
  have hm1 := ho.m1
  rw [Nat.zero_add]
  exact ⟨by rw [cell_of_row wr _ _ _ _ _ hc]; exact a0, by rw [cell_of_row wr _ _ _ _ _ hc]; exact a1, by rw [cell_of_row wr _ _ _ _ _ hc]; exact a2, by rw [cell_of_row wr _ _ _ _ _ hc]; exact a3,
    ho.s0, ho.s1, by unfold maxLen; omega, by unfold maxLen; omega⟩

end Go.Proofs.Qxb6603073a
