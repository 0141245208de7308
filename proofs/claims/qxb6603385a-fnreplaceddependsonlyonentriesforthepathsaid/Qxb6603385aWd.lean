import Derived.Test.Qxb6603385aWa
import Derived.Test.Qxb6603385aPlain
import Derived.Deep.QuietTactic
import Derived.BigQuiet
namespace Go.Proofs.Qxb6603385a
open Go.RowKit

def EntAt (w : World) (g i : Nat) (e : Ent) : Prop :=
  w.cell? ⟨g, i * 4, none⟩ = some (.string e.op) ∧ w.cell? ⟨g, i * 4 + 1, none⟩ = some (.string e.ov) ∧ w.cell? ⟨g, i * 4 + 2, none⟩ = some (.string e.np) ∧ w.cell? ⟨g, i * 4 + 3, none⟩ = some (.string e.nv)

/-- A row of entries, at its block's head. -/
def EntsAt (w : World) (ao : Option Addr) (n : Nat) (es : List Ent) : Prop :=
  es.length = n ∧ ∀ i, i < n → ∃ g, ao = some ⟨g, 0, none⟩ ∧ g < w.heap.size ∧ EntAt w g i (es.getD i noEnt)

/-- The world as the two loops of 'replaced' find it: the receiver's, the argument's and the result's boxes are laid. -/
def boxed (w : World) (rq sl : Value) (p v : ByteArray) : World :=
  ((w.alloc (.cells #[rq, sl] 34)).alloc (.cells #[.string p, .string v] 36)).alloc (.cells #[.string ByteArray.empty, .string ByteArray.empty] 36)

theorem old_cell {w wr : World} {rq sl : Value} {p v : ByteArray} (hb : Below (w.heap.size + 3) (boxed w rq sl p v) wr) {g : Nat} (hg : g < w.heap.size) {o : Nat} {u : Value} (h : w.cell? ⟨g, o, none⟩ = some u) :
    wr.cell? ⟨g, o, none⟩ = some u := by
  rw [hb.cell (by show g < _; omega)]
  unfold boxed
  rw [World.cell?_alloc_past _ _ _ (by simp; omega), World.cell?_alloc_past _ _ _ (by simp; omega), World.cell?_alloc_past _ _ _ (by omega), h]

theorem boxes {w wr : World} {rq sl : Value} {p v : ByteArray} (hb : Below (w.heap.size + 3) (boxed w rq sl p v) wr) :
    wr.cell? ⟨w.heap.size, 1, none⟩ = some sl ∧ wr.cell? ⟨w.heap.size + 1, 0, none⟩ = some (.string p) ∧ wr.cell? ⟨w.heap.size + 1, 1, none⟩ = some (.string v) ∧
    wr.cell? ⟨w.heap.size + 1 + 1, 0, none⟩ = some (.string ByteArray.empty) ∧ wr.cell? ⟨w.heap.size + 1 + 1, 1, none⟩ = some (.string ByteArray.empty) ∧
    wr.frozen? ⟨w.heap.size + 1 + 1, 0, none⟩ = false ∧ wr.frozen? ⟨w.heap.size + 1 + 1, 1, none⟩ = false := by
  rw [hb.cell (by simp), hb.cell (by simp), hb.cell (by simp), hb.cell (by simp), hb.cell (by simp), hb.frozen (by simp), hb.frozen (by simp)]
  unfold boxed
  refine ⟨?_, ?_, ?_, ?_, ?_, ?_, ?_⟩
  · rw [World.cell?_alloc_past _ _ _ (by simp; omega), World.cell?_alloc_past _ _ _ (by simp), World.cell?_alloc_at _ _ _ _ (by simp)]; rfl
  · rw [World.cell?_alloc_past _ _ _ (by simp), World.cell?_alloc_at _ _ _ _ (by simp)]; rfl
  · rw [World.cell?_alloc_past _ _ _ (by simp), World.cell?_alloc_at _ _ _ _ (by simp)]; rfl
  · rw [World.cell?_alloc_at _ _ _ _ (by simp)]; rfl
  · rw [World.cell?_alloc_at _ _ _ _ (by simp)]; rfl
  · rw [World.frozen?_alloc_at _ _ _ _ (by simp)]
  · rw [World.frozen?_alloc_at _ _ _ _ (by simp)]

theorem size_of {w wr : World} {rq sl : Value} {p v : ByteArray} (hb : Below (w.heap.size + 3) (boxed w rq sl p v) wr) : w.heap.size + 3 ≤ wr.heap.size := by
  have hz := hb.size
  simp [boxed] at hz
  exact hz

theorem boxes1 {w wr : World} {rq sl : Value} {p v : ByteArray} (hb : Below (w.heap.size + 3) (boxed w rq sl p v) wr) (o : Obj) :
    (wr.alloc o).cell? ⟨w.heap.size + 1, 0, none⟩ = some (.string p) ∧ (wr.alloc o).cell? ⟨w.heap.size + 1, 1, none⟩ = some (.string v) ∧
    (wr.alloc o).cell? ⟨w.heap.size + 1 + 1, 0, none⟩ = some (.string ByteArray.empty) ∧ (wr.alloc o).cell? ⟨w.heap.size + 1 + 1, 1, none⟩ = some (.string ByteArray.empty) ∧
    (wr.alloc o).frozen? ⟨w.heap.size + 1 + 1, 0, none⟩ = false ∧ (wr.alloc o).frozen? ⟨w.heap.size + 1 + 1, 1, none⟩ = false := by
  have := size_of hb
  exact (boxes (hb.alloc (by omega) o)).2

theorem below_boxed {w wr : World} {rq sl : Value} {p v : ByteArray} (hb : Below (w.heap.size + 3) (boxed w rq sl p v) wr) : Below w.heap.size w wr :=
  (((((Below.refl _ w).alloc (Nat.le_refl _) _).alloc (by simp) _).alloc (by simp; omega) _).trans (hb.mono (by omega)))

theorem two_stores {W : World} {B : Nat} {x0 x1 : Value} (h0 : W.cell? ⟨B, 0, none⟩ = some x0) (h1 : W.cell? ⟨B, 1, none⟩ = some x1) (a b : Value) :
    (W.setCell ⟨B, 0, none⟩ a).cell? ⟨B, 0, none⟩ = some a ∧ ((W.setCell ⟨B, 0, none⟩ a).setCell ⟨B, 1, none⟩ b).cell? ⟨B, 1, none⟩ = some b :=
  ⟨World.cell?_setCell_same _ _ _ h0, World.cell?_setCell_same (u := x1) _ _ _ (by rw [World.cell?_setCell_other _ _ _ _ (by simp)]; exact h1)⟩

theorem below_ret {w W : World} (h : Below w.heap.size w W) (a b : Value) : Below w.heap.size w ((W.setCell ⟨w.heap.size + 1 + 1, 0, none⟩ a).setCell ⟨w.heap.size + 1 + 1, 1, none⟩ b) :=
  (h.setCell (by show w.heap.size ≤ w.heap.size + 1 + 1; omega) _).setCell (by show w.heap.size ≤ w.heap.size + 1 + 1; omega) _

theorem wild_yes {p : ByteArray} {e : Ent} (h1 : e.op.toList = p.toList) (h2 : e.ov.toList.isEmpty = true) : isWild p e = true := by simp only [isWild, h1, h2]; simp
theorem wild_no1 {p : ByteArray} {e : Ent} (h1 : ¬e.op.toList = p.toList) : isWild p e = false := by simp [isWild, h1]
theorem wild_no2 {p : ByteArray} {e : Ent} (h2 : e.ov.toList.isEmpty = false) : isWild p e = false := by simp only [isWild, h2]; simp
theorem exact_yes {p v : ByteArray} {e : Ent} (h1 : e.op.toList = p.toList) (h2 : e.ov.toList = v.toList) : isExact p v e = true := by simp [isExact, h1, h2]
theorem exact_no1 {p v : ByteArray} {e : Ent} (h1 : ¬e.op.toList = p.toList) : isExact p v e = false := by simp [isExact, h1]
theorem exact_no2 {p v : ByteArray} {e : Ent} (h2 : ¬e.ov.toList = v.toList) : isExact p v e = false := by simp [isExact, h2]

set_option maxHeartbeats 400000 in
theorem replaced_any (ao : Option Addr) (n cap : Nat) (rq : Value) (es : List Ent) (p v : ByteArray) (w : World) (hn : n ≤ 65536) (hes : EntsAt w ao n es) :
    Calls Try.prog 24 #[.agg #[rq, .slice ao n cap], .agg #[.string p, .string v]] w fun e w' => e = .returned (.agg #[.string (repl es p v).1, .string (repl es p v).2]) ∧ Below w.heap.size w w' := by
  go_enter Try.func24, Try.ntmps24
  go_wp2
  go_loopw [12] (fun i wr => ∃ (k : Nat), k ≤ n ∧ i = .int .i64 k ∧ (∀ j, j < k → isExact p v (es.getD j noEnt) = false) ∧ Below (w.heap.size + 3) (boxed w rq (.slice ao n cap) p v) wr) (fun i _ => n - (intOf i).toNat)
  case atStart => exact ⟨0, Nat.zero_le _, rfl, by omega, Below.refl _ _⟩
  case round =>
    obtain ⟨k, hk, rfl, hx, hb⟩ := hrel
    have Hx : Hid (∀ j, j < k → isExact p v (es.getD j noEnt) = false) := hx
    have hz := size_of hb
    clear hx
    by_cases hlt : k < n
    case pos =>
      obtain ⟨g, rfl, hg, c0, c1, c2, c3⟩ := hes.2 k hlt
      have He : Hid (es.length = n) := hes.1
      generalize hek : es.getD k noEnt = e at c0 c1 c2 c3
      have Hek : Hid (es.getD k noEnt = e) := hek
      have d0 := old_cell hb hg c0
      have d1 := old_cell hb hg c1
      have d2 := old_cell hb hg c2
      have d3 := old_cell hb hg c3
      have p0 := fun o => (boxes1 hb o).1
      have p1 := fun o => (boxes1 hb o).2.1
      have p2 := fun o => (boxes1 hb o).2.2.1
      have p3 := fun o => (boxes1 hb o).2.2.2.1
      have p4 := fun o => (boxes1 hb o).2.2.2.2.1
      have p5 := fun o => (boxes1 hb o).2.2.2.2.2
      clear hes c0 c1 c2 c3 hek
      go_wp2
      · have e1 : e.op.toList = p.toList := by assumption
        have e2 : e.ov.toList = v.toList := by assumption
        have hr : repl es p v = (e.np, e.nv) := by
          have := repl_exact (es := es) (p := p) (v := v) (k := k) (by rw [He.out]; exact hlt) Hx.out (by rw [Hek.out]; exact exact_yes e1 e2)
          rw [Hek.out] at this
          exact this
        rw [hr]
        obtain ⟨q0, q1⟩ := two_stores (p2 (.cells #[.string e.op, .string e.ov, .string e.np, .string e.nv] 37)) (p3 _) (.string e.np) (.string e.nv)
        refine bodyPost_ret (v := .agg #[.string e.np, .string e.nv]) (by simp [results, Try.results24, go_sem, q0, q1]) rfl ⟨rfl, ?_⟩
        exact below_ret ((below_boxed hb).alloc (by omega) _) _ _
      · have e2 : ¬e.ov.toList = v.toList := by assumption
        go_roundw
        case rel => exact ⟨k + 1, by omega, by go_num, step_false Hx.out (by rw [Hek.out]; exact exact_no2 e2), hb.alloc (by omega) _⟩
        case measure => simp [intOf]; omega
      · have e1 : ¬e.op.toList = p.toList := by assumption
        go_roundw
        case rel => exact ⟨k + 1, by omega, by go_num, step_false Hx.out (by rw [Hek.out]; exact exact_no1 e1), hb.alloc (by omega) _⟩
        case measure => simp [intOf]; omega
    have hkn : k = n := by omega
    subst hkn
    have q1 := (boxes hb).1
    go_wp2
    go_loopw [26] (fun i wr => ∃ (k2 : Nat), k2 ≤ k ∧ i = .int .i64 k2 ∧ (∀ j, j < k2 → isWild p (es.getD j noEnt) = false) ∧ Below (w.heap.size + 3) (boxed w rq (.slice ao k cap) p v) wr) (fun i _ => k - (intOf i).toNat)
    case atStart => exact ⟨0, Nat.zero_le _, rfl, by omega, hb⟩
    case round =>
      clear hb hz q1
      obtain ⟨k2, hk2, rfl, hx2, hb⟩ := hrel
      have Hx2 : Hid (∀ j, j < k2 → isWild p (es.getD j noEnt) = false) := hx2
      have hz := size_of hb
      clear hx2
      by_cases hlt2 : k2 < k
      case pos =>
        obtain ⟨g, rfl, hg, c0, c1, c2, c3⟩ := hes.2 k2 hlt2
        have He : Hid (es.length = k) := hes.1
        generalize hek : es.getD k2 noEnt = e at c0 c1 c2 c3
        have Hek : Hid (es.getD k2 noEnt = e) := hek
        have d0 := old_cell hb hg c0
        have d1 := old_cell hb hg c1
        have d2 := old_cell hb hg c2
        have d3 := old_cell hb hg c3
        have p0 := fun o => (boxes1 hb o).1
        have p1 := fun o => (boxes1 hb o).2.1
        have p2 := fun o => (boxes1 hb o).2.2.1
        have p3 := fun o => (boxes1 hb o).2.2.2.1
        have p4 := fun o => (boxes1 hb o).2.2.2.2.1
        have p5 := fun o => (boxes1 hb o).2.2.2.2.2
        clear hes c0 c1 c2 c3 hek
        go_wp2
        · have e1 : e.op.toList = p.toList := by assumption
          have e2 : e.ov.toList.isEmpty = true := by assumption
          have hr : repl es p v = (e.np, e.nv) := by
            have := repl_wild (es := es) (p := p) (v := v) (k := k2) (by rw [He.out]; exact hlt2) (by rw [He.out]; exact Hx.out) Hx2.out (by rw [Hek.out]; exact wild_yes e1 e2)
            rw [Hek.out] at this
            exact this
          rw [hr]
          obtain ⟨q0, q1⟩ := two_stores (p2 (.cells #[.string e.op, .string e.ov, .string e.np, .string e.nv] 37)) (p3 _) (.string e.np) (.string e.nv)
          refine bodyPost_ret (v := .agg #[.string e.np, .string e.nv]) (by simp [results, Try.results24, go_sem, q0, q1]) rfl ⟨rfl, ?_⟩
          exact below_ret ((below_boxed hb).alloc (by omega) _) _ _
        · have e2 : e.ov.toList.isEmpty = false := by assumption
          go_roundw
          case rel => exact ⟨k2 + 1, by omega, by go_num, step_false Hx2.out (by rw [Hek.out]; exact wild_no2 e2), hb.alloc (by omega) _⟩
          case measure => simp [intOf]; omega
        · have e1 : ¬e.op.toList = p.toList := by assumption
          go_roundw
          case rel => exact ⟨k2 + 1, by omega, by go_num, step_false Hx2.out (by rw [Hek.out]; exact wild_no1 e1), hb.alloc (by omega) _⟩
          case measure => simp [intOf]; omega
      have He : Hid (es.length = k) := hes.1
      have hkn2 : k2 = k := by omega
      subst hkn2
      obtain ⟨_, p0, p1, p2, p3, p4, p5⟩ := boxes hb
      clear hes
      have Hr : Hid (repl es p v = (p, v)) := repl_self (by rw [He.out]; exact Hx.out) (by rw [He.out]; exact Hx2.out)
      go_wp2
      obtain ⟨q0, q1⟩ := two_stores p2 p3 (.string p) (.string v)
      rw [Hr.out]
      refine bodyPost_ret (v := .agg #[.string p, .string v]) (by simp [results, Try.results24, go_sem, q0, q1]) rfl ⟨rfl, ?_⟩
      exact below_ret (below_boxed hb) _ _

end Go.Proofs.Qxb6603385a
