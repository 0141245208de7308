import Derived.Test.Qxb6603073aWe
import Derived.Test.Qxb6603073aWs
import Derived.Test.Qxb6603073aWz
import Derived.Laws.AppendOwnNone
import Derived.Maps.AppendAt
import Derived.OneCell
namespace Go.Proofs.Qxb6603073a
open Go.RowKit

/-- nil slices have no length and no room. -/
def Nils (p : Part) : Prop := (p.ea = none → p.en = 0 ∧ p.ec = 0) ∧ (p.na = none → p.nn = 0 ∧ p.nc = 0)

/-- The result's box, the needles' box, the two rows. -/
structure AB (w wx : World) (es ns : Value) (E N : List Byts) (l : Int) : Prop where
  r : wx.heap[w.heap.size]? = some (.cells #[.slice none 0 0, .slice none 0 0, .int .i64 0, .int .i64 0] 43 (0, 0))
  d : wx.heap[w.heap.size + 1]? = some (.cells #[ns, .int .i64 l] 41 (0, 0))
  s : Sets w wx es ns E N

theorem lt_of_heap {w : World} {q : Nat} {o : Obj} (h : w.heap[q]? = some o) : q < w.heap.size := (Array.getElem?_eq_some_iff.1 h).1

theorem AB.alloc {w wx : World} {es ns : Value} {E N : List Byts} {l : Int} (h : AB w wx es ns E N l) (o : Obj) : AB w (wx.alloc o) es ns E N l :=
  ⟨(Below.heap_alloc _ _ _ (lt_of_heap h.r)).trans h.r, (Below.heap_alloc _ _ _ (lt_of_heap h.d)).trans h.d, h.s.alloc _⟩

/-- A box of another type is no row of strings. -/
theorem box_ne {wc : World} {q : Nat} {cs : Array Value} {t : TypeId} (h : wc.heap[q]? = some (.cells cs t (0, 0))) (ht : t ≠ 9) {B n : Nat} {v : Value} {xs : List Value} (ho : wc.ownsRow B 9 1 v n xs) : v.ownBlock ≠ some q := by
  intro e
  rcases ho.2 with ⟨rfl, _⟩ | ⟨g, cap, cur, rfl, _, hg, _⟩
  · simp [Value.ownBlock] at e
  · simp only [Value.ownBlock, Option.some.injEq] at e
    rw [e, h] at hg
    simp only [Option.some.injEq, Obj.cells.injEq] at hg
    exact ht hg.2.1

theorem AB.first {w wx w' : World} {es ns es' : Value} {E N E' : List Byts} {l : Int} (h : AB w wx es ns E N l) (ho : w'.ownsRow w.heap.size 9 1 es' E'.length (rowS E')) (hg : wx.grownBy w' es.ownBlock) (hl : Lies wx es es') (hn : E' = [] → es' = .slice none 0 0) : AB w w' es' ns E' N l :=
  ⟨box_kept h.r hg (box_ne h.r (by decide) h.s.e), box_kept h.d hg (box_ne h.d (by decide) h.s.e), h.s.first ho hg hl hn⟩

theorem Sets.set {w wx : World} {es ns : Value} {E N : List Byts} {q j : Nat} {cs : Array Value} {t : TypeId} (h : Sets w wx es ns E N) (hq : wx.heap[q]? = some (.cells cs t (0, 0))) (ht : t ≠ 9) (hw : w.heap.size ≤ q) (u : Value) : Sets w (wx.setCell ⟨q, j, none⟩ u) es ns E N :=
  ⟨ownsRow_setCell_other h.e (box_ne hq ht h.e) _, ownsRow_setCell_other h.n (box_ne hq ht h.n) _, h.ap, h.bel.setCell hw _, h.en, h.nn⟩

theorem set_same {wx : World} {q j : Nat} {cs : Array Value} {t : TypeId} (h : wx.heap[q]? = some (.cells cs t (0, 0))) (u : Value) : (wx.setCell ⟨q, j, none⟩ u).heap[q]? = some (.cells (cs.setIfInBounds j u) t (0, 0)) :=
  heap_setCell_same wx q j cs t u h

theorem set_other {wx : World} {q j k : Nat} (u : Value) (hne : k ≠ q) : (wx.setCell ⟨q, j, none⟩ u).heap[k]? = wx.heap[k]? := Below.heap_setCell wx ⟨q, j, none⟩ u k hne

/-- The needles' row has grown and is stored in its box. -/
theorem AB.second {w wx w' : World} {es ns ns' : Value} {E N N' : List Byts} {l : Int} (h : AB w wx es ns E N l) (ho : w'.ownsRow w.heap.size 9 1 ns' N'.length (rowS N')) (hg : wx.grownBy w' ns.ownBlock) (hl : Lies wx ns ns') (hn : N' = [] → ns' = .slice none 0 0) :
    AB w (w'.setCell ⟨w.heap.size + 1, 0, none⟩ ns') es ns' E N' l := by
  have hr := box_kept h.r hg (box_ne h.r (by decide) h.s.n)
  have hd := box_kept h.d hg (box_ne h.d (by decide) h.s.n)
  exact ⟨(set_other _ (by omega)).trans hr, set_same hd _, (h.s.second ho hg hl hn).set hd (by decide) (by omega) _⟩

theorem AB.lead {w wx : World} {es ns : Value} {E N : List Byts} {l : Int} (h : AB w wx es ns E N l) (l' : Int) : AB w (wx.setCell ⟨w.heap.size + 1, 1, none⟩ (.int .i64 l')) es ns E N l' :=
  ⟨(set_other _ (by omega)).trans h.r, set_same h.d _, h.s.set h.d (by decide) (by omega) _⟩

theorem AB.below {w wx w' : World} {es ns : Value} {E N : List Byts} {l : Int} (h : AB w wx es ns E N l) (hb : Below wx.heap.size wx w') : AB w w' es ns E N l := by
  have hg : ∀ r, wx.grownBy w' r := fun r => ⟨hb.os, hb.tape, hb.output, hb.size, fun k hk _ => hb.block k hk⟩
  refine ⟨(hb.block _ (lt_of_heap h.r)).trans h.r, (hb.block _ (lt_of_heap h.d)).trans h.d, h.s.e.kept (hg none) ?_, h.s.n.kept (hg none) ?_, h.s.ap, h.s.bel.trans (hb.mono h.s.bel.size), h.s.en, h.s.nn⟩
  · cases es.ownBlock <;> simp
  · cases ns.ownBlock <;> simp

theorem box2 {wc : World} {q : Nat} {v0 v1 : Value} {t : TypeId} (h : wc.heap[q]? = some (.cells #[v0, v1] t (0, 0))) :
    wc.cell? ⟨q, 0, none⟩ = some v0 ∧ wc.cell? ⟨q, 1, none⟩ = some v1 ∧ wc.frozen? ⟨q, 0, none⟩ = false ∧ wc.frozen? ⟨q, 1, none⟩ = false :=
  ⟨by rw [cell_of_row wc _ _ _ _ _ h]; rfl, by rw [cell_of_row wc _ _ _ _ _ h]; rfl, by simp [World.frozen?, h], by simp [World.frozen?, h]⟩

theorem need_form (p : Part) {w : World} (h0 : StrsAt w p.ea p.en p.es) (h1 : StrsAt w p.na p.nn p.ns) (m0 : p.en ≤ 1048576) (m1 : p.nn ≤ 1048576) (hz : Nils p) :
    ∃ ta tn tc, needVal p = .agg #[.slice ta tn tc, .int .i64 p.lead] ∧ StrsAt w ta tn p.tx ∧ ta.isNone = p.tno ∧ tn ≤ 1048576 ∧ (ta = none → tn = 0 ∧ tc = 0) := by
  obtain ⟨ea, en, ec, es, na, nn, nc, ns, ld, wd⟩ := p
  unfold needVal Part.tx Part.tno Part.lead
  dsimp only at *
  cases ea with
  | none => exact ⟨na, nn, nc, by simp, by simpa using h1, by simp, m1, hz.2⟩
  | some ad =>
    by_cases hm : [] ∈ es
    · exact ⟨none, 0, 0, by simp [hm], by simpa [hm] using ⟨rfl, fun i hi => by omega⟩, by simp [hm], by omega, fun _ => ⟨rfl, rfl⟩⟩
    · exact ⟨some ad, en, ec, by simp [hm], by simpa [hm] using h0, by simp [hm], m0, fun h => by simp at h⟩

/-- How long the rows get. -/
theorem cat_small {ps : List Part} {w : World} {a : Option Addr} {n : Nat} (hp : PartsAt w a n ps) (hs : Short n ps) : ∀ k, k ≤ n → (catE (ps.take k)).length ≤ k * 1048576 ∧ (catN (ps.take k)).length ≤ k * 1048576
  | 0, _ => by simp [catE, catN]
  | k + 1, hk => by
    obtain ⟨h1, h2⟩ := cat_small hp hs k (by omega)
    have hlt : k < n := by omega
    rw [take_step (by rw [hp.1]; omega), catE_snoc, catN_snoc]
    obtain ⟨b, off, _, _, hpk⟩ := hp.2 k hlt
    have e1 := hpk.s0.1
    have e2 := hpk.s1.1
    have e3 := hs.2 k hlt
    have e4 : (ps.getD k noPart).tx.length ≤ 1048576 := by
      unfold Part.tx
      split
      · split
        · simp
        · omega
      · omega
    simp only [List.length_append]
    omega

theorem news_of {w : World} {ad : Addr} {m : Nat} {xs : List Byts} (h : StrsAt w (some ad) m xs) : ∀ j u, (rowS xs)[j]? = some u → w.cell? (ad.add j) = some u := by
  intro j u hu
  have hj : j < xs.length := by
    rcases Nat.lt_or_ge j xs.length with h' | h'
    · exact h'
    · rw [List.getElem?_eq_none (by simpa [rowS] using h')] at hu; cases hu
  rw [rowS_at hj] at hu
  obtain ⟨b, off, he, _, hc⟩ := h.2 j (by rw [← h.1]; exact hj)
  obtain rfl : ad = ⟨b, off, none⟩ := by simpa using he
  rw [Addr.add_lit, hc]; exact hu

theorem rowS_one (xs : List Byts) : ∀ u ∈ rowS xs, u.oneCell' = true := by
  intro u hu
  simp only [rowS, List.mem_map] at hu
  obtain ⟨l, _, rfl⟩ := hu
  rfl

theorem rowS_append (a b : List Byts) : rowS (a ++ b) = rowS a ++ rowS b := by simp [rowS]

theorem lies_at {wx : World} {v v' : Value} (h : v'.ownBlock = v.ownBlock ∨ v'.ownBlock = some wx.heap.size) : Lies wx v v' := fun k hk => by
  rcases h with h | h
  · exact .inl (h ▸ hk)
  · rw [h] at hk
    have : wx.heap.size = k := by simpa using hk
    exact .inr (by omega)

theorem own_app {w' : World} {B m : Nat} {v' : Value} {E xs : List Byts} (hm : xs.length = m) (h : w'.ownsRow B 9 1 v' (E.length + m) (rowS E ++ rowS xs)) : w'.ownsRow B 9 1 v' (E ++ xs).length (rowS (E ++ xs)) := by
  rw [List.length_append, hm, rowS_append]; exact h

theorem nil_app {v v' : Value} {E xs : List Byts} {m : Nat} (hm : xs.length = m) (hv : E = [] → v = .slice none 0 0) (hni : v' = .slice none 0 0 ↔ v = .slice none 0 0 ∧ m = 0) : E ++ xs = [] → v' = .slice none 0 0 := fun h => by
  obtain ⟨h1, h2⟩ := List.append_eq_nil_iff.1 h
  exact hni.2 ⟨hv h1, by rw [← hm, h2]; rfl⟩

theorem AB.app1 {w wx w' : World} {es ns es' : Value} {E N xs : List Byts} {l : Int} {m : Nat} (h : AB w wx es ns E N l) (hm : xs.length = m) (ho : w'.ownsRow w.heap.size 9 1 es' (E.length + m) (rowS E ++ rowS xs)) (hg : wx.grownBy w' es.ownBlock)
    (hni : es' = .slice none 0 0 ↔ es = .slice none 0 0 ∧ m = 0) (hat : es'.ownBlock = es.ownBlock ∨ es'.ownBlock = some wx.heap.size) : AB w w' es' ns (E ++ xs) N l :=
  h.first (own_app hm ho) hg (lies_at hat) (nil_app hm h.s.en hni)

theorem AB.app2 {w wx w' : World} {es ns ns' : Value} {E N xs : List Byts} {l : Int} {m : Nat} (h : AB w wx es ns E N l) (hm : xs.length = m) (ho : w'.ownsRow w.heap.size 9 1 ns' (N.length + m) (rowS N ++ rowS xs)) (hg : wx.grownBy w' ns.ownBlock)
    (hni : ns' = .slice none 0 0 ↔ ns = .slice none 0 0 ∧ m = 0) (hat : ns'.ownBlock = ns.ownBlock ∨ ns'.ownBlock = some wx.heap.size) : AB w (w'.setCell ⟨w.heap.size + 1, 0, none⟩ ns') es ns' E (N ++ xs) l :=
  h.second (own_app hm ho) hg (lies_at hat) (nil_app hm h.s.nn hni)

theorem own_form' {w : World} {B n : Nat} {s : Value} {xs : List Value} (h : w.ownsRow B 9 1 s n xs) : ∃ ao cap, s = .slice ao n cap := by
  rcases h.2 with ⟨rfl, h0⟩ | ⟨g, cap, cur, rfl, _⟩
  · exact ⟨none, 0, by rw [h0]⟩
  · exact ⟨_, cap, rfl⟩

theorem heap_alloc_two (w : World) (o o' : Obj) : ((w.alloc o).alloc o').heap[w.heap.size + 1]? = some o' := by
  have := heap_alloc_new (w.alloc o) o'
  rwa [show (w.alloc o).heap.size = w.heap.size + 1 by simp] at this

theorem alt_def (ps : List Part) : alt ps = if allE ps = true ∧ (uniq (catE ps)).length ≤ 64 then (uniq (catE ps), [], 0, wids ps)
  else if allN ps = true ∧ (uniq (catN ps)).length ≤ 64 then ([], uniq (catN ps), leads ps, wids ps)
  else ([], [], 0, wids ps) := rfl

theorem AB.sort1 {w wx w' : World} {es ns : Value} {E N : List Byts} {l : Int} (h : AB w wx es ns E N l) (ho : w'.ownsRow w.heap.size 9 1 es E.length (rowS (sorted E))) (hg : wx.grownBy w' es.ownBlock) : AB w w' es ns (sorted E) N l :=
  h.first (by rw [List.length_mergeSort]; exact ho) hg (Lies.refl _ _) (fun e => h.s.en (by
    have : (sorted E).length = 0 := by rw [e]; rfl
    rw [List.length_mergeSort] at this
    exact List.length_eq_zero_iff.1 this))

theorem AB.same2 {w wx w' : World} {es ns : Value} {E N N' : List Byts} {l : Int} (h : AB w wx es ns E N l) (ho : w'.ownsRow w.heap.size 9 1 ns N'.length (rowS N')) (hg : wx.grownBy w' ns.ownBlock) (hn : N' = [] → ns = .slice none 0 0) : AB w w' es ns E N' l :=
  ⟨box_kept h.r hg (box_ne h.r (by decide) h.s.n), box_kept h.d hg (box_ne h.d (by decide) h.s.n), h.s.second ho hg (Lies.refl _ _) hn⟩

theorem AB.sort2 {w wx w' : World} {es ns : Value} {E N : List Byts} {l : Int} (h : AB w wx es ns E N l) (ho : w'.ownsRow w.heap.size 9 1 ns N.length (rowS (sorted N))) (hg : wx.grownBy w' ns.ownBlock) : AB w w' es ns E (sorted N) l :=
  h.same2 (by rw [List.length_mergeSort]; exact ho) hg (fun e => h.s.nn (by
    have : (sorted N).length = 0 := by rw [e]; rfl
    rw [List.length_mergeSort] at this
    exact List.length_eq_zero_iff.1 this))

theorem sorted_nil {E : List Byts} (h : uniq E = []) : sorted E = [] := by rw [uniq_eq_nil.1 h]; simp [sorted]

theorem AB.comp1 {w wx w' : World} {es ns es' : Value} {E N : List Byts} {l : Int} (h : AB w wx es ns (sorted E) N l) (ho : w'.ownsRow w.heap.size 9 1 es' (uniq E).length (rowS (uniq E))) (hg : wx.grownBy w' es.ownBlock) (hb : es'.ownBlock = es.ownBlock) (hn : es = .slice none 0 0 → es' = .slice none 0 0) : AB w w' es' ns (uniq E) N l :=
  h.first ho hg (fun _ hk => .inl (hb ▸ hk)) (fun e => hn (h.s.en (sorted_nil e)))

theorem AB.comp2 {w wx w' : World} {es ns ns' : Value} {E N : List Byts} {l : Int} (h : AB w wx es ns E (sorted N) l) (ho : w'.ownsRow w.heap.size 9 1 ns' (uniq N).length (rowS (uniq N))) (hg : wx.grownBy w' ns.ownBlock) (hb : ns'.ownBlock = ns.ownBlock) (hn : ns = .slice none 0 0 → ns' = .slice none 0 0) : AB w (w'.setCell ⟨w.heap.size + 1, 0, none⟩ ns') es ns' E (uniq N) l :=
  h.second ho hg (fun _ hk => .inl (hb ▸ hk)) (fun e => hn (h.s.nn (sorted_nil e)))

/-- The result's box is written. -/
theorem AB.done {w wx : World} {es ns : Value} {E N : List Byts} {l : Int} (h : AB w wx es ns E N l) (a0 a1 a2 a3 : Value) :
    let W := (((wx.setCell ⟨w.heap.size, 0, none⟩ a0).setCell ⟨w.heap.size, 1, none⟩ a1).setCell ⟨w.heap.size, 2, none⟩ a2).setCell ⟨w.heap.size, 3, none⟩ a3
    Sets w W es ns E N ∧ W.cell? ⟨w.heap.size, 0, none⟩ = some a0 ∧ W.cell? ⟨w.heap.size, 1, none⟩ = some a1 ∧ W.cell? ⟨w.heap.size, 2, none⟩ = some a2 ∧ W.cell? ⟨w.heap.size, 3, none⟩ = some a3 := by
  intro W
  have r0 := h.r
  have r1 := set_same (j := 0) r0 a0
  have r2 := set_same (j := 1) r1 a1
  have r3 := set_same (j := 2) r2 a2
  have r4 := set_same (j := 3) r3 a3
  refine ⟨(((h.s.set r0 (by decide) (Nat.le_refl _) a0).set r1 (by decide) (Nat.le_refl _) a1).set r2 (by decide) (Nat.le_refl _) a2).set r3 (by decide) (Nat.le_refl _) a3, ?_⟩
  exact box_cells r4

theorem AB.box {w wx : World} {es ns : Value} {E N : List Byts} {l : Int} (h : AB w wx es ns E N l) :
    wx.cell? ⟨w.heap.size, 0, none⟩ = some (.slice none 0 0) ∧ wx.cell? ⟨w.heap.size, 1, none⟩ = some (.slice none 0 0) ∧ wx.cell? ⟨w.heap.size, 2, none⟩ = some (.int .i64 0) ∧ wx.cell? ⟨w.heap.size, 3, none⟩ = some (.int .i64 0) ∧
    (∀ j, wx.frozen? ⟨w.heap.size, j, none⟩ = false) := by
  obtain ⟨h0, h1, h2, h3⟩ := box_cells h.r
  exact ⟨h0, h1, h2, h3, fun j => by simp [World.frozen?, h.r]⟩

/-- The loop of spellAlternate. -/
structure ARel (w : World) (ps : List Part) (n : Nat) (es ae an wd i : Value) (wr : World) : Prop where
  ex : ∃ (k : Nat) (ns : Value), k ≤ n ∧ i = .int .i64 k ∧ ae = .bool (allE (ps.take k)) ∧ an = .bool (allN (ps.take k)) ∧ wd = .int .i64 (wids (ps.take k)) ∧
    AB w wr es ns (catE (ps.take k)) (catN (ps.take k)) (leads (ps.take k))

/-- What spellAlternate leaves. -/
def SpellPost (ps : List Part) (w : World) (e : Ending) (w' : World) : Prop :=
  ∃ ve vn, e = .returned (.agg #[ve, vn, .int .i64 (alt ps).2.2.1, .int .i64 (alt ps).2.2.2]) ∧ RowOf w' ve (alt ps).1 ∧ RowOf w' vn (alt ps).2.1 ∧ Below w.heap.size w w'

set_option linter.unusedSimpArgs false in
set_option maxHeartbeats 4000000 in
set_option maxRecDepth 100000 in
theorem alternate_any (a : Option Addr) (n c : Nat) (ps : List Part) (w : World) (hs : Short n ps) (hp : PartsAt w a n ps) (hz : ∀ i, i < n → Nils (ps.getD i noPart)) :
    Calls Try.prog 18 #[.slice a n c] w fun e w' => SpellPost ps w e w' := by
  have hlen := hp.1
  have hn := hs.1
  have Hcat := (show Hid _ from cat_small hp hs)
  have Hp : Hid (PartsAt w a n ps) := hp
  have Hsh : Hid (Short n ps) := hs
  have Hz := (show Hid _ from hz)
  clear hp hs hz
  go_enter Try.func18, Try.ntmps18
  go_wp2
  go_loopw [3, 5, 6, 7, 13] (fun es ae an wd i wr => ARel w ps n es ae an wd i wr) (fun _ _ _ _ i _ => n - (intOf i).toNat)
  case atStart =>
    exact ⟨0, .slice none 0 0, Nat.zero_le _, rfl, rfl, rfl, rfl, (Below.heap_alloc _ _ _ (by simp)).trans (heap_alloc_new _ _), heap_alloc_two _ _ _,
      World.ownsRow_nil _ _ _ _, World.ownsRow_nil _ _ _ _, fun q hq => by simp [Value.ownBlock] at hq, ((Below.refl _ _).alloc (Nat.le_refl _) _).alloc (by simp) _, fun _ => rfl, fun _ => rfl⟩
  case round =>
    obtain ⟨k, ns, hk, rfl, rfl, rfl, rfl, hAB⟩ := hrel.ex
    by_cases hlt : k < n
    case neg =>
      have hkn : k = n := by omega
      subst hkn
      obtain ⟨hc1, hc2⟩ := hout Hcat k hk
      rw [List.take_of_length_le (by omega)] at hAB hc1 hc2
      rw [List.take_of_length_le (by omega)]
      have Halt := (show Hid _ from alt_def ps)
      generalize hae : allE ps = ae at Halt
      generalize han : allN ps = an at Halt
      generalize hwd : wids ps = X at Halt
      generalize hld : leads ps = Y at Halt hAB
      have HAB := (show Hid _ from hAB)
      clear hrel hae han hwd hld hAB
      have hlt' : ¬ (k : Int) < k := by omega
      go_wp2_with fail
      refine (sort_any u3 w.heap.size _ _ (hout HAB).s.e (by omega)).mono ?_
      rintro e W1 ⟨rfl, ho1, hg1⟩
      replace HAB := (show Hid _ from (hout HAB).sort1 ho1 hg1)
      clear ho1 hg1
      go_wp2_with fail
      refine (compact_any u3 w.heap.size _ _ (hout HAB).s.e).mono ?_
      rintro e W2 ⟨v2, rfl, ho2, hg2, hb2, hn2⟩
      replace HAB := (show Hid _ from (hout HAB).comp1 ho2 hg2 hb2 hn2)
      clear ho2 hg2 hb2 hn2
      obtain ⟨ao, cap, rfl⟩ := own_form' (hout HAB).s.e
      obtain ⟨r0, r1, r2, r3, rf⟩ := (hout HAB).box
      by_cases q1 : ae = true ∧ (uniq (catE ps)).length ≤ 64
      · obtain ⟨rfl, q1⟩ := q1
        have hdone := (hout HAB).done (.slice ao (uniq (catE ps)).length cap) (.slice none 0 0) (.int .i64 0) (.int .i64 X)
        have Hd := (show Hid _ from hdone.1)
        have Hc := (show Hid _ from hdone.2)
        clear hdone
        go_wp2_with fail
        obtain ⟨d0, d1, d2, d3⟩ := hout Hc
        refine bodyPost_ret (v := .agg #[.slice ao (uniq (catE ps)).length cap, .slice none 0 0, .int .i64 0, .int .i64 X]) (by simp [results, Try.results18, go_sem, d0, d1, d2, d3]) rfl ?_
        refine ⟨.slice ao (uniq (catE ps)).length cap, .slice none 0 0, ?_, ?_, ?_, (hout Hd).bel⟩
        rotate_left
        · rw [hout Halt, if_pos ⟨by simp, q1⟩]; exact rowOf_own (hout Hd).e (hout Hd).en
        · rw [hout Halt, if_pos ⟨by simp, q1⟩]; exact RowOf.nil _
        · rw [hout Halt, if_pos ⟨by simp, q1⟩]
      have Hq1 := (show Hid _ from q1)
      obtain ⟨n0, n1, f0, f1⟩ := box2 (hout HAB).d
      go_upto_region 20 with fail
      go_cut [55] from 46 (fun s55 wx => s55 = .bool false ∧ wx = W2)
      case first =>
        cases ae with
        | false =>
          go_wp2_with fail
          go_meet
          case rel => exact ⟨rfl, rfl⟩
        | true =>
          have hgt : ¬ (uniq (catE ps)).length ≤ 64 := fun h => q1 ⟨rfl, h⟩
          have hgt' : ¬ ((uniq (catE ps)).length : Int) ≤ 64 := by omega
          clear q1
          go_wp2_with fail
          go_meet
          case rel => exact ⟨by simp [hgt], rfl⟩
      case rest =>
        obtain ⟨rfl, rfl⟩ := hcut
        clear q1 r0 r1 r2 r3 rf
        go_wp2_with fail
        refine (sort_any ns w.heap.size _ _ (hout HAB).s.n (by omega)).mono ?_
        rintro e W3 ⟨rfl, ho1, hg1⟩
        replace HAB := (show Hid _ from (hout HAB).sort2 ho1 hg1)
        clear ho1 hg1 n0 n1 f0 f1
        obtain ⟨n0, n1, f0, f1⟩ := box2 (hout HAB).d
        go_upto_region 23 with fail
        go_cut [] from 46 (fun wx => ∃ v4, AB w wx (.slice ao (uniq (catE ps)).length cap) v4 (uniq (catE ps)) (uniq (catN ps)) Y)
        case first =>
          go_wp2_with fail
          refine (compact_any ns w.heap.size _ _ (hout HAB).s.n).mono ?_
          rintro e W4 ⟨v4, rfl, ho2, hg2, hb2, hn2⟩
          have hd' := box_kept (hout HAB).d hg2 (box_ne (hout HAB).d (by decide) (hout HAB).s.n)
          obtain ⟨n0', n1', f0', f1'⟩ := box2 hd'
          obtain ⟨ao4, cap4, rfl⟩ := own_form' ho2
          have Hr := (show Hid _ from (hout HAB).comp2 ho2 hg2 hb2 hn2)
          clear ho2 hg2 hb2 hn2 hd' n0 n1 f0 f1
          go_wp2_with fail
          go_meet
          case rel => exact ⟨_, hout Hr⟩
        case rest =>
          clear HAB n0 n1 f0 f1
          obtain ⟨v4, hAB⟩ := hcut
          have HAB := (show Hid _ from hAB)
          clear hAB
          obtain ⟨n0, n1, f0, f1⟩ := box2 (hout HAB).d
          obtain ⟨ao4, cap4, rfl⟩ := own_form' (hout HAB).s.n
          obtain ⟨r0, r1, r2, r3, rf⟩ := (hout HAB).box
          by_cases q2 : an = true ∧ (uniq (catN ps)).length ≤ 64
          · obtain ⟨rfl, q2⟩ := q2
            have hdone := (hout HAB).done (.slice none 0 0) (.slice ao4 (uniq (catN ps)).length cap4) (.int .i64 Y) (.int .i64 X)
            have Hd := (show Hid _ from hdone.1)
            have Hc := (show Hid _ from hdone.2)
            clear hdone
            go_wp2_with fail
            obtain ⟨d0, d1, d2, d3⟩ := hout Hc
            refine bodyPost_ret (v := .agg #[.slice none 0 0, .slice ao4 (uniq (catN ps)).length cap4, .int .i64 Y, .int .i64 X]) (by simp [results, Try.results18, go_sem, d0, d1, d2, d3]) rfl ?_
            refine ⟨.slice none 0 0, .slice ao4 (uniq (catN ps)).length cap4, ?_, ?_, ?_, (hout Hd).bel⟩
            rotate_left
            · rw [hout Halt, if_neg (hout Hq1), if_pos ⟨by simp, q2⟩]; exact RowOf.nil _
            · rw [hout Halt, if_neg (hout Hq1), if_pos ⟨by simp, q2⟩]; exact rowOf_own (hout Hd).n (hout Hd).nn
            · rw [hout Halt, if_neg (hout Hq1), if_pos ⟨by simp, q2⟩]
          have Hq2 := (show Hid _ from q2)
          have hdone := (hout HAB).done (.slice none 0 0) (.slice none 0 0) (.int .i64 0) (.int .i64 X)
          have Hd := (show Hid _ from hdone.1)
          have Hc := (show Hid _ from hdone.2)
          clear hdone
          cases an with
          | false =>
            go_wp2_with fail
            obtain ⟨d0, d1, d2, d3⟩ := hout Hc
            refine bodyPost_ret (v := .agg #[.slice none 0 0, .slice none 0 0, .int .i64 0, .int .i64 X]) (by simp [results, Try.results18, go_sem, d0, d1, d2, d3]) rfl ?_
            refine ⟨.slice none 0 0, .slice none 0 0, ?_, ?_, ?_, (hout Hd).bel⟩
            rotate_left
            · rw [hout Halt, if_neg (hout Hq1), if_neg (hout Hq2)]; exact RowOf.nil _
            · rw [hout Halt, if_neg (hout Hq1), if_neg (hout Hq2)]; exact RowOf.nil _
            · rw [hout Halt, if_neg (hout Hq1), if_neg (hout Hq2)]
          | true =>
            have hgt : ¬ (uniq (catN ps)).length ≤ 64 := fun h => q2 ⟨rfl, h⟩
            have hgt' : ¬ ((uniq (catN ps)).length : Int) ≤ 64 := by omega
            clear q2
            go_wp2_with fail
            obtain ⟨d0, d1, d2, d3⟩ := hout Hc
            refine bodyPost_ret (v := .agg #[.slice none 0 0, .slice none 0 0, .int .i64 0, .int .i64 X]) (by simp [results, Try.results18, go_sem, d0, d1, d2, d3]) rfl ?_
            refine ⟨.slice none 0 0, .slice none 0 0, ?_, ?_, ?_, (hout Hd).bel⟩
            rotate_left
            · rw [hout Halt, if_neg (hout Hq1), if_neg (hout Hq2)]; exact RowOf.nil _
            · rw [hout Halt, if_neg (hout Hq1), if_neg (hout Hq2)]; exact RowOf.nil _
            · rw [hout Halt, if_neg (hout Hq1), if_neg (hout Hq2)]
    obtain ⟨b, off, ha, hb, hpk⟩ := (hout Hp).2 k hlt
    have hnil := hout Hz k hlt
    have hsm := (hout Hsh).2 k hlt
    obtain ⟨hc1, hc2⟩ := hout Hcat k hk
    subst ha
    generalize hg : ps.getD k noPart = p at hpk hnil hsm
    have Hg : Hid (ps.take (k + 1) = ps.take k ++ [p]) := by rw [← hg]; exact take_step (by omega)
    clear hg hrel
    have c0 := (hAB.s.bel.cell (p := ⟨b, off + k * 4, none⟩) hb).trans hpk.c0
    have c1 := (hAB.s.bel.cell (p := ⟨b, off + k * 4 + 1, none⟩) hb).trans hpk.c1
    have c2 := (hAB.s.bel.cell (p := ⟨b, off + k * 4 + 2, none⟩) hb).trans hpk.c2
    have c3 := (hAB.s.bel.cell (p := ⟨b, off + k * 4 + 3, none⟩) hb).trans hpk.c3
    have Hs0 : Hid (StrsAt w p.ea p.en p.es) := hpk.s0
    have Hs1 : Hid (StrsAt w p.na p.nn p.ns) := hpk.s1
    have HAB := (show Hid _ from hAB)
    have Hnil := (show Hid _ from hnil)
    obtain ⟨m0, m1⟩ := hsm
    clear hAB hpk hnil
    generalize hae : allE (ps.take k) = ae
    generalize han : allN (ps.take k) = an
    generalize hwd : wids (ps.take k) = x
    generalize hld : leads (ps.take k) = y at HAB
    have Hae := (show Hid _ from hae)
    have Han := (show Hid _ from han)
    have Hwd := (show Hid _ from hwd)
    have Hld := (show Hid _ from hld)
    clear hae han hwd hld
    obtain ⟨ea, en, ec, es, na, nn, nc, ms, ld, wd⟩ := p
    dsimp only at c0 c1 c2 c3 Hs0 Hs1 m0 m1
    have hlt' : (k : Int) < n := by omega
    generalize hq : wr.heap.size = q
    have e1 : ∀ W, (binOp .eql 26 (.slice ea en ec) (.slice none 0 0)).run Try.prog W = .ok (.bool ea.isNone) W := fun W => Try.eqnil26 W ea en ec 0 0
    go_upto_if 23 with (go_at_call 19; refine (maxbound_any _ _ _).mono ?_; rintro e w' ⟨rfl, rfl⟩)
    go_cut [5, 13] from 13 to 45 (fun s5 i wx => i = .int .i64 k ∧ s5 = .bool (ae && ea.isSome) ∧ wx.heap[q]? = some (.cells #[.slice ea en ec, .slice na nn nc, .int .i64 ld, .int .i64 wd] 43 (0, 0)) ∧ AB w wx u3 ns (catE (ps.take k)) (catN (ps.take k)) y)
    case first =>
      have hbx : (wr.alloc (.cells #[.slice ea en ec, .slice na nn nc, .int .i64 ld, .int .i64 wd] 43)).heap[q]? = some (.cells #[.slice ea en ec, .slice na nn nc, .int .i64 ld, .int .i64 wd] 43 (0, 0)) := by rw [← hq]; exact heap_alloc_new _ _
      have Hbx := (show Hid _ from hbx)
      clear hbx
      subst hq
      cases ea with
      | none =>
        go_wp2_with fail
        go_meet
        case rel => exact ⟨rfl, by simp, hout Hbx, (hout HAB).alloc _⟩
      | some ad =>
        go_wp2_with fail
        go_meet
        case rel => exact ⟨rfl, by simp, hout Hbx, (hout HAB).alloc _⟩
    case rest =>
      clear HAB c0 c1 c2 c3 e1
      obtain ⟨rfl, rfl, hbox, hAB⟩ := hcut
      obtain ⟨b0, b1, b2, b3⟩ := box_cells hbox
      have Hbox := (show Hid _ from hbox)
      have HAB := (show Hid _ from hAB)
      clear hbox hAB
      generalize hae' : (ae && ea.isSome) = ae'
      have Hae' := (show Hid _ from hae')
      clear hae'
      obtain ⟨i0, hi, hz0, hz1, hz2⟩ := info_parts Try.info9
      go_upto_region 11 with fail
      go_cut [3, 13] from 13 to 45 (fun s3 i wx => i = .int .i64 k ∧ wx.heap[q]? = some (.cells #[.slice ea en ec, .slice na nn nc, .int .i64 ld, .int .i64 wd] 43 (0, 0)) ∧ AB w wx s3 ns (catE (ps.take k) ++ es) (catN (ps.take k)) y)
      case first =>
        have hown := (hout HAB).s.e
        have hbs := (hout HAB).s.bel.size
        cases ea with
        | none =>
          obtain ⟨rfl, rfl⟩ : en = 0 ∧ ec = 0 := (hout Hnil).1 rfl
          have hes : es = [] := List.length_eq_zero_iff.1 (hout Hs0).1
          go_wp2_with (at_builtin; refine wpList_append_own_none rfl _ _ 26 rfl w.heap.size 9 i0 1 Try.underlying26 hi _ _ _ rfl hown rfl ?_)
          go_meet
          case rel => rw [hes, List.append_nil]; exact ⟨rfl, hout Hbox, hout HAB⟩
        | some ad =>
          have hnews := news_of ((hout Hs0).later (hout HAB).s.bel)
          have hnl : (rowS es).length = en * 1 := by simp [rowS, (hout Hs0).1]
          go_wp2_with (at_builtin; refine wpList_append_own_at _ rfl _ _ 26 rfl w.heap.size 9 i0 (.string ByteArray.empty) 1 16 Try.underlying26 hi hz0 hz1 hz2 rfl (by decide) _ _ _ rfl hown ad en ec (rowS es) rfl hnl hnews (rowS_one _) ?c1 ?c2 hbs ?_)
          case c1 => unfold maxLen; omega
          case c2 => omega
          intro v' w' ho hgr hni hat
          have Hr : Hid (w'.heap[q]? = some (.cells #[.slice (some ad) en ec, .slice na nn nc, .int .i64 ld, .int .i64 wd] 43 (0, 0)) ∧ AB w w' v' ns (catE (ps.take k) ++ es) (catN (ps.take k)) y) :=
            ⟨box_kept (hout Hbox) hgr (box_ne (hout Hbox) (by decide) hown), (hout HAB).app1 (hout Hs0).1 ho hgr hni hat⟩
          clear ho hgr hni hat hown hnews hnl
          go_wp2_with fail
          go_meet
          case rel => exact ⟨rfl, (hout Hr).1, (hout Hr).2⟩
      case rest =>
        clear HAB Hbox b0 b1 b2 b3
        obtain ⟨rfl, hbox, hAB⟩ := hcut
        obtain ⟨b0, b1, b2, b3⟩ := box_cells hbox
        have HAB := (show Hid _ from hAB)
        have Hnf := (show Hid _ from need_form ⟨ea, en, ec, es, na, nn, nc, ms, ld, wd⟩ (w := w) (hout Hs0) (hout Hs1) m0 m1 (hout Hnil))
        generalize hP : (⟨ea, en, ec, es, na, nn, nc, ms, ld, wd⟩ : Part) = P at Hg Hnf
        have HP := (show Hid _ from hP)
        clear hbox hAB hP
        go_wp2_with fail
        refine (needles_any ea na en ec nn nc es ms ld wd _ (by unfold maxLen; omega) ((hout Hs0).later (hout HAB).s.bel)).mono ?_
        rintro e W ⟨rfl, hbW⟩
        rw [hout HP]
        obtain ⟨ta, tn, tc, hnv, hst, htn, htm, htz⟩ := hout Hnf
        rw [hnv]
        replace HAB := (show Hid _ from (hout HAB).below hbW)
        have Hst : Hid (StrsAt w ta tn P.tx) := hst
        have Htz := (show Hid _ from htz)
        have e3 : ∀ W, (binOp .eql 26 (.slice ta tn tc) (.slice none 0 0)).run Try.prog W = .ok (.bool ta.isNone) W := fun W => Try.eqnil26 W ta tn tc 0 0
        rw [htn] at e3
        generalize htno : P.tno = tno at e3
        have Htno := (show Hid _ from htno)
        generalize hl : P.lead = l
        have Hl := (show Hid _ from hl)
        clear htno htn hl hnv hst htz hbW b0 b1 b2 b3 Hnf
        generalize hq2 : W.heap.size = q2
        have Hq2 : Hid (w.heap.size + 1 < q2) := by rw [← hq2]; exact lt_of_heap (hout HAB).d
        go_upto_if 32 with fail
        go_cut [6, 13] from 13 to 45 (fun s6 i wx => i = .int .i64 k ∧ s6 = .bool (an && !tno) ∧ wx.heap[q2]? = some (.cells #[.slice ta tn tc, .int .i64 l] 41 (0, 0)) ∧ AB w wx u3 ns (catE (ps.take k) ++ es) (catN (ps.take k)) y)
        case first =>
          have hbx : (W.alloc (.cells #[.slice ta tn tc, .int .i64 l] 41)).heap[q2]? = some (.cells #[.slice ta tn tc, .int .i64 l] 41 (0, 0)) := by rw [← hq2]; exact heap_alloc_new _ _
          have Hbx := (show Hid _ from hbx)
          clear hbx
          subst hq2
          cases tno with
          | true =>
            go_wp2_with fail
            go_meet
            case rel => exact ⟨rfl, by simp, hout Hbx, (hout HAB).alloc _⟩
          | false =>
            go_wp2_with fail
            go_meet
            case rel => exact ⟨rfl, by simp, hout Hbx, (hout HAB).alloc _⟩
        case rest =>
          clear HAB e3 hq2
          obtain ⟨rfl, rfl, hbox2, hAB⟩ := hcut
          obtain ⟨d0, d1, _, _⟩ := box2 hbox2
          obtain ⟨n0, n1, f0, f1⟩ := box2 hAB.d
          have Hbox2 := (show Hid _ from hbox2)
          have HAB := (show Hid _ from hAB)
          clear hbox2 hAB
          generalize han' : (an && !tno) = an'
          have Han' := (show Hid _ from han')
          clear han'
          go_upto_region 15 with fail
          go_cut [13] from 13 to 45 (fun i wx => i = .int .i64 k ∧ ∃ ns', wx.heap[q2]? = some (.cells #[.slice ta tn tc, .int .i64 l] 41 (0, 0)) ∧ AB w wx u3 ns' (catE (ps.take k) ++ es) (catN (ps.take k) ++ P.tx) y)
          case first =>
            have hown := (hout HAB).s.n
            have hbs := (hout HAB).s.bel.size
            have hne : q2 ≠ w.heap.size + 1 := Nat.ne_of_gt (hout Hq2)
            cases ta with
            | none =>
              obtain ⟨rfl, rfl⟩ : tn = 0 ∧ tc = 0 := hout Htz rfl
              obtain ⟨ao, cap, rfl⟩ := own_form' hown
              have hes : P.tx = [] := List.length_eq_zero_iff.1 (hout Hst).1
              go_wp2_with (at_builtin; refine wpList_append_own_none rfl _ _ 26 rfl w.heap.size 9 i0 1 Try.underlying26 hi _ _ _ rfl hown rfl ?_)
              go_meet
              case rel => rw [hes, List.append_nil]; exact ⟨rfl, _, (set_other _ hne).trans (hout Hbox2), (hout HAB).second hown (grow_refl _ _) (Lies.refl _ _) (hout HAB).s.nn⟩
            | some ad =>
              have hnews := news_of ((hout Hst).later (hout HAB).s.bel)
              have hnl : (rowS P.tx).length = tn * 1 := by simp [rowS, (hout Hst).1]
              go_wp2_with (at_builtin; refine wpList_append_own_at _ rfl _ _ 26 rfl w.heap.size 9 i0 (.string ByteArray.empty) 1 16 Try.underlying26 hi hz0 hz1 hz2 rfl (by decide) _ _ _ rfl hown ad tn tc (rowS P.tx) rfl hnl hnews (rowS_one _) ?c1 ?c2 hbs ?_)
              case c1 => unfold maxLen; omega
              case c2 => omega
              intro v' w' ho hgr hni hat
              obtain ⟨ao', cap', rfl⟩ := own_form' ho
              have hd' := box_kept (hout HAB).d hgr (box_ne (hout HAB).d (by decide) hown)
              obtain ⟨n0', n1', f0', f1'⟩ := box2 hd'
              have Hr := (show Hid _ from (⟨(set_other (j := 0) (.slice ao' ((catN (ps.take k)).length + tn) cap') hne).trans (box_kept (hout Hbox2) hgr (box_ne (hout Hbox2) (by decide) hown)), (hout HAB).app2 (hout Hst).1 ho hgr hni hat⟩ : _ ∧ _))
              clear ho hgr hni hat hown hnews hnl hd'
              go_wp2_with fail
              go_meet
              case rel => exact ⟨rfl, _, (hout Hr).1, (hout Hr).2⟩
          case rest =>
            clear HAB Hbox2 d0 d1 n0 n1 f0 f1
            obtain ⟨rfl, ns', hbox2, hAB⟩ := hcut
            obtain ⟨d0, d1, _, _⟩ := box2 hbox2
            obtain ⟨n0, n1, f0, f1⟩ := box2 hAB.d
            have HAB := (show Hid _ from hAB)
            clear hbox2 hAB
            go_wp2_with (go_at_call 19; refine (maxbound_any _ _ _).mono ?_; rintro e w' ⟨rfl, rfl⟩)
            go_roundw
            case rel =>
              refine ⟨k + 1, ns', by omega, by go_num, ?_, ?_, ?_, ?_⟩
              · rw [hout Hg, allE_snoc, hout Hae, ← hout Hae', ← hout HP]
              · rw [hout Hg, allN_snoc, hout Han, hout Htno, hout Han']
              · rw [hout Hg, wids_snoc, hout Hwd, ← hout HP]
              · rw [hout Hg, catE_snoc, catN_snoc, leads_snoc, hout Hld, hout Hl]
                rw [← hout HP]
                rw [← hout HP] at HAB
                exact (hout HAB).lead _
            case measure => simp [intOf]; omega

end Go.Proofs.Qxb6603073a
