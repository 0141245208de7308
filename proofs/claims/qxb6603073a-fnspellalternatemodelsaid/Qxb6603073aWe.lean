import Derived.Test.Qxb6603073aWd
import Derived.Deep.CutRange
namespace Go.Proofs.Qxb6603073a
open Go.RowKit

/-- What an alternation leaves: the plain answer. -/
def AltPost (ps : List Part) (w : World) (e : Ending) (w' : World) : Prop :=
  ∃ ve vn, e = .returned (.tuple #[ve, vn, .int .i64 (alt ps).2.2.1, .int .i64 (alt ps).2.2.2]) ∧ RowOf w' ve (alt ps).1 ∧ RowOf w' vn (alt ps).2.1 ∧ Below w.heap.size w w'

/-- Two values' own blocks are not one. -/
def Apart (v u : Value) : Prop := ∀ q, v.ownBlock = some q → u.ownBlock ≠ some q

/-- Two sets of the call's own. -/
structure Sets (w : World) (wr : World) (es ns : Value) (S T : List Byts) : Prop where
  e : wr.ownsRow w.heap.size 9 1 es S.length (rowS S)
  n : wr.ownsRow w.heap.size 9 1 ns T.length (rowS T)
  ap : Apart es ns
  bel : Below w.heap.size w wr
  en : S = [] → es = .slice none 0 0
  nn : T = [] → ns = .slice none 0 0

theorem Sets.alloc {w wr : World} {es ns : Value} {S T : List Byts} (h : Sets w wr es ns S T) (o : Obj) : Sets w (wr.alloc o) es ns S T :=
  ⟨h.e.alloc _, h.n.alloc _, h.ap, h.bel.alloc h.bel.size _, h.en, h.nn⟩

theorem Sets.drewN {w wr : World} {es ns : Value} {S T : List Byts} (h : Sets w wr es ns S T) (q : Nat) : Sets w (wr.drewN q) es ns S T :=
  ⟨h.e, h.n, h.ap, below_drewN h.bel _, h.en, h.nn⟩

theorem kept_of {w w' : World} {base : Nat} {v u : Value} {T : List Byts} (h : w.ownsRow base 9 1 u T.length (rowS T)) (hg : w.grownBy w' v.ownBlock) (ha : Apart v u) : w'.ownsRow base 9 1 u T.length (rowS T) := by
  refine h.kept hg ?_
  cases hu : u.ownBlock with
  | none => exact .inl rfl
  | some q => exact .inr (fun e => ha q (by rw [← e]) hu)

theorem Sets.first {w wr w' : World} {es ns es' : Value} {S T S' : List Byts} (h : Sets w wr es ns S T) (ho : w'.ownsRow w.heap.size 9 1 es' S'.length (rowS S')) (hg : wr.grownBy w' es.ownBlock) (hl : Lies wr es es') (hn : S' = [] → es' = .slice none 0 0) : Sets w w' es' ns S' T := by
  refine ⟨ho, kept_of h.n hg h.ap, fun q hq hn => ?_, h.bel.grown hg h.bel.size (fun k hk => (h.e.lt k hk).1), hn, h.nn⟩
  rcases hl q hq with e | e
  · exact h.ap q e hn
  · have := (h.n.lt q hn).2; omega

theorem Sets.second {w wr w' : World} {es ns ns' : Value} {S T T' : List Byts} (h : Sets w wr es ns S T) (ho : w'.ownsRow w.heap.size 9 1 ns' T'.length (rowS T')) (hg : wr.grownBy w' ns.ownBlock) (hl : Lies wr ns ns') (hnn : T' = [] → ns' = .slice none 0 0) : Sets w w' es ns' S T' := by
  have ap' : Apart ns es := fun q hq he => h.ap q he hq
  refine ⟨kept_of h.e hg ap', ho, fun q hq hn => ?_, h.bel.grown hg h.bel.size (fun k hk => (h.n.lt k hk).1), h.en, hnn⟩
  rcases hl q hn with e | e
  · exact h.ap q hq e
  · have := (h.e.lt q hq).2; omega

theorem box_kept {wr w' : World} {v : Value} {q : Nat} {o : Obj} (h : wr.heap[q]? = some o) (hg : wr.grownBy w' v.ownBlock) (hn : v.ownBlock ≠ some q) : w'.heap[q]? = some o := by
  have hq : q < wr.heap.size := by
    rcases Nat.lt_or_ge q wr.heap.size with hlt | hge
    · exact hlt
    · rw [Array.getElem?_eq_none hge] at h; cases h
  rw [hg.block q hq (fun e => hn e.symm)]; exact h

theorem Try.neqnil26 (w : World) (a : Option Addr) (n c : Nat) : (binOp .neq 26 (.slice a n c) (.slice none 0 0)).run Try.prog w = .ok (.bool (!a.isNone)) w := by
  simp only [binOp]
  simp [Op.equal, Op.maxDepth, Lib.run_equalIn_slice_nil w 9999 26 9 a n c 0 0 Try.underlying26]

theorem box_cells {wc : World} {q : Nat} {v0 v1 v2 v3 : Value} {t : TypeId} (h : wc.heap[q]? = some (.cells #[v0, v1, v2, v3] t (0, 0))) :
    wc.cell? ⟨q, 0, none⟩ = some v0 ∧ wc.cell? ⟨q, 1, none⟩ = some v1 ∧ wc.cell? ⟨q, 2, none⟩ = some v2 ∧ wc.cell? ⟨q, 3, none⟩ = some v3 := by
  refine ⟨?_, ?_, ?_, ?_⟩ <;> (rw [cell_of_row wc _ _ _ _ _ h]; rfl)

theorem box_other {wc : World} {q : Nat} {v0 v1 v2 v3 : Value} {t : TypeId} (h : wc.heap[q]? = some (.cells #[v0, v1, v2, v3] t (0, 0))) (ht : t ≠ 9) {B n : Nat} {v : Value} {xs : List Value} (ho : wc.ownsRow B 9 1 v n xs) : v.ownBlock ≠ some q := by
  intro e
  rcases ho.2 with ⟨rfl, _⟩ | ⟨g, cap, cur, rfl, _, hg, _⟩
  · simp [Value.ownBlock] at e
  · simp only [Value.ownBlock, Option.some.injEq] at e
    rw [e, h] at hg
    simp only [Option.some.injEq, Obj.cells.injEq] at hg
    exact ht hg.2.1

theorem rowOf_own {w : World} {B : Nat} {v : Value} {S : List Byts} (h : w.ownsRow B 9 1 v S.length (rowS S)) (hn : S = [] → v = .slice none 0 0) : RowOf w v S := by
  rcases h.2 with ⟨rfl, h0⟩ | ⟨g, cap, cur, rfl, _, hg, _⟩
  · have : S = [] := List.length_eq_zero_iff.1 h0
    subst this
    exact RowOf.nil _
  · have hlt : g < w.heap.size := by
      rcases Nat.lt_or_ge g w.heap.size with hlt | hge
      · exact hlt
      · rw [Array.getElem?_eq_none hge] at hg; cases hg
    refine ⟨_, cap, rfl, ⟨rfl, fun i hi => ⟨g, 0, rfl, hlt, ?_⟩⟩, ?_⟩
    · rw [Nat.zero_add]; exact own_cell h hi
    · cases S with
      | nil => have := hn rfl; simp at this
      | cons x t => rfl

theorem alt_eq {ps : List Part} {S T : List Byts} {eo no : Bool} (hE : Built (catE ps) S eo) (hN : Built (catN ps) T no) :
    alt ps = if allE ps = true ∧ eo = false then (S, [], 0, wids ps) else if allN ps = true ∧ no = false then ([], T, leads ps, wids ps) else ([], [], 0, wids ps) := by
  have h1 : (uniq (catE ps)).length ≤ 64 ↔ eo = false := by
    cases eo with
    | false => rw [← hE.eq]; exact ⟨fun _ => rfl, fun _ => hE.len⟩
    | true => have := hE.over; exact ⟨fun h => by omega, fun h => by simp at h⟩
  have h2 : (uniq (catN ps)).length ≤ 64 ↔ no = false := by
    cases no with
    | false => rw [← hN.eq]; exact ⟨fun _ => rfl, fun _ => hN.len⟩
    | true => have := hN.over; exact ⟨fun h => by omega, fun h => by simp at h⟩
  unfold alt
  simp only [h1, h2]
  by_cases c1 : allE ps = true ∧ eo = false
  · obtain ⟨a1, rfl⟩ := c1
    simp [a1, hE.eq]
  · rw [if_neg c1, if_neg c1]
    by_cases c2 : allN ps = true ∧ no = false
    · obtain ⟨a2, rfl⟩ := c2
      simp [a2, hN.eq]
    · rw [if_neg c2, if_neg c2]

/-- The model's loop. -/
structure MRel (w : World) (ps : List Part) (n : Nat) (wd wo ld lo ae an es ns eo no i : Value) (wr : World) : Prop where
  ex : ∃ (k : Nat) (x y : Int) (xo yo eo' no' : Bool) (S T : List Byts), k ≤ n ∧ i = .int .i64 k ∧ wd = .int .i64 x ∧ wo = .bool xo ∧ ld = .int .i64 y ∧ lo = .bool yo ∧
    ae = .bool (allE (ps.take k)) ∧ an = .bool (allN (ps.take k)) ∧ eo = .bool eo' ∧ no = .bool no' ∧ 0 ≤ x ∧ 0 ≤ y ∧ wids (ps.take k) = bound xo x ∧ leads (ps.take k) = bound yo y ∧
    Built (catE (ps.take k)) S eo' ∧ Built (catN (ps.take k)) T no' ∧ Sets w wr es ns S T

set_option linter.unusedSimpArgs false in
set_option maxHeartbeats 4000000 in
set_option maxRecDepth 100000 in
theorem model_any (a : Option Addr) (n c : Nat) (ps : List Part) (w : World) (hn : n ≤ maxLen) (hp : PartsAt w a n ps) :
    Calls Try.prog 10 #[.slice a n c] w fun e w' => AltPost ps w e w' := by
  unfold maxLen at hn
  have hlen := hp.1
  have Hp : Hid (PartsAt w a n ps) := hp
  clear hp
  go_enter Try.func10, Try.ntmps10
  go_wp2
  go_loopw [6, 7, 8, 9, 10, 11, 12, 13, 14, 15, 22] (fun wd wo ld lo ae an es ns eo no i wr => MRel w ps n wd wo ld lo ae an es ns eo no i wr) (fun _ _ _ _ _ _ _ _ _ _ i _ => n - (intOf i).toNat)
  case atStart => exact ⟨0, 0, 0, false, false, false, false, [], [], Nat.zero_le _, rfl, rfl, rfl, rfl, rfl, rfl, rfl, rfl, rfl, by omega, by omega, rfl, rfl, Built.nil, Built.nil, World.ownsRow_nil _ _ _ _, World.ownsRow_nil _ _ _ _, fun q hq => by simp [Value.ownBlock] at hq, Below.refl _ _, fun _ => rfl, fun _ => rfl⟩
  case round =>
    obtain ⟨k, x, y, xo, yo, eo', no', S, T, hk, rfl, rfl, rfl, rfl, rfl, rfl, rfl, rfl, rfl, hx0, hy0, hwd, hld, hBe, hBn, hSets⟩ := hrel.ex
    by_cases hlt : k < n
    case neg =>
      have hkn : k = n := by omega
      subst hkn
      rw [List.take_of_length_le (by omega)] at hwd hld hBe hBn
      have Halt := (show Hid _ from alt_eq hBe hBn)
      rw [hwd, hld] at Halt
      have Hs := (show Hid _ from hSets)
      rw [List.take_of_length_le (by omega)]
      generalize hae : allE ps = ae at Halt
      generalize han : allN ps = an at Halt
      clear hrel hae han hwd hld hBe hBn hSets
      have hlt' : ¬ (k : Int) < k := by omega
      go_upto_if 79 with fail
      go_cut [6] from 79 (fun s6 wx => s6 = .int .i64 (bound xo x) ∧ wx = wr)
      case first =>
        cases xo <;> (go_wp2_with fail; go_meet; case rel => exact ⟨rfl, rfl⟩)
      case rest =>
        obtain ⟨rfl, rfl⟩ := hcut
        generalize bound xo x = X at Halt
        go_upto_if 80 with fail
        go_cut [8] from 79 (fun s8 wx => s8 = .int .i64 (bound yo y) ∧ wx = wc)
        case first =>
          cases yo <;> (go_wp2_with fail; go_meet; case rel => exact ⟨rfl, rfl⟩)
        case rest =>
          obtain ⟨rfl, rfl⟩ := hcut
          generalize bound yo y = Y at Halt
          by_cases q1 : ae = true ∧ eo' = false
          · obtain ⟨rfl, rfl⟩ := q1
            go_wp2_with fail
            refine bodyPost_ret (v := .tuple #[u12, .slice none 0 0, .int .i64 0, .int .i64 X]) (by simp [results, Try.results10, go_sem]) rfl ?_
            refine ⟨u12, .slice none 0 0, ?_, ?_, ?_, (hout Hs).bel⟩
            all_goals rw [hout Halt, if_pos (by simp)]
            · exact rowOf_own (hout Hs).e (hout Hs).en
            · exact RowOf.nil _
          by_cases q2 : an = true ∧ no' = false
          · obtain ⟨rfl, rfl⟩ := q2
            have Hq1 := (show Hid _ from q1)
            cases ae <;> cases eo' <;> first
              | exact absurd ⟨rfl, rfl⟩ q1
              | (clear q1
                 go_wp2_with fail
                 refine bodyPost_ret (v := .tuple #[.slice none 0 0, u13, .int .i64 Y, .int .i64 X]) (by simp [results, Try.results10, go_sem]) rfl ?_
                 refine ⟨.slice none 0 0, u13, ?_, ?_, ?_, (hout Hs).bel⟩
                 all_goals rw [hout Halt, if_neg (hout Hq1), if_pos (by simp)]
                 · exact RowOf.nil _
                 · exact rowOf_own (hout Hs).n (hout Hs).nn)
          have Hq1 := (show Hid _ from q1)
          have Hq2 := (show Hid _ from q2)
          cases ae <;> cases eo' <;> cases an <;> cases no' <;> first
            | exact absurd ⟨rfl, rfl⟩ q1
            | exact absurd ⟨rfl, rfl⟩ q2
            | (clear q1 q2
               go_wp2_with fail
               refine bodyPost_ret (v := .tuple #[.slice none 0 0, .slice none 0 0, .int .i64 0, .int .i64 X]) (by simp [results, Try.results10, go_sem]) rfl ?_
               refine ⟨.slice none 0 0, .slice none 0 0, ?_, ?_, ?_, (hout Hs).bel⟩
               all_goals rw [hout Halt, if_neg (hout Hq1), if_neg (hout Hq2)]
               · exact RowOf.nil _
               · exact RowOf.nil _)
    obtain ⟨b, off, ha, hb, hpk⟩ := (hout Hp).2 k hlt
    subst ha
    generalize hg : ps.getD k noPart = p at hpk
    have Hg : Hid (ps.take (k + 1) = ps.take k ++ [p]) := by rw [← hg]; exact take_step (by omega)
    clear hg hrel
    have c0 := (hSets.bel.cell (p := ⟨b, off + k * 4, none⟩) hb).trans hpk.c0
    have c1 := (hSets.bel.cell (p := ⟨b, off + k * 4 + 1, none⟩) hb).trans hpk.c1
    have c2 := (hSets.bel.cell (p := ⟨b, off + k * 4 + 2, none⟩) hb).trans hpk.c2
    have c3 := (hSets.bel.cell (p := ⟨b, off + k * 4 + 3, none⟩) hb).trans hpk.c3
    have Hs0 : Hid (StrsAt w p.ea p.en p.es) := hpk.s0
    have Hs1 : Hid (StrsAt w p.na p.nn p.ns) := hpk.s1
    have m0 := hpk.m0
    have m1 := hpk.m1
    have Hwd := (show Hid _ from hwd)
    have Hld := (show Hid _ from hld)
    have HBe := (show Hid _ from hBe)
    have HBn := (show Hid _ from hBn)
    have HSets := (show Hid _ from hSets)
    clear hwd hld hBe hBn hSets hpk
    generalize hae : allE (ps.take k) = ae
    generalize han : allN (ps.take k) = an
    have Hae := (show Hid _ from hae)
    have Han := (show Hid _ from han)
    clear hae han
    obtain ⟨ea, en, ec, es, na, nn, nc, ns, ld, wd⟩ := p
    dsimp only at c0 c1 c2 c3 Hs0 Hs1 m0 m1
    have hlt' : (k : Int) < n := by omega
    generalize hq : wr.heap.size = q
    go_upto_if 31 with fail
    go_cut [6, 7, 22] from 22 to 78 (fun s6 s7 i wx => i = .int .i64 k ∧ ∃ (x' : Int) (xo' : Bool), s6 = .int .i64 x' ∧ s7 = .bool xo' ∧ 0 ≤ x' ∧ mb (bound xo x) wd = bound xo' x' ∧ wx.heap[q]? = some (.cells #[.slice ea en ec, .slice na nn nc, .int .i64 ld, .int .i64 wd] 31 (0, 0)) ∧ Sets w wx u12 u13 S T)
    case first =>
      have hbx : (wr.alloc (.cells #[.slice ea en ec, .slice na nn nc, .int .i64 ld, .int .i64 wd] 31)).heap[q]? = some (.cells #[.slice ea en ec, .slice na nn nc, .int .i64 ld, .int .i64 wd] 31 (0, 0)) := by rw [← hq]; exact heap_alloc_new _ _
      have Hbx := (show Hid _ from hbx)
      clear hbx
      subst hq
      by_cases h1 : wd < 0
      · go_wp2_with fail
        go_meet
        case rel => exact ⟨rfl, x, true, rfl, rfl, hx0, bound_neg h1, hout Hbx, (hout HSets).alloc _⟩
      by_cases h2 : x < wd
      · go_wp2_with fail
        go_meet
        case rel => exact ⟨rfl, wd, xo, rfl, rfl, by omega, bound_up hx0 h2, hout Hbx, (hout HSets).alloc _⟩
      go_wp2_with fail
      go_meet
      case rel => exact ⟨rfl, x, xo, rfl, rfl, hx0, bound_same hx0 (by omega) (by omega), hout Hbx, (hout HSets).alloc _⟩
    case rest =>
      obtain ⟨rfl, x', xo', rfl, rfl, hx0', hw', hbox, hS⟩ := hcut
      obtain ⟨b0, b1, b2, b3⟩ := box_cells hbox
      have e1 := Try.eqnil26 wc ea en ec 0 0
      have Hw' := (show Hid _ from hw')
      have Hbox := (show Hid _ from hbox)
      have HS := (show Hid _ from hS)
      clear hw' hbox hS c0 c1 c2 c3 HSets hx0
      go_upto_if 40 with fail
      go_cut [10, 22] from 22 to 78 (fun s10 i wx => i = .int .i64 k ∧ s10 = .bool (ae && ea.isSome) ∧ wx = wc)
      case first =>
        cases ea with
        | none =>
          go_wp2_with fail
          go_meet
          case rel => exact ⟨rfl, by simp, rfl⟩
        | some ad =>
          go_wp2_with fail
          go_meet
          case rel => exact ⟨rfl, by simp, rfl⟩
      case rest =>
        obtain ⟨rfl, rfl, rfl⟩ := hcut
        clear e1
        generalize hae' : (ae && ea.isSome) = ae'
        have Hae' := (show Hid _ from hae')
        clear hae'
        go_upto_if 42 with fail
        go_cut [12, 14, 22] from 22 to 78 (fun s12 s14 i wx => i = .int .i64 k ∧ ∃ (S' : List Byts) (ov : Bool), s14 = .bool ov ∧ Built (catE (ps.take k) ++ es) S' ov ∧ Sets w wx s12 u13 S' T ∧ wx.heap[q]? = some (.cells #[.slice ea en ec, .slice na nn nc, .int .i64 ld, .int .i64 wd] 31 (0, 0)))
        case first =>
          cases eo' with
          | false =>
            go_wp2_with fail
            refine (insert_any w _ (hout HS).bel _ S _ (hout HS).e (hout HBe) (hout HS).en ea en ec es m0 (hout Hs0)).mono ?_
            rintro e W ⟨v', S', ov, rfl, ho, hB, hgr, hl, hni⟩
            have Hr : Hid (Built (catE (ps.take k) ++ es) S' ov ∧ Sets w W v' u13 S' T ∧ W.heap[q]? = some (.cells #[.slice ea en ec, .slice na nn nc, .int .i64 ld, .int .i64 wd] 31 (0, 0))) :=
              ⟨hB, (hout HS).first ho hgr hl hni, box_kept (hout Hbox) hgr (box_other (hout Hbox) (by decide) (hout HS).e)⟩
            clear ho hB hgr hl hni
            go_wp2_with fail
            go_meet
            case rel => exact ⟨rfl, S', ov, rfl, (hout Hr).1, (hout Hr).2.1, (hout Hr).2.2⟩
          | true =>
            go_wp2_with fail
            go_meet
            case rel => exact ⟨rfl, S, true, rfl, (hout HBe).skip _, hout HS, hout Hbox⟩
        case rest =>
          clear b0 b1 b2 b3 HS Hbox HBe
          obtain ⟨rfl, S', ov, rfl, hBe, hS, hbox⟩ := hcut
          obtain ⟨b0, b1, b2, b3⟩ := box_cells hbox
          have HBe := (show Hid _ from hBe)
          have Hbox := (show Hid _ from hbox)
          have HS := (show Hid _ from hS)
          clear hBe hbox hS
          have e2 : ∀ W, (binOp .neq 26 (.slice ea en ec) (.slice none 0 0)).run Try.prog W = .ok (.bool (!ea.isNone)) W := fun W => Try.neqnil26 W ea en ec
          generalize hP : (⟨ea, en, ec, es, na, nn, nc, ns, ld, wd⟩ : Part) = P at Hg
          have HP := (show Hid _ from hP)
          clear hP
          go_wp2_with fail
          go_quiet (fail)
          go_upto_if 56 with fail
          go_cut [18, 19, 22] from 22 to 78 (fun s18 s19 i wx => i = .int .i64 k ∧ ∃ (ta : Option Addr) (tn tc : Nat), s18 = .slice ta tn tc ∧ s19 = .int .i64 P.lead ∧ StrsAt w ta tn P.tx ∧ ta.isNone = P.tno ∧ tn ≤ maxLen ∧ Sets w wx u12 u13 S' T)
          case first =>
            cases ea with
            | none =>
              go_wp2_with fail
              go_meet
              case rel =>
                rw [← hout HP]
                exact ⟨rfl, na, nn, nc, rfl, by simp [Part.lead], by simpa [Part.tx] using hout Hs1, by simp [Part.tno], m1, (hout HS).drewN _⟩
            | some ad =>
              go_wp2_with fail
              refine (hasempty_any (some ad) en ec es _ m0 ((hout Hs0).later (below_drewN (hout HS).bel _))).mono ?_
              rintro e W ⟨rfl, rfl⟩
              by_cases hm : [] ∈ es
              · have HH := (show Hid _ from hm)
                simp only [hm, decide_true]
                clear hm
                go_wp2_with fail
                go_meet
                case rel =>
                  rw [← hout HP]
                  exact ⟨rfl, none, 0, 0, rfl, by simp [Part.lead], by simpa [Part.tx, hout HH] using ⟨rfl, fun i hi => by omega⟩, by simp [Part.tno, hout HH], by simp, (hout HS).drewN _⟩
              · have HH := (show Hid _ from hm)
                simp only [hm, decide_false]
                clear hm
                go_wp2_with fail
                go_meet
                case rel =>
                  rw [← hout HP]
                  have hm' : ¬ [] ∈ es := hout HH
                  exact ⟨rfl, some ad, en, ec, rfl, by simp [Part.lead], by simpa [Part.tx, hm'] using hout Hs0, by simp [Part.tno, hm'], m0, (hout HS).drewN _⟩
          case rest =>
            obtain ⟨rfl, ta, tn, tc, rfl, rfl, hst, htn, htm, hS2⟩ := hcut
            have HS2 := (show Hid _ from hS2)
            have Hst := (show Hid _ from hst)
            clear hS2 hst b0 b1 b2 b3 Hbox HS e2
            generalize hl : P.lead = l
            have Hl := (show Hid _ from hl)
            clear hl
            have e3 : ∀ W, (binOp .eql 26 (.slice ta tn tc) (.slice none 0 0)).run Try.prog W = .ok (.bool ta.isNone) W := fun W => Try.eqnil26 W ta tn tc 0 0
            rw [htn] at e3
            generalize htno : P.tno = tno at e3
            have Htno := (show Hid _ from htno)
            clear htno htn
            go_upto_if 63 with fail
            go_cut [11, 22] from 22 to 78 (fun s11 i wx => i = .int .i64 k ∧ s11 = .bool (an && !tno) ∧ wx = wc)
            case first =>
              cases tno with
              | true =>
                go_wp2_with fail
                go_meet
                case rel => exact ⟨rfl, by simp, rfl⟩
              | false =>
                go_wp2_with fail
                go_meet
                case rel => exact ⟨rfl, by simp, rfl⟩
            case rest =>
              obtain ⟨rfl, rfl, rfl⟩ := hcut
              generalize han' : (an && !tno) = an'
              have Han' := (show Hid _ from han')
              clear han' e3
              go_upto_if 65 with fail
              go_cut [13, 15, 22] from 22 to 78 (fun s13 s15 i wx => i = .int .i64 k ∧ ∃ (T' : List Byts) (nv : Bool), s15 = .bool nv ∧ Built (catN (ps.take k) ++ P.tx) T' nv ∧ Sets w wx u12 s13 S' T')
              case first =>
                cases no' with
                | false =>
                  go_wp2_with fail
                  refine (insert_any w _ (hout HS2).bel _ T _ (hout HS2).n (hout HBn) (hout HS2).nn ta tn tc P.tx htm (hout Hst)).mono ?_
                  rintro e W ⟨v', T', nv, rfl, ho, hB, hgr, hl, hni⟩
                  have Hr : Hid (Built (catN (ps.take k) ++ P.tx) T' nv ∧ Sets w W u12 v' S' T') := ⟨hB, (hout HS2).second ho hgr hl hni⟩
                  clear ho hB hgr hl hni
                  go_wp2_with fail
                  go_meet
                  case rel => exact ⟨rfl, T', nv, rfl, (hout Hr).1, (hout Hr).2⟩
                | true =>
                  go_wp2_with fail
                  go_meet
                  case rel => exact ⟨rfl, T, true, rfl, (hout HBn).skip _, hout HS2⟩
              case rest =>
                obtain ⟨rfl, T', nv, rfl, hBn', hS3⟩ := hcut
                have HS3 := (show Hid _ from hS3)
                have HBn' := (show Hid _ from hBn')
                clear hBn' hS3 HS2 HBn
                have fin : ∀ (y' : Int) (yo' : Bool), 0 ≤ y' → mb (bound yo y) l = bound yo' y' → MRel w ps n (.int .i64 x') (.bool xo') (.int .i64 y') (.bool yo') (.bool ae') (.bool an') u12 u13 (.bool ov) (.bool nv) (.int .i64 ((k : Int) + 1)) wc := fun y' yo' hy' hb' => by
                  refine ⟨k + 1, x', y', xo', yo', ov, nv, S', T', by omega, by go_num, rfl, rfl, rfl, rfl, ?_, ?_, rfl, rfl, hx0', hy', ?_, ?_, ?_, ?_, hout HS3⟩
                  · rw [hout Hg, allE_snoc, hout Hae, ← hout Hae', ← hout HP]
                  · rw [hout Hg, allN_snoc, hout Han, hout Htno, hout Han']
                  · rw [hout Hg, wids_snoc, hout Hwd, ← hout Hw', ← hout HP]
                  · rw [hout Hg, leads_snoc, hout Hld, hout Hl, hb']
                  · rw [hout Hg, catE_snoc, ← hout HP]; exact hout HBe
                  · rw [hout Hg, catN_snoc]; exact hout HBn'
                have Hfin := (show Hid _ from fin)
                clear fin
                by_cases h1 : l < 0
                · go_wp2_with fail
                  go_roundw
                  case rel => exact hout Hfin y true hy0 (bound_neg h1)
                  case measure => simp [intOf]; omega
                by_cases h2 : y < l
                · go_wp2_with fail
                  go_roundw
                  case rel => exact hout Hfin l yo (by omega) (bound_up hy0 h2)
                  case measure => simp [intOf]; omega
                go_wp2_with fail
                go_roundw
                case rel => exact hout Hfin y yo hy0 (bound_same hy0 (by omega) (by omega))
                case measure => simp [intOf]; omega

end Go.Proofs.Qxb6603073a
