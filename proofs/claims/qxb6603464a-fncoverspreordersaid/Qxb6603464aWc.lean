import Derived.Test.Qxb6603464aWb
import Derived.Sort.KeysCollected
import Derived.Sort.EncStr
namespace Go.Proofs.Qxb6603464a
open Go.RowKit Go.Maps

/-- held keeps each property of layout in the type that layout gives it. -/
def Cov (Dh Dl : DataW Unit) : Prop :=
  ∀ l : List UInt8, Maps.has Dl (.string l) = true → Maps.has Dh (.string l) = true ∧ Dh.atKey (.string l) (.lit (.int .i64 0)) = Dl.atKey (.string l) (.lit (.int .i64 0))

theorem Cov.refl (D : DataW Unit) : Cov D D := fun _ h => ⟨h, rfl⟩
theorem Cov.trans {A B C : DataW Unit} (h : Cov A B) (k : Cov B C) : Cov A C := fun l hl => by
  obtain ⟨h1, h2⟩ := k l hl
  obtain ⟨h3, h4⟩ := h l h1
  exact ⟨h3, h4.trans h2⟩

/-- What 'covers' says. -/
def CovSays (e : Ending) (Dh Dl : DataW Unit) : Prop := (e = .returned (.bool true) ∧ Cov Dh Dl) ∨ (e = .returned (.bool false) ∧ ¬ Cov Dh Dl)

theorem has_nil (kl : Lit) : Maps.has (.map [] : DataW Unit) kl = false := rfl

theorem invK (key : Value) (kl : Lit) (h : keyOf Try.prog 9 key = some kl) : ∃ x, key = encStr x := by
  obtain ⟨x, hx, _⟩ := Maps.keyOf_str Try.underlying9 h
  exact ⟨x, hx⟩
theorem invV (v : Value) (y : DataW Unit × List MemPlace) (h : plainElem Try.prog 30 v = some y) : ∃ c, v = Value.int .i64 c := by
  obtain ⟨c, rfl, _⟩ := plainElem_int_inv Try.underlying30 h
  exact ⟨c, rfl⟩
theorem entry_reads {x : List UInt8} {c : Int} {kl : Lit} {yd : DataW Unit} {yp : List MemPlace} (hk : keyOf Try.prog 9 (encStr x) = some kl) (hv : plainElem Try.prog 30 (.int .i64 c) = some (yd, yp)) : kl = .string x ∧ yd = .lit (.int .i64 c) := by
  obtain ⟨x', ex, rfl, _⟩ := Maps.keyOf_str Try.underlying9 hk
  obtain rfl : x = x' := encStr_inj ex
  obtain ⟨c', ec, ey, _⟩ := plainElem_int_inv Try.underlying30 hv
  simp only [Value.int.injEq, true_and] at ec
  subst ec
  simp only [Prod.mk.injEq] at ey
  exact ⟨rfl, ey.1⟩

theorem owns_below {w w' : World} {B n : Nat} {D : DataW Unit} (h : w.ownsMap Try.prog 9 (plainElem Try.prog 30) B n D) (hb : Below w.heap.size w w') : w'.ownsMap Try.prog 9 (plainElem Try.prog 30) B n D := by
  obtain ⟨es, clock, hh, rest⟩ := h
  exact ⟨es, clock, (hb.block B (lt_of_block hh)).trans hh, rest⟩

set_option maxHeartbeats 1000000 in
set_option maxRecDepth 100000 in
/-- Both maps not nil. -/
theorem covers_ss (Bh nh Bl nl : Nat) (Dh Dl : DataW Unit) (w : World) (hh : w.ownsMap Try.prog 9 (plainElem Try.prog 30) Bh nh Dh) (hl : w.ownsMap Try.prog 9 (plainElem Try.prog 30) Bl nl Dl) :
    Calls Try.prog 10 #[.map (some Bh), .map (some Bl)] w fun e w' => CovSays e Dh Dl ∧ Below w.heap.size w w' := by
  have hbl := hl.lt
  have hbh := hh.lt
  go_enter Try.func10, Try.ntmps10
  go_wp2_with (first
    | (at_range; refine wpList_range_own _ rfl _ 26 rfl 9 30 law9 Try.underlying26 _ Bl nl _ rfl hl ?_; intro w0 hrg0 hg0 hs0)
    | go_in)
  go_frame
  go_loopw [5, 6] (fun _ _ wr => ∃ (left : Lit → Bool) (cnt : Nat), wr.ranges Try.prog 9 (plainElem Try.prog 30) Bl w.heap.size nl Dl left cnt ∧ Below w.heap.size w wr ∧
      (∀ l : List UInt8, Maps.has Dl (.string l) = true → left (.string l) = false → Maps.has Dh (.string l) = true ∧ Dh.atKey (.string l) (.lit (.int .i64 0)) = Dl.atKey (.string l) (.lit (.int .i64 0))))
    (fun _ _ wr => wr.rangeLeft Bl w.heap.size)
  case atStart => exact ⟨_, _, hrg0, (Below.refl _ _).grown hg0 (Nat.le_refl _) (fun j hj => by cases hj), fun l h1 h2 => by rw [h1] at h2; cases h2⟩
  case round =>
    obtain ⟨left, cnt, hrg, hbw, hdone⟩ := hrel
    have Hdone : Hid (∀ l : List UInt8, Maps.has Dl (.string l) = true → left (.string l) = false → Maps.has Dh (.string l) = true ∧ Dh.atKey (.string l) (.lit (.int .i64 0)) = Dl.atKey (.string l) (.lit (.int .i64 0))) := hdone
    clear hdone
    go_wp2_with (first
      | (at_next; refine wpList_next_ranges _ rfl _ rfl 9 law9 (plainElem Try.prog 30) encStr (Value.int .i64) invK invV Bl w.heap.size nl _ _ _ rfl hrg ?_ ?_)
      | go_in)
    · intro _ hl0
      go_wp2
      go_ret
      exact ⟨.inl ⟨rfl, fun l h => Hdone.out l h (hl0 _)⟩, hbw⟩
    · intro x c kl yd yp w2 cnt2 hkey hlk hv hat hrg2 hlt hg2 hs2 hen
      obtain ⟨hkl, hyd⟩ := entry_reads hkey hv
      subst hkl
      rw [hyd] at hat
      have B2 : Below w.heap.size w w2 := hbw.grown hg2 hbw.size (fun j hj => by cases hj; exact Nat.le_refl _)
      have hh2 : w2.ownsMap Try.prog 9 (plainElem Try.prog 30) Bh nh Dh := owns_below hh B2
      have hDl : Hid (Maps.has Dl (.string x) = true) := has_true_of_atKey hat
      have Hat : Hid (Dl.atKey (.string x) (.lit (.int .i64 0)) = .lit (.int .i64 c)) := hat _
      have Hm : Hid (w2.rangeLeft Bl w.heap.size < wr.rangeLeft Bl w.heap.size) := by
        show _ < _
        rw [hrg2.left_eq, hrg.left_eq]; exact hlt
      clear hat hs2 hlt hrg hg2 hlk hv hyd
      cases hhas : Maps.has Dh (.string x)
      case false =>
        go_wp2_with (first
          | (at_lookup; refine wpList_lookup_own_ok_int _ rfl _ _ 26 rfl 9 30 .i64 law9 Try.underlying26 Try.underlying30 (zero30 _) Bh nh _ rfl hh2 _ _ rfl hkey ?_; intro c2 hat2 hwc2)
          | go_in)
        go_ret
        exact ⟨.inr ⟨rfl, fun hc => by have := (hc x hDl.out).1; rw [hhas] at this; cases this⟩, B2⟩
      go_wp2_with (first
          | (at_lookup; refine wpList_lookup_own_ok_int _ rfl _ _ 26 rfl 9 30 .i64 law9 Try.underlying26 Try.underlying30 (zero30 _) Bh nh _ rfl hh2 _ _ rfl hkey ?_; intro c2 hat2 hwc2)
          | go_in)
      · have hne : (c2 != c) = true := by assumption
        go_ret
        refine ⟨.inr ⟨rfl, fun hc => ?_⟩, B2⟩
        have h2 := (hc x hDl.out).2
        rw [hat2, Hat.out] at h2
        simp only [DataW.lit.injEq, Lit.int.injEq, true_and] at h2
        simp [h2] at hne
      · have hne : (c2 != c) = false := by assumption
        have hcc : c2 = c := by simpa using hne
        go_roundw
        case rel =>
          refine ⟨_, cnt2, hrg2, B2, fun l h1 h2 => ?_⟩
          by_cases hlx : l = x
          · subst hlx
            exact ⟨hhas, by rw [hat2, Hat.out, hcc]⟩
          · have hs : (Lit.string l).sameKey (.string x) = false := by simp [Lit.sameKey, hlx]
            simp only [hs, Bool.not_false, Bool.and_true] at h2
            exact Hdone.out l h1 h2
        case measure => exact Hm.out

theorem look_none (w : World) (x : List UInt8) (hk : keyOf Try.prog 9 (encStr x) = some (.string x)) : (Instr.lookup 26 (.map none) (encStr x) true).run Try.prog w = .ok (.tuple #[.int .i64 0, .bool false]) w :=
  look_nil true law9 Try.underlying26 (zero30 w) hk

set_option maxHeartbeats 1000000 in
set_option maxRecDepth 100000 in
/-- held is nil. -/
theorem covers_ns (Bl nl : Nat) (Dl : DataW Unit) (w : World) (hl : w.ownsMap Try.prog 9 (plainElem Try.prog 30) Bl nl Dl) :
    Calls Try.prog 10 #[.map none, .map (some Bl)] w fun e w' => CovSays e (.map []) Dl ∧ Below w.heap.size w w' := by
  have hbl := hl.lt
  go_enter Try.func10, Try.ntmps10
  go_wp2_with (first
    | (at_range; refine wpList_range_own _ rfl _ 26 rfl 9 30 law9 Try.underlying26 _ Bl nl _ rfl hl ?_; intro w0 hrg0 hg0 hs0)
    | go_in)
  go_frame
  go_loopw [5, 6] (fun _ _ wr => ∃ (left : Lit → Bool) (cnt : Nat), wr.ranges Try.prog 9 (plainElem Try.prog 30) Bl w.heap.size nl Dl left cnt ∧ Below w.heap.size w wr ∧
      (∀ l : List UInt8, Maps.has Dl (.string l) = true → left (.string l) = true))
    (fun _ _ wr => wr.rangeLeft Bl w.heap.size)
  case atStart => exact ⟨_, _, hrg0, (Below.refl _ _).grown hg0 (Nat.le_refl _) (fun j hj => by cases hj), fun l h1 => h1⟩
  case round =>
    obtain ⟨left, cnt, hrg, hbw, hdone⟩ := hrel
    have Hdone : Hid (∀ l : List UInt8, Maps.has Dl (.string l) = true → left (.string l) = true) := hdone
    clear hdone
    go_wp2_with (first
      | (at_next; refine wpList_next_ranges _ rfl _ rfl 9 law9 (plainElem Try.prog 30) encStr (Value.int .i64) invK invV Bl w.heap.size nl _ _ _ rfl hrg ?_ ?_)
      | go_in)
    · intro _ hl0
      go_wp2
      go_ret
      exact ⟨.inl ⟨rfl, fun l h => by have := Hdone.out l h; rw [hl0] at this; cases this⟩, hbw⟩
    · intro x c kl yd yp w2 cnt2 hkey hlk hv hat hrg2 hlt hg2 hs2 hen
      obtain ⟨hkl, hyd⟩ := entry_reads hkey hv
      subst hkl
      rw [hyd] at hat
      have B2 : Below w.heap.size w w2 := hbw.grown hg2 hbw.size (fun j hj => by cases hj; exact Nat.le_refl _)
      have hDl : Hid (Maps.has Dl (.string x) = true) := has_true_of_atKey hat
      have hlook := look_none w2 x hkey
      clear hat hs2 hlt hrg hg2 hlk hv hyd hrg2
      go_wp2
      go_ret
      exact ⟨.inr ⟨rfl, fun hc => by have := (hc x hDl.out).1; rw [has_nil] at this; cases this⟩, B2⟩

set_option maxHeartbeats 1000000 in
/-- layout is nil. -/
theorem covers_n (v : Value) (hv : ∃ r, v = .map r) (Dh : DataW Unit) (w : World) :
    Calls Try.prog 10 #[v, .map none] w fun e w' => CovSays e Dh (.map []) ∧ Below w.heap.size w w' := by
  obtain ⟨r, rfl⟩ := hv
  have hrg := run_range_nilMap (P := Try.prog) w 26 9 30 Try.underlying26
  have hnx : ∀ ty, (Instr.next (.pointer (some ⟨w.heap.size, 0, none⟩)) false ty).run Try.prog (w.alloc (.mapIter none 0 #[] 0)) = _ := fun ty => run_next_nilMap _ ty 0 0 #[]
  go_enter Try.func10, Try.ntmps10
  go_wp2
  refine wp_loop_rounds 1 ?_
  rw [rounds_succ]
  go_wp2
  go_ret
  exact ⟨.inl ⟨rfl, fun l h => by rw [has_nil] at h; cases h⟩, (Below.refl _ _).alloc (Nat.le_refl _) _⟩

/-- 'ZZcovers', whatever the two maps. -/
theorem covers_any (vh vl : Value) (Dh Dl : DataW Unit) (w : World) (hh : MapIs w vh Dh) (hl : MapIs w vl Dl) :
    Calls Try.prog 10 #[vh, vl] w fun e w' => CovSays e Dh Dl ∧ Below w.heap.size w w' := by
  rcases hl with ⟨rfl, rfl⟩ | ⟨Bl, nl, rfl, hl⟩
  · exact covers_n vh (by rcases hh with ⟨h, _⟩ | ⟨B, n, h, _⟩ <;> exact ⟨_, h⟩) Dh w
  · rcases hh with ⟨rfl, rfl⟩ | ⟨Bh, nh, rfl, hh⟩
    · exact covers_ns Bl nl Dl w hl
    · exact covers_ss Bh nh Bl nl Dh Dl w hh hl

set_option maxHeartbeats 400000 in
theorem zzcovers_any (vh vl : Value) (Dh Dl : DataW Unit) (w : World) (hh : MapIs w vh Dh) (hl : MapIs w vl Dl) :
    Calls Try.prog 8 #[vh, vl] w fun e w' => CovSays e Dh Dl ∧ Below w.heap.size w w' := by
  go_enter Try.func8, Try.ntmps8
  go_wp2_with fail
  refine (covers_any vh vl Dh Dl w hh hl).mono ?_
  rintro e W ⟨⟨rfl, hc⟩ | ⟨rfl, hc⟩, hb⟩
  · go_wp2
    go_ret
    exact ⟨.inl ⟨rfl, hc⟩, hb⟩
  · go_wp2
    go_ret
    exact ⟨.inr ⟨rfl, hc⟩, hb⟩

end Go.Proofs.Qxb6603464a
