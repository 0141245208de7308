import Derived.Test.Qxb6603073aRows
import Derived.WalkKit
import Derived.WalkSpells
import Derived.WalkLawsBesides
import Derived.Deep.QuietTactic
import Derived.BigQuiet
import Derived.WalkSmall
import Derived.Below
namespace Go.Proofs.Qxb6603073a
open Go.RowKit

/-- A string's bytes. -/
abbrev Byts := List UInt8

/-- A slice of strings: 'len' strings, each in its cell. -/
def StrsAt (w : World) (a : Option Addr) (len : Nat) (ss : List Byts) : Prop :=
  ss.length = len ∧ ∀ i, i < len → ∃ b off, a = some ⟨b, off, none⟩ ∧ b < w.heap.size ∧ w.cell? ⟨b, off + i, none⟩ = some (.string ⟨(ss.getD i []).toArray⟩)

theorem StrsAt.cell {w : World} {a : Option Addr} {len : Nat} {ss : List Byts} (h : Hid (StrsAt w a len ss)) (i : Nat) (hi : i < len) :
    ∃ b off, a = some ⟨b, off, none⟩ ∧ b < w.heap.size ∧ w.cell? ⟨b, off + i, none⟩ = some (.string ⟨(ss.getD i []).toArray⟩) := h.2 i hi

/-- One part: its four cells, and the strings behind the first two. -/
structure Part where
  ea : Option Addr
  en : Nat
  ec : Nat
  es : List Byts
  na : Option Addr
  nn : Nat
  nc : Nat
  ns : List Byts
  ld : Int
  wd : Int

/-- No part. -/
def noPart : Part := ⟨none, 0, 0, [], none, 0, 0, [], 0, 0⟩

/-- A part's four cells hold it. -/
structure PartAt (w : World) (b o : Nat) (p : Part) : Prop where
  c0 : w.cell? ⟨b, o, none⟩ = some (.slice p.ea p.en p.ec)
  c1 : w.cell? ⟨b, o + 1, none⟩ = some (.slice p.na p.nn p.nc)
  c2 : w.cell? ⟨b, o + 2, none⟩ = some (.int .i64 p.ld)
  c3 : w.cell? ⟨b, o + 3, none⟩ = some (.int .i64 p.wd)
  s0 : StrsAt w p.ea p.en p.es
  s1 : StrsAt w p.na p.nn p.ns
  m0 : p.en ≤ maxLen
  m1 : p.nn ≤ maxLen

/-- A slice of parts. -/
def PartsAt (w : World) (a : Option Addr) (n : Nat) (ps : List Part) : Prop :=
  ps.length = n ∧ ∀ i, i < n → ∃ b off, a = some ⟨b, off, none⟩ ∧ b < w.heap.size ∧ PartAt w b (off + i * 4) (ps.getD i noPart)

theorem StrsAt.later {w w' : World} {a : Option Addr} {n : Nat} {ss : List Byts} (h : StrsAt w a n ss) (hb : Below w.heap.size w w') : StrsAt w' a n ss := by
  refine ⟨h.1, fun i hi => ?_⟩
  obtain ⟨b, off, rfl, hlt, hc⟩ := h.2 i hi
  exact ⟨b, off, rfl, Nat.lt_of_lt_of_le hlt hb.size, (hb.cell hlt).trans hc⟩

theorem PartAt.later {w w' : World} {b o : Nat} {p : Part} (h : PartAt w b o p) (hlt : b < w.heap.size) (hb : Below w.heap.size w w') : PartAt w' b o p :=
  ⟨(hb.cell hlt).trans h.c0, (hb.cell hlt).trans h.c1, (hb.cell hlt).trans h.c2, (hb.cell hlt).trans h.c3, h.s0.later hb, h.s1.later hb, h.m0, h.m1⟩

theorem PartsAt.later {w w' : World} {a : Option Addr} {n : Nat} {ps : List Part} (h : PartsAt w a n ps) (hb : Below w.heap.size w w') : PartsAt w' a n ps := by
  refine ⟨h.1, fun i hi => ?_⟩
  obtain ⟨b, off, rfl, hlt, hc⟩ := h.2 i hi
  exact ⟨b, off, rfl, Nat.lt_of_lt_of_le hlt hb.size, hc.later hlt hb⟩

/-- It returned some bool. -/
def SomeBool (e : Ending) : Prop := ∃ r, e = .returned (.bool r)
theorem SomeBool.mk (r : Bool) : SomeBool (.returned (.bool r)) := ⟨r, rfl⟩

/-- It returned some int. -/
def SomeInt (e : Ending) : Prop := ∃ x : Int, e = .returned (.int .i64 x)
theorem SomeInt.mk (x : Int) : SomeInt (.returned (.int .i64 x)) := ⟨x, rfl⟩

theorem Try.eqnil22 : ∀ (w : World) (a : Option Addr) (n c n' c' : Nat), (binOp .eql 22 (.slice a n c) (.slice none n' c')).run Try.prog w = .ok (.bool a.isNone) w :=
  fun w a n c n' c' => Lib.run_eql_slice_nil w _ _ a n c n' c' Try.underlying22

end Go.Proofs.Qxb6603073a
