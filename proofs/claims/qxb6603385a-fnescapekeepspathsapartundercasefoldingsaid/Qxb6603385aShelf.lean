/-
  THE SHELF's CONTRACTS AT THIS PROGRAM: two layings as the kit's tool writes them in plain words (the table of the first bears one row more: 72 goes to 44), and three contracts by application.
-/
import Derived.Shelf.Strings.BuilderRune
import Derived.Test.Qxb6603385aProg
namespace Go.Proofs
open Go.Shelf
def Try.lays242_ren : Go.Shelf.Ren := ⟨fun | 242 => 32 | 278 => 34 | n => n, fun | 72 => 44 | 37 => 39 | 21 => 21 | 51 => 55 | 4 => 4 | 5 => 5 | 46 => 56 | n => n, fun | n => n⟩
theorem Try.lays242 : Go.Proofs.Lays.n242 Try.prog Try.lays242_ren := {
  mixed := by kernel_rfl
  f242 := Try.func32.trans (congrArg some (by kernel_rfl))
  f278 := Try.func34.trans (congrArg some (by kernel_rfl))
  t4 := Try.underlying4
  a4 := Try.isAgg4
  z4 := Try.sizeOf4
  v4 := Try.zeroValue4
  t5 := Try.underlying5
  a5 := Try.isAgg5
  z5 := Try.sizeOf5
  v5 := Try.zeroValue5
  t21 := Try.underlying21
  a21 := Try.isAgg21
  z21 := Try.sizeOf21
  v21 := Try.zeroValue21
  t37 := Try.underlying39
  a37 := Try.isAgg39
  z37 := Try.sizeOf39
  v37 := Try.zeroValue39
  t46 := Try.underlying56
  a46 := Try.isAgg56
  z46 := Try.sizeOf56
  v46 := Try.zeroValue56
  t51 := Try.underlying55
  a51 := Try.isAgg55
  z51 := Try.sizeOf55
  v51 := Try.zeroValue55 }
def Try.lays169_ren : Go.Shelf.Ren := ⟨fun | 169 => 30 | n => n, fun | 70 => 42 | 9 => 9 | 0 => 0 | 72 => 44 | 37 => 39 | 127 => 52 | 3 => 3 | 5 => 5 | n => n, fun | n => n⟩
theorem Try.lays169 : Go.Proofs.Lays.n169 Try.prog Try.lays169_ren := {
  mixed := by kernel_rfl
  f169 := Try.func30.trans (congrArg some (by kernel_rfl))
  t0 := Try.underlying0
  a0 := Try.isAgg0
  z0 := Try.sizeOf0
  v0 := Try.zeroValue0
  t3 := Try.underlying3
  a3 := Try.isAgg3
  z3 := Try.sizeOf3
  v3 := Try.zeroValue3
  t9 := Try.underlying9
  a9 := Try.isAgg9
  z9 := Try.sizeOf9
  v9 := Try.zeroValue9
  t37 := Try.underlying39
  a37 := Try.isAgg39
  z37 := Try.sizeOf39
  v37 := Try.zeroValue39
  t70 := Try.underlying42
  a70 := Try.isAgg42
  z70 := Try.sizeOf42
  v70 := Try.zeroValue42
  t72 := Try.underlying44
  a72 := Try.isAgg44
  z72 := Try.sizeOf44
  v72 := Try.zeroValue44
  t127 := Try.underlying52
  a127 := Try.isAgg52
  z127 := Try.sizeOf52
  v127 := Try.zeroValue52 }
theorem Try.builderExtra242 : Builder.Extra Try.prog Try.lays242_ren := {
  sizeBuilder := by kernel_rfl
  liesBuilder := by kernel_rfl
  t5 := Try.underlying5
  a5 := Try.isAgg5
  z5 := Try.sizeOf5
  v5 := Try.zeroValue5
  infoByte := by kernel_rfl
  cellsByte := by kernel_rfl
  sizeByte := by kernel_rfl
  neB5 := by decide }
theorem Try.builderExtra169 : Builder.Extra Try.prog Try.lays169_ren := {
  sizeBuilder := by kernel_rfl
  liesBuilder := by kernel_rfl
  t5 := Try.underlying5
  a5 := Try.isAgg5
  z5 := Try.sizeOf5
  v5 := Try.zeroValue5
  infoByte := by kernel_rfl
  cellsByte := by kernel_rfl
  sizeByte := by kernel_rfl
  neB5 := by decide }
open Go.RowKit in
/-- unicode/utf8.AppendRune onto a row of bytes that the call owns. -/
theorem Try.appendRune (B : Nat) (v : Value) (n : Nat) (xs : List Value) (r : Int) (hr0 : -2147483648 ≤ r) (hr1 : r ≤ 2147483647) (w : World) (hown : w.ownsRowF B 5 1 v n xs) (hlen : n + 4 ≤ 140737488355328) (hBw : B ≤ w.heap.size) :
    Calls Try.prog 32 #[v, .int .i32 r] w fun e w' => ∃ v', e = .returned v' ∧ w'.ownsRowF B 5 1 v' (n + (Lib.runeCells r).length) (xs ++ Lib.runeCells r) ∧ ∃ o, (w.alloc o).grownBy w' v.ownBlock :=
  Any.utf8_AppendRune_own Try.lays242 Try.builderExtra242 B v n xs r hr0 hr1 w hown hlen hBw
open Go.RowKit in
/-- (*strings.Builder).String. -/
theorem Try.builderString (B b : Nat) (l : List UInt8) (w : World) (h : Lib.IsBuilderF 44 5 B b (Lib.byteCells l) w) (hBw : B ≤ w.heap.size) :
    Calls Try.prog 30 #[.pointer (some ⟨b, 0, none⟩)] w fun e w' => e = .returned (.string ⟨l.toArray⟩) ∧ (Lib.IsBuilderF 44 5 B b (Lib.byteCells l) w' ∧ Below B w w' ∧ Lib.OthersKept 5 (some b) w w') :=
  Any.Builder_String_any_k Try.lays169 Try.builderExtra169 B b l w h hBw
end Go.Proofs
