/-
  No cell of these rows narrows 'for every input' (looked for: loops, veiled, ifaces, maps, wideKeys, modest, calm, conditions, laid).
  DERIVED. THE GIVEN ROWS OF THIS SEAT. 3 by the template 'for every input the law returns true; each argument reads behind the call as it read before'; 0 by the template 'total and deterministic' (their statements: Qxb6603073aTotals.lean).
  GIVEN WITH THE SEED: the statements are not yours to turn. If you find one false, say at which input.
  Laid BY PROGRAM, IN A SANDBOX (cutbox-rows.mjs): the forced cells as the released guide's own fill.sh prints them over the translation 9e2dc4992890b21e… (all of the seat's roots in one cut). By AI agents, Wed Nov 11 2026. No macro, syntax, notation, axiom, sorry.
-/
import Derived.Test.Qxb6603073aChecked
import GoSem.Claim
import GoSem.ClaimJoined
import GoSem.ClaimMapViews
import Derived.JoinedTies
import Derived.KernelRfl
namespace Go.Proofs.Qxb6603073a
/- THE CELL 'sum', in the pinned program and in every row, IS THE sha256 OF THE DUMP (.gsa) THAT Qxb6603073aProg.lean LOADS. Nothing in Lean hashes anything: it is a label: what it is worth is what the hold of that sum in a sandbox is worth. -/
noncomputable def Try.pinned : Pinned := { name := "qxb6603073a", sum := "9e2dc4992890b21e241d595906c892612d9ea6e4d7d0cc9065b36d2e438ca170", checked := Try.checked }
namespace Rows
def none {H : Type} : Left H := { results := [], args := [] }

/-- 'zzlaws_root_b1.FnSpellAlternateModel': WHATEVER THE INPUT: true; the input reads as it did. -/
def fnSpellAlternateModelSpec : ChangeSpec := { name := "fnSpellAlternateModel", fn := fun _ => fun
  | [d] => { results := [.lit (.bool true)], args := [d] }
  | _ => none }
def fnSpellAlternateModelRow : OpenClaim := { program := "qxb6603073a", sum := "9e2dc4992890b21e241d595906c892612d9ea6e4d7d0cc9065b36d2e438ca170", func := "example.com/proven-crawler/proven-crawler/zzlaws_root_b1.FnSpellAlternateModel", spec := "fnSpellAlternateModel", recurses := true, apart := false }
def FnSpellAlternateModelSaid : Prop := fnSpellAlternateModelRow.holds Try.pinned (OpenSpec.ofChange fnSpellAlternateModelSpec)

/-- ITS FALSE NEIGHBOUR: 'it returns false'. Refute it at one input. -/
def fnSpellAlternateModelWrong : ChangeSpec := { name := "fnSpellAlternateModel", fn := fun _ => fun
  | [d] => { results := [.lit (.bool false)], args := [d] }
  | _ => none }
def FnSpellAlternateModelWrongFalsely : Prop := fnSpellAlternateModelRow.holds Try.pinned (OpenSpec.ofChange fnSpellAlternateModelWrong)

/-- 'zzlaws_root_b1.FnSpellAlternateOrderFree': WHATEVER THE INPUT: true; the input reads as it did. -/
def fnSpellAlternateOrderFreeSpec : ChangeSpec := { name := "fnSpellAlternateOrderFree", fn := fun _ => fun
  | [d] => { results := [.lit (.bool true)], args := [d] }
  | _ => none }
def fnSpellAlternateOrderFreeRow : OpenClaim := { program := "qxb6603073a", sum := "9e2dc4992890b21e241d595906c892612d9ea6e4d7d0cc9065b36d2e438ca170", func := "example.com/proven-crawler/proven-crawler/zzlaws_root_b1.FnSpellAlternateOrderFree", spec := "fnSpellAlternateOrderFree", recurses := true, apart := false }
def FnSpellAlternateOrderFreeSaid : Prop := fnSpellAlternateOrderFreeRow.holds Try.pinned (OpenSpec.ofChange fnSpellAlternateOrderFreeSpec)

/-- ITS FALSE NEIGHBOUR: 'it returns false'. Refute it at one input. -/
def fnSpellAlternateOrderFreeWrong : ChangeSpec := { name := "fnSpellAlternateOrderFree", fn := fun _ => fun
  | [d] => { results := [.lit (.bool false)], args := [d] }
  | _ => none }
def FnSpellAlternateOrderFreeWrongFalsely : Prop := fnSpellAlternateOrderFreeRow.holds Try.pinned (OpenSpec.ofChange fnSpellAlternateOrderFreeWrong)

/-- 'zzlaws_root_b1.FnSpellAlternateRepeatFree': WHATEVER THE INPUT: true; the input reads as it did. -/
def fnSpellAlternateRepeatFreeSpec : ChangeSpec := { name := "fnSpellAlternateRepeatFree", fn := fun _ => fun
  | [d] => { results := [.lit (.bool true)], args := [d] }
  | _ => none }
def fnSpellAlternateRepeatFreeRow : OpenClaim := { program := "qxb6603073a", sum := "9e2dc4992890b21e241d595906c892612d9ea6e4d7d0cc9065b36d2e438ca170", func := "example.com/proven-crawler/proven-crawler/zzlaws_root_b1.FnSpellAlternateRepeatFree", spec := "fnSpellAlternateRepeatFree", recurses := true, apart := false }
def FnSpellAlternateRepeatFreeSaid : Prop := fnSpellAlternateRepeatFreeRow.holds Try.pinned (OpenSpec.ofChange fnSpellAlternateRepeatFreeSpec)

/-- ITS FALSE NEIGHBOUR: 'it returns false'. Refute it at one input. -/
def fnSpellAlternateRepeatFreeWrong : ChangeSpec := { name := "fnSpellAlternateRepeatFree", fn := fun _ => fun
  | [d] => { results := [.lit (.bool false)], args := [d] }
  | _ => none }
def FnSpellAlternateRepeatFreeWrongFalsely : Prop := fnSpellAlternateRepeatFreeRow.holds Try.pinned (OpenSpec.ofChange fnSpellAlternateRepeatFreeWrong)

end Rows
end Go.Proofs.Qxb6603073a
