/-
  No cell of these rows narrows 'for every input' (looked for: loops, veiled, ifaces, maps, wideKeys, modest, calm, conditions, laid).
  DERIVED. THE GIVEN ROWS OF THIS SEAT. 2 by the template 'for every input the law returns true; each argument reads behind the call as it read before'; 0 by the template 'total and deterministic' (their statements: Qxb6603464aTotals.lean).
  GIVEN WITH THE SEED: the statements are not yours to turn. If you find one false, say at which input.
  Laid BY PROGRAM, IN A SANDBOX (cutbox-rows.mjs): the forced cells as the released guide's own fill.sh prints them over the translation 47d4cbee6f3f6eef… (all of the seat's roots in one cut). By AI agents, Wed Nov 11 2026. No macro, syntax, notation, axiom, sorry.
-/
import Derived.Test.Qxb6603464aChecked
import GoSem.Claim
import GoSem.ClaimJoined
import GoSem.ClaimMapViews
import Derived.JoinedTies
import Derived.KernelRfl
namespace Go.Proofs.Qxb6603464a
/- THE CELL 'sum', in the pinned program and in every row, IS THE sha256 OF THE DUMP (.gsa) THAT Qxb6603464aProg.lean LOADS. Nothing in Lean hashes anything: it is a label: what it is worth is what the hold of that sum in a sandbox is worth. -/
noncomputable def Try.pinned : Pinned := { name := "qxb6603464a", sum := "47d4cbee6f3f6eefae1a1de5a6cb507646239312f48ffb6e72e44228f792a224", checked := Try.checked }
namespace Rows
def none {H : Type} : Left H := { results := [], args := [] }

/-- 'zzlaws_root_b1.FnCoversPreorder': WHATEVER THE INPUT: true; the input reads as it did. -/
def fnCoversPreorderSpec : ChangeSpec := { name := "fnCoversPreorder", fn := fun _ => fun
  | [d1, d2, d3, d4, d5, d6] => { results := [.lit (.bool true)], args := [d1, d2, d3, d4, d5, d6] }
  | _ => none }
def fnCoversPreorderRow : OpenClaim := { program := "qxb6603464a", sum := "47d4cbee6f3f6eefae1a1de5a6cb507646239312f48ffb6e72e44228f792a224", func := "example.com/syncline/syncline/zzlaws_root_b1.FnCoversPreorder", spec := "fnCoversPreorder", apart := false }
def FnCoversPreorderSaid : Prop := fnCoversPreorderRow.holds Try.pinned (OpenSpec.ofChange fnCoversPreorderSpec)

/-- ITS FALSE NEIGHBOUR: 'it returns false'. Refute it at one input. -/
def fnCoversPreorderWrong : ChangeSpec := { name := "fnCoversPreorder", fn := fun _ => fun
  | [d1, d2, d3, d4, d5, d6] => { results := [.lit (.bool false)], args := [d1, d2, d3, d4, d5, d6] }
  | _ => none }
def FnCoversPreorderWrongFalsely : Prop := fnCoversPreorderRow.holds Try.pinned (OpenSpec.ofChange fnCoversPreorderWrong)

/-- 'zzlaws_root_b1.FnCoversLayoutNoLargerThanHeld': WHATEVER THE INPUT: true; the input reads as it did. -/
def fnCoversLayoutNoLargerThanHeldSpec : ChangeSpec := { name := "fnCoversLayoutNoLargerThanHeld", fn := fun _ => fun
  | [d1, d2, d3, d4] => { results := [.lit (.bool true)], args := [d1, d2, d3, d4] }
  | _ => none }
def fnCoversLayoutNoLargerThanHeldRow : OpenClaim := { program := "qxb6603464a", sum := "47d4cbee6f3f6eefae1a1de5a6cb507646239312f48ffb6e72e44228f792a224", func := "example.com/syncline/syncline/zzlaws_root_b1.FnCoversLayoutNoLargerThanHeld", spec := "fnCoversLayoutNoLargerThanHeld", apart := false }
def FnCoversLayoutNoLargerThanHeldSaid : Prop := fnCoversLayoutNoLargerThanHeldRow.holds Try.pinned (OpenSpec.ofChange fnCoversLayoutNoLargerThanHeldSpec)

/-- ITS FALSE NEIGHBOUR: 'it returns false'. Refute it at one input. -/
def fnCoversLayoutNoLargerThanHeldWrong : ChangeSpec := { name := "fnCoversLayoutNoLargerThanHeld", fn := fun _ => fun
  | [d1, d2, d3, d4] => { results := [.lit (.bool false)], args := [d1, d2, d3, d4] }
  | _ => none }
def FnCoversLayoutNoLargerThanHeldWrongFalsely : Prop := fnCoversLayoutNoLargerThanHeldRow.holds Try.pinned (OpenSpec.ofChange fnCoversLayoutNoLargerThanHeldWrong)

end Rows
end Go.Proofs.Qxb6603464a
