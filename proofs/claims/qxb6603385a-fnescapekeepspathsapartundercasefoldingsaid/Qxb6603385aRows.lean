/-
  No cell of these rows narrows 'for every input' (looked for: loops, veiled, ifaces, maps, wideKeys, modest, calm, conditions, laid).
  DERIVED. THE GIVEN ROWS OF THIS SEAT. 5 by the template 'for every input the law returns true; each argument reads behind the call as it read before'; 0 by the template 'total and deterministic' (their statements: Qxb6603385aTotals.lean).
  GIVEN WITH THE SEED: the statements are not yours to turn. If you find one false, say at which input.
  Laid BY PROGRAM, IN A SANDBOX (cutbox-rows.mjs): the forced cells as the released guide's own fill.sh prints them over the translation 449fce984fbff4d2… (all of the seat's roots in one cut). By AI agents, Wed Nov 11 2026. No macro, syntax, notation, axiom, sorry.
-/
import Derived.Test.Qxb6603385aChecked
import GoSem.Claim
import GoSem.ClaimJoined
import GoSem.ClaimMapViews
import Derived.JoinedTies
import Derived.KernelRfl
namespace Go.Proofs.Qxb6603385a
/- THE CELL 'sum', in the pinned program and in every row, IS THE sha256 OF THE DUMP (.gsa) THAT Qxb6603385aProg.lean LOADS. Nothing in Lean hashes anything: it is a label: what it is worth is what the hold of that sum in a sandbox is worth. -/
noncomputable def Try.pinned : Pinned := { name := "qxb6603385a", sum := "449fce984fbff4d24b1239b6c303835264b6cb3b1a9b154507d628d3889f3d7c", checked := Try.checked }
namespace Rows
def none {H : Type} : Left H := { results := [], args := [] }

/-- 'zzlaws_devtools_modproxy_b1.FnReplacedMatchesBackwardScanModel': WHATEVER THE INPUT: true; the input reads as it did. -/
def fnReplacedMatchesBackwardScanModelSpec : ChangeSpec := { name := "fnReplacedMatchesBackwardScanModel", fn := fun _ => fun
  | [d1, d2, d3, d4, d5, d6] => { results := [.lit (.bool true)], args := [d1, d2, d3, d4, d5, d6] }
  | _ => none }
def fnReplacedMatchesBackwardScanModelRow : OpenClaim := { program := "qxb6603385a", sum := "449fce984fbff4d24b1239b6c303835264b6cb3b1a9b154507d628d3889f3d7c", func := "example.com/platoon/platoon/zzlaws_devtools_modproxy_b1.FnReplacedMatchesBackwardScanModel", spec := "fnReplacedMatchesBackwardScanModel", apart := false }
def FnReplacedMatchesBackwardScanModelSaid : Prop := fnReplacedMatchesBackwardScanModelRow.holds Try.pinned (OpenSpec.ofChange fnReplacedMatchesBackwardScanModelSpec)

/-- ITS FALSE NEIGHBOUR: 'it returns false'. Refute it at one input. -/
def fnReplacedMatchesBackwardScanModelWrong : ChangeSpec := { name := "fnReplacedMatchesBackwardScanModel", fn := fun _ => fun
  | [d1, d2, d3, d4, d5, d6] => { results := [.lit (.bool false)], args := [d1, d2, d3, d4, d5, d6] }
  | _ => none }
def FnReplacedMatchesBackwardScanModelWrongFalsely : Prop := fnReplacedMatchesBackwardScanModelRow.holds Try.pinned (OpenSpec.ofChange fnReplacedMatchesBackwardScanModelWrong)

/-- 'zzlaws_devtools_modproxy_b1.FnReplacedDependsOnlyOnEntriesForThePath': WHATEVER THE INPUT: true; the input reads as it did. -/
def fnReplacedDependsOnlyOnEntriesForThePathSpec : ChangeSpec := { name := "fnReplacedDependsOnlyOnEntriesForThePath", fn := fun _ => fun
  | [d1, d2, d3, d4, d5, d6] => { results := [.lit (.bool true)], args := [d1, d2, d3, d4, d5, d6] }
  | _ => none }
def fnReplacedDependsOnlyOnEntriesForThePathRow : OpenClaim := { program := "qxb6603385a", sum := "449fce984fbff4d24b1239b6c303835264b6cb3b1a9b154507d628d3889f3d7c", func := "example.com/platoon/platoon/zzlaws_devtools_modproxy_b1.FnReplacedDependsOnlyOnEntriesForThePath", spec := "fnReplacedDependsOnlyOnEntriesForThePath", apart := false }
def FnReplacedDependsOnlyOnEntriesForThePathSaid : Prop := fnReplacedDependsOnlyOnEntriesForThePathRow.holds Try.pinned (OpenSpec.ofChange fnReplacedDependsOnlyOnEntriesForThePathSpec)

/-- ITS FALSE NEIGHBOUR: 'it returns false'. Refute it at one input. -/
def fnReplacedDependsOnlyOnEntriesForThePathWrong : ChangeSpec := { name := "fnReplacedDependsOnlyOnEntriesForThePath", fn := fun _ => fun
  | [d1, d2, d3, d4, d5, d6] => { results := [.lit (.bool false)], args := [d1, d2, d3, d4, d5, d6] }
  | _ => none }
def FnReplacedDependsOnlyOnEntriesForThePathWrongFalsely : Prop := fnReplacedDependsOnlyOnEntriesForThePathRow.holds Try.pinned (OpenSpec.ofChange fnReplacedDependsOnlyOnEntriesForThePathWrong)

/-- 'zzlaws_devtools_modproxy_b1.FnEscapeMatchesByteModel': WHATEVER THE INPUT: true; the input reads as it did. -/
def fnEscapeMatchesByteModelSpec : ChangeSpec := { name := "fnEscapeMatchesByteModel", fn := fun _ => fun
  | [d] => { results := [.lit (.bool true)], args := [d] }
  | _ => none }
def fnEscapeMatchesByteModelRow : OpenClaim := { program := "qxb6603385a", sum := "449fce984fbff4d24b1239b6c303835264b6cb3b1a9b154507d628d3889f3d7c", func := "example.com/platoon/platoon/zzlaws_devtools_modproxy_b1.FnEscapeMatchesByteModel", spec := "fnEscapeMatchesByteModel", inPlace := ["internal/abi.NoEscape"], apart := false }
def FnEscapeMatchesByteModelSaid : Prop := fnEscapeMatchesByteModelRow.holds Try.pinned (OpenSpec.ofChange fnEscapeMatchesByteModelSpec)

/-- ITS FALSE NEIGHBOUR: 'it returns false'. Refute it at one input. -/
def fnEscapeMatchesByteModelWrong : ChangeSpec := { name := "fnEscapeMatchesByteModel", fn := fun _ => fun
  | [d] => { results := [.lit (.bool false)], args := [d] }
  | _ => none }
def FnEscapeMatchesByteModelWrongFalsely : Prop := fnEscapeMatchesByteModelRow.holds Try.pinned (OpenSpec.ofChange fnEscapeMatchesByteModelWrong)

/-- 'zzlaws_devtools_modproxy_b1.FnEscapeIdempotentAndCapitalFree': WHATEVER THE INPUT: true; the input reads as it did. -/
def fnEscapeIdempotentAndCapitalFreeSpec : ChangeSpec := { name := "fnEscapeIdempotentAndCapitalFree", fn := fun _ => fun
  | [d] => { results := [.lit (.bool true)], args := [d] }
  | _ => none }
def fnEscapeIdempotentAndCapitalFreeRow : OpenClaim := { program := "qxb6603385a", sum := "449fce984fbff4d24b1239b6c303835264b6cb3b1a9b154507d628d3889f3d7c", func := "example.com/platoon/platoon/zzlaws_devtools_modproxy_b1.FnEscapeIdempotentAndCapitalFree", spec := "fnEscapeIdempotentAndCapitalFree", inPlace := ["internal/abi.NoEscape"], apart := false }
def FnEscapeIdempotentAndCapitalFreeSaid : Prop := fnEscapeIdempotentAndCapitalFreeRow.holds Try.pinned (OpenSpec.ofChange fnEscapeIdempotentAndCapitalFreeSpec)

/-- ITS FALSE NEIGHBOUR: 'it returns false'. Refute it at one input. -/
def fnEscapeIdempotentAndCapitalFreeWrong : ChangeSpec := { name := "fnEscapeIdempotentAndCapitalFree", fn := fun _ => fun
  | [d] => { results := [.lit (.bool false)], args := [d] }
  | _ => none }
def FnEscapeIdempotentAndCapitalFreeWrongFalsely : Prop := fnEscapeIdempotentAndCapitalFreeRow.holds Try.pinned (OpenSpec.ofChange fnEscapeIdempotentAndCapitalFreeWrong)

/-- 'zzlaws_devtools_modproxy_b1.FnEscapeKeepsPathsApartUnderCaseFolding': WHATEVER THE INPUT: true; the input reads as it did. -/
def fnEscapeKeepsPathsApartUnderCaseFoldingSpec : ChangeSpec := { name := "fnEscapeKeepsPathsApartUnderCaseFolding", fn := fun _ => fun
  | [d1, d2] => { results := [.lit (.bool true)], args := [d1, d2] }
  | _ => none }
def fnEscapeKeepsPathsApartUnderCaseFoldingRow : OpenClaim := { program := "qxb6603385a", sum := "449fce984fbff4d24b1239b6c303835264b6cb3b1a9b154507d628d3889f3d7c", func := "example.com/platoon/platoon/zzlaws_devtools_modproxy_b1.FnEscapeKeepsPathsApartUnderCaseFolding", spec := "fnEscapeKeepsPathsApartUnderCaseFolding", inPlace := ["internal/abi.NoEscape"], apart := false }
def FnEscapeKeepsPathsApartUnderCaseFoldingSaid : Prop := fnEscapeKeepsPathsApartUnderCaseFoldingRow.holds Try.pinned (OpenSpec.ofChange fnEscapeKeepsPathsApartUnderCaseFoldingSpec)

/-- ITS FALSE NEIGHBOUR: 'it returns false'. Refute it at one input. -/
def fnEscapeKeepsPathsApartUnderCaseFoldingWrong : ChangeSpec := { name := "fnEscapeKeepsPathsApartUnderCaseFolding", fn := fun _ => fun
  | [d1, d2] => { results := [.lit (.bool false)], args := [d1, d2] }
  | _ => none }
def FnEscapeKeepsPathsApartUnderCaseFoldingWrongFalsely : Prop := fnEscapeKeepsPathsApartUnderCaseFoldingRow.holds Try.pinned (OpenSpec.ofChange fnEscapeKeepsPathsApartUnderCaseFoldingWrong)

end Rows
end Go.Proofs.Qxb6603385a
