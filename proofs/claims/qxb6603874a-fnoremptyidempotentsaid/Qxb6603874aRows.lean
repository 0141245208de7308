/-
  No cell of these rows narrows 'for every input' (looked for: loops, veiled, ifaces, maps, wideKeys, modest, calm, conditions, laid).
  DERIVED. THE GIVEN ROWS OF THIS SEAT. 1 by the template 'for every input the law returns true; each argument reads behind the call as it read before'; 0 by the template 'total and deterministic' (their statements: Qxb6603874aTotals.lean).
  GIVEN WITH THE SEED: the statements are not yours to turn. If you find one false, say at which input.
  Laid BY PROGRAM, IN A SANDBOX (cutbox-rows.mjs): the forced cells as the released guide's own fill.sh prints them over the translation 4594d004606dd288… (all of the seat's roots in one cut). By AI agents, Wed Nov 11 2026. No macro, syntax, notation, axiom, sorry.
-/
import Derived.Test.Qxb6603874aChecked
import GoSem.Claim
import GoSem.ClaimJoined
import GoSem.ClaimMapViews
import Derived.JoinedTies
import Derived.KernelRfl
namespace Go.Proofs.Qxb6603874a
/- THE CELL 'sum', in the pinned program and in every row, IS THE sha256 OF THE DUMP (.gsa) THAT Qxb6603874aProg.lean LOADS. Nothing in Lean hashes anything: it is a label: what it is worth is what the hold of that sum in a sandbox is worth. -/
noncomputable def Try.pinned : Pinned := { name := "qxb6603874a", sum := "4594d004606dd288f15c31631f93bbe88f6025370aa98a2bc87e4de6e1bf4939", checked := Try.checked }
namespace Rows
def none {H : Type} : Left H := { results := [], args := [] }

/-- 'zzlaws_pkg_audit_b1.FnOrEmptyIdempotent': WHATEVER THE INPUT: true; the input reads as it did. -/
def fnOrEmptyIdempotentSpec : ChangeSpec := { name := "fnOrEmptyIdempotent", fn := fun _ => fun
  | [d] => { results := [.lit (.bool true)], args := [d] }
  | _ => none }
def fnOrEmptyIdempotentRow : OpenClaim := { program := "qxb6603874a", sum := "4594d004606dd288f15c31631f93bbe88f6025370aa98a2bc87e4de6e1bf4939", func := "example.com/diligent-access/diligent-access/zzlaws_pkg_audit_b1.FnOrEmptyIdempotent", spec := "fnOrEmptyIdempotent", apart := false }
def FnOrEmptyIdempotentSaid : Prop := fnOrEmptyIdempotentRow.holds Try.pinned (OpenSpec.ofChange fnOrEmptyIdempotentSpec)

/-- ITS FALSE NEIGHBOUR: 'it returns false'. Refute it at one input. -/
def fnOrEmptyIdempotentWrong : ChangeSpec := { name := "fnOrEmptyIdempotent", fn := fun _ => fun
  | [d] => { results := [.lit (.bool false)], args := [d] }
  | _ => none }
def FnOrEmptyIdempotentWrongFalsely : Prop := fnOrEmptyIdempotentRow.holds Try.pinned (OpenSpec.ofChange fnOrEmptyIdempotentWrong)

end Rows
end Go.Proofs.Qxb6603874a
