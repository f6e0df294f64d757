/-
  No cell of these rows narrows 'for every input' (looked for: loops, veiled, ifaces, maps, wideKeys, modest, calm, conditions, laid).
  DERIVED. THE GIVEN ROWS OF THIS SEAT. 2 by the template 'for every input the law returns true; each argument reads behind the call as it read before'; 0 by the template 'total and deterministic' (their statements: Qxb6631252aTotals.lean).
  GIVEN WITH THE SEED: the statements are not yours to turn. If you find one false, say at which input.
  Laid BY PROGRAM, IN A SANDBOX (cutbox-rows.mjs): the forced cells as the released guide's own fill.sh prints them over the translation 551c3656e6fa509c… (all of the seat's roots in one cut). By AI agents, Wed Nov 11 2026. No macro, syntax, notation, axiom, sorry.
-/
import Derived.Test.Qxb6631252aChecked
import GoSem.Claim
import GoSem.ClaimJoined
import GoSem.ClaimMapViews
import Derived.JoinedTies
import Derived.KernelRfl
namespace Go.Proofs.Qxb6631252a
/- THE CELL 'sum', in the pinned program and in every row, IS THE sha256 OF THE DUMP (.gsa) THAT Qxb6631252aProg.lean LOADS. Nothing in Lean hashes anything: it is a label: what it is worth is what the hold of that sum in a sandbox is worth. -/
noncomputable def Try.pinned : Pinned := { name := "qxb6631252a", sum := "551c3656e6fa509c4c4e1da9d39aabd6fe52d8d4195d4c94c6c1c4f1ca36f164", checked := Try.checked }
namespace Rows
def none {H : Type} : Left H := { results := [], args := [] }

/-- 'zzlaws_internal_rfc9110_b1.FnDefaultPortSecureSibling': WHATEVER THE INPUT: true; the input reads as it did. -/
def fnDefaultPortSecureSiblingSpec : ChangeSpec := { name := "fnDefaultPortSecureSibling", fn := fun _ => fun
  | [d] => { results := [.lit (.bool true)], args := [d] }
  | _ => none }
def fnDefaultPortSecureSiblingRow : OpenClaim := { program := "qxb6631252a", sum := "551c3656e6fa509c4c4e1da9d39aabd6fe52d8d4195d4c94c6c1c4f1ca36f164", func := "example.com/hopwarden/hopwarden/zzlaws_internal_rfc9110_b1.FnDefaultPortSecureSibling", spec := "fnDefaultPortSecureSibling", apart := false }
def FnDefaultPortSecureSiblingSaid : Prop := fnDefaultPortSecureSiblingRow.holds Try.pinned (OpenSpec.ofChange fnDefaultPortSecureSiblingSpec)

/-- ITS FALSE NEIGHBOUR: 'it returns false'. Refute it at one input. -/
def fnDefaultPortSecureSiblingWrong : ChangeSpec := { name := "fnDefaultPortSecureSibling", fn := fun _ => fun
  | [d] => { results := [.lit (.bool false)], args := [d] }
  | _ => none }
def FnDefaultPortSecureSiblingWrongFalsely : Prop := fnDefaultPortSecureSiblingRow.holds Try.pinned (OpenSpec.ofChange fnDefaultPortSecureSiblingWrong)

/-- 'zzlaws_internal_rfc9110_b1.FnDefaultPortLowerCaseOnly': WHATEVER THE INPUT: true; the input reads as it did. -/
def fnDefaultPortLowerCaseOnlySpec : ChangeSpec := { name := "fnDefaultPortLowerCaseOnly", fn := fun _ => fun
  | [d] => { results := [.lit (.bool true)], args := [d] }
  | _ => none }
def fnDefaultPortLowerCaseOnlyRow : OpenClaim := { program := "qxb6631252a", sum := "551c3656e6fa509c4c4e1da9d39aabd6fe52d8d4195d4c94c6c1c4f1ca36f164", func := "example.com/hopwarden/hopwarden/zzlaws_internal_rfc9110_b1.FnDefaultPortLowerCaseOnly", spec := "fnDefaultPortLowerCaseOnly", apart := false }
def FnDefaultPortLowerCaseOnlySaid : Prop := fnDefaultPortLowerCaseOnlyRow.holds Try.pinned (OpenSpec.ofChange fnDefaultPortLowerCaseOnlySpec)

/-- ITS FALSE NEIGHBOUR: 'it returns false'. Refute it at one input. -/
def fnDefaultPortLowerCaseOnlyWrong : ChangeSpec := { name := "fnDefaultPortLowerCaseOnly", fn := fun _ => fun
  | [d] => { results := [.lit (.bool false)], args := [d] }
  | _ => none }
def FnDefaultPortLowerCaseOnlyWrongFalsely : Prop := fnDefaultPortLowerCaseOnlyRow.holds Try.pinned (OpenSpec.ofChange fnDefaultPortLowerCaseOnlyWrong)

end Rows
end Go.Proofs.Qxb6631252a
