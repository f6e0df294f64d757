/-
  No cell of these rows narrows 'for every input' (looked for: loops, veiled, ifaces, maps, wideKeys, modest, calm, conditions, laid).
  DERIVED. THE GIVEN ROWS OF THIS SEAT. 2 by the template 'for every input the law returns true; each argument reads behind the call as it read before'; 0 by the template 'total and deterministic' (their statements: Qxb6630448aTotals.lean).
  GIVEN WITH THE SEED: the statements are not yours to turn. If you find one false, say at which input.
  Laid BY PROGRAM, IN A SANDBOX (cutbox-rows.mjs): the forced cells as the released guide's own fill.sh prints them over the translation d82cfd5be5ed6fe1… (all of the seat's roots in one cut). By AI agents, Wed Nov 11 2026. No macro, syntax, notation, axiom, sorry.
-/
import Derived.Test.Qxb6630448aChecked
import GoSem.Claim
import GoSem.ClaimJoined
import GoSem.ClaimMapViews
import Derived.JoinedTies
import Derived.KernelRfl
namespace Go.Proofs.Qxb6630448a
/- THE CELL 'sum', in the pinned program and in every row, IS THE sha256 OF THE DUMP (.gsa) THAT Qxb6630448aProg.lean LOADS. Nothing in Lean hashes anything: it is a label: what it is worth is what the hold of that sum in a sandbox is worth. -/
noncomputable def Try.pinned : Pinned := { name := "qxb6630448a", sum := "d82cfd5be5ed6fe16524a26c9e67f5180dfb88950269384226e9d95f8287f79b", checked := Try.checked }
namespace Rows
def none {H : Type} : Left H := { results := [], args := [] }

/-- 'zzlaws_root_b1.FnCompareMatchesPointwiseModel': WHATEVER THE INPUT: true; the input reads as it did. -/
def fnCompareMatchesPointwiseModelSpec : ChangeSpec := { name := "fnCompareMatchesPointwiseModel", fn := fun _ => fun
  | [d1, d2, d3, d4] => { results := [.lit (.bool true)], args := [d1, d2, d3, d4] }
  | _ => none }
def fnCompareMatchesPointwiseModelRow : OpenClaim := { program := "qxb6630448a", sum := "d82cfd5be5ed6fe16524a26c9e67f5180dfb88950269384226e9d95f8287f79b", func := "example.com/causeway/causeway/zzlaws_root_b1.FnCompareMatchesPointwiseModel", spec := "fnCompareMatchesPointwiseModel", apart := false }
def FnCompareMatchesPointwiseModelSaid : Prop := fnCompareMatchesPointwiseModelRow.holds Try.pinned (OpenSpec.ofChange fnCompareMatchesPointwiseModelSpec)

/-- ITS FALSE NEIGHBOUR: 'it returns false'. Refute it at one input. -/
def fnCompareMatchesPointwiseModelWrong : ChangeSpec := { name := "fnCompareMatchesPointwiseModel", fn := fun _ => fun
  | [d1, d2, d3, d4] => { results := [.lit (.bool false)], args := [d1, d2, d3, d4] }
  | _ => none }
def FnCompareMatchesPointwiseModelWrongFalsely : Prop := fnCompareMatchesPointwiseModelRow.holds Try.pinned (OpenSpec.ofChange fnCompareMatchesPointwiseModelWrong)

/-- 'zzlaws_root_b1.FnCompareMirrorsAndEqualMeansIdentical': WHATEVER THE INPUT: true; the input reads as it did. -/
def fnCompareMirrorsAndEqualMeansIdenticalSpec : ChangeSpec := { name := "fnCompareMirrorsAndEqualMeansIdentical", fn := fun _ => fun
  | [d1, d2, d3, d4] => { results := [.lit (.bool true)], args := [d1, d2, d3, d4] }
  | _ => none }
def fnCompareMirrorsAndEqualMeansIdenticalRow : OpenClaim := { program := "qxb6630448a", sum := "d82cfd5be5ed6fe16524a26c9e67f5180dfb88950269384226e9d95f8287f79b", func := "example.com/causeway/causeway/zzlaws_root_b1.FnCompareMirrorsAndEqualMeansIdentical", spec := "fnCompareMirrorsAndEqualMeansIdentical", apart := false }
def FnCompareMirrorsAndEqualMeansIdenticalSaid : Prop := fnCompareMirrorsAndEqualMeansIdenticalRow.holds Try.pinned (OpenSpec.ofChange fnCompareMirrorsAndEqualMeansIdenticalSpec)

/-- ITS FALSE NEIGHBOUR: 'it returns false'. Refute it at one input. -/
def fnCompareMirrorsAndEqualMeansIdenticalWrong : ChangeSpec := { name := "fnCompareMirrorsAndEqualMeansIdentical", fn := fun _ => fun
  | [d1, d2, d3, d4] => { results := [.lit (.bool false)], args := [d1, d2, d3, d4] }
  | _ => none }
def FnCompareMirrorsAndEqualMeansIdenticalWrongFalsely : Prop := fnCompareMirrorsAndEqualMeansIdenticalRow.holds Try.pinned (OpenSpec.ofChange fnCompareMirrorsAndEqualMeansIdenticalWrong)

end Rows
end Go.Proofs.Qxb6630448a
