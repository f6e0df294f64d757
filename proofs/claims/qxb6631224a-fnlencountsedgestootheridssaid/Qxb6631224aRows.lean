/-
  No cell of these rows narrows 'for every input' (looked for: loops, veiled, ifaces, maps, wideKeys, modest, calm, conditions, laid).
  DERIVED. THE GIVEN ROWS OF THIS SEAT. 2 by the template 'for every input the law returns true; each argument reads behind the call as it read before'; 0 by the template 'total and deterministic' (their statements: Qxb6631224aTotals.lean).
  GIVEN WITH THE SEED: the statements are not yours to turn. If you find one false, say at which input.
  Laid BY PROGRAM, IN A SANDBOX (cutbox-rows.mjs): the forced cells as the released guide's own fill.sh prints them over the translation 6df3d4d0c6fac191… (all of the seat's roots in one cut). By AI agents, Wed Nov 11 2026. No macro, syntax, notation, axiom, sorry.
-/
import Derived.Test.Qxb6631224aChecked
import GoSem.Claim
import GoSem.ClaimJoined
import GoSem.ClaimMapViews
import Derived.JoinedTies
import Derived.KernelRfl
namespace Go.Proofs.Qxb6631224a
/- THE CELL 'sum', in the pinned program and in every row, IS THE sha256 OF THE DUMP (.gsa) THAT Qxb6631224aProg.lean LOADS. Nothing in Lean hashes anything: it is a label: what it is worth is what the hold of that sum in a sandbox is worth. -/
noncomputable def Try.pinned : Pinned := { name := "qxb6631224a", sum := "6df3d4d0c6fac1910b9ecac98d5d7de8c4146ee14224e5483d0fbb491d66b7ee", checked := Try.checked }
namespace Rows
def none {H : Type} : Left H := { results := [], args := [] }

/-- 'zzlaws_graph_b1.FnLenCountsEdgesToOtherIDs': WHATEVER THE INPUT: true; the input reads as it did. -/
def fnLenCountsEdgesToOtherIDsSpec : ChangeSpec := { name := "fnLenCountsEdgesToOtherIDs", fn := fun _ => fun
  | [d1, d2, d3] => { results := [.lit (.bool true)], args := [d1, d2, d3] }
  | _ => none }
def fnLenCountsEdgesToOtherIDsRow : OpenClaim := { program := "qxb6631224a", sum := "6df3d4d0c6fac1910b9ecac98d5d7de8c4146ee14224e5483d0fbb491d66b7ee", func := "example.com/lashline/lashline/zzlaws_graph_b1.FnLenCountsEdgesToOtherIDs", spec := "fnLenCountsEdgesToOtherIDs", plainKeys := false, apart := false }
def FnLenCountsEdgesToOtherIDsSaid : Prop := fnLenCountsEdgesToOtherIDsRow.holds Try.pinned (OpenSpec.ofChange fnLenCountsEdgesToOtherIDsSpec)

/-- ITS FALSE NEIGHBOUR: 'it returns false'. Refute it at one input. -/
def fnLenCountsEdgesToOtherIDsWrong : ChangeSpec := { name := "fnLenCountsEdgesToOtherIDs", fn := fun _ => fun
  | [d1, d2, d3] => { results := [.lit (.bool false)], args := [d1, d2, d3] }
  | _ => none }
def FnLenCountsEdgesToOtherIDsWrongFalsely : Prop := fnLenCountsEdgesToOtherIDsRow.holds Try.pinned (OpenSpec.ofChange fnLenCountsEdgesToOtherIDsWrong)

/-- 'zzlaws_graph_b1.FnLenSplitsOverAnyCutOfBequests': WHATEVER THE INPUT: true; the input reads as it did. -/
def fnLenSplitsOverAnyCutOfBequestsSpec : ChangeSpec := { name := "fnLenSplitsOverAnyCutOfBequests", fn := fun _ => fun
  | [d1, d2, d3, d4] => { results := [.lit (.bool true)], args := [d1, d2, d3, d4] }
  | _ => none }
def fnLenSplitsOverAnyCutOfBequestsRow : OpenClaim := { program := "qxb6631224a", sum := "6df3d4d0c6fac1910b9ecac98d5d7de8c4146ee14224e5483d0fbb491d66b7ee", func := "example.com/lashline/lashline/zzlaws_graph_b1.FnLenSplitsOverAnyCutOfBequests", spec := "fnLenSplitsOverAnyCutOfBequests", plainKeys := false, apart := false }
def FnLenSplitsOverAnyCutOfBequestsSaid : Prop := fnLenSplitsOverAnyCutOfBequestsRow.holds Try.pinned (OpenSpec.ofChange fnLenSplitsOverAnyCutOfBequestsSpec)

/-- ITS FALSE NEIGHBOUR: 'it returns false'. Refute it at one input. -/
def fnLenSplitsOverAnyCutOfBequestsWrong : ChangeSpec := { name := "fnLenSplitsOverAnyCutOfBequests", fn := fun _ => fun
  | [d1, d2, d3, d4] => { results := [.lit (.bool false)], args := [d1, d2, d3, d4] }
  | _ => none }
def FnLenSplitsOverAnyCutOfBequestsWrongFalsely : Prop := fnLenSplitsOverAnyCutOfBequestsRow.holds Try.pinned (OpenSpec.ofChange fnLenSplitsOverAnyCutOfBequestsWrong)

end Rows
end Go.Proofs.Qxb6631224a
