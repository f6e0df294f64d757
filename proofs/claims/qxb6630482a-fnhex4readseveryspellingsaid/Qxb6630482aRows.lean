/-
  No cell of these rows narrows 'for every input' (looked for: loops, veiled, ifaces, maps, wideKeys, modest, calm, conditions, laid).
  DERIVED. THE GIVEN ROWS OF THIS SEAT. 2 by the template 'for every input the law returns true; each argument reads behind the call as it read before'; 0 by the template 'total and deterministic' (their statements: Qxb6630482aTotals.lean).
  GIVEN WITH THE SEED: the statements are not yours to turn. If you find one false, say at which input.
  Laid BY PROGRAM, IN A SANDBOX (cutbox-rows.mjs): the forced cells as the released guide's own fill.sh prints them over the translation d063c26ba82f5fb2… (all of the seat's roots in one cut). By AI agents, Wed Nov 11 2026. No macro, syntax, notation, axiom, sorry.
-/
import Derived.Test.Qxb6630482aChecked
import GoSem.Claim
import GoSem.ClaimJoined
import GoSem.ClaimMapViews
import Derived.JoinedTies
import Derived.KernelRfl
namespace Go.Proofs.Qxb6630482a
/- THE CELL 'sum', in the pinned program and in every row, IS THE sha256 OF THE DUMP (.gsa) THAT Qxb6630482aProg.lean LOADS. Nothing in Lean hashes anything: it is a label: what it is worth is what the hold of that sum in a sandbox is worth. -/
noncomputable def Try.pinned : Pinned := { name := "qxb6630482a", sum := "d063c26ba82f5fb2762d2086e12795e88d009a301e0c6551e1bc222279d5c1fc", checked := Try.checked }
namespace Rows
def none {H : Type} : Left H := { results := [], args := [] }

/-- 'zzlaws_internal_jsonstream_b1.FnHex4MatchesDigitModel': WHATEVER THE INPUT: true; the input reads as it did. -/
def fnHex4MatchesDigitModelSpec : ChangeSpec := { name := "fnHex4MatchesDigitModel", fn := fun _ => fun
  | [d] => { results := [.lit (.bool true)], args := [d] }
  | _ => none }
def fnHex4MatchesDigitModelRow : OpenClaim := { program := "qxb6630482a", sum := "d063c26ba82f5fb2762d2086e12795e88d009a301e0c6551e1bc222279d5c1fc", func := "example.com/switchyard/switchyard/zzlaws_internal_jsonstream_b1.FnHex4MatchesDigitModel", spec := "fnHex4MatchesDigitModel", apart := false }
def FnHex4MatchesDigitModelSaid : Prop := fnHex4MatchesDigitModelRow.holds Try.pinned (OpenSpec.ofChange fnHex4MatchesDigitModelSpec)

/-- ITS FALSE NEIGHBOUR: 'it returns false'. Refute it at one input. -/
def fnHex4MatchesDigitModelWrong : ChangeSpec := { name := "fnHex4MatchesDigitModel", fn := fun _ => fun
  | [d] => { results := [.lit (.bool false)], args := [d] }
  | _ => none }
def FnHex4MatchesDigitModelWrongFalsely : Prop := fnHex4MatchesDigitModelRow.holds Try.pinned (OpenSpec.ofChange fnHex4MatchesDigitModelWrong)

/-- 'zzlaws_internal_jsonstream_b1.FnHex4ReadsEverySpelling': WHATEVER THE INPUT: true; the input reads as it did. -/
def fnHex4ReadsEverySpellingSpec : ChangeSpec := { name := "fnHex4ReadsEverySpelling", fn := fun _ => fun
  | [d1, d2, d3, d4] => { results := [.lit (.bool true)], args := [d1, d2, d3, d4] }
  | _ => none }
def fnHex4ReadsEverySpellingRow : OpenClaim := { program := "qxb6630482a", sum := "d063c26ba82f5fb2762d2086e12795e88d009a301e0c6551e1bc222279d5c1fc", func := "example.com/switchyard/switchyard/zzlaws_internal_jsonstream_b1.FnHex4ReadsEverySpelling", spec := "fnHex4ReadsEverySpelling", apart := false }
def FnHex4ReadsEverySpellingSaid : Prop := fnHex4ReadsEverySpellingRow.holds Try.pinned (OpenSpec.ofChange fnHex4ReadsEverySpellingSpec)

/-- ITS FALSE NEIGHBOUR: 'it returns false'. Refute it at one input. -/
def fnHex4ReadsEverySpellingWrong : ChangeSpec := { name := "fnHex4ReadsEverySpelling", fn := fun _ => fun
  | [d1, d2, d3, d4] => { results := [.lit (.bool false)], args := [d1, d2, d3, d4] }
  | _ => none }
def FnHex4ReadsEverySpellingWrongFalsely : Prop := fnHex4ReadsEverySpellingRow.holds Try.pinned (OpenSpec.ofChange fnHex4ReadsEverySpellingWrong)

end Rows
end Go.Proofs.Qxb6630482a
