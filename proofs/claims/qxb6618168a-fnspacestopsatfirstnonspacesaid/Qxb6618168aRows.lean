/-
  No cell of these rows narrows 'for every input' (looked for: loops, veiled, ifaces, maps, wideKeys, modest, calm, conditions, laid).
  DERIVED. THE GIVEN ROWS OF THIS SEAT. 2 by the template 'for every input the law returns true; each argument reads behind the call as it read before'; 0 by the template 'total and deterministic' (their statements: Qxb6618168aTotals.lean).
  GIVEN WITH THE SEED: the statements are not yours to turn. If you find one false, say at which input.
  Laid BY PROGRAM, IN A SANDBOX (cutbox-rows.mjs): the forced cells as the released guide's own fill.sh prints them over the translation b04450c009df382c… (all of the seat's roots in one cut). By AI agents, Wed Nov 11 2026. No macro, syntax, notation, axiom, sorry.
-/
import Derived.Test.Qxb6618168aChecked
import GoSem.Claim
import GoSem.ClaimJoined
import GoSem.ClaimMapViews
import Derived.JoinedTies
import Derived.KernelRfl
namespace Go.Proofs.Qxb6618168a
/- THE CELL 'sum', in the pinned program and in every row, IS THE sha256 OF THE DUMP (.gsa) THAT Qxb6618168aProg.lean LOADS. Nothing in Lean hashes anything: it is a label: what it is worth is what the hold of that sum in a sandbox is worth. -/
noncomputable def Try.pinned : Pinned := { name := "qxb6618168a", sum := "b04450c009df382c760f26f078ba7d9699a941f1d34673d4d45bf0407f48ef46", checked := Try.checked }
namespace Rows
def none {H : Type} : Left H := { results := [], args := [] }

/-- 'zzlaws_internal_strictjson_b1.FnHexUnitSameUnitExactlyWhenDigitsMatchButForCase': WHATEVER THE INPUT: true; the input reads as it did. -/
def fnHexUnitSameUnitExactlyWhenDigitsMatchButForCaseSpec : ChangeSpec := { name := "fnHexUnitSameUnitExactlyWhenDigitsMatchButForCase", fn := fun _ => fun
  | [d1, d2] => { results := [.lit (.bool true)], args := [d1, d2] }
  | _ => none }
def fnHexUnitSameUnitExactlyWhenDigitsMatchButForCaseRow : OpenClaim := { program := "qxb6618168a", sum := "b04450c009df382c760f26f078ba7d9699a941f1d34673d4d45bf0407f48ef46", func := "example.com/lachesis/lachesis/zzlaws_internal_strictjson_b1.FnHexUnitSameUnitExactlyWhenDigitsMatchButForCase", spec := "fnHexUnitSameUnitExactlyWhenDigitsMatchButForCase", apart := false }
def FnHexUnitSameUnitExactlyWhenDigitsMatchButForCaseSaid : Prop := fnHexUnitSameUnitExactlyWhenDigitsMatchButForCaseRow.holds Try.pinned (OpenSpec.ofChange fnHexUnitSameUnitExactlyWhenDigitsMatchButForCaseSpec)

/-- ITS FALSE NEIGHBOUR: 'it returns false'. Refute it at one input. -/
def fnHexUnitSameUnitExactlyWhenDigitsMatchButForCaseWrong : ChangeSpec := { name := "fnHexUnitSameUnitExactlyWhenDigitsMatchButForCase", fn := fun _ => fun
  | [d1, d2] => { results := [.lit (.bool false)], args := [d1, d2] }
  | _ => none }
def FnHexUnitSameUnitExactlyWhenDigitsMatchButForCaseWrongFalsely : Prop := fnHexUnitSameUnitExactlyWhenDigitsMatchButForCaseRow.holds Try.pinned (OpenSpec.ofChange fnHexUnitSameUnitExactlyWhenDigitsMatchButForCaseWrong)

/-- 'zzlaws_internal_strictjson_b1.FnSpaceStopsAtFirstNonSpace': WHATEVER THE INPUT: true; the input reads as it did. -/
def fnSpaceStopsAtFirstNonSpaceSpec : ChangeSpec := { name := "fnSpaceStopsAtFirstNonSpace", fn := fun _ => fun
  | [d1, d2, d3, d4, d5, d6] => { results := [.lit (.bool true)], args := [d1, d2, d3, d4, d5, d6] }
  | _ => none }
def fnSpaceStopsAtFirstNonSpaceRow : OpenClaim := { program := "qxb6618168a", sum := "b04450c009df382c760f26f078ba7d9699a941f1d34673d4d45bf0407f48ef46", func := "example.com/lachesis/lachesis/zzlaws_internal_strictjson_b1.FnSpaceStopsAtFirstNonSpace", spec := "fnSpaceStopsAtFirstNonSpace", apart := false }
def FnSpaceStopsAtFirstNonSpaceSaid : Prop := fnSpaceStopsAtFirstNonSpaceRow.holds Try.pinned (OpenSpec.ofChange fnSpaceStopsAtFirstNonSpaceSpec)

/-- ITS FALSE NEIGHBOUR: 'it returns false'. Refute it at one input. -/
def fnSpaceStopsAtFirstNonSpaceWrong : ChangeSpec := { name := "fnSpaceStopsAtFirstNonSpace", fn := fun _ => fun
  | [d1, d2, d3, d4, d5, d6] => { results := [.lit (.bool false)], args := [d1, d2, d3, d4, d5, d6] }
  | _ => none }
def FnSpaceStopsAtFirstNonSpaceWrongFalsely : Prop := fnSpaceStopsAtFirstNonSpaceRow.holds Try.pinned (OpenSpec.ofChange fnSpaceStopsAtFirstNonSpaceWrong)

end Rows
end Go.Proofs.Qxb6618168a
