/-
  No cell of these rows narrows 'for every input' (looked for: loops, veiled, ifaces, maps, wideKeys, modest, calm, conditions, laid).
  DERIVED. THE GIVEN ROWS OF THIS SEAT. 3 by the template 'for every input the law returns true; each argument reads behind the call as it read before'; 0 by the template 'total and deterministic' (their statements: Qxb6617400aTotals.lean).
  GIVEN WITH THE SEED: the statements are not yours to turn. If you find one false, say at which input.
  Laid BY PROGRAM, IN A SANDBOX (cutbox-rows.mjs): the forced cells as the released guide's own fill.sh prints them over the translation 2f5b3db95851cd16… (all of the seat's roots in one cut). By AI agents, Wed Nov 11 2026. No macro, syntax, notation, axiom, sorry.
-/
import Derived.Test.Qxb6617400aChecked
import GoSem.Claim
import GoSem.ClaimJoined
import GoSem.ClaimMapViews
import Derived.JoinedTies
import Derived.KernelRfl
namespace Go.Proofs.Qxb6617400a
/- THE CELL 'sum', in the pinned program and in every row, IS THE sha256 OF THE DUMP (.gsa) THAT Qxb6617400aProg.lean LOADS. Nothing in Lean hashes anything: it is a label: what it is worth is what the hold of that sum in a sandbox is worth. -/
noncomputable def Try.pinned : Pinned := { name := "qxb6617400a", sum := "2f5b3db95851cd16f2553ee615a15c628fd19bbc70d8376a9508bea550f21f03", checked := Try.checked }
namespace Rows
def none {H : Type} : Left H := { results := [], args := [] }

/-- 'zzlaws_internal_auth_b1.FnServesExactNameServesItsOwnName': WHATEVER THE INPUT: true; the input reads as it did. -/
def fnServesExactNameServesItsOwnNameSpec : ChangeSpec := { name := "fnServesExactNameServesItsOwnName", fn := fun _ => fun
  | [d1, d2, d3, d4, d5] => { results := [.lit (.bool true)], args := [d1, d2, d3, d4, d5] }
  | _ => none }
def fnServesExactNameServesItsOwnNameRow : OpenClaim := { program := "qxb6617400a", sum := "2f5b3db95851cd16f2553ee615a15c628fd19bbc70d8376a9508bea550f21f03", func := "example.com/rowan/rowan/zzlaws_internal_auth_b1.FnServesExactNameServesItsOwnName", spec := "fnServesExactNameServesItsOwnName", apart := false }
def FnServesExactNameServesItsOwnNameSaid : Prop := fnServesExactNameServesItsOwnNameRow.holds Try.pinned (OpenSpec.ofChange fnServesExactNameServesItsOwnNameSpec)

/-- ITS FALSE NEIGHBOUR: 'it returns false'. Refute it at one input. -/
def fnServesExactNameServesItsOwnNameWrong : ChangeSpec := { name := "fnServesExactNameServesItsOwnName", fn := fun _ => fun
  | [d1, d2, d3, d4, d5] => { results := [.lit (.bool false)], args := [d1, d2, d3, d4, d5] }
  | _ => none }
def FnServesExactNameServesItsOwnNameWrongFalsely : Prop := fnServesExactNameServesItsOwnNameRow.holds Try.pinned (OpenSpec.ofChange fnServesExactNameServesItsOwnNameWrong)

/-- 'zzlaws_internal_auth_b1.FnServesPrefixWildcardServesExactlyItsPrefix': WHATEVER THE INPUT: true; the input reads as it did. -/
def fnServesPrefixWildcardServesExactlyItsPrefixSpec : ChangeSpec := { name := "fnServesPrefixWildcardServesExactlyItsPrefix", fn := fun _ => fun
  | [d1, d2, d3, d4, d5] => { results := [.lit (.bool true)], args := [d1, d2, d3, d4, d5] }
  | _ => none }
def fnServesPrefixWildcardServesExactlyItsPrefixRow : OpenClaim := { program := "qxb6617400a", sum := "2f5b3db95851cd16f2553ee615a15c628fd19bbc70d8376a9508bea550f21f03", func := "example.com/rowan/rowan/zzlaws_internal_auth_b1.FnServesPrefixWildcardServesExactlyItsPrefix", spec := "fnServesPrefixWildcardServesExactlyItsPrefix", apart := false }
def FnServesPrefixWildcardServesExactlyItsPrefixSaid : Prop := fnServesPrefixWildcardServesExactlyItsPrefixRow.holds Try.pinned (OpenSpec.ofChange fnServesPrefixWildcardServesExactlyItsPrefixSpec)

/-- ITS FALSE NEIGHBOUR: 'it returns false'. Refute it at one input. -/
def fnServesPrefixWildcardServesExactlyItsPrefixWrong : ChangeSpec := { name := "fnServesPrefixWildcardServesExactlyItsPrefix", fn := fun _ => fun
  | [d1, d2, d3, d4, d5] => { results := [.lit (.bool false)], args := [d1, d2, d3, d4, d5] }
  | _ => none }
def FnServesPrefixWildcardServesExactlyItsPrefixWrongFalsely : Prop := fnServesPrefixWildcardServesExactlyItsPrefixRow.holds Try.pinned (OpenSpec.ofChange fnServesPrefixWildcardServesExactlyItsPrefixWrong)

/-- 'zzlaws_internal_auth_b1.FnServesUnionAtAnyCutIgnoresId': WHATEVER THE INPUT: true; the input reads as it did. -/
def fnServesUnionAtAnyCutIgnoresIdSpec : ChangeSpec := { name := "fnServesUnionAtAnyCutIgnoresId", fn := fun _ => fun
  | [d1, d2, d3, d4, d5] => { results := [.lit (.bool true)], args := [d1, d2, d3, d4, d5] }
  | _ => none }
def fnServesUnionAtAnyCutIgnoresIdRow : OpenClaim := { program := "qxb6617400a", sum := "2f5b3db95851cd16f2553ee615a15c628fd19bbc70d8376a9508bea550f21f03", func := "example.com/rowan/rowan/zzlaws_internal_auth_b1.FnServesUnionAtAnyCutIgnoresId", spec := "fnServesUnionAtAnyCutIgnoresId", apart := false }
def FnServesUnionAtAnyCutIgnoresIdSaid : Prop := fnServesUnionAtAnyCutIgnoresIdRow.holds Try.pinned (OpenSpec.ofChange fnServesUnionAtAnyCutIgnoresIdSpec)

/-- ITS FALSE NEIGHBOUR: 'it returns false'. Refute it at one input. -/
def fnServesUnionAtAnyCutIgnoresIdWrong : ChangeSpec := { name := "fnServesUnionAtAnyCutIgnoresId", fn := fun _ => fun
  | [d1, d2, d3, d4, d5] => { results := [.lit (.bool false)], args := [d1, d2, d3, d4, d5] }
  | _ => none }
def FnServesUnionAtAnyCutIgnoresIdWrongFalsely : Prop := fnServesUnionAtAnyCutIgnoresIdRow.holds Try.pinned (OpenSpec.ofChange fnServesUnionAtAnyCutIgnoresIdWrong)

end Rows
end Go.Proofs.Qxb6617400a
