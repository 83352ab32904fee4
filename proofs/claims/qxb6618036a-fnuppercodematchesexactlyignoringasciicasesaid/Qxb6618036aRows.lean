/-
  No cell of these rows narrows 'for every input' (looked for: loops, veiled, ifaces, maps, wideKeys, modest, calm, conditions, laid).
  DERIVED. THE GIVEN ROWS OF THIS SEAT. 2 by the template 'for every input the law returns true; each argument reads behind the call as it read before'; 0 by the template 'total and deterministic' (their statements: Qxb6618036aTotals.lean).
  GIVEN WITH THE SEED: the statements are not yours to turn. If you find one false, say at which input.
  Laid BY PROGRAM, IN A SANDBOX (cutbox-rows.mjs): the forced cells as the released guide's own fill.sh prints them over the translation 4f1eede4e17d84bf… (all of the seat's roots in one cut). By AI agents, Wed Nov 11 2026. No macro, syntax, notation, axiom, sorry.
-/
import Derived.Test.Qxb6618036aChecked
import GoSem.Claim
import GoSem.ClaimJoined
import GoSem.ClaimMapViews
import Derived.JoinedTies
import Derived.KernelRfl
namespace Go.Proofs.Qxb6618036a
/- THE CELL 'sum', in the pinned program and in every row, IS THE sha256 OF THE DUMP (.gsa) THAT Qxb6618036aProg.lean LOADS. Nothing in Lean hashes anything: it is a label: what it is worth is what the hold of that sum in a sandbox is worth. -/
noncomputable def Try.pinned : Pinned := { name := "qxb6618036a", sum := "4f1eede4e17d84bf9a567cdac8f739c753bc841f258c5dd5748f8b3f7c5d8852", checked := Try.checked }
namespace Rows
def none {H : Type} : Left H := { results := [], args := [] }

/-- 'zzlaws_root_b1.FnUpperCodeIsCanonicalCase': WHATEVER THE INPUT: true; the input reads as it did. -/
def fnUpperCodeIsCanonicalCaseSpec : ChangeSpec := { name := "fnUpperCodeIsCanonicalCase", fn := fun _ => fun
  | [d] => { results := [.lit (.bool true)], args := [d] }
  | _ => none }
def fnUpperCodeIsCanonicalCaseRow : OpenClaim := { program := "qxb6618036a", sum := "4f1eede4e17d84bf9a567cdac8f739c753bc841f258c5dd5748f8b3f7c5d8852", func := "example.com/rungs/rungs/zzlaws_root_b1.FnUpperCodeIsCanonicalCase", spec := "fnUpperCodeIsCanonicalCase", apart := false }
def FnUpperCodeIsCanonicalCaseSaid : Prop := fnUpperCodeIsCanonicalCaseRow.holds Try.pinned (OpenSpec.ofChange fnUpperCodeIsCanonicalCaseSpec)

/-- ITS FALSE NEIGHBOUR: 'it returns false'. Refute it at one input. -/
def fnUpperCodeIsCanonicalCaseWrong : ChangeSpec := { name := "fnUpperCodeIsCanonicalCase", fn := fun _ => fun
  | [d] => { results := [.lit (.bool false)], args := [d] }
  | _ => none }
def FnUpperCodeIsCanonicalCaseWrongFalsely : Prop := fnUpperCodeIsCanonicalCaseRow.holds Try.pinned (OpenSpec.ofChange fnUpperCodeIsCanonicalCaseWrong)

/-- 'zzlaws_root_b1.FnUpperCodeMatchesExactlyIgnoringASCIICase': WHATEVER THE INPUT: true; the input reads as it did. -/
def fnUpperCodeMatchesExactlyIgnoringASCIICaseSpec : ChangeSpec := { name := "fnUpperCodeMatchesExactlyIgnoringASCIICase", fn := fun _ => fun
  | [d1, d2] => { results := [.lit (.bool true)], args := [d1, d2] }
  | _ => none }
def fnUpperCodeMatchesExactlyIgnoringASCIICaseRow : OpenClaim := { program := "qxb6618036a", sum := "4f1eede4e17d84bf9a567cdac8f739c753bc841f258c5dd5748f8b3f7c5d8852", func := "example.com/rungs/rungs/zzlaws_root_b1.FnUpperCodeMatchesExactlyIgnoringASCIICase", spec := "fnUpperCodeMatchesExactlyIgnoringASCIICase", apart := false }
def FnUpperCodeMatchesExactlyIgnoringASCIICaseSaid : Prop := fnUpperCodeMatchesExactlyIgnoringASCIICaseRow.holds Try.pinned (OpenSpec.ofChange fnUpperCodeMatchesExactlyIgnoringASCIICaseSpec)

/-- ITS FALSE NEIGHBOUR: 'it returns false'. Refute it at one input. -/
def fnUpperCodeMatchesExactlyIgnoringASCIICaseWrong : ChangeSpec := { name := "fnUpperCodeMatchesExactlyIgnoringASCIICase", fn := fun _ => fun
  | [d1, d2] => { results := [.lit (.bool false)], args := [d1, d2] }
  | _ => none }
def FnUpperCodeMatchesExactlyIgnoringASCIICaseWrongFalsely : Prop := fnUpperCodeMatchesExactlyIgnoringASCIICaseRow.holds Try.pinned (OpenSpec.ofChange fnUpperCodeMatchesExactlyIgnoringASCIICaseWrong)

end Rows
end Go.Proofs.Qxb6618036a
