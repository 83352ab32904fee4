/-
  No cell of these rows narrows 'for every input' (looked for: loops, veiled, ifaces, maps, wideKeys, modest, calm, conditions, laid).
  DERIVED. THE GIVEN ROWS OF THIS SEAT. 2 by the template 'for every input the law returns true; each argument reads behind the call as it read before'; 0 by the template 'total and deterministic' (their statements: Qxb6619397aTotals.lean).
  GIVEN WITH THE SEED: the statements are not yours to turn. If you find one false, say at which input.
  Laid BY PROGRAM, IN A SANDBOX (cutbox-rows.mjs): the forced cells as the released guide's own fill.sh prints them over the translation 11ced82948daf170… (all of the seat's roots in one cut). By AI agents, Wed Nov 11 2026. No macro, syntax, notation, axiom, sorry.
-/
import Derived.Test.Qxb6619397aChecked
import GoSem.Claim
import GoSem.ClaimJoined
import GoSem.ClaimMapViews
import Derived.JoinedTies
import Derived.KernelRfl
namespace Go.Proofs.Qxb6619397a
/- THE CELL 'sum', in the pinned program and in every row, IS THE sha256 OF THE DUMP (.gsa) THAT Qxb6619397aProg.lean LOADS. Nothing in Lean hashes anything: it is a label: what it is worth is what the hold of that sum in a sandbox is worth. -/
noncomputable def Try.pinned : Pinned := { name := "qxb6619397a", sum := "11ced82948daf170c7f6dd0a3af40c76be57de7f37093e0fd030246c21b520aa", checked := Try.checked }
namespace Rows
def none {H : Type} : Left H := { results := [], args := [] }

/-- 'zzlaws_root_b1.FnWithoutLocksKeepsExactlyTheRest': WHATEVER THE INPUT: true; the input reads as it did. -/
def fnWithoutLocksKeepsExactlyTheRestSpec : ChangeSpec := { name := "fnWithoutLocksKeepsExactlyTheRest", fn := fun _ => fun
  | [d1, d2, d3, d4, d5, d6] => { results := [.lit (.bool true)], args := [d1, d2, d3, d4, d5, d6] }
  | _ => none }
def fnWithoutLocksKeepsExactlyTheRestRow : OpenClaim := { program := "qxb6619397a", sum := "11ced82948daf170c7f6dd0a3af40c76be57de7f37093e0fd030246c21b520aa", func := "example.com/enallax/enallax/zzlaws_root_b1.FnWithoutLocksKeepsExactlyTheRest", spec := "fnWithoutLocksKeepsExactlyTheRest", apart := false }
def FnWithoutLocksKeepsExactlyTheRestSaid : Prop := fnWithoutLocksKeepsExactlyTheRestRow.holds Try.pinned (OpenSpec.ofChange fnWithoutLocksKeepsExactlyTheRestSpec)

/-- ITS FALSE NEIGHBOUR: 'it returns false'. Refute it at one input. -/
def fnWithoutLocksKeepsExactlyTheRestWrong : ChangeSpec := { name := "fnWithoutLocksKeepsExactlyTheRest", fn := fun _ => fun
  | [d1, d2, d3, d4, d5, d6] => { results := [.lit (.bool false)], args := [d1, d2, d3, d4, d5, d6] }
  | _ => none }
def FnWithoutLocksKeepsExactlyTheRestWrongFalsely : Prop := fnWithoutLocksKeepsExactlyTheRestRow.holds Try.pinned (OpenSpec.ofChange fnWithoutLocksKeepsExactlyTheRestWrong)

/-- 'zzlaws_root_b1.FnWithoutLocksIgnoresAnInsertedLock': WHATEVER THE INPUT: true; the input reads as it did. -/
def fnWithoutLocksIgnoresAnInsertedLockSpec : ChangeSpec := { name := "fnWithoutLocksIgnoresAnInsertedLock", fn := fun _ => fun
  | [d1, d2, d3, d4, d5, d6, d7, d8, d9] => { results := [.lit (.bool true)], args := [d1, d2, d3, d4, d5, d6, d7, d8, d9] }
  | _ => none }
def fnWithoutLocksIgnoresAnInsertedLockRow : OpenClaim := { program := "qxb6619397a", sum := "11ced82948daf170c7f6dd0a3af40c76be57de7f37093e0fd030246c21b520aa", func := "example.com/enallax/enallax/zzlaws_root_b1.FnWithoutLocksIgnoresAnInsertedLock", spec := "fnWithoutLocksIgnoresAnInsertedLock", apart := false }
def FnWithoutLocksIgnoresAnInsertedLockSaid : Prop := fnWithoutLocksIgnoresAnInsertedLockRow.holds Try.pinned (OpenSpec.ofChange fnWithoutLocksIgnoresAnInsertedLockSpec)

/-- ITS FALSE NEIGHBOUR: 'it returns false'. Refute it at one input. -/
def fnWithoutLocksIgnoresAnInsertedLockWrong : ChangeSpec := { name := "fnWithoutLocksIgnoresAnInsertedLock", fn := fun _ => fun
  | [d1, d2, d3, d4, d5, d6, d7, d8, d9] => { results := [.lit (.bool false)], args := [d1, d2, d3, d4, d5, d6, d7, d8, d9] }
  | _ => none }
def FnWithoutLocksIgnoresAnInsertedLockWrongFalsely : Prop := fnWithoutLocksIgnoresAnInsertedLockRow.holds Try.pinned (OpenSpec.ofChange fnWithoutLocksIgnoresAnInsertedLockWrong)

end Rows
end Go.Proofs.Qxb6619397a
