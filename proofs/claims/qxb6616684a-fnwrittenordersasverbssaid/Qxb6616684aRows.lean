/-
  No cell of these rows narrows 'for every input' (looked for: loops, veiled, ifaces, maps, wideKeys, modest, calm, conditions, laid).
  DERIVED. THE GIVEN ROWS OF THIS SEAT. 1 by the template 'for every input the law returns true; each argument reads behind the call as it read before'; 0 by the template 'total and deterministic' (their statements: Qxb6616684aTotals.lean).
  GIVEN WITH THE SEED: the statements are not yours to turn. If you find one false, say at which input.
  Laid BY PROGRAM, IN A SANDBOX (cutbox-rows.mjs): the forced cells as the released guide's own fill.sh prints them over the translation 9e146fc1adcf6b9c… (all of the seat's roots in one cut). By AI agents, Wed Nov 11 2026. No macro, syntax, notation, axiom, sorry.
-/
import Derived.Test.Qxb6616684aChecked
import GoSem.Claim
import GoSem.ClaimJoined
import GoSem.ClaimMapViews
import Derived.JoinedTies
import Derived.KernelRfl
namespace Go.Proofs.Qxb6616684a
/- THE CELL 'sum', in the pinned program and in every row, IS THE sha256 OF THE DUMP (.gsa) THAT Qxb6616684aProg.lean LOADS. Nothing in Lean hashes anything: it is a label: what it is worth is what the hold of that sum in a sandbox is worth. -/
noncomputable def Try.pinned : Pinned := { name := "qxb6616684a", sum := "9e146fc1adcf6b9c73de154787ff77bbb57871958b175951de8aa14a9c171385", checked := Try.checked }
namespace Rows
def none {H : Type} : Left H := { results := [], args := [] }

/-- 'zzlaws_ignore_b1.FnWrittenOrdersAsVerbs': WHATEVER THE INPUT: true; the input reads as it did. -/
def fnWrittenOrdersAsVerbsSpec : ChangeSpec := { name := "fnWrittenOrdersAsVerbs", fn := fun _ => fun
  | [d1, d2, d3, d4, d5, d6] => { results := [.lit (.bool true)], args := [d1, d2, d3, d4, d5, d6] }
  | _ => none }
def fnWrittenOrdersAsVerbsRow : OpenClaim := { program := "qxb6616684a", sum := "9e146fc1adcf6b9c73de154787ff77bbb57871958b175951de8aa14a9c171385", func := "example.com/lencap/lencap/zzlaws_ignore_b1.FnWrittenOrdersAsVerbs", spec := "fnWrittenOrdersAsVerbs", apart := false }
def FnWrittenOrdersAsVerbsSaid : Prop := fnWrittenOrdersAsVerbsRow.holds Try.pinned (OpenSpec.ofChange fnWrittenOrdersAsVerbsSpec)

/-- ITS FALSE NEIGHBOUR: 'it returns false'. Refute it at one input. -/
def fnWrittenOrdersAsVerbsWrong : ChangeSpec := { name := "fnWrittenOrdersAsVerbs", fn := fun _ => fun
  | [d1, d2, d3, d4, d5, d6] => { results := [.lit (.bool false)], args := [d1, d2, d3, d4, d5, d6] }
  | _ => none }
def FnWrittenOrdersAsVerbsWrongFalsely : Prop := fnWrittenOrdersAsVerbsRow.holds Try.pinned (OpenSpec.ofChange fnWrittenOrdersAsVerbsWrong)

end Rows
end Go.Proofs.Qxb6616684a
