/-
  No cell of these rows narrows 'for every input' (looked for: loops, veiled, ifaces, maps, wideKeys, modest, calm, conditions, laid).
  DERIVED. THE GIVEN ROWS OF THIS SEAT. 1 by the template 'for every input the law returns true; each argument reads behind the call as it read before'; 0 by the template 'total and deterministic' (their statements: Qxb6616986aFmtTotals.lean).
  GIVEN WITH THE SEED: the statements are not yours to turn. If you find one false, say at which input.
  Laid BY PROGRAM, IN A SANDBOX (cutbox-rows.mjs): the forced cells as the released guide's own fill.sh prints them over the translation bbd2e8e796f03e96… (all of the seat's roots in one cut). By AI agents, Wed Nov 11 2026. No macro, syntax, notation, axiom, sorry.
-/
import Derived.Test.Qxb6616986aFmtChecked
import GoSem.Claim
import GoSem.ClaimJoined
import GoSem.ClaimMapViews
import Derived.JoinedTies
import Derived.KernelRfl
namespace Go.Proofs.Qxb6616986aFmt
/- THE CELL 'sum', in the pinned program and in every row, IS THE sha256 OF THE DUMP (.gsa) THAT Qxb6616986aFmtProg.lean LOADS. Nothing in Lean hashes anything: it is a label: what it is worth is what the hold of that sum in a sandbox is worth. -/
noncomputable def Tryf.pinned : Pinned := { name := "qxb6616986afmt", sum := "bbd2e8e796f03e96c71df2d4571960bf21218602802174ce4df1fdebdcb51fd1", checked := Tryf.checked }
namespace Rows
def none {H : Type} : Left H := { results := [], args := [] }

/-- 'zzlaws_root_b1.FnPositionStringReadsBack': WHATEVER THE INPUT: true; the input reads as it did. -/
def fnPositionStringReadsBackSpec : ChangeSpec := { name := "fnPositionStringReadsBack", fn := fun _ => fun
  | [d1, d2] => { results := [.lit (.bool true)], args := [d1, d2] }
  | _ => none }
def fnPositionStringReadsBackRow : OpenClaim := { program := "qxb6616986afmt", sum := "bbd2e8e796f03e96c71df2d4571960bf21218602802174ce4df1fdebdcb51fd1", func := "example.com/operatrix/operatrix/zzlaws_root_b1.FnPositionStringReadsBack", spec := "fnPositionStringReadsBack", stops := ["fmt.Sprintf"], inPlace := ["fmt.Sprintf"], apart := false }
/-- NO THEOREM (fmt's text is open here; it may be false): for the released tool's asking of the row's closed facts alone. THE STATEMENT IS 'FnPositionStringReadsBackToldSaid' (Qxb6616986aFmtCards.lean). -/
def FnPositionStringReadsBackFormAsk : Prop := fnPositionStringReadsBackRow.holds Tryf.pinned (OpenSpec.ofChange fnPositionStringReadsBackSpec)

/-- ITS FALSE NEIGHBOUR: 'it returns false'. Refute it at one input. -/
def fnPositionStringReadsBackWrong : ChangeSpec := { name := "fnPositionStringReadsBack", fn := fun _ => fun
  | [d1, d2] => { results := [.lit (.bool false)], args := [d1, d2] }
  | _ => none }
def FnPositionStringReadsBackWrongFormAsk : Prop := fnPositionStringReadsBackRow.holds Tryf.pinned (OpenSpec.ofChange fnPositionStringReadsBackWrong)

end Rows
end Go.Proofs.Qxb6616986aFmt
