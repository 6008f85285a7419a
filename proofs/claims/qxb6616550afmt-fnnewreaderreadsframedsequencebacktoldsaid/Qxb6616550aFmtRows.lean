/-
  NARROWER THAN 'FOR EVERY INPUT', by the rows' own cells (each row's printed sentence says how): FnAppendUint32ReadsBackThroughUint32: ifaces, laid · FnStringReadsWhatAppendUint32Framed: ifaces, laid · FnStringRefusesEveryProperPrefix: ifaces, laid · FnNewReaderReadsFramedSequenceBack: ifaces, laid.
  DERIVED. THE GIVEN ROWS OF THIS SEAT. 4 by the template 'for every input the law returns true; each argument reads behind the call as it read before'; 0 by the template 'total and deterministic' (their statements: Qxb6616550aFmtTotals.lean).
  GIVEN WITH THE SEED: the statements are not yours to turn. If you find one false, say at which input.
  Laid BY PROGRAM, IN A SANDBOX (cutbox-rows.mjs): the forced cells as the released guide's own fill.sh prints them over the translation a81469ba398a0503… (all of the seat's roots in one cut). By AI agents, Wed Nov 11 2026. No macro, syntax, notation, axiom, sorry.
-/
import Derived.Test.Qxb6616550aFmtChecked
import GoSem.Claim
import GoSem.ClaimJoined
import GoSem.ClaimMapViews
import Derived.JoinedTies
import Derived.KernelRfl
namespace Go.Proofs.Qxb6616550aFmt
/- THE CELL 'sum', in the pinned program and in every row, IS THE sha256 OF THE DUMP (.gsa) THAT Qxb6616550aFmtProg.lean LOADS. Nothing in Lean hashes anything: it is a label: what it is worth is what the hold of that sum in a sandbox is worth. -/
noncomputable def Tryf.pinned : Pinned := { name := "qxb6616550afmt", sum := "a81469ba398a0503be0c4e8bd2ebd998785a384d25181cde26d0cfaf7e6f3e71", checked := Tryf.checked }
namespace Rows
def none {H : Type} : Left H := { results := [], args := [] }

/- WHAT THE LISTED PACKAGE-LEVEL VARIABLES READ AS WHEN THE CALL BEGINS. Each datum BY PROGRAM (the guide's laid-datum.mjs) off the statement by which the dump's own 'gosem.cut.vars' lays the variable. In a bare row this is a premise. The card (Qxb6616550aFmtCards.lean) ties it to the program's text. -/
def laid_example_com_latchkey_latchkey_internal_wire_ErrTruncated {H : Type} : DataW H := .iface "*errors.errorString" (.ptr (.agg [.lit (.string [102, 105, 101, 108, 100, 32, 114, 117, 110, 115, 32, 112, 97, 115, 116, 32, 116, 104, 101, 32, 101, 110, 100, 32, 111, 102, 32, 116, 104, 101, 32, 109, 101, 115, 115, 97, 103, 101])]))

/-- 'zzlaws_internal_wire_b1.FnAppendUint32ReadsBackThroughUint32': WHATEVER THE INPUT: true; the input reads as it did. -/
def fnAppendUint32ReadsBackThroughUint32Spec : ChangeSpec := { name := "fnAppendUint32ReadsBackThroughUint32", vars := ["example.com/latchkey/latchkey/internal/wire.ErrTruncated"], fn := fun _ => fun
  | [d1, d2, g1] => { results := [.lit (.bool true)], args := [d1, d2], vars := [g1] }
  | _ => none }
def fnAppendUint32ReadsBackThroughUint32Row : OpenClaim := { program := "qxb6616550afmt", sum := "a81469ba398a0503be0c4e8bd2ebd998785a384d25181cde26d0cfaf7e6f3e71", func := "example.com/latchkey/latchkey/zzlaws_internal_wire_b1.FnAppendUint32ReadsBackThroughUint32", spec := "fnAppendUint32ReadsBackThroughUint32", stops := ["fmt.errorf"], inPlace := ["fmt.errorf"], named := ["encoding/binary.BigEndian", "example.com/latchkey/latchkey/internal/wire.ErrTruncated"], ifaces := true, apart := false, laid := [("example.com/latchkey/latchkey/internal/wire.ErrTruncated", laid_example_com_latchkey_latchkey_internal_wire_ErrTruncated)] }
/-- NO THEOREM (fmt's text is open here; it may be false): for the released tool's asking of the row's closed facts alone. THE STATEMENT IS 'FnAppendUint32ReadsBackThroughUint32ToldSaid' (Qxb6616550aFmtCards.lean). -/
def FnAppendUint32ReadsBackThroughUint32FormAsk : Prop := fnAppendUint32ReadsBackThroughUint32Row.holds Tryf.pinned (OpenSpec.ofChange fnAppendUint32ReadsBackThroughUint32Spec)

/-- ITS FALSE NEIGHBOUR: 'it returns false'. Refute it at one input. -/
def fnAppendUint32ReadsBackThroughUint32Wrong : ChangeSpec := { name := "fnAppendUint32ReadsBackThroughUint32", vars := ["example.com/latchkey/latchkey/internal/wire.ErrTruncated"], fn := fun _ => fun
  | [d1, d2, g1] => { results := [.lit (.bool false)], args := [d1, d2], vars := [g1] }
  | _ => none }
def FnAppendUint32ReadsBackThroughUint32WrongFormAsk : Prop := fnAppendUint32ReadsBackThroughUint32Row.holds Tryf.pinned (OpenSpec.ofChange fnAppendUint32ReadsBackThroughUint32Wrong)

/-- 'zzlaws_internal_wire_b1.FnStringReadsWhatAppendUint32Framed': WHATEVER THE INPUT: true; the input reads as it did. -/
def fnStringReadsWhatAppendUint32FramedSpec : ChangeSpec := { name := "fnStringReadsWhatAppendUint32Framed", vars := ["example.com/latchkey/latchkey/internal/wire.ErrTruncated"], fn := fun _ => fun
  | [d1, d2, g1] => { results := [.lit (.bool true)], args := [d1, d2], vars := [g1] }
  | _ => none }
def fnStringReadsWhatAppendUint32FramedRow : OpenClaim := { program := "qxb6616550afmt", sum := "a81469ba398a0503be0c4e8bd2ebd998785a384d25181cde26d0cfaf7e6f3e71", func := "example.com/latchkey/latchkey/zzlaws_internal_wire_b1.FnStringReadsWhatAppendUint32Framed", spec := "fnStringReadsWhatAppendUint32Framed", stops := ["fmt.errorf"], inPlace := ["fmt.errorf"], named := ["encoding/binary.BigEndian", "example.com/latchkey/latchkey/internal/wire.ErrTruncated"], ifaces := true, apart := false, laid := [("example.com/latchkey/latchkey/internal/wire.ErrTruncated", laid_example_com_latchkey_latchkey_internal_wire_ErrTruncated)] }
/-- NO THEOREM (fmt's text is open here; it may be false): for the released tool's asking of the row's closed facts alone. THE STATEMENT IS 'FnStringReadsWhatAppendUint32FramedToldSaid' (Qxb6616550aFmtCards.lean). -/
def FnStringReadsWhatAppendUint32FramedFormAsk : Prop := fnStringReadsWhatAppendUint32FramedRow.holds Tryf.pinned (OpenSpec.ofChange fnStringReadsWhatAppendUint32FramedSpec)

/-- ITS FALSE NEIGHBOUR: 'it returns false'. Refute it at one input. -/
def fnStringReadsWhatAppendUint32FramedWrong : ChangeSpec := { name := "fnStringReadsWhatAppendUint32Framed", vars := ["example.com/latchkey/latchkey/internal/wire.ErrTruncated"], fn := fun _ => fun
  | [d1, d2, g1] => { results := [.lit (.bool false)], args := [d1, d2], vars := [g1] }
  | _ => none }
def FnStringReadsWhatAppendUint32FramedWrongFormAsk : Prop := fnStringReadsWhatAppendUint32FramedRow.holds Tryf.pinned (OpenSpec.ofChange fnStringReadsWhatAppendUint32FramedWrong)

/-- 'zzlaws_internal_wire_b1.FnStringRefusesEveryProperPrefix': WHATEVER THE INPUT: true; the input reads as it did. -/
def fnStringRefusesEveryProperPrefixSpec : ChangeSpec := { name := "fnStringRefusesEveryProperPrefix", vars := ["example.com/latchkey/latchkey/internal/wire.ErrTruncated"], fn := fun _ => fun
  | [d1, d2, g1] => { results := [.lit (.bool true)], args := [d1, d2], vars := [g1] }
  | _ => none }
def fnStringRefusesEveryProperPrefixRow : OpenClaim := { program := "qxb6616550afmt", sum := "a81469ba398a0503be0c4e8bd2ebd998785a384d25181cde26d0cfaf7e6f3e71", func := "example.com/latchkey/latchkey/zzlaws_internal_wire_b1.FnStringRefusesEveryProperPrefix", spec := "fnStringRefusesEveryProperPrefix", stops := ["fmt.errorf"], inPlace := ["fmt.errorf"], named := ["encoding/binary.BigEndian", "example.com/latchkey/latchkey/internal/wire.ErrTruncated"], ifaces := true, apart := false, laid := [("example.com/latchkey/latchkey/internal/wire.ErrTruncated", laid_example_com_latchkey_latchkey_internal_wire_ErrTruncated)] }
/-- NO THEOREM (fmt's text is open here; it may be false): for the released tool's asking of the row's closed facts alone. THE STATEMENT IS 'FnStringRefusesEveryProperPrefixToldSaid' (Qxb6616550aFmtCards.lean). -/
def FnStringRefusesEveryProperPrefixFormAsk : Prop := fnStringRefusesEveryProperPrefixRow.holds Tryf.pinned (OpenSpec.ofChange fnStringRefusesEveryProperPrefixSpec)

/-- ITS FALSE NEIGHBOUR: 'it returns false'. Refute it at one input. -/
def fnStringRefusesEveryProperPrefixWrong : ChangeSpec := { name := "fnStringRefusesEveryProperPrefix", vars := ["example.com/latchkey/latchkey/internal/wire.ErrTruncated"], fn := fun _ => fun
  | [d1, d2, g1] => { results := [.lit (.bool false)], args := [d1, d2], vars := [g1] }
  | _ => none }
def FnStringRefusesEveryProperPrefixWrongFormAsk : Prop := fnStringRefusesEveryProperPrefixRow.holds Tryf.pinned (OpenSpec.ofChange fnStringRefusesEveryProperPrefixWrong)

/-- 'zzlaws_internal_wire_b1.FnNewReaderReadsFramedSequenceBack': WHATEVER THE INPUT: true; the input reads as it did. -/
def fnNewReaderReadsFramedSequenceBackSpec : ChangeSpec := { name := "fnNewReaderReadsFramedSequenceBack", vars := ["example.com/latchkey/latchkey/internal/wire.ErrTruncated"], fn := fun _ => fun
  | [d, g1] => { results := [.lit (.bool true)], args := [d], vars := [g1] }
  | _ => none }
def fnNewReaderReadsFramedSequenceBackRow : OpenClaim := { program := "qxb6616550afmt", sum := "a81469ba398a0503be0c4e8bd2ebd998785a384d25181cde26d0cfaf7e6f3e71", func := "example.com/latchkey/latchkey/zzlaws_internal_wire_b1.FnNewReaderReadsFramedSequenceBack", spec := "fnNewReaderReadsFramedSequenceBack", stops := ["fmt.errorf"], inPlace := ["fmt.errorf"], named := ["encoding/binary.BigEndian", "example.com/latchkey/latchkey/internal/wire.ErrTruncated"], ifaces := true, apart := false, laid := [("example.com/latchkey/latchkey/internal/wire.ErrTruncated", laid_example_com_latchkey_latchkey_internal_wire_ErrTruncated)] }
/-- NO THEOREM (fmt's text is open here; it may be false): for the released tool's asking of the row's closed facts alone. THE STATEMENT IS 'FnNewReaderReadsFramedSequenceBackToldSaid' (Qxb6616550aFmtCards.lean). -/
def FnNewReaderReadsFramedSequenceBackFormAsk : Prop := fnNewReaderReadsFramedSequenceBackRow.holds Tryf.pinned (OpenSpec.ofChange fnNewReaderReadsFramedSequenceBackSpec)

/-- ITS FALSE NEIGHBOUR: 'it returns false'. Refute it at one input. -/
def fnNewReaderReadsFramedSequenceBackWrong : ChangeSpec := { name := "fnNewReaderReadsFramedSequenceBack", vars := ["example.com/latchkey/latchkey/internal/wire.ErrTruncated"], fn := fun _ => fun
  | [d, g1] => { results := [.lit (.bool false)], args := [d], vars := [g1] }
  | _ => none }
def FnNewReaderReadsFramedSequenceBackWrongFormAsk : Prop := fnNewReaderReadsFramedSequenceBackRow.holds Tryf.pinned (OpenSpec.ofChange fnNewReaderReadsFramedSequenceBackWrong)

end Rows
end Go.Proofs.Qxb6616550aFmt
