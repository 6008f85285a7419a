/-
  DERIVED. GIVEN WITH THE SEED: THE CARDS: each row of Qxb6616550aFmtRows.lean that lists a variable, with what it lists TIED to the program's text (the seventh form; the later family's looks); each row that meets fmt, with fmt's text TOLD by the authors' own Lean function (tested against real Go, not proved from fmt's source: count such statements apart). THE CARD IS WHAT COUNTS. Prove the row's statement (the work); the ties are given (Qxb6616550aFmtTie.lean); close each card by the builder's one call (the guide's Derived/Test/ToyasCard.lean, 'card_holds'). Laid BY PROGRAM, IN A SANDBOX (cutbox-door.mjs). By AI agents, Wed Nov 11 2026. No macro, syntax, notation, axiom, sorry.
-/
import Derived.Test.Qxb6616550aFmtRows
import GoSem.ClaimSeven
namespace Go.Proofs.Qxb6616550aFmt
namespace Rows

/-- THE TOLD AND TIED CARD OF 'zzlaws_internal_wire_b1.FnAppendUint32ReadsBackThroughUint32'. -/
def fnAppendUint32ReadsBackThroughUint32Card : Claim7 := { stood := { row := fnAppendUint32ReadsBackThroughUint32Row, standIns := [], harness := (true, "99bde2bc44088175950362a6eb104f3dbb2e1065771952f22bb5e295038ef663"), looks := false }, told := true, laidByText := true, laidKinds := [.sentinel], laidTests := true, laidLooks := .later, goes := false }
def FnAppendUint32ReadsBackThroughUint32ToldSaid : Prop := Claim7.holds Tryf.pinned (.plain (OpenSpec.ofChange fnAppendUint32ReadsBackThroughUint32Spec)) fnAppendUint32ReadsBackThroughUint32Card
/-- ITS FALSE NEIGHBOUR. Refute it at one input. -/
def FnAppendUint32ReadsBackThroughUint32ToldWrongFalsely : Prop := Claim7.holds Tryf.pinned (.plain (OpenSpec.ofChange fnAppendUint32ReadsBackThroughUint32Wrong)) fnAppendUint32ReadsBackThroughUint32Card

/-- THE TOLD AND TIED CARD OF 'zzlaws_internal_wire_b1.FnStringReadsWhatAppendUint32Framed'. -/
def fnStringReadsWhatAppendUint32FramedCard : Claim7 := { stood := { row := fnStringReadsWhatAppendUint32FramedRow, standIns := [], harness := (true, "99bde2bc44088175950362a6eb104f3dbb2e1065771952f22bb5e295038ef663"), looks := false }, told := true, laidByText := true, laidKinds := [.sentinel], laidTests := true, laidLooks := .later, goes := false }
def FnStringReadsWhatAppendUint32FramedToldSaid : Prop := Claim7.holds Tryf.pinned (.plain (OpenSpec.ofChange fnStringReadsWhatAppendUint32FramedSpec)) fnStringReadsWhatAppendUint32FramedCard
/-- ITS FALSE NEIGHBOUR. Refute it at one input. -/
def FnStringReadsWhatAppendUint32FramedToldWrongFalsely : Prop := Claim7.holds Tryf.pinned (.plain (OpenSpec.ofChange fnStringReadsWhatAppendUint32FramedWrong)) fnStringReadsWhatAppendUint32FramedCard

/-- THE TOLD AND TIED CARD OF 'zzlaws_internal_wire_b1.FnStringRefusesEveryProperPrefix'. -/
def fnStringRefusesEveryProperPrefixCard : Claim7 := { stood := { row := fnStringRefusesEveryProperPrefixRow, standIns := [], harness := (true, "99bde2bc44088175950362a6eb104f3dbb2e1065771952f22bb5e295038ef663"), looks := false }, told := true, laidByText := true, laidKinds := [.sentinel], laidTests := true, laidLooks := .later, goes := false }
def FnStringRefusesEveryProperPrefixToldSaid : Prop := Claim7.holds Tryf.pinned (.plain (OpenSpec.ofChange fnStringRefusesEveryProperPrefixSpec)) fnStringRefusesEveryProperPrefixCard
/-- ITS FALSE NEIGHBOUR. Refute it at one input. -/
def FnStringRefusesEveryProperPrefixToldWrongFalsely : Prop := Claim7.holds Tryf.pinned (.plain (OpenSpec.ofChange fnStringRefusesEveryProperPrefixWrong)) fnStringRefusesEveryProperPrefixCard

/-- THE TOLD AND TIED CARD OF 'zzlaws_internal_wire_b1.FnNewReaderReadsFramedSequenceBack'. -/
def fnNewReaderReadsFramedSequenceBackCard : Claim7 := { stood := { row := fnNewReaderReadsFramedSequenceBackRow, standIns := [], harness := (true, "99bde2bc44088175950362a6eb104f3dbb2e1065771952f22bb5e295038ef663"), looks := false }, told := true, laidByText := true, laidKinds := [.sentinel], laidTests := true, laidLooks := .later, goes := false }
def FnNewReaderReadsFramedSequenceBackToldSaid : Prop := Claim7.holds Tryf.pinned (.plain (OpenSpec.ofChange fnNewReaderReadsFramedSequenceBackSpec)) fnNewReaderReadsFramedSequenceBackCard
/-- ITS FALSE NEIGHBOUR. Refute it at one input. -/
def FnNewReaderReadsFramedSequenceBackToldWrongFalsely : Prop := Claim7.holds Tryf.pinned (.plain (OpenSpec.ofChange fnNewReaderReadsFramedSequenceBackWrong)) fnNewReaderReadsFramedSequenceBackCard
end Rows
end Go.Proofs.Qxb6616550aFmt
