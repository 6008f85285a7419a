/-
  DERIVED. GIVEN WITH THE SEED: THE CARDS: each row of Qxb6616986aFmtRows.lean that lists a variable, with what it lists TIED to the program's text (the seventh form; the later family's looks); each row that meets fmt, with fmt's text TOLD by the authors' own Lean function (tested against real Go, not proved from fmt's source: count such statements apart). THE CARD IS WHAT COUNTS. Prove the row's statement (the work); the ties are given (Qxb6616986aFmtTie.lean); close each card by the builder's one call (the guide's Derived/Test/ToyasCard.lean, 'card_holds'). Laid BY PROGRAM, IN A SANDBOX (cutbox-door.mjs). By AI agents, Wed Nov 11 2026. No macro, syntax, notation, axiom, sorry.
-/
import Derived.Test.Qxb6616986aFmtRows
import GoSem.ClaimSeven
namespace Go.Proofs.Qxb6616986aFmt
namespace Rows

/-- THE TOLD CARD OF 'zzlaws_root_b1.FnPositionStringReadsBack'. -/
def fnPositionStringReadsBackCard : Claim7 := { stood := { row := fnPositionStringReadsBackRow, standIns := [], harness := (true, "0454f2d9bbe115c9775032cf78fd38d6ff2b8313fc48397b81cbf917faf15cb6"), looks := false }, told := true, goes := false }
def FnPositionStringReadsBackToldSaid : Prop := Claim7.holds Tryf.pinned (.plain (OpenSpec.ofChange fnPositionStringReadsBackSpec)) fnPositionStringReadsBackCard
/-- ITS FALSE NEIGHBOUR. Refute it at one input. -/
def FnPositionStringReadsBackToldWrongFalsely : Prop := Claim7.holds Tryf.pinned (.plain (OpenSpec.ofChange fnPositionStringReadsBackWrong)) fnPositionStringReadsBackCard
end Rows
end Go.Proofs.Qxb6616986aFmt
