/-
  DERIVED. GIVEN WITH THE SEED: THE CARDS: each row of Qxb6616507aFmtRows.lean that lists a variable, with what it lists TIED to the program's text (the seventh form; the later family's looks); each row that meets fmt, with fmt's text TOLD by the authors' own Lean function (tested against real Go, not proved from fmt's source: count such statements apart). THE CARD IS WHAT COUNTS. Prove the row's statement (the work); the ties are given (Qxb6616507aFmtTie.lean); close each card by the builder's one call (the guide's Derived/Test/ToyasCard.lean, 'card_holds'). Laid BY PROGRAM, IN A SANDBOX (cutbox-door.mjs). By AI agents, Wed Nov 11 2026. No macro, syntax, notation, axiom, sorry.
-/
import Derived.Test.Qxb6616507aFmtRows
import GoSem.ClaimSeven
namespace Go.Proofs.Qxb6616507aFmt
namespace Rows

/-- THE TOLD CARD OF 'zzlaws_wire_b1.FnU64ReadsBackAppendBytesLength'. -/
def fnU64ReadsBackAppendBytesLengthCard : Claim7 := { stood := { row := fnU64ReadsBackAppendBytesLengthRow, standIns := [], harness := (true, "51b0fa72d24d3dd6bf1b33f29e6670ea838b27d7774af7fbe1043b7baf088a4d"), looks := false }, told := true, goes := false }
def FnU64ReadsBackAppendBytesLengthToldSaid : Prop := Claim7.holds Tryf.pinned (.plain (OpenSpec.ofChange fnU64ReadsBackAppendBytesLengthSpec)) fnU64ReadsBackAppendBytesLengthCard
/-- ITS FALSE NEIGHBOUR. Refute it at one input. -/
def FnU64ReadsBackAppendBytesLengthToldWrongFalsely : Prop := Claim7.holds Tryf.pinned (.plain (OpenSpec.ofChange fnU64ReadsBackAppendBytesLengthWrong)) fnU64ReadsBackAppendBytesLengthCard

/-- THE TOLD CARD OF 'zzlaws_wire_b1.FnDecoderReadsBackTwoAppendedVectors'. -/
def fnDecoderReadsBackTwoAppendedVectorsCard : Claim7 := { stood := { row := fnDecoderReadsBackTwoAppendedVectorsRow, standIns := [], harness := (true, "51b0fa72d24d3dd6bf1b33f29e6670ea838b27d7774af7fbe1043b7baf088a4d"), looks := false }, told := true, goes := false }
def FnDecoderReadsBackTwoAppendedVectorsToldSaid : Prop := Claim7.holds Tryf.pinned (.plain (OpenSpec.ofChange fnDecoderReadsBackTwoAppendedVectorsSpec)) fnDecoderReadsBackTwoAppendedVectorsCard
/-- ITS FALSE NEIGHBOUR. Refute it at one input. -/
def FnDecoderReadsBackTwoAppendedVectorsToldWrongFalsely : Prop := Claim7.holds Tryf.pinned (.plain (OpenSpec.ofChange fnDecoderReadsBackTwoAppendedVectorsWrong)) fnDecoderReadsBackTwoAppendedVectorsCard
end Rows
end Go.Proofs.Qxb6616507aFmt
