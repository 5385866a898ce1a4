/-
  No cell of these rows narrows 'for every input' (looked for: loops, veiled, ifaces, maps, wideKeys, modest, calm, conditions, laid).
  DERIVED. THE GIVEN ROWS OF THIS SEAT. 2 by the template 'for every input the law returns true; each argument reads behind the call as it read before'; 0 by the template 'total and deterministic' (their statements: Qxb6616507aFmtTotals.lean).
  GIVEN WITH THE SEED: the statements are not yours to turn. If you find one false, say at which input.
  Laid BY PROGRAM, IN A SANDBOX (cutbox-rows.mjs): the forced cells as the released guide's own fill.sh prints them over the translation 03652c24e43c6594… (all of the seat's roots in one cut). By AI agents, Wed Nov 11 2026. No macro, syntax, notation, axiom, sorry.
-/
import Derived.Test.Qxb6616507aFmtChecked
import GoSem.Claim
import GoSem.ClaimJoined
import GoSem.ClaimMapViews
import Derived.JoinedTies
import Derived.KernelRfl
namespace Go.Proofs.Qxb6616507aFmt
/- THE CELL 'sum', in the pinned program and in every row, IS THE sha256 OF THE DUMP (.gsa) THAT Qxb6616507aFmtProg.lean LOADS. Nothing in Lean hashes anything: it is a label: what it is worth is what the hold of that sum in a sandbox is worth. -/
noncomputable def Tryf.pinned : Pinned := { name := "qxb6616507afmt", sum := "03652c24e43c6594e339b21aca6406fc8732f5d00cda3c27211ea3f423b77fc3", checked := Tryf.checked }
namespace Rows
def none {H : Type} : Left H := { results := [], args := [] }

/-- 'zzlaws_wire_b1.FnU64ReadsBackAppendBytesLength': WHATEVER THE INPUT: true; the input reads as it did. -/
def fnU64ReadsBackAppendBytesLengthSpec : ChangeSpec := { name := "fnU64ReadsBackAppendBytesLength", fn := fun _ => fun
  | [d1, d2] => { results := [.lit (.bool true)], args := [d1, d2] }
  | _ => none }
def fnU64ReadsBackAppendBytesLengthRow : OpenClaim := { program := "qxb6616507afmt", sum := "03652c24e43c6594e339b21aca6406fc8732f5d00cda3c27211ea3f423b77fc3", func := "example.com/hearsay/hearsay/zzlaws_wire_b1.FnU64ReadsBackAppendBytesLength", spec := "fnU64ReadsBackAppendBytesLength", stops := ["fmt.errorf, its operands' methods called"], inPlace := ["fmt.errorf"], unfollowed := true, recurses := true, named := ["encoding/binary.LittleEndian"], apart := false }
/-- NO THEOREM (fmt's text is open here; it may be false): for the released tool's asking of the row's closed facts alone. THE STATEMENT IS 'FnU64ReadsBackAppendBytesLengthToldSaid' (Qxb6616507aFmtCards.lean). -/
def FnU64ReadsBackAppendBytesLengthFormAsk : Prop := fnU64ReadsBackAppendBytesLengthRow.holds Tryf.pinned (OpenSpec.ofChange fnU64ReadsBackAppendBytesLengthSpec)

/-- ITS FALSE NEIGHBOUR: 'it returns false'. Refute it at one input. -/
def fnU64ReadsBackAppendBytesLengthWrong : ChangeSpec := { name := "fnU64ReadsBackAppendBytesLength", fn := fun _ => fun
  | [d1, d2] => { results := [.lit (.bool false)], args := [d1, d2] }
  | _ => none }
def FnU64ReadsBackAppendBytesLengthWrongFormAsk : Prop := fnU64ReadsBackAppendBytesLengthRow.holds Tryf.pinned (OpenSpec.ofChange fnU64ReadsBackAppendBytesLengthWrong)

/-- 'zzlaws_wire_b1.FnDecoderReadsBackTwoAppendedVectors': WHATEVER THE INPUT: true; the input reads as it did. -/
def fnDecoderReadsBackTwoAppendedVectorsSpec : ChangeSpec := { name := "fnDecoderReadsBackTwoAppendedVectors", fn := fun _ => fun
  | [d1, d2] => { results := [.lit (.bool true)], args := [d1, d2] }
  | _ => none }
def fnDecoderReadsBackTwoAppendedVectorsRow : OpenClaim := { program := "qxb6616507afmt", sum := "03652c24e43c6594e339b21aca6406fc8732f5d00cda3c27211ea3f423b77fc3", func := "example.com/hearsay/hearsay/zzlaws_wire_b1.FnDecoderReadsBackTwoAppendedVectors", spec := "fnDecoderReadsBackTwoAppendedVectors", stops := ["fmt.errorf, its operands' methods called"], inPlace := ["fmt.errorf"], unfollowed := true, recurses := true, named := ["encoding/binary.LittleEndian"], apart := false }
/-- NO THEOREM (fmt's text is open here; it may be false): for the released tool's asking of the row's closed facts alone. THE STATEMENT IS 'FnDecoderReadsBackTwoAppendedVectorsToldSaid' (Qxb6616507aFmtCards.lean). -/
def FnDecoderReadsBackTwoAppendedVectorsFormAsk : Prop := fnDecoderReadsBackTwoAppendedVectorsRow.holds Tryf.pinned (OpenSpec.ofChange fnDecoderReadsBackTwoAppendedVectorsSpec)

/-- ITS FALSE NEIGHBOUR: 'it returns false'. Refute it at one input. -/
def fnDecoderReadsBackTwoAppendedVectorsWrong : ChangeSpec := { name := "fnDecoderReadsBackTwoAppendedVectors", fn := fun _ => fun
  | [d1, d2] => { results := [.lit (.bool false)], args := [d1, d2] }
  | _ => none }
def FnDecoderReadsBackTwoAppendedVectorsWrongFormAsk : Prop := fnDecoderReadsBackTwoAppendedVectorsRow.holds Tryf.pinned (OpenSpec.ofChange fnDecoderReadsBackTwoAppendedVectorsWrong)

end Rows
end Go.Proofs.Qxb6616507aFmt
