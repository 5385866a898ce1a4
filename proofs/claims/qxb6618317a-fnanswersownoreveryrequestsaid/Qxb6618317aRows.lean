/-
  No cell of these rows narrows 'for every input' (looked for: loops, veiled, ifaces, maps, wideKeys, modest, calm, conditions, laid).
  DERIVED. THE GIVEN ROWS OF THIS SEAT. 1 by the template 'for every input the law returns true; each argument reads behind the call as it read before'; 0 by the template 'total and deterministic' (their statements: Qxb6618317aTotals.lean).
  GIVEN WITH THE SEED: the statements are not yours to turn. If you find one false, say at which input.
  Laid BY PROGRAM, IN A SANDBOX (cutbox-rows.mjs): the forced cells as the released guide's own fill.sh prints them over the translation de90c0ab36057f03… (all of the seat's roots in one cut). By AI agents, Wed Nov 11 2026. No macro, syntax, notation, axiom, sorry.
-/
import Derived.Test.Qxb6618317aChecked
import GoSem.Claim
import GoSem.ClaimJoined
import GoSem.ClaimMapViews
import Derived.JoinedTies
import Derived.KernelRfl
namespace Go.Proofs.Qxb6618317a
/- THE CELL 'sum', in the pinned program and in every row, IS THE sha256 OF THE DUMP (.gsa) THAT Qxb6618317aProg.lean LOADS. Nothing in Lean hashes anything: it is a label: what it is worth is what the hold of that sum in a sandbox is worth. -/
noncomputable def Try.pinned : Pinned := { name := "qxb6618317a", sum := "de90c0ab36057f03011eb7e60ec4afa2fb3fdd9ea4e7de4afe8da87d976d1761", checked := Try.checked }
namespace Rows
def none {H : Type} : Left H := { results := [], args := [] }

/-- 'zzlaws_internal_wire_b1.FnAnswersOwnOrEveryRequest': WHATEVER THE INPUT: true; the input reads as it did. -/
def fnAnswersOwnOrEveryRequestSpec : ChangeSpec := { name := "fnAnswersOwnOrEveryRequest", fn := fun _ => fun
  | [d1, d2, d3, d4, d5, d6, d7, d8, d9, d10, d11] => { results := [.lit (.bool true)], args := [d1, d2, d3, d4, d5, d6, d7, d8, d9, d10, d11] }
  | _ => none }
def fnAnswersOwnOrEveryRequestRow : OpenClaim := { program := "qxb6618317a", sum := "de90c0ab36057f03011eb7e60ec4afa2fb3fdd9ea4e7de4afe8da87d976d1761", func := "example.com/chainkeep/chainkeep/zzlaws_internal_wire_b1.FnAnswersOwnOrEveryRequest", spec := "fnAnswersOwnOrEveryRequest", apart := false }
def FnAnswersOwnOrEveryRequestSaid : Prop := fnAnswersOwnOrEveryRequestRow.holds Try.pinned (OpenSpec.ofChange fnAnswersOwnOrEveryRequestSpec)

/-- ITS FALSE NEIGHBOUR: 'it returns false'. Refute it at one input. -/
def fnAnswersOwnOrEveryRequestWrong : ChangeSpec := { name := "fnAnswersOwnOrEveryRequest", fn := fun _ => fun
  | [d1, d2, d3, d4, d5, d6, d7, d8, d9, d10, d11] => { results := [.lit (.bool false)], args := [d1, d2, d3, d4, d5, d6, d7, d8, d9, d10, d11] }
  | _ => none }
def FnAnswersOwnOrEveryRequestWrongFalsely : Prop := fnAnswersOwnOrEveryRequestRow.holds Try.pinned (OpenSpec.ofChange fnAnswersOwnOrEveryRequestWrong)

end Rows
end Go.Proofs.Qxb6618317a
