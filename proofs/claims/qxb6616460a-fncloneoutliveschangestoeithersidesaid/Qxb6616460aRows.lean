/-
  No cell of these rows narrows 'for every input' (looked for: loops, veiled, ifaces, maps, wideKeys, modest, calm, conditions, laid).
  DERIVED. THE GIVEN ROWS OF THIS SEAT. 2 by the template 'for every input the law returns true; each argument reads behind the call as it read before'; 0 by the template 'total and deterministic' (their statements: Qxb6616460aTotals.lean).
  GIVEN WITH THE SEED: the statements are not yours to turn. If you find one false, say at which input.
  Laid BY PROGRAM, IN A SANDBOX (cutbox-rows.mjs): the forced cells as the released guide's own fill.sh prints them over the translation 442c5f519d6662db… (all of the seat's roots in one cut). By AI agents, Wed Nov 11 2026. No macro, syntax, notation, axiom, sorry.
-/
import Derived.Test.Qxb6616460aChecked
import GoSem.Claim
import GoSem.ClaimJoined
import GoSem.ClaimMapViews
import Derived.JoinedTies
import Derived.KernelRfl
namespace Go.Proofs.Qxb6616460a
/- THE CELL 'sum', in the pinned program and in every row, IS THE sha256 OF THE DUMP (.gsa) THAT Qxb6616460aProg.lean LOADS. Nothing in Lean hashes anything: it is a label: what it is worth is what the hold of that sum in a sandbox is worth. -/
noncomputable def Try.pinned : Pinned := { name := "qxb6616460a", sum := "442c5f519d6662db86475c5a2f36dcefb560244ba45e4324971eb848b2caa15b", checked := Try.checked }
namespace Rows
def none {H : Type} : Left H := { results := [], args := [] }

/-- 'zzlaws_internal_core_b1.FnCloneCopiesEveryFieldIntoFreshArrays': WHATEVER THE INPUT: true; the input reads as it did. -/
def fnCloneCopiesEveryFieldIntoFreshArraysSpec : ChangeSpec := { name := "fnCloneCopiesEveryFieldIntoFreshArrays", fn := fun _ => fun
  | [d1, d2, d3, d4, d5, d6] => { results := [.lit (.bool true)], args := [d1, d2, d3, d4, d5, d6] }
  | _ => none }
def fnCloneCopiesEveryFieldIntoFreshArraysRow : OpenClaim := { program := "qxb6616460a", sum := "442c5f519d6662db86475c5a2f36dcefb560244ba45e4324971eb848b2caa15b", func := "example.com/tocsin/tocsin/zzlaws_internal_core_b1.FnCloneCopiesEveryFieldIntoFreshArrays", spec := "fnCloneCopiesEveryFieldIntoFreshArrays", apart := false }
def FnCloneCopiesEveryFieldIntoFreshArraysSaid : Prop := fnCloneCopiesEveryFieldIntoFreshArraysRow.holds Try.pinned (OpenSpec.ofChange fnCloneCopiesEveryFieldIntoFreshArraysSpec)

/-- ITS FALSE NEIGHBOUR: 'it returns false'. Refute it at one input. -/
def fnCloneCopiesEveryFieldIntoFreshArraysWrong : ChangeSpec := { name := "fnCloneCopiesEveryFieldIntoFreshArrays", fn := fun _ => fun
  | [d1, d2, d3, d4, d5, d6] => { results := [.lit (.bool false)], args := [d1, d2, d3, d4, d5, d6] }
  | _ => none }
def FnCloneCopiesEveryFieldIntoFreshArraysWrongFalsely : Prop := fnCloneCopiesEveryFieldIntoFreshArraysRow.holds Try.pinned (OpenSpec.ofChange fnCloneCopiesEveryFieldIntoFreshArraysWrong)

/-- 'zzlaws_internal_core_b1.FnCloneOutlivesChangesToEitherSide': WHATEVER THE INPUT: true; the input reads as it did. -/
def fnCloneOutlivesChangesToEitherSideSpec : ChangeSpec := { name := "fnCloneOutlivesChangesToEitherSide", fn := fun _ => fun
  | [d1, d2, d3, d4, d5, d6] => { results := [.lit (.bool true)], args := [d1, d2, d3, d4, d5, d6] }
  | _ => none }
def fnCloneOutlivesChangesToEitherSideRow : OpenClaim := { program := "qxb6616460a", sum := "442c5f519d6662db86475c5a2f36dcefb560244ba45e4324971eb848b2caa15b", func := "example.com/tocsin/tocsin/zzlaws_internal_core_b1.FnCloneOutlivesChangesToEitherSide", spec := "fnCloneOutlivesChangesToEitherSide", apart := false }
def FnCloneOutlivesChangesToEitherSideSaid : Prop := fnCloneOutlivesChangesToEitherSideRow.holds Try.pinned (OpenSpec.ofChange fnCloneOutlivesChangesToEitherSideSpec)

/-- ITS FALSE NEIGHBOUR: 'it returns false'. Refute it at one input. -/
def fnCloneOutlivesChangesToEitherSideWrong : ChangeSpec := { name := "fnCloneOutlivesChangesToEitherSide", fn := fun _ => fun
  | [d1, d2, d3, d4, d5, d6] => { results := [.lit (.bool false)], args := [d1, d2, d3, d4, d5, d6] }
  | _ => none }
def FnCloneOutlivesChangesToEitherSideWrongFalsely : Prop := fnCloneOutlivesChangesToEitherSideRow.holds Try.pinned (OpenSpec.ofChange fnCloneOutlivesChangesToEitherSideWrong)

end Rows
end Go.Proofs.Qxb6616460a
