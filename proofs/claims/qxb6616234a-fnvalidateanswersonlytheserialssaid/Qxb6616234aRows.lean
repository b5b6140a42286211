/-
  No cell of these rows narrows 'for every input' (looked for: loops, veiled, ifaces, maps, wideKeys, modest, calm, conditions, laid).
  DERIVED. THE GIVEN ROWS OF THIS SEAT. 1 by the template 'for every input the law returns true; each argument reads behind the call as it read before'; 0 by the template 'total and deterministic' (their statements: Qxb6616234aTotals.lean).
  GIVEN WITH THE SEED: the statements are not yours to turn. If you find one false, say at which input.
  Laid BY PROGRAM, IN A SANDBOX (cutbox-rows.mjs): the forced cells as the released guide's own fill.sh prints them over the translation 692b4faa24091299… (all of the seat's roots in one cut). By AI agents, Wed Nov 11 2026. No macro, syntax, notation, axiom, sorry.
-/
import Derived.Test.Qxb6616234aChecked
import GoSem.Claim
import GoSem.ClaimJoined
import GoSem.ClaimMapViews
import Derived.JoinedTies
import Derived.KernelRfl
namespace Go.Proofs.Qxb6616234a
/- THE CELL 'sum', in the pinned program and in every row, IS THE sha256 OF THE DUMP (.gsa) THAT Qxb6616234aProg.lean LOADS. Nothing in Lean hashes anything: it is a label: what it is worth is what the hold of that sum in a sandbox is worth. -/
noncomputable def Try.pinned : Pinned := { name := "qxb6616234a", sum := "692b4faa240912996fdc9b3e0e8af63b6a4b077efcb5b6e48ce1f0f1fec28bdf", checked := Try.checked }
namespace Rows
def none {H : Type} : Left H := { results := [], args := [] }

/-- 'zzlaws_hlr_b1.FnValidateAnswersOnlyTheSerials': WHATEVER THE INPUT: true; the input reads as it did. -/
def fnValidateAnswersOnlyTheSerialsSpec : ChangeSpec := { name := "fnValidateAnswersOnlyTheSerials", fn := fun _ => fun
  | [d1, d2, d3, d4, d5, d6] => { results := [.lit (.bool true)], args := [d1, d2, d3, d4, d5, d6] }
  | _ => none }
def fnValidateAnswersOnlyTheSerialsRow : OpenClaim := { program := "qxb6616234a", sum := "692b4faa240912996fdc9b3e0e8af63b6a4b077efcb5b6e48ce1f0f1fec28bdf", func := "example.com/roamwire/roamwire/zzlaws_hlr_b1.FnValidateAnswersOnlyTheSerials", spec := "fnValidateAnswersOnlyTheSerials", apart := false }
def FnValidateAnswersOnlyTheSerialsSaid : Prop := fnValidateAnswersOnlyTheSerialsRow.holds Try.pinned (OpenSpec.ofChange fnValidateAnswersOnlyTheSerialsSpec)

/-- ITS FALSE NEIGHBOUR: 'it returns false'. Refute it at one input. -/
def fnValidateAnswersOnlyTheSerialsWrong : ChangeSpec := { name := "fnValidateAnswersOnlyTheSerials", fn := fun _ => fun
  | [d1, d2, d3, d4, d5, d6] => { results := [.lit (.bool false)], args := [d1, d2, d3, d4, d5, d6] }
  | _ => none }
def FnValidateAnswersOnlyTheSerialsWrongFalsely : Prop := fnValidateAnswersOnlyTheSerialsRow.holds Try.pinned (OpenSpec.ofChange fnValidateAnswersOnlyTheSerialsWrong)

end Rows
end Go.Proofs.Qxb6616234a
