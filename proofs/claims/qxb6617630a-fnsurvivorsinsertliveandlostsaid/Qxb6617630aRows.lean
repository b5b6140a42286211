/-
  NARROWER THAN 'FOR EVERY INPUT', by the rows' own cells (each row's printed sentence says how): FnSurvivorsInsertLiveAndLost: maps.
  DERIVED. THE GIVEN ROWS OF THIS SEAT. 1 by the template 'for every input the law returns true; each argument reads behind the call as it read before'; 0 by the template 'total and deterministic' (their statements: Qxb6617630aTotals.lean).
  GIVEN WITH THE SEED: the statements are not yours to turn. If you find one false, say at which input.
  Laid BY PROGRAM, IN A SANDBOX (cutbox-rows.mjs): the forced cells as the released guide's own fill.sh prints them over the translation c965b24f4b87f440… (all of the seat's roots in one cut). By AI agents, Wed Nov 11 2026. No macro, syntax, notation, axiom, sorry.
-/
import Derived.Test.Qxb6617630aChecked
import GoSem.Claim
import GoSem.ClaimJoined
import GoSem.ClaimMapViews
import Derived.JoinedTies
import Derived.KernelRfl
namespace Go.Proofs.Qxb6617630a
/- THE CELL 'sum', in the pinned program and in every row, IS THE sha256 OF THE DUMP (.gsa) THAT Qxb6617630aProg.lean LOADS. Nothing in Lean hashes anything: it is a label: what it is worth is what the hold of that sum in a sandbox is worth. -/
noncomputable def Try.pinned : Pinned := { name := "qxb6617630a", sum := "c965b24f4b87f440807a171f6dbdb1c36dbaf20ab0c3d7d5a46406312a64d32a", checked := Try.checked }
namespace Rows
def none {H : Type} : Left H := { results := [], args := [] }

/-- 'zzlaws_root_b1.FnSurvivorsInsertLiveAndLost': WHATEVER THE INPUT: true; the input reads as it did. -/
def fnSurvivorsInsertLiveAndLostSpec : ChangeSpec := { name := "fnSurvivorsInsertLiveAndLost", fn := fun _ => fun
  | [d1, d2, d3, d4, d5, d6, d7, d8] => { results := [.lit (.bool true)], args := [d1, d2, d3, d4, d5, d6, d7, d8] }
  | _ => none }
def fnSurvivorsInsertLiveAndLostRow : OpenClaim := { program := "qxb6617630a", sum := "c965b24f4b87f440807a171f6dbdb1c36dbaf20ab0c3d7d5a46406312a64d32a", func := "example.com/beforehand/beforehand/zzlaws_root_b1.FnSurvivorsInsertLiveAndLost", spec := "fnSurvivorsInsertLiveAndLost", maps := true, apart := false }
def FnSurvivorsInsertLiveAndLostSaid : Prop := fnSurvivorsInsertLiveAndLostRow.holds Try.pinned (OpenSpec.ofChange fnSurvivorsInsertLiveAndLostSpec)

/-- ITS FALSE NEIGHBOUR: 'it returns false'. Refute it at one input. -/
def fnSurvivorsInsertLiveAndLostWrong : ChangeSpec := { name := "fnSurvivorsInsertLiveAndLost", fn := fun _ => fun
  | [d1, d2, d3, d4, d5, d6, d7, d8] => { results := [.lit (.bool false)], args := [d1, d2, d3, d4, d5, d6, d7, d8] }
  | _ => none }
def FnSurvivorsInsertLiveAndLostWrongFalsely : Prop := fnSurvivorsInsertLiveAndLostRow.holds Try.pinned (OpenSpec.ofChange fnSurvivorsInsertLiveAndLostWrong)

end Rows
end Go.Proofs.Qxb6617630a
