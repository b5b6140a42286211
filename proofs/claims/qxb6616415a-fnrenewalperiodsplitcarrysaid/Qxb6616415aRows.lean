/-
  No cell of these rows narrows 'for every input' (looked for: loops, veiled, ifaces, maps, wideKeys, modest, calm, conditions, laid).
  DERIVED. THE GIVEN ROWS OF THIS SEAT. 2 by the template 'for every input the law returns true; each argument reads behind the call as it read before'; 0 by the template 'total and deterministic' (their statements: Qxb6616415aTotals.lean).
  GIVEN WITH THE SEED: the statements are not yours to turn. If you find one false, say at which input.
  Laid BY PROGRAM, IN A SANDBOX (cutbox-rows.mjs): the forced cells as the released guide's own fill.sh prints them over the translation 9691c9fc3e89a27d… (all of the seat's roots in one cut). By AI agents, Wed Nov 11 2026. No macro, syntax, notation, axiom, sorry.
-/
import Derived.Test.Qxb6616415aChecked
import GoSem.Claim
import GoSem.ClaimJoined
import GoSem.ClaimMapViews
import Derived.JoinedTies
import Derived.KernelRfl
namespace Go.Proofs.Qxb6616415a
/- THE CELL 'sum', in the pinned program and in every row, IS THE sha256 OF THE DUMP (.gsa) THAT Qxb6616415aProg.lean LOADS. Nothing in Lean hashes anything: it is a label: what it is worth is what the hold of that sum in a sandbox is worth. -/
noncomputable def Try.pinned : Pinned := { name := "qxb6616415a", sum := "9691c9fc3e89a27dec24e079ad5580f28f883f5ede939b1b65c6879bf3465373", checked := Try.checked }
namespace Rows
def none {H : Type} : Left H := { results := [], args := [] }

/-- 'zzlaws_root_b1.FnRenewalPeriodShiftByThirds': WHATEVER THE INPUT: true; the input reads as it did. -/
def fnRenewalPeriodShiftByThirdsSpec : ChangeSpec := { name := "fnRenewalPeriodShiftByThirds", fn := fun _ => fun
  | [d1, d2] => { results := [.lit (.bool true)], args := [d1, d2] }
  | _ => none }
def fnRenewalPeriodShiftByThirdsRow : OpenClaim := { program := "qxb6616415a", sum := "9691c9fc3e89a27dec24e079ad5580f28f883f5ede939b1b65c6879bf3465373", func := "example.com/lease/lease/zzlaws_root_b1.FnRenewalPeriodShiftByThirds", spec := "fnRenewalPeriodShiftByThirds", apart := false }
def FnRenewalPeriodShiftByThirdsSaid : Prop := fnRenewalPeriodShiftByThirdsRow.holds Try.pinned (OpenSpec.ofChange fnRenewalPeriodShiftByThirdsSpec)

/-- ITS FALSE NEIGHBOUR: 'it returns false'. Refute it at one input. -/
def fnRenewalPeriodShiftByThirdsWrong : ChangeSpec := { name := "fnRenewalPeriodShiftByThirds", fn := fun _ => fun
  | [d1, d2] => { results := [.lit (.bool false)], args := [d1, d2] }
  | _ => none }
def FnRenewalPeriodShiftByThirdsWrongFalsely : Prop := fnRenewalPeriodShiftByThirdsRow.holds Try.pinned (OpenSpec.ofChange fnRenewalPeriodShiftByThirdsWrong)

/-- 'zzlaws_root_b1.FnRenewalPeriodSplitCarry': WHATEVER THE INPUT: true; the input reads as it did. -/
def fnRenewalPeriodSplitCarrySpec : ChangeSpec := { name := "fnRenewalPeriodSplitCarry", fn := fun _ => fun
  | [d1, d2] => { results := [.lit (.bool true)], args := [d1, d2] }
  | _ => none }
def fnRenewalPeriodSplitCarryRow : OpenClaim := { program := "qxb6616415a", sum := "9691c9fc3e89a27dec24e079ad5580f28f883f5ede939b1b65c6879bf3465373", func := "example.com/lease/lease/zzlaws_root_b1.FnRenewalPeriodSplitCarry", spec := "fnRenewalPeriodSplitCarry", apart := false }
def FnRenewalPeriodSplitCarrySaid : Prop := fnRenewalPeriodSplitCarryRow.holds Try.pinned (OpenSpec.ofChange fnRenewalPeriodSplitCarrySpec)

/-- ITS FALSE NEIGHBOUR: 'it returns false'. Refute it at one input. -/
def fnRenewalPeriodSplitCarryWrong : ChangeSpec := { name := "fnRenewalPeriodSplitCarry", fn := fun _ => fun
  | [d1, d2] => { results := [.lit (.bool false)], args := [d1, d2] }
  | _ => none }
def FnRenewalPeriodSplitCarryWrongFalsely : Prop := fnRenewalPeriodSplitCarryRow.holds Try.pinned (OpenSpec.ofChange fnRenewalPeriodSplitCarryWrong)

end Rows
end Go.Proofs.Qxb6616415a
