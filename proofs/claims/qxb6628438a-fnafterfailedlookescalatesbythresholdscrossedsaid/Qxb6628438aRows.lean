/-
  No cell of these rows narrows 'for every input' (looked for: loops, veiled, ifaces, maps, wideKeys, modest, calm, conditions, laid).
  DERIVED. THE GIVEN ROWS OF THIS SEAT. 2 by the template 'for every input the law returns true; each argument reads behind the call as it read before'; 0 by the template 'total and deterministic' (their statements: Qxb6628438aTotals.lean).
  GIVEN WITH THE SEED: the statements are not yours to turn. If you find one false, say at which input.
  Laid BY PROGRAM, IN A SANDBOX (cutbox-rows.mjs): the forced cells as the released guide's own fill.sh prints them over the translation b67d85ca4dc05a92… (all of the seat's roots in one cut). By AI agents, Wed Nov 11 2026. No macro, syntax, notation, axiom, sorry.
-/
import Derived.Test.Qxb6628438aChecked
import GoSem.Claim
import GoSem.ClaimJoined
import GoSem.ClaimMapViews
import Derived.JoinedTies
import Derived.KernelRfl
namespace Go.Proofs.Qxb6628438a
/- THE CELL 'sum', in the pinned program and in every row, IS THE sha256 OF THE DUMP (.gsa) THAT Qxb6628438aProg.lean LOADS. Nothing in Lean hashes anything: it is a label: what it is worth is what the hold of that sum in a sandbox is worth. -/
noncomputable def Try.pinned : Pinned := { name := "qxb6628438a", sum := "b67d85ca4dc05a924dbd290c33433f3dfe5c25e64ab058ed398aa84e3ed40e45", checked := Try.checked }
namespace Rows
def none {H : Type} : Left H := { results := [], args := [] }

/-- 'zzlaws_root_b1.FnAfterFailedLookStepChangesOnlyAtThirdAndFifteenth': WHATEVER THE INPUT: true; the input reads as it did. -/
def fnAfterFailedLookStepChangesOnlyAtThirdAndFifteenthSpec : ChangeSpec := { name := "fnAfterFailedLookStepChangesOnlyAtThirdAndFifteenth", fn := fun _ => fun
  | [d] => { results := [.lit (.bool true)], args := [d] }
  | _ => none }
def fnAfterFailedLookStepChangesOnlyAtThirdAndFifteenthRow : OpenClaim := { program := "qxb6628438a", sum := "b67d85ca4dc05a924dbd290c33433f3dfe5c25e64ab058ed398aa84e3ed40e45", func := "example.com/filch/filch/zzlaws_root_b1.FnAfterFailedLookStepChangesOnlyAtThirdAndFifteenth", spec := "fnAfterFailedLookStepChangesOnlyAtThirdAndFifteenth", apart := false }
def FnAfterFailedLookStepChangesOnlyAtThirdAndFifteenthSaid : Prop := fnAfterFailedLookStepChangesOnlyAtThirdAndFifteenthRow.holds Try.pinned (OpenSpec.ofChange fnAfterFailedLookStepChangesOnlyAtThirdAndFifteenthSpec)

/-- ITS FALSE NEIGHBOUR: 'it returns false'. Refute it at one input. -/
def fnAfterFailedLookStepChangesOnlyAtThirdAndFifteenthWrong : ChangeSpec := { name := "fnAfterFailedLookStepChangesOnlyAtThirdAndFifteenth", fn := fun _ => fun
  | [d] => { results := [.lit (.bool false)], args := [d] }
  | _ => none }
def FnAfterFailedLookStepChangesOnlyAtThirdAndFifteenthWrongFalsely : Prop := fnAfterFailedLookStepChangesOnlyAtThirdAndFifteenthRow.holds Try.pinned (OpenSpec.ofChange fnAfterFailedLookStepChangesOnlyAtThirdAndFifteenthWrong)

/-- 'zzlaws_root_b1.FnAfterFailedLookEscalatesByThresholdsCrossed': WHATEVER THE INPUT: true; the input reads as it did. -/
def fnAfterFailedLookEscalatesByThresholdsCrossedSpec : ChangeSpec := { name := "fnAfterFailedLookEscalatesByThresholdsCrossed", fn := fun _ => fun
  | [d1, d2] => { results := [.lit (.bool true)], args := [d1, d2] }
  | _ => none }
def fnAfterFailedLookEscalatesByThresholdsCrossedRow : OpenClaim := { program := "qxb6628438a", sum := "b67d85ca4dc05a924dbd290c33433f3dfe5c25e64ab058ed398aa84e3ed40e45", func := "example.com/filch/filch/zzlaws_root_b1.FnAfterFailedLookEscalatesByThresholdsCrossed", spec := "fnAfterFailedLookEscalatesByThresholdsCrossed", apart := false }
def FnAfterFailedLookEscalatesByThresholdsCrossedSaid : Prop := fnAfterFailedLookEscalatesByThresholdsCrossedRow.holds Try.pinned (OpenSpec.ofChange fnAfterFailedLookEscalatesByThresholdsCrossedSpec)

/-- ITS FALSE NEIGHBOUR: 'it returns false'. Refute it at one input. -/
def fnAfterFailedLookEscalatesByThresholdsCrossedWrong : ChangeSpec := { name := "fnAfterFailedLookEscalatesByThresholdsCrossed", fn := fun _ => fun
  | [d1, d2] => { results := [.lit (.bool false)], args := [d1, d2] }
  | _ => none }
def FnAfterFailedLookEscalatesByThresholdsCrossedWrongFalsely : Prop := fnAfterFailedLookEscalatesByThresholdsCrossedRow.holds Try.pinned (OpenSpec.ofChange fnAfterFailedLookEscalatesByThresholdsCrossedWrong)

end Rows
end Go.Proofs.Qxb6628438a
