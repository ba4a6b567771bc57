/-
  No cell of these rows narrows 'for every input' (looked for: loops, veiled, ifaces, maps, wideKeys, modest, calm, conditions, laid).
  DERIVED. THE GIVEN ROWS OF THIS SEAT. 2 by the template 'for every input the law returns true; each argument reads behind the call as it read before'; 0 by the template 'total and deterministic' (their statements: Qxb6628994aTotals.lean).
  GIVEN WITH THE SEED: the statements are not yours to turn. If you find one false, say at which input.
  Laid BY PROGRAM, IN A SANDBOX (cutbox-rows.mjs): the forced cells as the released guide's own fill.sh prints them over the translation 29d5def6f4ee9113… (all of the seat's roots in one cut). By AI agents, Wed Nov 11 2026. No macro, syntax, notation, axiom, sorry.
-/
import Derived.Test.Qxb6628994aChecked
import GoSem.Claim
import GoSem.ClaimJoined
import GoSem.ClaimMapViews
import Derived.JoinedTies
import Derived.KernelRfl
namespace Go.Proofs.Qxb6628994a
/- THE CELL 'sum', in the pinned program and in every row, IS THE sha256 OF THE DUMP (.gsa) THAT Qxb6628994aProg.lean LOADS. Nothing in Lean hashes anything: it is a label: what it is worth is what the hold of that sum in a sandbox is worth. -/
noncomputable def Try.pinned : Pinned := { name := "qxb6628994a", sum := "29d5def6f4ee91132a74514396dd589716b813bda7d63016f496a0301a2b33a0", checked := Try.checked }
namespace Rows
def none {H : Type} : Left H := { results := [], args := [] }

/-- 'zzlaws_pkg_jsonscan_b1.FnIntegerMatchesNumberAutomaton': WHATEVER THE INPUT: true; the input reads as it did. -/
def fnIntegerMatchesNumberAutomatonSpec : ChangeSpec := { name := "fnIntegerMatchesNumberAutomaton", fn := fun _ => fun
  | [d1, d2, d3] => { results := [.lit (.bool true)], args := [d1, d2, d3] }
  | _ => none }
def fnIntegerMatchesNumberAutomatonRow : OpenClaim := { program := "qxb6628994a", sum := "29d5def6f4ee91132a74514396dd589716b813bda7d63016f496a0301a2b33a0", func := "example.com/breteuil/breteuil/zzlaws_pkg_jsonscan_b1.FnIntegerMatchesNumberAutomaton", spec := "fnIntegerMatchesNumberAutomaton", apart := false }
def FnIntegerMatchesNumberAutomatonSaid : Prop := fnIntegerMatchesNumberAutomatonRow.holds Try.pinned (OpenSpec.ofChange fnIntegerMatchesNumberAutomatonSpec)

/-- ITS FALSE NEIGHBOUR: 'it returns false'. Refute it at one input. -/
def fnIntegerMatchesNumberAutomatonWrong : ChangeSpec := { name := "fnIntegerMatchesNumberAutomaton", fn := fun _ => fun
  | [d1, d2, d3] => { results := [.lit (.bool false)], args := [d1, d2, d3] }
  | _ => none }
def FnIntegerMatchesNumberAutomatonWrongFalsely : Prop := fnIntegerMatchesNumberAutomatonRow.holds Try.pinned (OpenSpec.ofChange fnIntegerMatchesNumberAutomatonWrong)

/-- 'zzlaws_pkg_jsonscan_b1.FnIntegerDigitLimitIsExactThreshold': WHATEVER THE INPUT: true; the input reads as it did. -/
def fnIntegerDigitLimitIsExactThresholdSpec : ChangeSpec := { name := "fnIntegerDigitLimitIsExactThreshold", fn := fun _ => fun
  | [d1, d2, d3] => { results := [.lit (.bool true)], args := [d1, d2, d3] }
  | _ => none }
def fnIntegerDigitLimitIsExactThresholdRow : OpenClaim := { program := "qxb6628994a", sum := "29d5def6f4ee91132a74514396dd589716b813bda7d63016f496a0301a2b33a0", func := "example.com/breteuil/breteuil/zzlaws_pkg_jsonscan_b1.FnIntegerDigitLimitIsExactThreshold", spec := "fnIntegerDigitLimitIsExactThreshold", apart := false }
def FnIntegerDigitLimitIsExactThresholdSaid : Prop := fnIntegerDigitLimitIsExactThresholdRow.holds Try.pinned (OpenSpec.ofChange fnIntegerDigitLimitIsExactThresholdSpec)

/-- ITS FALSE NEIGHBOUR: 'it returns false'. Refute it at one input. -/
def fnIntegerDigitLimitIsExactThresholdWrong : ChangeSpec := { name := "fnIntegerDigitLimitIsExactThreshold", fn := fun _ => fun
  | [d1, d2, d3] => { results := [.lit (.bool false)], args := [d1, d2, d3] }
  | _ => none }
def FnIntegerDigitLimitIsExactThresholdWrongFalsely : Prop := fnIntegerDigitLimitIsExactThresholdRow.holds Try.pinned (OpenSpec.ofChange fnIntegerDigitLimitIsExactThresholdWrong)

end Rows
end Go.Proofs.Qxb6628994a
