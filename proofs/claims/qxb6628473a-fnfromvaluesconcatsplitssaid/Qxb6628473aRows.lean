/-
  No cell of these rows narrows 'for every input' (looked for: loops, veiled, ifaces, maps, wideKeys, modest, calm, conditions, laid).
  DERIVED. THE GIVEN ROWS OF THIS SEAT. 2 by the template 'for every input the law returns true; each argument reads behind the call as it read before'; 0 by the template 'total and deterministic' (their statements: Qxb6628473aTotals.lean).
  GIVEN WITH THE SEED: the statements are not yours to turn. If you find one false, say at which input.
  Laid BY PROGRAM, IN A SANDBOX (cutbox-rows.mjs): the forced cells as the released guide's own fill.sh prints them over the translation 0c590b914e2a85a5… (all of the seat's roots in one cut). By AI agents, Wed Nov 11 2026. No macro, syntax, notation, axiom, sorry.
-/
import Derived.Test.Qxb6628473aChecked
import GoSem.Claim
import GoSem.ClaimJoined
import GoSem.ClaimMapViews
import Derived.JoinedTies
import Derived.KernelRfl
namespace Go.Proofs.Qxb6628473a
/- THE CELL 'sum', in the pinned program and in every row, IS THE sha256 OF THE DUMP (.gsa) THAT Qxb6628473aProg.lean LOADS. Nothing in Lean hashes anything: it is a label: what it is worth is what the hold of that sum in a sandbox is worth. -/
noncomputable def Try.pinned : Pinned := { name := "qxb6628473a", sum := "0c590b914e2a85a5ea2b6d2da317a967282b60fb32311ee9ad7b84a29213cb17", checked := Try.checked }
namespace Rows
def none {H : Type} : Left H := { results := [], args := [] }

/-- 'zzlaws_internal_embedding_b1.FnFromValuesConcatSplits': WHATEVER THE INPUT: true; the input reads as it did. -/
def fnFromValuesConcatSplitsSpec : ChangeSpec := { name := "fnFromValuesConcatSplits", fn := fun _ => fun
  | [d1, d2] => { results := [.lit (.bool true)], args := [d1, d2] }
  | _ => none }
def fnFromValuesConcatSplitsRow : OpenClaim := { program := "qxb6628473a", sum := "0c590b914e2a85a5ea2b6d2da317a967282b60fb32311ee9ad7b84a29213cb17", func := "example.com/pick1/pick1/zzlaws_internal_embedding_b1.FnFromValuesConcatSplits", spec := "fnFromValuesConcatSplits", apart := false }
def FnFromValuesConcatSplitsSaid : Prop := fnFromValuesConcatSplitsRow.holds Try.pinned (OpenSpec.ofChange fnFromValuesConcatSplitsSpec)

/-- ITS FALSE NEIGHBOUR: 'it returns false'. Refute it at one input. -/
def fnFromValuesConcatSplitsWrong : ChangeSpec := { name := "fnFromValuesConcatSplits", fn := fun _ => fun
  | [d1, d2] => { results := [.lit (.bool false)], args := [d1, d2] }
  | _ => none }
def FnFromValuesConcatSplitsWrongFalsely : Prop := fnFromValuesConcatSplitsRow.holds Try.pinned (OpenSpec.ofChange fnFromValuesConcatSplitsWrong)

/-- 'zzlaws_internal_embedding_b1.FnFromValuesNegationMirrors': WHATEVER THE INPUT: true; the input reads as it did. -/
def fnFromValuesNegationMirrorsSpec : ChangeSpec := { name := "fnFromValuesNegationMirrors", fn := fun _ => fun
  | [d] => { results := [.lit (.bool true)], args := [d] }
  | _ => none }
def fnFromValuesNegationMirrorsRow : OpenClaim := { program := "qxb6628473a", sum := "0c590b914e2a85a5ea2b6d2da317a967282b60fb32311ee9ad7b84a29213cb17", func := "example.com/pick1/pick1/zzlaws_internal_embedding_b1.FnFromValuesNegationMirrors", spec := "fnFromValuesNegationMirrors", apart := false }
def FnFromValuesNegationMirrorsSaid : Prop := fnFromValuesNegationMirrorsRow.holds Try.pinned (OpenSpec.ofChange fnFromValuesNegationMirrorsSpec)

/-- ITS FALSE NEIGHBOUR: 'it returns false'. Refute it at one input. -/
def fnFromValuesNegationMirrorsWrong : ChangeSpec := { name := "fnFromValuesNegationMirrors", fn := fun _ => fun
  | [d] => { results := [.lit (.bool false)], args := [d] }
  | _ => none }
def FnFromValuesNegationMirrorsWrongFalsely : Prop := fnFromValuesNegationMirrorsRow.holds Try.pinned (OpenSpec.ofChange fnFromValuesNegationMirrorsWrong)

end Rows
end Go.Proofs.Qxb6628473a
