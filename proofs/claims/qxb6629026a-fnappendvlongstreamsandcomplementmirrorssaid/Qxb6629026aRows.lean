/-
  No cell of these rows narrows 'for every input' (looked for: loops, veiled, ifaces, maps, wideKeys, modest, calm, conditions, laid).
  DERIVED. THE GIVEN ROWS OF THIS SEAT. 2 by the template 'for every input the law returns true; each argument reads behind the call as it read before'; 0 by the template 'total and deterministic' (their statements: Qxb6629026aTotals.lean).
  GIVEN WITH THE SEED: the statements are not yours to turn. If you find one false, say at which input.
  Laid BY PROGRAM, IN A SANDBOX (cutbox-rows.mjs): the forced cells as the released guide's own fill.sh prints them over the translation b9850164972a702e… (all of the seat's roots in one cut). By AI agents, Wed Nov 11 2026. No macro, syntax, notation, axiom, sorry.
-/
import Derived.Test.Qxb6629026aChecked
import GoSem.Claim
import GoSem.ClaimJoined
import GoSem.ClaimMapViews
import Derived.JoinedTies
import Derived.KernelRfl
namespace Go.Proofs.Qxb6629026a
/- THE CELL 'sum', in the pinned program and in every row, IS THE sha256 OF THE DUMP (.gsa) THAT Qxb6629026aProg.lean LOADS. Nothing in Lean hashes anything: it is a label: what it is worth is what the hold of that sum in a sandbox is worth. -/
noncomputable def Try.pinned : Pinned := { name := "qxb6629026a", sum := "b9850164972a702e3e9e594ba771197010eac453453b84d7eda0b3e4b3293378", checked := Try.checked }
namespace Rows
def none {H : Type} : Left H := { results := [], args := [] }

/-- 'zzlaws_root_b1.FnAppendVLongAppendsCanonicalEncoding': WHATEVER THE INPUT: true; the input reads as it did. -/
def fnAppendVLongAppendsCanonicalEncodingSpec : ChangeSpec := { name := "fnAppendVLongAppendsCanonicalEncoding", fn := fun _ => fun
  | [d1, d2] => { results := [.lit (.bool true)], args := [d1, d2] }
  | _ => none }
def fnAppendVLongAppendsCanonicalEncodingRow : OpenClaim := { program := "qxb6629026a", sum := "b9850164972a702e3e9e594ba771197010eac453453b84d7eda0b3e4b3293378", func := "example.com/septet/septet/zzlaws_root_b1.FnAppendVLongAppendsCanonicalEncoding", spec := "fnAppendVLongAppendsCanonicalEncoding", apart := false }
def FnAppendVLongAppendsCanonicalEncodingSaid : Prop := fnAppendVLongAppendsCanonicalEncodingRow.holds Try.pinned (OpenSpec.ofChange fnAppendVLongAppendsCanonicalEncodingSpec)

/-- ITS FALSE NEIGHBOUR: 'it returns false'. Refute it at one input. -/
def fnAppendVLongAppendsCanonicalEncodingWrong : ChangeSpec := { name := "fnAppendVLongAppendsCanonicalEncoding", fn := fun _ => fun
  | [d1, d2] => { results := [.lit (.bool false)], args := [d1, d2] }
  | _ => none }
def FnAppendVLongAppendsCanonicalEncodingWrongFalsely : Prop := fnAppendVLongAppendsCanonicalEncodingRow.holds Try.pinned (OpenSpec.ofChange fnAppendVLongAppendsCanonicalEncodingWrong)

/-- 'zzlaws_root_b1.FnAppendVLongStreamsAndComplementMirrors': WHATEVER THE INPUT: true; the input reads as it did. -/
def fnAppendVLongStreamsAndComplementMirrorsSpec : ChangeSpec := { name := "fnAppendVLongStreamsAndComplementMirrors", fn := fun _ => fun
  | [d1, d2, d3] => { results := [.lit (.bool true)], args := [d1, d2, d3] }
  | _ => none }
def fnAppendVLongStreamsAndComplementMirrorsRow : OpenClaim := { program := "qxb6629026a", sum := "b9850164972a702e3e9e594ba771197010eac453453b84d7eda0b3e4b3293378", func := "example.com/septet/septet/zzlaws_root_b1.FnAppendVLongStreamsAndComplementMirrors", spec := "fnAppendVLongStreamsAndComplementMirrors", apart := false }
def FnAppendVLongStreamsAndComplementMirrorsSaid : Prop := fnAppendVLongStreamsAndComplementMirrorsRow.holds Try.pinned (OpenSpec.ofChange fnAppendVLongStreamsAndComplementMirrorsSpec)

/-- ITS FALSE NEIGHBOUR: 'it returns false'. Refute it at one input. -/
def fnAppendVLongStreamsAndComplementMirrorsWrong : ChangeSpec := { name := "fnAppendVLongStreamsAndComplementMirrors", fn := fun _ => fun
  | [d1, d2, d3] => { results := [.lit (.bool false)], args := [d1, d2, d3] }
  | _ => none }
def FnAppendVLongStreamsAndComplementMirrorsWrongFalsely : Prop := fnAppendVLongStreamsAndComplementMirrorsRow.holds Try.pinned (OpenSpec.ofChange fnAppendVLongStreamsAndComplementMirrorsWrong)

end Rows
end Go.Proofs.Qxb6629026a
