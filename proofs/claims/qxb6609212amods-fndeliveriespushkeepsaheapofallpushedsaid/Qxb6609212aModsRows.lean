/-
  No cell of these rows narrows 'for every input' (looked for: loops, veiled, ifaces, maps, wideKeys, modest, calm, conditions, laid).
  DERIVED. THE GIVEN ROWS OF THIS SEAT. 3 by the template 'for every input the law returns true; each argument reads behind the call as it read before'; 0 by the template 'total and deterministic' (their statements: Qxb6609212aModsTotals.lean).
  GIVEN WITH THE SEED: the statements are not yours to turn. If you find one false, say at which input.
  Laid BY PROGRAM, IN A SANDBOX (cutbox-rows.mjs): the forced cells as the released guide's own fill.sh prints them over the translation 76604268f7accf29… (all of the seat's roots in one cut). By AI agents, Wed Nov 11 2026. No macro, syntax, notation, axiom, sorry.
-/
import Derived.Test.Qxb6609212aModsChecked
import GoSem.Claim
import GoSem.ClaimJoined
import GoSem.ClaimMapViews
import Derived.JoinedTies
import Derived.KernelRfl
namespace Go.Proofs.Qxb6609212aMods
/- THE CELL 'sum', in the pinned program and in every row, IS THE sha256 OF THE DUMP (.gsa) THAT Qxb6609212aModsProg.lean LOADS. Nothing in Lean hashes anything: it is a label: what it is worth is what the hold of that sum in a sandbox is worth. -/
noncomputable def Trym.pinned : Pinned := { name := "qxb6609212amods", sum := "76604268f7accf291eafbe066ef0d0901d1c8938f6569ebe57aecc55b82cacd5", checked := Trym.checked }
namespace Rows
def none {H : Type} : Left H := { results := [], args := [] }

/-- 'zzlaws_root_b1.FnDeliveriesPushKeepsAHeapOfAllPushed': WHATEVER THE INPUT: true; the input reads as it did. -/
def fnDeliveriesPushKeepsAHeapOfAllPushedSpec : ChangeSpec := { name := "fnDeliveriesPushKeepsAHeapOfAllPushed", fn := fun _ => fun
  | [d] => { results := [.lit (.bool true)], args := [d] }
  | _ => none }
def fnDeliveriesPushKeepsAHeapOfAllPushedRow : OpenClaim := { program := "qxb6609212amods", sum := "76604268f7accf291eafbe066ef0d0901d1c8938f6569ebe57aecc55b82cacd5", func := "example.com/acyclic/acyclic/zzlaws_root_b1.FnDeliveriesPushKeepsAHeapOfAllPushed", spec := "fnDeliveriesPushKeepsAHeapOfAllPushed", make := .lifted ["publicsums"], apart := false }
def FnDeliveriesPushKeepsAHeapOfAllPushedSaid : Prop := fnDeliveriesPushKeepsAHeapOfAllPushedRow.holds Trym.pinned (OpenSpec.ofChange fnDeliveriesPushKeepsAHeapOfAllPushedSpec)

/-- ITS FALSE NEIGHBOUR: 'it returns false'. Refute it at one input. -/
def fnDeliveriesPushKeepsAHeapOfAllPushedWrong : ChangeSpec := { name := "fnDeliveriesPushKeepsAHeapOfAllPushed", fn := fun _ => fun
  | [d] => { results := [.lit (.bool false)], args := [d] }
  | _ => none }
def FnDeliveriesPushKeepsAHeapOfAllPushedWrongFalsely : Prop := fnDeliveriesPushKeepsAHeapOfAllPushedRow.holds Trym.pinned (OpenSpec.ofChange fnDeliveriesPushKeepsAHeapOfAllPushedWrong)

/-- 'zzlaws_root_b1.FnDeliveriesTopIsTheEarliestOfTheLeast': WHATEVER THE INPUT: true; the input reads as it did. -/
def fnDeliveriesTopIsTheEarliestOfTheLeastSpec : ChangeSpec := { name := "fnDeliveriesTopIsTheEarliestOfTheLeast", fn := fun _ => fun
  | [d] => { results := [.lit (.bool true)], args := [d] }
  | _ => none }
def fnDeliveriesTopIsTheEarliestOfTheLeastRow : OpenClaim := { program := "qxb6609212amods", sum := "76604268f7accf291eafbe066ef0d0901d1c8938f6569ebe57aecc55b82cacd5", func := "example.com/acyclic/acyclic/zzlaws_root_b1.FnDeliveriesTopIsTheEarliestOfTheLeast", spec := "fnDeliveriesTopIsTheEarliestOfTheLeast", make := .lifted ["publicsums"], apart := false }
def FnDeliveriesTopIsTheEarliestOfTheLeastSaid : Prop := fnDeliveriesTopIsTheEarliestOfTheLeastRow.holds Trym.pinned (OpenSpec.ofChange fnDeliveriesTopIsTheEarliestOfTheLeastSpec)

/-- ITS FALSE NEIGHBOUR: 'it returns false'. Refute it at one input. -/
def fnDeliveriesTopIsTheEarliestOfTheLeastWrong : ChangeSpec := { name := "fnDeliveriesTopIsTheEarliestOfTheLeast", fn := fun _ => fun
  | [d] => { results := [.lit (.bool false)], args := [d] }
  | _ => none }
def FnDeliveriesTopIsTheEarliestOfTheLeastWrongFalsely : Prop := fnDeliveriesTopIsTheEarliestOfTheLeastRow.holds Trym.pinned (OpenSpec.ofChange fnDeliveriesTopIsTheEarliestOfTheLeastWrong)

/-- 'zzlaws_root_b1.FnEnvelopesPushFromEmptyKeepsOrder': WHATEVER THE INPUT: true; the input reads as it did. -/
def fnEnvelopesPushFromEmptyKeepsOrderSpec : ChangeSpec := { name := "fnEnvelopesPushFromEmptyKeepsOrder", fn := fun _ => fun
  | [d] => { results := [.lit (.bool true)], args := [d] }
  | _ => none }
def fnEnvelopesPushFromEmptyKeepsOrderRow : OpenClaim := { program := "qxb6609212amods", sum := "76604268f7accf291eafbe066ef0d0901d1c8938f6569ebe57aecc55b82cacd5", func := "example.com/acyclic/acyclic/zzlaws_root_b1.FnEnvelopesPushFromEmptyKeepsOrder", spec := "fnEnvelopesPushFromEmptyKeepsOrder", make := .lifted ["publicsums"], apart := false }
def FnEnvelopesPushFromEmptyKeepsOrderSaid : Prop := fnEnvelopesPushFromEmptyKeepsOrderRow.holds Trym.pinned (OpenSpec.ofChange fnEnvelopesPushFromEmptyKeepsOrderSpec)

/-- ITS FALSE NEIGHBOUR: 'it returns false'. Refute it at one input. -/
def fnEnvelopesPushFromEmptyKeepsOrderWrong : ChangeSpec := { name := "fnEnvelopesPushFromEmptyKeepsOrder", fn := fun _ => fun
  | [d] => { results := [.lit (.bool false)], args := [d] }
  | _ => none }
def FnEnvelopesPushFromEmptyKeepsOrderWrongFalsely : Prop := fnEnvelopesPushFromEmptyKeepsOrderRow.holds Trym.pinned (OpenSpec.ofChange fnEnvelopesPushFromEmptyKeepsOrderWrong)

end Rows
end Go.Proofs.Qxb6609212aMods
