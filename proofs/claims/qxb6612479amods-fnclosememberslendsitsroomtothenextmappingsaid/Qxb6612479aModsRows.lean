/-
  No cell of these rows narrows 'for every input' (looked for: loops, veiled, ifaces, maps, wideKeys, modest, calm, conditions, laid).
  DERIVED. THE GIVEN ROWS OF THIS SEAT. 2 by the template 'for every input the law returns true; each argument reads behind the call as it read before'; 0 by the template 'total and deterministic' (their statements: Qxb6612479aModsTotals.lean).
  GIVEN WITH THE SEED: the statements are not yours to turn. If you find one false, say at which input.
  Laid BY PROGRAM, IN A SANDBOX (cutbox-rows.mjs): the forced cells as the released guide's own fill.sh prints them over the translation 81168ebe415bb6b6… (all of the seat's roots in one cut). By AI agents, Wed Nov 11 2026. No macro, syntax, notation, axiom, sorry.
-/
import Derived.Test.Qxb6612479aModsChecked
import GoSem.Claim
import GoSem.ClaimJoined
import GoSem.ClaimMapViews
import Derived.JoinedTies
import Derived.KernelRfl
namespace Go.Proofs.Qxb6612479aMods
/- THE CELL 'sum', in the pinned program and in every row, IS THE sha256 OF THE DUMP (.gsa) THAT Qxb6612479aModsProg.lean LOADS. Nothing in Lean hashes anything: it is a label: what it is worth is what the hold of that sum in a sandbox is worth. -/
noncomputable def Trym.pinned : Pinned := { name := "qxb6612479amods", sum := "81168ebe415bb6b677a05db00d810796a0961d3c73832bf9ad9d5c0d73b8834e", checked := Trym.checked }
namespace Rows
def none {H : Type} : Left H := { results := [], args := [] }

/-- 'zzlaws_pkg_document_b1.FnEnterCountsUpToMaxDepth': WHATEVER THE INPUT: true; the input reads as it did. -/
def fnEnterCountsUpToMaxDepthSpec : ChangeSpec := { name := "fnEnterCountsUpToMaxDepth", fn := fun _ => fun
  | [d1, d2] => { results := [.lit (.bool true)], args := [d1, d2] }
  | _ => none }
def fnEnterCountsUpToMaxDepthRow : OpenClaim := { program := "qxb6612479amods", sum := "81168ebe415bb6b677a05db00d810796a0961d3c73832bf9ad9d5c0d73b8834e", func := "example.com/harrow/harrow/zzlaws_pkg_document_b1.FnEnterCountsUpToMaxDepth", spec := "fnEnterCountsUpToMaxDepth", make := .lifted ["publicsums"], apart := false }
def FnEnterCountsUpToMaxDepthSaid : Prop := fnEnterCountsUpToMaxDepthRow.holds Trym.pinned (OpenSpec.ofChange fnEnterCountsUpToMaxDepthSpec)

/-- ITS FALSE NEIGHBOUR: 'it returns false'. Refute it at one input. -/
def fnEnterCountsUpToMaxDepthWrong : ChangeSpec := { name := "fnEnterCountsUpToMaxDepth", fn := fun _ => fun
  | [d1, d2] => { results := [.lit (.bool false)], args := [d1, d2] }
  | _ => none }
def FnEnterCountsUpToMaxDepthWrongFalsely : Prop := fnEnterCountsUpToMaxDepthRow.holds Trym.pinned (OpenSpec.ofChange fnEnterCountsUpToMaxDepthWrong)

/-- 'zzlaws_pkg_document_b1.FnCloseMembersLendsItsRoomToTheNextMapping': WHATEVER THE INPUT: true; the input reads as it did. -/
def fnCloseMembersLendsItsRoomToTheNextMappingSpec : ChangeSpec := { name := "fnCloseMembersLendsItsRoomToTheNextMapping", fn := fun _ => fun
  | [d1, d2, d3] => { results := [.lit (.bool true)], args := [d1, d2, d3] }
  | _ => none }
def fnCloseMembersLendsItsRoomToTheNextMappingRow : OpenClaim := { program := "qxb6612479amods", sum := "81168ebe415bb6b677a05db00d810796a0961d3c73832bf9ad9d5c0d73b8834e", func := "example.com/harrow/harrow/zzlaws_pkg_document_b1.FnCloseMembersLendsItsRoomToTheNextMapping", spec := "fnCloseMembersLendsItsRoomToTheNextMapping", make := .lifted ["publicsums"], apart := false }
def FnCloseMembersLendsItsRoomToTheNextMappingSaid : Prop := fnCloseMembersLendsItsRoomToTheNextMappingRow.holds Trym.pinned (OpenSpec.ofChange fnCloseMembersLendsItsRoomToTheNextMappingSpec)

/-- ITS FALSE NEIGHBOUR: 'it returns false'. Refute it at one input. -/
def fnCloseMembersLendsItsRoomToTheNextMappingWrong : ChangeSpec := { name := "fnCloseMembersLendsItsRoomToTheNextMapping", fn := fun _ => fun
  | [d1, d2, d3] => { results := [.lit (.bool false)], args := [d1, d2, d3] }
  | _ => none }
def FnCloseMembersLendsItsRoomToTheNextMappingWrongFalsely : Prop := fnCloseMembersLendsItsRoomToTheNextMappingRow.holds Trym.pinned (OpenSpec.ofChange fnCloseMembersLendsItsRoomToTheNextMappingWrong)

end Rows
end Go.Proofs.Qxb6612479aMods
