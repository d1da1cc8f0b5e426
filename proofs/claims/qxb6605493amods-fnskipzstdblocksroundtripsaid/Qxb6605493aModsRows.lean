/-
  No cell of these rows narrows 'for every input' (looked for: loops, veiled, ifaces, maps, wideKeys, modest, calm, conditions, laid).
  DERIVED. THE GIVEN ROWS OF THIS SEAT. 2 by the template 'for every input the law returns true; each argument reads behind the call as it read before'; 0 by the template 'total and deterministic' (their statements: Qxb6605493aModsTotals.lean).
  GIVEN WITH THE SEED: the statements are not yours to turn. If you find one false, say at which input.
  Laid BY PROGRAM, IN A SANDBOX (cutbox-rows.mjs): the forced cells as the released guide's own fill.sh prints them over the translation 9f6133b480c4996e… (all of the seat's roots in one cut). By AI agents, Wed Nov 11 2026. No macro, syntax, notation, axiom, sorry.
-/
import Derived.Test.Qxb6605493aModsChecked
import GoSem.Claim
import GoSem.ClaimJoined
import GoSem.ClaimMapViews
import Derived.JoinedTies
import Derived.KernelRfl
namespace Go.Proofs.Qxb6605493aMods
/- THE CELL 'sum', in the pinned program and in every row, IS THE sha256 OF THE DUMP (.gsa) THAT Qxb6605493aModsProg.lean LOADS. Nothing in Lean hashes anything: it is a label: what it is worth is what the hold of that sum in a sandbox is worth. -/
noncomputable def Trym.pinned : Pinned := { name := "qxb6605493amods", sum := "9f6133b480c4996e6f1d5aa851eabee1f36baa2dae522685e4477629bfb98b36", checked := Trym.checked }
namespace Rows
def none {H : Type} : Left H := { results := [], args := [] }

/-- 'zzlaws_internal_recordbatch_b1.FnSkipZstdBlocksRoundTrip': WHATEVER THE INPUT: true; the input reads as it did. -/
def fnSkipZstdBlocksRoundTripSpec : ChangeSpec := { name := "fnSkipZstdBlocksRoundTrip", fn := fun _ => fun
  | [d1, d2, d3, d4, d5, d6] => { results := [.lit (.bool true)], args := [d1, d2, d3, d4, d5, d6] }
  | _ => none }
def fnSkipZstdBlocksRoundTripRow : OpenClaim := { program := "qxb6605493amods", sum := "9f6133b480c4996e6f1d5aa851eabee1f36baa2dae522685e4477629bfb98b36", func := "example.com/mirrorwake/mirrorwake/zzlaws_internal_recordbatch_b1.FnSkipZstdBlocksRoundTrip", spec := "fnSkipZstdBlocksRoundTrip", make := .lifted ["publicsums"], apart := false }
def FnSkipZstdBlocksRoundTripSaid : Prop := fnSkipZstdBlocksRoundTripRow.holds Trym.pinned (OpenSpec.ofChange fnSkipZstdBlocksRoundTripSpec)

/-- ITS FALSE NEIGHBOUR: 'it returns false'. Refute it at one input. -/
def fnSkipZstdBlocksRoundTripWrong : ChangeSpec := { name := "fnSkipZstdBlocksRoundTrip", fn := fun _ => fun
  | [d1, d2, d3, d4, d5, d6] => { results := [.lit (.bool false)], args := [d1, d2, d3, d4, d5, d6] }
  | _ => none }
def FnSkipZstdBlocksRoundTripWrongFalsely : Prop := fnSkipZstdBlocksRoundTripRow.holds Trym.pinned (OpenSpec.ofChange fnSkipZstdBlocksRoundTripWrong)

/-- 'zzlaws_internal_recordbatch_b1.FnZstdHistorySlopeTwoThenOneAnchored': WHATEVER THE INPUT: true; the input reads as it did. -/
def fnZstdHistorySlopeTwoThenOneAnchoredSpec : ChangeSpec := { name := "fnZstdHistorySlopeTwoThenOneAnchored", fn := fun _ => fun
  | [d1, d2] => { results := [.lit (.bool true)], args := [d1, d2] }
  | _ => none }
def fnZstdHistorySlopeTwoThenOneAnchoredRow : OpenClaim := { program := "qxb6605493amods", sum := "9f6133b480c4996e6f1d5aa851eabee1f36baa2dae522685e4477629bfb98b36", func := "example.com/mirrorwake/mirrorwake/zzlaws_internal_recordbatch_b1.FnZstdHistorySlopeTwoThenOneAnchored", spec := "fnZstdHistorySlopeTwoThenOneAnchored", make := .lifted ["publicsums"], apart := false }
def FnZstdHistorySlopeTwoThenOneAnchoredSaid : Prop := fnZstdHistorySlopeTwoThenOneAnchoredRow.holds Trym.pinned (OpenSpec.ofChange fnZstdHistorySlopeTwoThenOneAnchoredSpec)

/-- ITS FALSE NEIGHBOUR: 'it returns false'. Refute it at one input. -/
def fnZstdHistorySlopeTwoThenOneAnchoredWrong : ChangeSpec := { name := "fnZstdHistorySlopeTwoThenOneAnchored", fn := fun _ => fun
  | [d1, d2] => { results := [.lit (.bool false)], args := [d1, d2] }
  | _ => none }
def FnZstdHistorySlopeTwoThenOneAnchoredWrongFalsely : Prop := fnZstdHistorySlopeTwoThenOneAnchoredRow.holds Trym.pinned (OpenSpec.ofChange fnZstdHistorySlopeTwoThenOneAnchoredWrong)

end Rows
end Go.Proofs.Qxb6605493aMods
