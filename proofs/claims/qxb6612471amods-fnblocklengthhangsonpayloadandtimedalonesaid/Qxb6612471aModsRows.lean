/-
  No cell of these rows narrows 'for every input' (looked for: loops, veiled, ifaces, maps, wideKeys, modest, calm, conditions, laid).
  DERIVED. THE GIVEN ROWS OF THIS SEAT. 3 by the template 'for every input the law returns true; each argument reads behind the call as it read before'; 0 by the template 'total and deterministic' (their statements: Qxb6612471aModsTotals.lean).
  GIVEN WITH THE SEED: the statements are not yours to turn. If you find one false, say at which input.
  Laid BY PROGRAM, IN A SANDBOX (cutbox-rows.mjs): the forced cells as the released guide's own fill.sh prints them over the translation 2a3f37209349f34f… (all of the seat's roots in one cut). By AI agents, Wed Nov 11 2026. No macro, syntax, notation, axiom, sorry.
-/
import Derived.Test.Qxb6612471aModsChecked
import GoSem.Claim
import GoSem.ClaimJoined
import GoSem.ClaimMapViews
import Derived.JoinedTies
import Derived.KernelRfl
namespace Go.Proofs.Qxb6612471aMods
/- THE CELL 'sum', in the pinned program and in every row, IS THE sha256 OF THE DUMP (.gsa) THAT Qxb6612471aModsProg.lean LOADS. Nothing in Lean hashes anything: it is a label: what it is worth is what the hold of that sum in a sandbox is worth. -/
noncomputable def Trym.pinned : Pinned := { name := "qxb6612471amods", sum := "2a3f37209349f34f05cebd1da77cf45b7fc6fe9256705f453742016b1b27f7da", checked := Trym.checked }
namespace Rows
def none {H : Type} : Left H := { results := [], args := [] }

/-- 'zzlaws_root_b1.FnIndexLenPageModel': WHATEVER THE INPUT: true; the input reads as it did. -/
def fnIndexLenPageModelSpec : ChangeSpec := { name := "fnIndexLenPageModel", fn := fun _ => fun
  | [d1, d2, d3, d4, d5, d6] => { results := [.lit (.bool true)], args := [d1, d2, d3, d4, d5, d6] }
  | _ => none }
def fnIndexLenPageModelRow : OpenClaim := { program := "qxb6612471amods", sum := "2a3f37209349f34f05cebd1da77cf45b7fc6fe9256705f453742016b1b27f7da", func := "example.com/strake/strake/zzlaws_root_b1.FnIndexLenPageModel", spec := "fnIndexLenPageModel", make := .lifted ["publicsums"], apart := false }
def FnIndexLenPageModelSaid : Prop := fnIndexLenPageModelRow.holds Trym.pinned (OpenSpec.ofChange fnIndexLenPageModelSpec)

/-- ITS FALSE NEIGHBOUR: 'it returns false'. Refute it at one input. -/
def fnIndexLenPageModelWrong : ChangeSpec := { name := "fnIndexLenPageModel", fn := fun _ => fun
  | [d1, d2, d3, d4, d5, d6] => { results := [.lit (.bool false)], args := [d1, d2, d3, d4, d5, d6] }
  | _ => none }
def FnIndexLenPageModelWrongFalsely : Prop := fnIndexLenPageModelRow.holds Trym.pinned (OpenSpec.ofChange fnIndexLenPageModelWrong)

/-- 'zzlaws_root_b1.FnIndexLenFitsTailRead': WHATEVER THE INPUT: true; the input reads as it did. -/
def fnIndexLenFitsTailReadSpec : ChangeSpec := { name := "fnIndexLenFitsTailRead", fn := fun _ => fun
  | [d1, d2, d3, d4] => { results := [.lit (.bool true)], args := [d1, d2, d3, d4] }
  | _ => none }
def fnIndexLenFitsTailReadRow : OpenClaim := { program := "qxb6612471amods", sum := "2a3f37209349f34f05cebd1da77cf45b7fc6fe9256705f453742016b1b27f7da", func := "example.com/strake/strake/zzlaws_root_b1.FnIndexLenFitsTailRead", spec := "fnIndexLenFitsTailRead", make := .lifted ["publicsums"], apart := false }
def FnIndexLenFitsTailReadSaid : Prop := fnIndexLenFitsTailReadRow.holds Trym.pinned (OpenSpec.ofChange fnIndexLenFitsTailReadSpec)

/-- ITS FALSE NEIGHBOUR: 'it returns false'. Refute it at one input. -/
def fnIndexLenFitsTailReadWrong : ChangeSpec := { name := "fnIndexLenFitsTailRead", fn := fun _ => fun
  | [d1, d2, d3, d4] => { results := [.lit (.bool false)], args := [d1, d2, d3, d4] }
  | _ => none }
def FnIndexLenFitsTailReadWrongFalsely : Prop := fnIndexLenFitsTailReadRow.holds Trym.pinned (OpenSpec.ofChange fnIndexLenFitsTailReadWrong)

/-- 'zzlaws_root_b1.FnBlockLengthHangsOnPayloadAndTimedAlone': WHATEVER THE INPUT: true; the input reads as it did. -/
def fnBlockLengthHangsOnPayloadAndTimedAloneSpec : ChangeSpec := { name := "fnBlockLengthHangsOnPayloadAndTimedAlone", fn := fun _ => fun
  | [d1, d2, d3, d4, d5, d6, d7, d8, d9, d10] => { results := [.lit (.bool true)], args := [d1, d2, d3, d4, d5, d6, d7, d8, d9, d10] }
  | _ => none }
def fnBlockLengthHangsOnPayloadAndTimedAloneRow : OpenClaim := { program := "qxb6612471amods", sum := "2a3f37209349f34f05cebd1da77cf45b7fc6fe9256705f453742016b1b27f7da", func := "example.com/strake/strake/zzlaws_root_b1.FnBlockLengthHangsOnPayloadAndTimedAlone", spec := "fnBlockLengthHangsOnPayloadAndTimedAlone", make := .lifted ["publicsums"], apart := false }
def FnBlockLengthHangsOnPayloadAndTimedAloneSaid : Prop := fnBlockLengthHangsOnPayloadAndTimedAloneRow.holds Trym.pinned (OpenSpec.ofChange fnBlockLengthHangsOnPayloadAndTimedAloneSpec)

/-- ITS FALSE NEIGHBOUR: 'it returns false'. Refute it at one input. -/
def fnBlockLengthHangsOnPayloadAndTimedAloneWrong : ChangeSpec := { name := "fnBlockLengthHangsOnPayloadAndTimedAlone", fn := fun _ => fun
  | [d1, d2, d3, d4, d5, d6, d7, d8, d9, d10] => { results := [.lit (.bool false)], args := [d1, d2, d3, d4, d5, d6, d7, d8, d9, d10] }
  | _ => none }
def FnBlockLengthHangsOnPayloadAndTimedAloneWrongFalsely : Prop := fnBlockLengthHangsOnPayloadAndTimedAloneRow.holds Trym.pinned (OpenSpec.ofChange fnBlockLengthHangsOnPayloadAndTimedAloneWrong)

end Rows
end Go.Proofs.Qxb6612471aMods
