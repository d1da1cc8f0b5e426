/-
  ENVELOPES AS PLAIN DATA, AND HOW THEY LIE IN MEMORY. Shared by the seat's three laws.
-/
import Derived.Test.Qxb6609212aModsRows
import Derived.WalkKit
import Derived.Below
import Derived.Deep.OwnRows
import Derived.Deep.Slices
namespace Go.Proofs.Qxb6609212aMods.Env
open Go.RowKit
set_option linter.unusedVariables false

/-- due, tie, seq, kind, n -/
abbrev E := Int × Int × Int × Int × Int
def zero : E := (0, 0, 0, 0, 0)
/-- Cell j of an envelope (six cells; the sixth is its body, nil). -/
def cellOf (e : E) : Nat → Value
  | 0 => .int .u64 e.1
  | 1 => .int .u64 e.2.1
  | 2 => .int .u64 e.2.2.1
  | 3 => .int .i64 e.2.2.2.1
  | 4 => .int .i64 e.2.2.2.2
  | _ => .nilIface
/-- A row of envelopes, cell by cell. -/
def rowF (L : List E) (j : Nat) : Value := cellOf (L.getD (j / 6) zero) (j % 6)
/-- The bounds of an envelope's fields. -/
def Fits (e : E) : Prop := (0 ≤ e.1 ∧ e.1 ≤ 18446744073709551615) ∧ (0 ≤ e.2.1 ∧ e.2.1 ≤ 18446744073709551615) ∧ (0 ≤ e.2.2.1 ∧ e.2.2.1 ≤ 18446744073709551615) ∧
  (-9223372036854775808 ≤ e.2.2.2.1 ∧ e.2.2.2.1 ≤ 9223372036854775807) ∧ (-9223372036854775808 ≤ e.2.2.2.2 ∧ e.2.2.2.2 ≤ 9223372036854775807)
/-- The value of an envelope. -/
abbrev val (e : E) : Value := .agg #[.int .u64 e.1, .int .u64 e.2.1, .int .u64 e.2.2.1, .int .i64 e.2.2.2.1, .int .i64 e.2.2.2.2, .nilIface]

end Go.Proofs.Qxb6609212aMods.Env
