/-
  PLAIN LAWS for 'LawS7901CWhole': the sum of one field over a row of Counts, four numbers an element. No Go in sight.
-/
import Derived.WalkKit
namespace Go.Proofs.Ybulkfgpk.lawS7901CWhole
open Go.RowKit

/-- the sum of field q over the first m elements of the row c -/
def T (c : Nat → Int) (q : Nat) : Nat → Int
  | 0 => 0
  | m + 1 => T c q m + c (m * 4 + q)
theorem T_succ (c : Nat → Int) (q m : Nat) : T c q (m + 1) = T c q m + c (m * 4 + q) := rfl
theorem wrap_add (a b : Int) : wrap64 (wrap64 a + b) = wrap64 (a + b) := by
  unfold wrap64
  omega
theorem wrap_zero : wrap64 0 = 0 := by
  unfold wrap64
  omega
end Go.Proofs.Ybulkfgpk.lawS7901CWhole
