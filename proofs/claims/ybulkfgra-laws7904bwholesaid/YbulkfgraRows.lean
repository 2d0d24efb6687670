/-
  No cell of these rows narrows 'for every input' (looked for: loops, veiled, ifaces, maps, wideKeys, modest, calm, conditions, laid).
  DERIVED. THE GIVEN ROWS OF THIS SEAT. 2 by the template 'for every input the law returns true; each argument reads behind the call as it read before'; 0 by the template 'total and deterministic' (their statements: YbulkfgraTotals.lean).
  GIVEN WITH THE SEED: the statements are not yours to turn. If you find one false, say at which input.
  Laid BY PROGRAM, IN A SANDBOX (cutbox-rows.mjs): the forced cells as the released guide's own fill.sh prints them over the translation b50e56c8c41649b4… (all of the seat's roots in one cut). By AI agents, Wed Nov 11 2026. No macro, syntax, notation, axiom, sorry.
-/
import Derived.Test.YbulkfgraChecked
import GoSem.Claim
import GoSem.ClaimJoined
import GoSem.ClaimMapViews
import Derived.JoinedTies
import Derived.KernelRfl
namespace Go.Proofs.Ybulkfgra
/- THE CELL 'sum', in the pinned program and in every row, IS THE sha256 OF THE DUMP (.gsa) THAT YbulkfgraProg.lean LOADS. Nothing in Lean hashes anything: it is a label: what it is worth is what the hold of that sum in a sandbox is worth. -/
noncomputable def Yba.pinned : Pinned := { name := "ybulkfgra", sum := "b50e56c8c41649b4c5f49a752e44841514cea1117343ebf5ba7ad0e7a3c45680", checked := Yba.checked }
namespace Rows
def none {H : Type} : Left H := { results := [], args := [] }

/-- 'capacity.LawS7904BWhole': WHATEVER THE INPUT: true; the input reads as it did. -/
def lawS7904BWholeSpec : ChangeSpec := { name := "lawS7904BWhole", fn := fun _ => fun
  | [d] => { results := [.lit (.bool true)], args := [d] }
  | _ => none }
def lawS7904BWholeRow : OpenClaim := { program := "ybulkfgra", sum := "b50e56c8c41649b4c5f49a752e44841514cea1117343ebf5ba7ad0e7a3c45680", func := "example.com/stowline/stowline/internal/capacity.LawS7904BWhole", spec := "lawS7904BWhole", inPlace := ["math/big.addVV", "math/bits.Add64", "math/big.subVV", "math/bits.Sub64"], recurses := true, apart := false }
def LawS7904BWholeSaid : Prop := lawS7904BWholeRow.holds Yba.pinned (OpenSpec.ofChange lawS7904BWholeSpec)

/-- ITS FALSE NEIGHBOUR: 'it returns false'. Refute it at one input. -/
def lawS7904BWholeWrong : ChangeSpec := { name := "lawS7904BWhole", fn := fun _ => fun
  | [d] => { results := [.lit (.bool false)], args := [d] }
  | _ => none }
def LawS7904BWholeWrongFalsely : Prop := lawS7904BWholeRow.holds Yba.pinned (OpenSpec.ofChange lawS7904BWholeWrong)

/-- 'sched.LawS7904CWhole': WHATEVER THE INPUT: true; the input reads as it did. -/
def lawS7904CWholeSpec : ChangeSpec := { name := "lawS7904CWhole", fn := fun _ => fun
  | [d1, d2, d3, d4, d5] => { results := [.lit (.bool true)], args := [d1, d2, d3, d4, d5] }
  | _ => none }
def lawS7904CWholeRow : OpenClaim := { program := "ybulkfgra", sum := "b50e56c8c41649b4c5f49a752e44841514cea1117343ebf5ba7ad0e7a3c45680", func := "example.com/stowline/stowline/internal/sched.LawS7904CWhole", spec := "lawS7904CWhole", apart := false }
def LawS7904CWholeSaid : Prop := lawS7904CWholeRow.holds Yba.pinned (OpenSpec.ofChange lawS7904CWholeSpec)

/-- ITS FALSE NEIGHBOUR: 'it returns false'. Refute it at one input. -/
def lawS7904CWholeWrong : ChangeSpec := { name := "lawS7904CWhole", fn := fun _ => fun
  | [d1, d2, d3, d4, d5] => { results := [.lit (.bool false)], args := [d1, d2, d3, d4, d5] }
  | _ => none }
def LawS7904CWholeWrongFalsely : Prop := lawS7904CWholeRow.holds Yba.pinned (OpenSpec.ofChange lawS7904CWholeWrong)

end Rows
end Go.Proofs.Ybulkfgra
