/-
  No cell of these rows narrows 'for every input' (looked for: loops, veiled, ifaces, maps, wideKeys, modest, calm, conditions, laid).
  DERIVED. THE GIVEN ROWS OF THIS SEAT. 1 by the template 'for every input the law returns true; each argument reads behind the call as it read before'; 0 by the template 'total and deterministic' (their statements: YbulkfgpyTotals.lean).
  GIVEN WITH THE SEED: the statements are not yours to turn. If you find one false, say at which input.
  Laid BY PROGRAM, IN A SANDBOX (cutbox-rows.mjs): the forced cells as the released guide's own fill.sh prints them over the translation 2079fcacb3cb5f6e… (all of the seat's roots in one cut). By AI agents, Wed Nov 11 2026. No macro, syntax, notation, axiom, sorry.
-/
import Derived.Test.YbulkfgpyChecked
import GoSem.Claim
import GoSem.ClaimJoined
import GoSem.ClaimMapViews
import Derived.JoinedTies
import Derived.KernelRfl
namespace Go.Proofs.Ybulkfgpy
/- THE CELL 'sum', in the pinned program and in every row, IS THE sha256 OF THE DUMP (.gsa) THAT YbulkfgpyProg.lean LOADS. Nothing in Lean hashes anything: it is a label: what it is worth is what the hold of that sum in a sandbox is worth. -/
noncomputable def Yba.pinned : Pinned := { name := "ybulkfgpy", sum := "2079fcacb3cb5f6e23f6142e3dc84b0b0af0c00ce2a1356ad6781177a165c142", checked := Yba.checked }
namespace Rows
def none {H : Type} : Left H := { results := [], args := [] }

/-- 'record.LawS7902AWhole': WHATEVER THE INPUT: true; the input reads as it did. -/
def lawS7902AWholeSpec : ChangeSpec := { name := "lawS7902AWhole", fn := fun _ => fun
  | [d1, d2] => { results := [.lit (.bool true)], args := [d1, d2] }
  | _ => none }
def lawS7902AWholeRow : OpenClaim := { program := "ybulkfgpy", sum := "2079fcacb3cb5f6e23f6142e3dc84b0b0af0c00ce2a1356ad6781177a165c142", func := "example.com/keystrap/keystrap/internal/record.LawS7902AWhole", spec := "lawS7902AWhole", inPlace := ["internal/abi.NoEscape", "internal/bytealg.MakeNoZero"], apart := false }
def LawS7902AWholeSaid : Prop := lawS7902AWholeRow.holds Yba.pinned (OpenSpec.ofChange lawS7902AWholeSpec)

/-- ITS FALSE NEIGHBOUR: 'it returns false'. Refute it at one input. -/
def lawS7902AWholeWrong : ChangeSpec := { name := "lawS7902AWhole", fn := fun _ => fun
  | [d1, d2] => { results := [.lit (.bool false)], args := [d1, d2] }
  | _ => none }
def LawS7902AWholeWrongFalsely : Prop := lawS7902AWholeRow.holds Yba.pinned (OpenSpec.ofChange lawS7902AWholeWrong)

end Rows
end Go.Proofs.Ybulkfgpy
