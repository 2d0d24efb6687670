/-
  No cell of these rows narrows 'for every input' (looked for: loops, veiled, ifaces, maps, wideKeys, modest, calm, conditions, laid).
  DERIVED. THE GIVEN ROWS OF THIS SEAT. 2 by the template 'for every input the law returns true; each argument reads behind the call as it read before'; 0 by the template 'total and deterministic' (their statements: YbulkfgpkTotals.lean).
  GIVEN WITH THE SEED: the statements are not yours to turn. If you find one false, say at which input.
  Laid BY PROGRAM, IN A SANDBOX (cutbox-rows.mjs): the forced cells as the released guide's own fill.sh prints them over the translation 512efe49493ae076… (all of the seat's roots in one cut). By AI agents, Wed Nov 11 2026. No macro, syntax, notation, axiom, sorry.
-/
import Derived.Test.YbulkfgpkChecked
import GoSem.Claim
import GoSem.ClaimJoined
import GoSem.ClaimMapViews
import Derived.JoinedTies
import Derived.KernelRfl
namespace Go.Proofs.Ybulkfgpk
/- THE CELL 'sum', in the pinned program and in every row, IS THE sha256 OF THE DUMP (.gsa) THAT YbulkfgpkProg.lean LOADS. Nothing in Lean hashes anything: it is a label: what it is worth is what the hold of that sum in a sandbox is worth. -/
noncomputable def Yba.pinned : Pinned := { name := "ybulkfgpk", sum := "512efe49493ae0764d36192b4e4758cc295246283672c91cbf782d05def935cb", checked := Yba.checked }
namespace Rows
def none {H : Type} : Left H := { results := [], args := [] }

/-- 'shift.LawS7901CWhole': WHATEVER THE INPUT: true; the input reads as it did. -/
def lawS7901CWholeSpec : ChangeSpec := { name := "lawS7901CWhole", fn := fun _ => fun
  | [d] => { results := [.lit (.bool true)], args := [d] }
  | _ => none }
def lawS7901CWholeRow : OpenClaim := { program := "ybulkfgpk", sum := "512efe49493ae0764d36192b4e4758cc295246283672c91cbf782d05def935cb", func := "example.com/rowcrew/rowcrew/pkg/shift.LawS7901CWhole", spec := "lawS7901CWhole", apart := false }
def LawS7901CWholeSaid : Prop := lawS7901CWholeRow.holds Yba.pinned (OpenSpec.ofChange lawS7901CWholeSpec)

/-- ITS FALSE NEIGHBOUR: 'it returns false'. Refute it at one input. -/
def lawS7901CWholeWrong : ChangeSpec := { name := "lawS7901CWhole", fn := fun _ => fun
  | [d] => { results := [.lit (.bool false)], args := [d] }
  | _ => none }
def LawS7901CWholeWrongFalsely : Prop := lawS7901CWholeRow.holds Yba.pinned (OpenSpec.ofChange lawS7901CWholeWrong)

/-- 'shift.LawS7901CSplit': WHATEVER THE INPUT: true; the input reads as it did. -/
def lawS7901CSplitSpec : ChangeSpec := { name := "lawS7901CSplit", fn := fun _ => fun
  | [d1, d2] => { results := [.lit (.bool true)], args := [d1, d2] }
  | _ => none }
def lawS7901CSplitRow : OpenClaim := { program := "ybulkfgpk", sum := "512efe49493ae0764d36192b4e4758cc295246283672c91cbf782d05def935cb", func := "example.com/rowcrew/rowcrew/pkg/shift.LawS7901CSplit", spec := "lawS7901CSplit", apart := false }
def LawS7901CSplitSaid : Prop := lawS7901CSplitRow.holds Yba.pinned (OpenSpec.ofChange lawS7901CSplitSpec)

/-- ITS FALSE NEIGHBOUR: 'it returns false'. Refute it at one input. -/
def lawS7901CSplitWrong : ChangeSpec := { name := "lawS7901CSplit", fn := fun _ => fun
  | [d1, d2] => { results := [.lit (.bool false)], args := [d1, d2] }
  | _ => none }
def LawS7901CSplitWrongFalsely : Prop := lawS7901CSplitRow.holds Yba.pinned (OpenSpec.ofChange lawS7901CSplitWrong)

end Rows
end Go.Proofs.Ybulkfgpk
