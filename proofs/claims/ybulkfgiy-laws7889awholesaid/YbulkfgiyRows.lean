/-
  No cell of these rows narrows 'for every input' (looked for: loops, veiled, ifaces, maps, wideKeys, modest, calm, conditions, laid).
  DERIVED. THE GIVEN ROWS OF THIS SEAT. 1 by the template 'for every input the law returns true; each argument reads behind the call as it read before'; 0 by the template 'total and deterministic' (their statements: YbulkfgiyTotals.lean).
  GIVEN WITH THE SEED: the statements are not yours to turn. If you find one false, say at which input.
  Laid BY PROGRAM, IN A SANDBOX (cutbox-rows.mjs): the forced cells as the released guide's own fill.sh prints them over the translation b225703782ffcff4… (all of the seat's roots in one cut). By AI agents, Wed Nov 11 2026. No macro, syntax, notation, axiom, sorry.
-/
import Derived.Test.YbulkfgiyChecked
import GoSem.Claim
import GoSem.ClaimJoined
import GoSem.ClaimMapViews
import Derived.JoinedTies
import Derived.KernelRfl
namespace Go.Proofs.Ybulkfgiy
/- THE CELL 'sum', in the pinned program and in every row, IS THE sha256 OF THE DUMP (.gsa) THAT YbulkfgiyProg.lean LOADS. Nothing in Lean hashes anything: it is a label: what it is worth is what the hold of that sum in a sandbox is worth. -/
noncomputable def Yba.pinned : Pinned := { name := "ybulkfgiy", sum := "b225703782ffcff448880e94cb2af1463130e274339c30fa2269e641c784fe79", checked := Yba.checked }
namespace Rows
def none {H : Type} : Left H := { results := [], args := [] }

/-- 'registry.LawS7889AWhole': WHATEVER THE INPUT: true; the input reads as it did. -/
def lawS7889AWholeSpec : ChangeSpec := { name := "lawS7889AWhole", fn := fun _ => fun
  | [d1, d2, d3, d4, d5, d6, d7, d8, d9] => { results := [.lit (.bool true)], args := [d1, d2, d3, d4, d5, d6, d7, d8, d9] }
  | _ => none }
def lawS7889AWholeRow : OpenClaim := { program := "ybulkfgiy", sum := "b225703782ffcff448880e94cb2af1463130e274339c30fa2269e641c784fe79", func := "example.com/hoarfrost/hoarfrost/internal/registry.LawS7889AWhole", spec := "lawS7889AWhole", inPlace := ["sync/atomic.StoreInt64", "sync/atomic.LoadInt64"], plainKeys := false, apart := false }
def LawS7889AWholeSaid : Prop := lawS7889AWholeRow.holds Yba.pinned (OpenSpec.ofChange lawS7889AWholeSpec)

/-- ITS FALSE NEIGHBOUR: 'it returns false'. Refute it at one input. -/
def lawS7889AWholeWrong : ChangeSpec := { name := "lawS7889AWhole", fn := fun _ => fun
  | [d1, d2, d3, d4, d5, d6, d7, d8, d9] => { results := [.lit (.bool false)], args := [d1, d2, d3, d4, d5, d6, d7, d8, d9] }
  | _ => none }
def LawS7889AWholeWrongFalsely : Prop := lawS7889AWholeRow.holds Yba.pinned (OpenSpec.ofChange lawS7889AWholeWrong)

end Rows
end Go.Proofs.Ybulkfgiy
