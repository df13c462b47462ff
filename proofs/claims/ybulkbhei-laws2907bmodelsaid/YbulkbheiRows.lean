/-
  No cell of these rows narrows 'for every input' (looked for: loops, veiled, ifaces, maps, wideKeys, modest, calm, conditions, laid).
  DERIVED. THE GIVEN ROWS OF THIS SEAT. 1 by the template 'for every input the law returns true; each argument reads behind the call as it read before'; 0 by the template 'total and deterministic' (their statements: YbulkbheiTotals.lean).
  GIVEN WITH THE SEED: the statements are not yours to turn. If you find one false, say at which input.
  Laid BY PROGRAM, IN A SANDBOX (cutbox-rows.mjs): the forced cells as the released guide's own fill.sh prints them over the translation e60a0fa0da31e0fe… (all of the seat's roots in one cut). By AI agents, Wed Nov 11 2026. No macro, syntax, notation, axiom, sorry.
-/
import Derived.Test.YbulkbheiChecked
import GoSem.Claim
import GoSem.ClaimJoined
import GoSem.ClaimMapViews
import Derived.JoinedTies
import Derived.KernelRfl
namespace Go.Proofs.Ybulkbhei
/- THE CELL 'sum', in the pinned program and in every row, IS THE sha256 OF THE DUMP (.gsa) THAT YbulkbheiProg.lean LOADS. Nothing in Lean hashes anything: it is a label: what it is worth is what the hold of that sum in a sandbox is worth. -/
noncomputable def Yba.pinned : Pinned := { name := "ybulkbhei", sum := "e60a0fa0da31e0fe2d5f55d89543881bec6c0ecdefa485664e38280e3a21fab3", checked := Yba.checked }
namespace Rows
def none {H : Type} : Left H := { results := [], args := [] }

/-- 'jsonobject.LawS2907BModel': WHATEVER THE INPUT: true; the input reads as it did. -/
def lawS2907BModelSpec : ChangeSpec := { name := "lawS2907BModel", fn := fun _ => fun
  | [d1, d2, d3, d4, d5] => { results := [.lit (.bool true)], args := [d1, d2, d3, d4, d5] }
  | _ => none }
def lawS2907BModelRow : OpenClaim := { program := "ybulkbhei", sum := "e60a0fa0da31e0fe2d5f55d89543881bec6c0ecdefa485664e38280e3a21fab3", func := "example.com/umbel/umbel/internal/jsonobject.LawS2907BModel", spec := "lawS2907BModel", apart := false }
def LawS2907BModelSaid : Prop := lawS2907BModelRow.holds Yba.pinned (OpenSpec.ofChange lawS2907BModelSpec)

/-- ITS FALSE NEIGHBOUR: 'it returns false'. Refute it at one input. -/
def lawS2907BModelWrong : ChangeSpec := { name := "lawS2907BModel", fn := fun _ => fun
  | [d1, d2, d3, d4, d5] => { results := [.lit (.bool false)], args := [d1, d2, d3, d4, d5] }
  | _ => none }
def LawS2907BModelWrongFalsely : Prop := lawS2907BModelRow.holds Yba.pinned (OpenSpec.ofChange lawS2907BModelWrong)

end Rows
end Go.Proofs.Ybulkbhei
