/-
  No cell of these rows narrows 'for every input' (looked for: loops, veiled, ifaces, maps, wideKeys, modest, calm, conditions, laid).
  DERIVED. THE GIVEN ROWS OF THIS SEAT. 1 by the template 'for every input the law returns true; each argument reads behind the call as it read before'; 0 by the template 'total and deterministic' (their statements: YbulkbhfkTotals.lean).
  GIVEN WITH THE SEED: the statements are not yours to turn. If you find one false, say at which input.
  Laid BY PROGRAM, IN A SANDBOX (cutbox-rows.mjs): the forced cells as the released guide's own fill.sh prints them over the translation 36b034a267a51df5… (all of the seat's roots in one cut). By AI agents, Wed Nov 11 2026. No macro, syntax, notation, axiom, sorry.
-/
import Derived.Test.YbulkbhfkChecked
import GoSem.Claim
import GoSem.ClaimJoined
import GoSem.ClaimMapViews
import Derived.JoinedTies
import Derived.KernelRfl
namespace Go.Proofs.Ybulkbhfk
/- THE CELL 'sum', in the pinned program and in every row, IS THE sha256 OF THE DUMP (.gsa) THAT YbulkbhfkProg.lean LOADS. Nothing in Lean hashes anything: it is a label: what it is worth is what the hold of that sum in a sandbox is worth. -/
noncomputable def Yba.pinned : Pinned := { name := "ybulkbhfk", sum := "36b034a267a51df5f3ce87e842ce44b5d709fc4e937287c9e794ce3d5c554579", checked := Yba.checked }
namespace Rows
def none {H : Type} : Left H := { results := [], args := [] }

/-- 'packet.LawS2909AInOrder': WHATEVER THE INPUT: true; the input reads as it did. -/
def lawS2909AInOrderSpec : ChangeSpec := { name := "lawS2909AInOrder", fn := fun _ => fun
  | [d1, d2, d3, d4] => { results := [.lit (.bool true)], args := [d1, d2, d3, d4] }
  | _ => none }
def lawS2909AInOrderRow : OpenClaim := { program := "ybulkbhfk", sum := "36b034a267a51df5f3ce87e842ce44b5d709fc4e937287c9e794ce3d5c554579", func := "example.com/hearsay/hearsay/internal/packet.LawS2909AInOrder", spec := "lawS2909AInOrder", unfollowed := true, recurses := true, apart := false }
def LawS2909AInOrderSaid : Prop := lawS2909AInOrderRow.holds Yba.pinned (OpenSpec.ofChange lawS2909AInOrderSpec)

/-- ITS FALSE NEIGHBOUR: 'it returns false'. Refute it at one input. -/
def lawS2909AInOrderWrong : ChangeSpec := { name := "lawS2909AInOrder", fn := fun _ => fun
  | [d1, d2, d3, d4] => { results := [.lit (.bool false)], args := [d1, d2, d3, d4] }
  | _ => none }
def LawS2909AInOrderWrongFalsely : Prop := lawS2909AInOrderRow.holds Yba.pinned (OpenSpec.ofChange lawS2909AInOrderWrong)

end Rows
end Go.Proofs.Ybulkbhfk
