/-
  No cell of these rows narrows 'for every input' (looked for: loops, veiled, ifaces, maps, wideKeys, modest, calm, conditions, laid).
  DERIVED. THE GIVEN ROWS OF THIS SEAT. 1 by the template 'for every input the law returns true; each argument reads behind the call as it read before'; 0 by the template 'total and deterministic' (their statements: YbulkbhhaTotals.lean).
  GIVEN WITH THE SEED: the statements are not yours to turn. If you find one false, say at which input.
  Laid BY PROGRAM, IN A SANDBOX (cutbox-rows.mjs): the forced cells as the released guide's own fill.sh prints them over the translation 6ca103838c633697… (all of the seat's roots in one cut). By AI agents, Wed Nov 11 2026. No macro, syntax, notation, axiom, sorry.
-/
import Derived.Test.YbulkbhhaChecked
import GoSem.Claim
import GoSem.ClaimJoined
import GoSem.ClaimMapViews
import Derived.JoinedTies
import Derived.KernelRfl
namespace Go.Proofs.Ybulkbhha
/- THE CELL 'sum', in the pinned program and in every row, IS THE sha256 OF THE DUMP (.gsa) THAT YbulkbhhaProg.lean LOADS. Nothing in Lean hashes anything: it is a label: what it is worth is what the hold of that sum in a sandbox is worth. -/
noncomputable def Yba.pinned : Pinned := { name := "ybulkbhha", sum := "6ca103838c6336979e1d4fb3ff77c944e388f089d899be6bf921923a4c28aee5", checked := Yba.checked }
namespace Rows
def none {H : Type} : Left H := { results := [], args := [] }

/-- 'latchwork.LawS2912BUnlinks': WHATEVER THE INPUT: true; the input reads as it did. -/
def lawS2912BUnlinksSpec : ChangeSpec := { name := "lawS2912BUnlinks", fn := fun _ => fun
  | [d1, d2, d3, d4, d5] => { results := [.lit (.bool true)], args := [d1, d2, d3, d4, d5] }
  | _ => none }
def lawS2912BUnlinksRow : OpenClaim := { program := "ybulkbhha", sum := "6ca103838c6336979e1d4fb3ff77c944e388f089d899be6bf921923a4c28aee5", func := "example.com/latchwork/latchwork.LawS2912BUnlinks", spec := "lawS2912BUnlinks", apart := false }
def LawS2912BUnlinksSaid : Prop := lawS2912BUnlinksRow.holds Yba.pinned (OpenSpec.ofChange lawS2912BUnlinksSpec)

/-- ITS FALSE NEIGHBOUR: 'it returns false'. Refute it at one input. -/
def lawS2912BUnlinksWrong : ChangeSpec := { name := "lawS2912BUnlinks", fn := fun _ => fun
  | [d1, d2, d3, d4, d5] => { results := [.lit (.bool false)], args := [d1, d2, d3, d4, d5] }
  | _ => none }
def LawS2912BUnlinksWrongFalsely : Prop := lawS2912BUnlinksRow.holds Yba.pinned (OpenSpec.ofChange lawS2912BUnlinksWrong)

end Rows
end Go.Proofs.Ybulkbhha
