/-
  No cell of these rows narrows 'for every input' (looked for: loops, veiled, ifaces, maps, wideKeys, modest, calm, conditions, laid).
  DERIVED. THE GIVEN ROWS OF THIS SEAT. 2 by the template 'for every input the law returns true; each argument reads behind the call as it read before'; 0 by the template 'total and deterministic' (their statements: YbulkbhdgFmtTotals.lean).
  GIVEN WITH THE SEED: the statements are not yours to turn. If you find one false, say at which input.
  Laid BY PROGRAM, IN A SANDBOX (cutbox-rows.mjs): the forced cells as the released guide's own fill.sh prints them over the translation ded333d1292548b7… (all of the seat's roots in one cut). By AI agents, Wed Nov 11 2026. No macro, syntax, notation, axiom, sorry.
-/
import Derived.Test.YbulkbhdgFmtChecked
import GoSem.Claim
import GoSem.ClaimJoined
import GoSem.ClaimMapViews
import Derived.JoinedTies
import Derived.KernelRfl
namespace Go.Proofs.YbulkbhdgFmt
/- THE CELL 'sum', in the pinned program and in every row, IS THE sha256 OF THE DUMP (.gsa) THAT YbulkbhdgFmtProg.lean LOADS. Nothing in Lean hashes anything: it is a label: what it is worth is what the hold of that sum in a sandbox is worth. -/
noncomputable def Ybaf.pinned : Pinned := { name := "ybulkbhdgfmt", sum := "ded333d1292548b7f746b1b59e1ca385ace38c0a6b4061d5ca9ba3447be746ae", checked := Ybaf.checked }
namespace Rows
def none {H : Type} : Left H := { results := [], args := [] }

/-- 'valuation.LawS2905CExact': WHATEVER THE INPUT: true; the input reads as it did. -/
def lawS2905CExactSpec : ChangeSpec := { name := "lawS2905CExact", fn := fun _ => fun
  | [d1, d2] => { results := [.lit (.bool true)], args := [d1, d2] }
  | _ => none }
def lawS2905CExactRow : OpenClaim := { program := "ybulkbhdgfmt", sum := "ded333d1292548b7f746b1b59e1ca385ace38c0a6b4061d5ca9ba3447be746ae", func := "example.com/zhaomu/zhaomu/valuation.LawS2905CExact", spec := "lawS2905CExact", stops := ["fmt.Sprintf"], inPlace := ["fmt.Sprintf"], apart := false }
/-- NO THEOREM (fmt's text is open here; it may be false): for the released tool's asking of the row's closed facts alone. THE STATEMENT IS 'LawS2905CExactToldSaid' (YbulkbhdgFmtCards.lean). -/
def LawS2905CExactFormAsk : Prop := lawS2905CExactRow.holds Ybaf.pinned (OpenSpec.ofChange lawS2905CExactSpec)

/-- ITS FALSE NEIGHBOUR: 'it returns false'. Refute it at one input. -/
def lawS2905CExactWrong : ChangeSpec := { name := "lawS2905CExact", fn := fun _ => fun
  | [d1, d2] => { results := [.lit (.bool false)], args := [d1, d2] }
  | _ => none }
def LawS2905CExactWrongFormAsk : Prop := lawS2905CExactRow.holds Ybaf.pinned (OpenSpec.ofChange lawS2905CExactWrong)

/-- 'valuation.LawS2905CSplit': WHATEVER THE INPUT: true; the input reads as it did. -/
def lawS2905CSplitSpec : ChangeSpec := { name := "lawS2905CSplit", fn := fun _ => fun
  | [d1, d2] => { results := [.lit (.bool true)], args := [d1, d2] }
  | _ => none }
def lawS2905CSplitRow : OpenClaim := { program := "ybulkbhdgfmt", sum := "ded333d1292548b7f746b1b59e1ca385ace38c0a6b4061d5ca9ba3447be746ae", func := "example.com/zhaomu/zhaomu/valuation.LawS2905CSplit", spec := "lawS2905CSplit", stops := ["fmt.Sprintf"], inPlace := ["fmt.Sprintf"], apart := false }
/-- NO THEOREM (fmt's text is open here; it may be false): for the released tool's asking of the row's closed facts alone. THE STATEMENT IS 'LawS2905CSplitToldSaid' (YbulkbhdgFmtCards.lean). -/
def LawS2905CSplitFormAsk : Prop := lawS2905CSplitRow.holds Ybaf.pinned (OpenSpec.ofChange lawS2905CSplitSpec)

/-- ITS FALSE NEIGHBOUR: 'it returns false'. Refute it at one input. -/
def lawS2905CSplitWrong : ChangeSpec := { name := "lawS2905CSplit", fn := fun _ => fun
  | [d1, d2] => { results := [.lit (.bool false)], args := [d1, d2] }
  | _ => none }
def LawS2905CSplitWrongFormAsk : Prop := lawS2905CSplitRow.holds Ybaf.pinned (OpenSpec.ofChange lawS2905CSplitWrong)

end Rows
end Go.Proofs.YbulkbhdgFmt
