/-
  DERIVED. GIVEN WITH THE SEED: THE CARDS: each row of YbulkbhdgFmtRows.lean that lists a variable, with what it lists TIED to the program's text (the seventh form; the later family's looks); each row that meets fmt, with fmt's text TOLD by the authors' own Lean function (tested against real Go, not proved from fmt's source: count such statements apart). THE CARD IS WHAT COUNTS. Prove the row's statement (the work); the ties are given (YbulkbhdgFmtTie.lean); close each card by the builder's one call (the guide's Derived/Test/ToyasCard.lean, 'card_holds'). Laid BY PROGRAM, IN A SANDBOX (cutbox-door.mjs). By AI agents, Wed Nov 11 2026. No macro, syntax, notation, axiom, sorry.
-/
import Derived.Test.YbulkbhdgFmtRows
import GoSem.ClaimSeven
namespace Go.Proofs.YbulkbhdgFmt
namespace Rows

/-- THE TOLD CARD OF 'valuation.LawS2905CExact'. -/
def lawS2905CExactCard : Claim7 := { stood := { row := lawS2905CExactRow, standIns := [], harness := (true, "43afafad2da8285d5fce09401305f8604efd91c2141c5b6719bdd46b197fb892"), looks := false }, told := true, goes := false }
def LawS2905CExactToldSaid : Prop := Claim7.holds Ybaf.pinned (.plain (OpenSpec.ofChange lawS2905CExactSpec)) lawS2905CExactCard
/-- ITS FALSE NEIGHBOUR. Refute it at one input. -/
def LawS2905CExactToldWrongFalsely : Prop := Claim7.holds Ybaf.pinned (.plain (OpenSpec.ofChange lawS2905CExactWrong)) lawS2905CExactCard

/-- THE TOLD CARD OF 'valuation.LawS2905CSplit'. -/
def lawS2905CSplitCard : Claim7 := { stood := { row := lawS2905CSplitRow, standIns := [], harness := (true, "43afafad2da8285d5fce09401305f8604efd91c2141c5b6719bdd46b197fb892"), looks := false }, told := true, goes := false }
def LawS2905CSplitToldSaid : Prop := Claim7.holds Ybaf.pinned (.plain (OpenSpec.ofChange lawS2905CSplitSpec)) lawS2905CSplitCard
/-- ITS FALSE NEIGHBOUR. Refute it at one input. -/
def LawS2905CSplitToldWrongFalsely : Prop := Claim7.holds Ybaf.pinned (.plain (OpenSpec.ofChange lawS2905CSplitWrong)) lawS2905CSplitCard
end Rows
end Go.Proofs.YbulkbhdgFmt
