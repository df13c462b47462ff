/-
  DERIVED. GIVEN WITH THE SEED: THE CARDS: each row of YbulkbhfkFmtRows.lean that lists a variable, with what it lists TIED to the program's text (the seventh form; the later family's looks); each row that meets fmt, with fmt's text TOLD by the authors' own Lean function (tested against real Go, not proved from fmt's source: count such statements apart). THE CARD IS WHAT COUNTS. Prove the row's statement (the work); the ties are given (YbulkbhfkFmtTie.lean); close each card by the builder's one call (the guide's Derived/Test/ToyasCard.lean, 'card_holds'). Laid BY PROGRAM, IN A SANDBOX (cutbox-door.mjs). By AI agents, Wed Nov 11 2026. No macro, syntax, notation, axiom, sorry.
-/
import Derived.Test.YbulkbhfkFmtRows
import GoSem.ClaimSeven
namespace Go.Proofs.YbulkbhfkFmt
namespace Rows

/-- THE TOLD CARD OF 'packet.LawS2909CAlphabet'. -/
def lawS2909CAlphabetCard : Claim7 := { stood := { row := lawS2909CAlphabetRow, standIns := [], harness := (true, "b1daa37216388bdadb42be80a14ca031a35589d65df0af91377d49b81ee10df7"), looks := false }, told := true, goes := false }
def LawS2909CAlphabetToldSaid : Prop := Claim7.holds Ybaf.pinned (.plain (OpenSpec.ofChange lawS2909CAlphabetSpec)) lawS2909CAlphabetCard
/-- ITS FALSE NEIGHBOUR. Refute it at one input. -/
def LawS2909CAlphabetToldWrongFalsely : Prop := Claim7.holds Ybaf.pinned (.plain (OpenSpec.ofChange lawS2909CAlphabetWrong)) lawS2909CAlphabetCard

/-- THE TOLD CARD OF 'packet.LawS2909CRaw'. -/
def lawS2909CRawCard : Claim7 := { stood := { row := lawS2909CRawRow, standIns := [], harness := (true, "b1daa37216388bdadb42be80a14ca031a35589d65df0af91377d49b81ee10df7"), looks := false }, told := true, goes := false }
def LawS2909CRawToldSaid : Prop := Claim7.holds Ybaf.pinned (.plain (OpenSpec.ofChange lawS2909CRawSpec)) lawS2909CRawCard
/-- ITS FALSE NEIGHBOUR. Refute it at one input. -/
def LawS2909CRawToldWrongFalsely : Prop := Claim7.holds Ybaf.pinned (.plain (OpenSpec.ofChange lawS2909CRawWrong)) lawS2909CRawCard
end Rows
end Go.Proofs.YbulkbhfkFmt
