/-
  No cell of these rows narrows 'for every input' (looked for: loops, veiled, ifaces, maps, wideKeys, modest, calm, conditions, laid).
  DERIVED. THE GIVEN ROWS OF THIS SEAT. 2 by the template 'for every input the law returns true; each argument reads behind the call as it read before'; 0 by the template 'total and deterministic' (their statements: YbulkbhfkFmtTotals.lean).
  GIVEN WITH THE SEED: the statements are not yours to turn. If you find one false, say at which input.
  Laid BY PROGRAM, IN A SANDBOX (cutbox-rows.mjs): the forced cells as the released guide's own fill.sh prints them over the translation bf1234a4cbd057fb… (all of the seat's roots in one cut). By AI agents, Wed Nov 11 2026. No macro, syntax, notation, axiom, sorry.
-/
import Derived.Test.YbulkbhfkFmtChecked
import GoSem.Claim
import GoSem.ClaimJoined
import GoSem.ClaimMapViews
import Derived.JoinedTies
import Derived.KernelRfl
namespace Go.Proofs.YbulkbhfkFmt
/- THE CELL 'sum', in the pinned program and in every row, IS THE sha256 OF THE DUMP (.gsa) THAT YbulkbhfkFmtProg.lean LOADS. Nothing in Lean hashes anything: it is a label: what it is worth is what the hold of that sum in a sandbox is worth. -/
noncomputable def Ybaf.pinned : Pinned := { name := "ybulkbhfkfmt", sum := "bf1234a4cbd057fbb8c79de21df8e9c6bcb09428ed3078a09d75e17113771cb4", checked := Ybaf.checked }
namespace Rows
def none {H : Type} : Left H := { results := [], args := [] }

/-- 'packet.LawS2909CAlphabet': WHATEVER THE INPUT: true; the input reads as it did. -/
def lawS2909CAlphabetSpec : ChangeSpec := { name := "lawS2909CAlphabet", fn := fun _ => fun
  | [d1, d2] => { results := [.lit (.bool true)], args := [d1, d2] }
  | _ => none }
def lawS2909CAlphabetRow : OpenClaim := { program := "ybulkbhfkfmt", sum := "bf1234a4cbd057fbb8c79de21df8e9c6bcb09428ed3078a09d75e17113771cb4", func := "example.com/hearsay/hearsay/internal/packet.LawS2909CAlphabet", spec := "lawS2909CAlphabet", stops := ["fmt.errorf"], inPlace := ["fmt.errorf"], apart := false }
/-- NO THEOREM (fmt's text is open here; it may be false): for the released tool's asking of the row's closed facts alone. THE STATEMENT IS 'LawS2909CAlphabetToldSaid' (YbulkbhfkFmtCards.lean). -/
def LawS2909CAlphabetFormAsk : Prop := lawS2909CAlphabetRow.holds Ybaf.pinned (OpenSpec.ofChange lawS2909CAlphabetSpec)

/-- ITS FALSE NEIGHBOUR: 'it returns false'. Refute it at one input. -/
def lawS2909CAlphabetWrong : ChangeSpec := { name := "lawS2909CAlphabet", fn := fun _ => fun
  | [d1, d2] => { results := [.lit (.bool false)], args := [d1, d2] }
  | _ => none }
def LawS2909CAlphabetWrongFormAsk : Prop := lawS2909CAlphabetRow.holds Ybaf.pinned (OpenSpec.ofChange lawS2909CAlphabetWrong)

/-- 'packet.LawS2909CRaw': WHATEVER THE INPUT: true; the input reads as it did. -/
def lawS2909CRawSpec : ChangeSpec := { name := "lawS2909CRaw", fn := fun _ => fun
  | [d1, d2] => { results := [.lit (.bool true)], args := [d1, d2] }
  | _ => none }
def lawS2909CRawRow : OpenClaim := { program := "ybulkbhfkfmt", sum := "bf1234a4cbd057fbb8c79de21df8e9c6bcb09428ed3078a09d75e17113771cb4", func := "example.com/hearsay/hearsay/internal/packet.LawS2909CRaw", spec := "lawS2909CRaw", stops := ["fmt.errorf"], inPlace := ["fmt.errorf"], apart := false }
/-- NO THEOREM (fmt's text is open here; it may be false): for the released tool's asking of the row's closed facts alone. THE STATEMENT IS 'LawS2909CRawToldSaid' (YbulkbhfkFmtCards.lean). -/
def LawS2909CRawFormAsk : Prop := lawS2909CRawRow.holds Ybaf.pinned (OpenSpec.ofChange lawS2909CRawSpec)

/-- ITS FALSE NEIGHBOUR: 'it returns false'. Refute it at one input. -/
def lawS2909CRawWrong : ChangeSpec := { name := "lawS2909CRaw", fn := fun _ => fun
  | [d1, d2] => { results := [.lit (.bool false)], args := [d1, d2] }
  | _ => none }
def LawS2909CRawWrongFormAsk : Prop := lawS2909CRawRow.holds Ybaf.pinned (OpenSpec.ofChange lawS2909CRawWrong)

end Rows
end Go.Proofs.YbulkbhfkFmt
