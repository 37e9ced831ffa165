/-
  DERIVED. GIVEN WITH THE SEED: THE CARDS: each row of YbulkdrwgFmtRows.lean that lists a variable, with what it lists TIED to the program's text (the seventh form; the later family's looks); each row that meets fmt, with fmt's text TOLD by the authors' own Lean function (tested against real Go, not proved from fmt's source: count such statements apart). THE CARD IS WHAT COUNTS. Prove the row's statement (the work); the ties are given (YbulkdrwgFmtTie.lean); close each card by the builder's one call (the guide's Derived/Test/ToyasCard.lean, 'card_holds'). Laid BY PROGRAM, IN A SANDBOX (cutbox-door.mjs). By AI agents, Wed Nov 11 2026. No macro, syntax, notation, axiom, sorry.
-/
import Derived.Test.YbulkdrwgFmtRows
import GoSem.ClaimSeven
namespace Go.Proofs.YbulkdrwgFmt
namespace Rows

/-- THE TOLD CARD OF 'ipfix.LawS5934BWhole'. -/
def lawS5934BWholeCard : Claim7 := { stood := { row := lawS5934BWholeRow, standIns := [], harness := (true, "47b278edb6253d7f46a34806ba005ad7037eeadd025025f4aef54c1f36c9e544"), looks := false }, told := true, goes := false }
def LawS5934BWholeToldSaid : Prop := Claim7.holds Ybaf.pinned (.plain (OpenSpec.ofChange lawS5934BWholeSpec)) lawS5934BWholeCard
/-- ITS FALSE NEIGHBOUR. Refute it at one input. -/
def LawS5934BWholeToldWrongFalsely : Prop := Claim7.holds Ybaf.pinned (.plain (OpenSpec.ofChange lawS5934BWholeWrong)) lawS5934BWholeCard
end Rows
end Go.Proofs.YbulkdrwgFmt
