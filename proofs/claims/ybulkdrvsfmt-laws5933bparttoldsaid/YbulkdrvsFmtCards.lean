/-
  DERIVED. GIVEN WITH THE SEED: THE CARDS: each row of YbulkdrvsFmtRows.lean that lists a variable, with what it lists TIED to the program's text (the seventh form; the later family's looks); each row that meets fmt, with fmt's text TOLD by the authors' own Lean function (tested against real Go, not proved from fmt's source: count such statements apart). THE CARD IS WHAT COUNTS. Prove the row's statement (the work); the ties are given (YbulkdrvsFmtTie.lean); close each card by the builder's one call (the guide's Derived/Test/ToyasCard.lean, 'card_holds'). Laid BY PROGRAM, IN A SANDBOX (cutbox-door.mjs). By AI agents, Wed Nov 11 2026. No macro, syntax, notation, axiom, sorry.
-/
import Derived.Test.YbulkdrvsFmtRows
import GoSem.ClaimSeven
namespace Go.Proofs.YbulkdrvsFmt
namespace Rows

/-- THE TOLD CARD OF 'num.LawS5933APart'. -/
def lawS5933APartCard : Claim7 := { stood := { row := lawS5933APartRow, standIns := [], harness := (true, "cbe6f21bccb72a811a233c29b44fefc64ae6c5c89dd0ebc52f6287c9b75c9c36"), looks := false }, told := true, goes := false }
def LawS5933APartToldSaid : Prop := Claim7.holds Ybaf.pinned (.plain (OpenSpec.ofChange lawS5933APartSpec)) lawS5933APartCard
/-- ITS FALSE NEIGHBOUR. Refute it at one input. -/
def LawS5933APartToldWrongFalsely : Prop := Claim7.holds Ybaf.pinned (.plain (OpenSpec.ofChange lawS5933APartWrong)) lawS5933APartCard

/-- THE TOLD CARD OF 'arg.LawS5933BPart'. -/
def lawS5933BPartCard : Claim7 := { stood := { row := lawS5933BPartRow, standIns := [], harness := (true, "cbe6f21bccb72a811a233c29b44fefc64ae6c5c89dd0ebc52f6287c9b75c9c36"), looks := false }, told := true, goes := false }
def LawS5933BPartToldSaid : Prop := Claim7.holds Ybaf.pinned (.plain (OpenSpec.ofChange lawS5933BPartSpec)) lawS5933BPartCard
/-- ITS FALSE NEIGHBOUR. Refute it at one input. -/
def LawS5933BPartToldWrongFalsely : Prop := Claim7.holds Ybaf.pinned (.plain (OpenSpec.ofChange lawS5933BPartWrong)) lawS5933BPartCard
end Rows
end Go.Proofs.YbulkdrvsFmt
