/-
  No cell of these rows narrows 'for every input' (looked for: loops, veiled, ifaces, maps, wideKeys, modest, calm, conditions, laid).
  DERIVED. THE GIVEN ROWS OF THIS SEAT. 2 by the template 'for every input the law returns true; each argument reads behind the call as it read before'; 0 by the template 'total and deterministic' (their statements: YbulkdrvsFmtTotals.lean).
  GIVEN WITH THE SEED: the statements are not yours to turn. If you find one false, say at which input.
  Laid BY PROGRAM, IN A SANDBOX (cutbox-rows.mjs): the forced cells as the released guide's own fill.sh prints them over the translation d7a3669389e5f395… (all of the seat's roots in one cut). By AI agents, Wed Nov 11 2026. No macro, syntax, notation, axiom, sorry.
-/
import Derived.Test.YbulkdrvsFmtChecked
import GoSem.Claim
import GoSem.ClaimJoined
import GoSem.ClaimMapViews
import Derived.JoinedTies
import Derived.KernelRfl
namespace Go.Proofs.YbulkdrvsFmt
/- THE CELL 'sum', in the pinned program and in every row, IS THE sha256 OF THE DUMP (.gsa) THAT YbulkdrvsFmtProg.lean LOADS. Nothing in Lean hashes anything: it is a label: what it is worth is what the hold of that sum in a sandbox is worth. -/
noncomputable def Ybaf.pinned : Pinned := { name := "ybulkdrvsfmt", sum := "d7a3669389e5f395656b2370d5e24730694acf0efb3f2ec4430998188358c06c", checked := Ybaf.checked }
namespace Rows
def none {H : Type} : Left H := { results := [], args := [] }

/-- 'num.LawS5933APart': WHATEVER THE INPUT: true; the input reads as it did. -/
def lawS5933APartSpec : ChangeSpec := { name := "lawS5933APart", fn := fun _ => fun
  | [d] => { results := [.lit (.bool true)], args := [d] }
  | _ => none }
def lawS5933APartRow : OpenClaim := { program := "ybulkdrvsfmt", sum := "d7a3669389e5f395656b2370d5e24730694acf0efb3f2ec4430998188358c06c", func := "example.com/tarnshell/tarnshell/num.LawS5933APart", spec := "lawS5933APart", stops := ["fmt.Sprintf"], inPlace := ["fmt.Sprintf"], apart := false }
/-- NO THEOREM (fmt's text is open here; it may be false): for the released tool's asking of the row's closed facts alone. THE STATEMENT IS 'LawS5933APartToldSaid' (YbulkdrvsFmtCards.lean). -/
def LawS5933APartFormAsk : Prop := lawS5933APartRow.holds Ybaf.pinned (OpenSpec.ofChange lawS5933APartSpec)

/-- ITS FALSE NEIGHBOUR: 'it returns false'. Refute it at one input. -/
def lawS5933APartWrong : ChangeSpec := { name := "lawS5933APart", fn := fun _ => fun
  | [d] => { results := [.lit (.bool false)], args := [d] }
  | _ => none }
def LawS5933APartWrongFormAsk : Prop := lawS5933APartRow.holds Ybaf.pinned (OpenSpec.ofChange lawS5933APartWrong)

/-- 'arg.LawS5933BPart': WHATEVER THE INPUT: true; the input reads as it did. -/
def lawS5933BPartSpec : ChangeSpec := { name := "lawS5933BPart", fn := fun _ => fun
  | [d1, d2] => { results := [.lit (.bool true)], args := [d1, d2] }
  | _ => none }
def lawS5933BPartRow : OpenClaim := { program := "ybulkdrvsfmt", sum := "d7a3669389e5f395656b2370d5e24730694acf0efb3f2ec4430998188358c06c", func := "example.com/tarnshell/tarnshell/arg.LawS5933BPart", spec := "lawS5933BPart", stops := ["fmt.Sprintf"], inPlace := ["fmt.Sprintf"], apart := false }
/-- NO THEOREM (fmt's text is open here; it may be false): for the released tool's asking of the row's closed facts alone. THE STATEMENT IS 'LawS5933BPartToldSaid' (YbulkdrvsFmtCards.lean). -/
def LawS5933BPartFormAsk : Prop := lawS5933BPartRow.holds Ybaf.pinned (OpenSpec.ofChange lawS5933BPartSpec)

/-- ITS FALSE NEIGHBOUR: 'it returns false'. Refute it at one input. -/
def lawS5933BPartWrong : ChangeSpec := { name := "lawS5933BPart", fn := fun _ => fun
  | [d1, d2] => { results := [.lit (.bool false)], args := [d1, d2] }
  | _ => none }
def LawS5933BPartWrongFormAsk : Prop := lawS5933BPartRow.holds Ybaf.pinned (OpenSpec.ofChange lawS5933BPartWrong)

end Rows
end Go.Proofs.YbulkdrvsFmt
