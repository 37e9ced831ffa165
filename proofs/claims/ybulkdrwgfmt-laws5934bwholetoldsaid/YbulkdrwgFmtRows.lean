/-
  No cell of these rows narrows 'for every input' (looked for: loops, veiled, ifaces, maps, wideKeys, modest, calm, conditions, laid).
  DERIVED. THE GIVEN ROWS OF THIS SEAT. 1 by the template 'for every input the law returns true; each argument reads behind the call as it read before'; 0 by the template 'total and deterministic' (their statements: YbulkdrwgFmtTotals.lean).
  GIVEN WITH THE SEED: the statements are not yours to turn. If you find one false, say at which input.
  Laid BY PROGRAM, IN A SANDBOX (cutbox-rows.mjs): the forced cells as the released guide's own fill.sh prints them over the translation 36e9dfd31c91a160… (all of the seat's roots in one cut). By AI agents, Wed Nov 11 2026. No macro, syntax, notation, axiom, sorry.
-/
import Derived.Test.YbulkdrwgFmtChecked
import GoSem.Claim
import GoSem.ClaimJoined
import GoSem.ClaimMapViews
import Derived.JoinedTies
import Derived.KernelRfl
namespace Go.Proofs.YbulkdrwgFmt
/- THE CELL 'sum', in the pinned program and in every row, IS THE sha256 OF THE DUMP (.gsa) THAT YbulkdrwgFmtProg.lean LOADS. Nothing in Lean hashes anything: it is a label: what it is worth is what the hold of that sum in a sandbox is worth. -/
noncomputable def Ybaf.pinned : Pinned := { name := "ybulkdrwgfmt", sum := "36e9dfd31c91a160ac0658dc14e5411cb0cdb31a4ef488e48782b171df401757", checked := Ybaf.checked }
namespace Rows
def none {H : Type} : Left H := { results := [], args := [] }

/-- 'ipfix.LawS5934BWhole': WHATEVER THE INPUT: true; the input reads as it did. -/
def lawS5934BWholeSpec : ChangeSpec := { name := "lawS5934BWhole", fn := fun _ => fun
  | [d1, d2, d3, d4, d5] => { results := [.lit (.bool true)], args := [d1, d2, d3, d4, d5] }
  | _ => none }
def lawS5934BWholeRow : OpenClaim := { program := "ybulkdrwgfmt", sum := "36e9dfd31c91a160ac0658dc14e5411cb0cdb31a4ef488e48782b171df401757", func := "example.com/flowledger/flowledger/ipfix.LawS5934BWhole", spec := "lawS5934BWhole", stops := ["fmt.Sprintf"], inPlace := ["fmt.Sprintf"], unfollowed := true, recurses := true, named := ["encoding/binary.BigEndian"], plainKeys := false, apart := false }
/-- NO THEOREM (fmt's text is open here; it may be false): for the released tool's asking of the row's closed facts alone. THE STATEMENT IS 'LawS5934BWholeToldSaid' (YbulkdrwgFmtCards.lean). -/
def LawS5934BWholeFormAsk : Prop := lawS5934BWholeRow.holds Ybaf.pinned (OpenSpec.ofChange lawS5934BWholeSpec)

/-- ITS FALSE NEIGHBOUR: 'it returns false'. Refute it at one input. -/
def lawS5934BWholeWrong : ChangeSpec := { name := "lawS5934BWhole", fn := fun _ => fun
  | [d1, d2, d3, d4, d5] => { results := [.lit (.bool false)], args := [d1, d2, d3, d4, d5] }
  | _ => none }
def LawS5934BWholeWrongFormAsk : Prop := lawS5934BWholeRow.holds Ybaf.pinned (OpenSpec.ofChange lawS5934BWholeWrong)

end Rows
end Go.Proofs.YbulkdrwgFmt
