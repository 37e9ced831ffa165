/-
  No cell of these rows narrows 'for every input' (looked for: loops, veiled, ifaces, maps, wideKeys, modest, calm, conditions, laid).
  DERIVED. THE GIVEN ROWS OF THIS SEAT. 1 by the template 'for every input the law returns true; each argument reads behind the call as it read before'; 0 by the template 'total and deterministic' (their statements: YbulkdrveTotals.lean).
  GIVEN WITH THE SEED: the statements are not yours to turn. If you find one false, say at which input.
  Laid BY PROGRAM, IN A SANDBOX (cutbox-rows.mjs): the forced cells as the released guide's own fill.sh prints them over the translation dec899d81662c327… (all of the seat's roots in one cut). By AI agents, Wed Nov 11 2026. No macro, syntax, notation, axiom, sorry.
-/
import Derived.Test.YbulkdrveChecked
import GoSem.Claim
import GoSem.ClaimJoined
import GoSem.ClaimMapViews
import Derived.JoinedTies
import Derived.KernelRfl
namespace Go.Proofs.Ybulkdrve
/- THE CELL 'sum', in the pinned program and in every row, IS THE sha256 OF THE DUMP (.gsa) THAT YbulkdrveProg.lean LOADS. Nothing in Lean hashes anything: it is a label: what it is worth is what the hold of that sum in a sandbox is worth. -/
noncomputable def Yba.pinned : Pinned := { name := "ybulkdrve", sum := "dec899d81662c327c6c0f2aba9b29f38b01757d65dc0e941ea880334789f1811", checked := Yba.checked }
namespace Rows
def none {H : Type} : Left H := { results := [], args := [] }

/-- 'zone.LawS5932AWhole': WHATEVER THE INPUT: true; the input reads as it did. -/
def lawS5932AWholeSpec : ChangeSpec := { name := "lawS5932AWhole", fn := fun _ => fun
  | [d1, d2, d3, d4, d5] => { results := [.lit (.bool true)], args := [d1, d2, d3, d4, d5] }
  | _ => none }
def lawS5932AWholeRow : OpenClaim := { program := "ybulkdrve", sum := "dec899d81662c327c6c0f2aba9b29f38b01757d65dc0e941ea880334789f1811", func := "example.com/resolvent/resolvent/internal/zone.LawS5932AWhole", spec := "lawS5932AWhole", named := ["encoding/binary.BigEndian"], apart := false }
def LawS5932AWholeSaid : Prop := lawS5932AWholeRow.holds Yba.pinned (OpenSpec.ofChange lawS5932AWholeSpec)

/-- ITS FALSE NEIGHBOUR: 'it returns false'. Refute it at one input. -/
def lawS5932AWholeWrong : ChangeSpec := { name := "lawS5932AWhole", fn := fun _ => fun
  | [d1, d2, d3, d4, d5] => { results := [.lit (.bool false)], args := [d1, d2, d3, d4, d5] }
  | _ => none }
def LawS5932AWholeWrongFalsely : Prop := lawS5932AWholeRow.holds Yba.pinned (OpenSpec.ofChange lawS5932AWholeWrong)

end Rows
end Go.Proofs.Ybulkdrve
