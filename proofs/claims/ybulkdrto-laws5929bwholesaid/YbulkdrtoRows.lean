/-
  No cell of these rows narrows 'for every input' (looked for: loops, veiled, ifaces, maps, wideKeys, modest, calm, conditions, laid).
  DERIVED. THE GIVEN ROWS OF THIS SEAT. 1 by the template 'for every input the law returns true; each argument reads behind the call as it read before'; 0 by the template 'total and deterministic' (their statements: YbulkdrtoTotals.lean).
  GIVEN WITH THE SEED: the statements are not yours to turn. If you find one false, say at which input.
  Laid BY PROGRAM, IN A SANDBOX (cutbox-rows.mjs): the forced cells as the released guide's own fill.sh prints them over the translation 26205b94cdce4cca… (all of the seat's roots in one cut). By AI agents, Wed Nov 11 2026. No macro, syntax, notation, axiom, sorry.
-/
import Derived.Test.YbulkdrtoChecked
import GoSem.Claim
import GoSem.ClaimJoined
import GoSem.ClaimMapViews
import Derived.JoinedTies
import Derived.KernelRfl
namespace Go.Proofs.Ybulkdrto
/- THE CELL 'sum', in the pinned program and in every row, IS THE sha256 OF THE DUMP (.gsa) THAT YbulkdrtoProg.lean LOADS. Nothing in Lean hashes anything: it is a label: what it is worth is what the hold of that sum in a sandbox is worth. -/
noncomputable def Yba.pinned : Pinned := { name := "ybulkdrto", sum := "26205b94cdce4ccaff3cd23795b05bad6227722a781bbc43df55003b9bf1e0fc", checked := Yba.checked }
namespace Rows
def none {H : Type} : Left H := { results := [], args := [] }

/-- 'ctcodec.LawS5929BWhole': WHATEVER THE INPUT: true; the input reads as it did. -/
def lawS5929BWholeSpec : ChangeSpec := { name := "lawS5929BWhole", fn := fun _ => fun
  | [d] => { results := [.lit (.bool true)], args := [d] }
  | _ => none }
def lawS5929BWholeRow : OpenClaim := { program := "ybulkdrto", sum := "26205b94cdce4ccaff3cd23795b05bad6227722a781bbc43df55003b9bf1e0fc", func := "ellipsign.example/ellipsign/internal/ctcodec.LawS5929BWhole", spec := "lawS5929BWhole", apart := false }
def LawS5929BWholeSaid : Prop := lawS5929BWholeRow.holds Yba.pinned (OpenSpec.ofChange lawS5929BWholeSpec)

/-- ITS FALSE NEIGHBOUR: 'it returns false'. Refute it at one input. -/
def lawS5929BWholeWrong : ChangeSpec := { name := "lawS5929BWhole", fn := fun _ => fun
  | [d] => { results := [.lit (.bool false)], args := [d] }
  | _ => none }
def LawS5929BWholeWrongFalsely : Prop := lawS5929BWholeRow.holds Yba.pinned (OpenSpec.ofChange lawS5929BWholeWrong)

end Rows
end Go.Proofs.Ybulkdrto
