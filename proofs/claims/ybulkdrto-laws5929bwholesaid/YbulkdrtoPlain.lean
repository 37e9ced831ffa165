/-
  THE PLAIN LAW of hexDigit: no Go in sight but the model's own words for bits and wraps.
-/
import Derived.Test.YbulkdrtoRows
import Derived.WalkKit
namespace Go.Proofs.Ybulkdrto
open Go.RowKit

/-- What 'inRange' reckons. -/
def inrF (x lo hi : Int) : Int := bits BinOp.xor IntKind.i32 (-1) (bits BinOp.or IntKind.i32 (wrap32 (x - lo)) (wrap32 (hi - x))) / 2147483648
/-- What 'hexDigit' reckons: the value, the flag. -/
def hexV (x : Int) : Int := bits BinOp.or IntKind.i32 (bits BinOp.and IntKind.i32 (inrF x 48 57) (x - 48)) (bits BinOp.and IntKind.i32 (inrF (bits BinOp.or IntKind.i32 x 32) 97 102) (wrap32 (wrap32 (bits BinOp.or IntKind.i32 x 32 - 97) + 10))) % 256
def hexK (x : Int) : Int := bits BinOp.and IntKind.i32 (bits BinOp.or IntKind.i32 (inrF x 48 57) (inrF (bits BinOp.or IntKind.i32 x 32) 97 102)) 1
/-- What the model function reckons. -/
def modV (x : Int) : Int := if 48 ≤ x ∧ x ≤ 57 then x - 48 else if 97 ≤ x ∧ x ≤ 102 then x - 97 + 10 else if 65 ≤ x ∧ x ≤ 70 then x - 65 + 10 else 0
def modK (x : Int) : Int := if 48 ≤ x ∧ x ≤ 57 then 1 else if 97 ≤ x ∧ x ≤ 102 then 1 else if 65 ≤ x ∧ x ≤ 70 then 1 else 0

theorem same_all : ∀ n : Fin 256, hexV (n.val : Int) = modV (n.val : Int) ∧ hexK (n.val : Int) = modK (n.val : Int) := by decide +kernel

theorem same (x : Int) (h0 : 0 ≤ x) (h1 : x ≤ 255) : hexV x = modV x ∧ hexK x = modK x := by
  have h := same_all ⟨x.toNat, by omega⟩
  simpa [Int.toNat_of_nonneg h0] using h

end Go.Proofs.Ybulkdrto
