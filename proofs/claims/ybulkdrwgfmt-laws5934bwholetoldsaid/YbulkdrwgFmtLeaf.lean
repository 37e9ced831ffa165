/-
  LEAVES: closed facts for the walk over fmt.Sprintf (function 11) at the one format that the road meets; (bigEndian).Uint16.
-/
import Derived.Test.YbulkdrwgFmtCards
import Derived.Stop.CallBack
import Derived.Stop.IfaceNil
import Derived.Stop.Texts
import GoSem.ClaimData
import Derived.WalkKit
import Derived.WalkSpells
import Derived.WalkLawsBesides
import Derived.Deep.QuietTactic
import Derived.BigQuiet
import Derived.Deep.RegionHeld3
import Derived.OwnWalk
namespace Go.Proofs.YbulkdrwgFmt
open Go.RowKit Go.Extern.Stop Go.Stop Go.Extern

theorem call11 (args : Array Value) (w : World) : (callFunc 11 args).run Ybaf.prog w = ((FmtStop.sprintf #[9, 90] #[9] args).run Ybaf.prog w).andThen fun v w' => .ok (.value v) w' :=
  run_callFunc_extern Ybaf.func11 (by kernel_rfl) (by kernel_rfl) (by kernel_rfl) (by kernel_rfl) args w
theorem guardOk (name : String) (w : World) : (FmtStop.guard name).run Ybaf.prog w = .ok () w := by kernel_rfl
theorem fmt0 : FmtStop.printed? ⟨#[37, 115, 58, 32, 118, 97, 108, 117, 101, 32, 111, 102, 32, 37, 100, 32, 111, 99, 116, 101, 116, 115]⟩ 2 = some [(0, 115, false), (1, 100, false)] := by kernel_rfl
theorem fmt0r (w : World) : (FmtDoors.printed ⟨#[37, 115, 58, 32, 118, 97, 108, 117, 101, 32, 111, 102, 32, 37, 100, 32, 111, 99, 116, 101, 116, 115]⟩ 2).run Ybaf.prog w = .ok [(0, 115, false), (1, 100, false)] w := by kernel_rfl
def shape3 : List UInt8 := [5, 3, 0, 0, 0, 0, 0, 0, 0, 105, 110, 116]
def shape9 : List UInt8 := [12, 6, 0, 0, 0, 0, 0, 0, 0, 115, 116, 114, 105, 110, 103]
theorem op3_100 (name : String) (x : Int) (w : World) : (FmtStop.operand name false 100 false (.iface 3 (.int .i64 x))).run Ybaf.prog w = .ok (shape3, Go.Extern.Stop.digits 8 (x % 2 ^ 64).toNat) w := by kernel_rfl
theorem op9_115 (name : String) (x : ByteArray) (w : World) : (FmtStop.operand name false 115 false (.iface 9 (.string x))).run Ybaf.prog w = .ok (shape9, FmtStop.pack x.data.toList) w := by kernel_rfl

/-- What fmt.Sprintf is asked where a record is cut short: the format, the name 'f', the field's length m. -/
def reading (m : Int) : List (List UInt8) :=
  [[37, 115, 58, 32, 118, 97, 108, 117, 101, 32, 111, 102, 32, 37, 100, 32, 111, 99, 116, 101, 116, 115], shape9, FmtStop.pack [102], shape3, digits 8 (m % 18446744073709551616).toNat]

/-- The text that comes back where a record is cut short is not the empty one. -/
def Speaks (F : Interp) : Prop := ∀ m : Int, 1 ≤ m → m ≤ 8 → (FmtStop.textOf (F "fmt.Sprintf" (reading m) 0)).toList.isEmpty = false

theorem ret_int {k : IntKind} {a b : Int} (h : a = b) : Ending.returned (.int k a) = .returned (.int k b) := by rw [h]
theorem wraps16 (n : Int) (h0 : 0 ≤ n) (h1 : n < 2 ^ 16) : IntKind.u16.wrap n = n := by
  rw [IntKind.wrap_u16]; omega
theorem or16 (x0 x1 : Int) (p0 : 0 ≤ x0) (q0 : x0 ≤ 255) (p1 : 0 ≤ x1) (q1 : x1 ≤ 255) : bits .or .u16 x1 (x0 * 256) = x0 * 256 + x1 := by
  have h : bits .or .u16 x1 (x0 * 256) = bits .or .u16 (x0 * 256) x1 := by simp only [bits, BitVec.or_comm]
  rw [h]
  exact bits_join .u16 16 (by decide) wraps16 8 (x0 * 256) x1 (by omega) (by omega) (by omega) p1 (by omega) (by omega)

set_option maxHeartbeats 400000 in
theorem u16_any (b off len cap : Nat) (x0 x1 : Int) (w : World) (hl : 2 ≤ len)
   (c0 : w.cell? ⟨b, off, none⟩ = some (.int .u8 x0)) (c1 : w.cell? ⟨b, off + 1, none⟩ = some (.int .u8 x1)) (hb : b < w.heap.size)
   (p0 : 0 ≤ x0) (q0 : x0 ≤ 255) (p1 : 0 ≤ x1) (q1 : x1 ≤ 255) :
    Calls Ybaf.prog 6 #[.agg #[], .slice (some ⟨b, off, none⟩) len cap] w fun e w' => e = .returned (.int .u16 (x0 * 256 + x1)) ∧ Below w.heap.size w w' := by
  have l1 : (1 : Int) < (len : Int) := by omega
  have l0 : (0 : Int) < (len : Int) := by omega
  go_enter Ybaf.func6, Ybaf.ntmps6
  go_wp2
  go_quiet (fail)
  go_wp2
  go_ret
  exact ⟨ret_int (or16 x0 x1 p0 q0 p1 q1), below_drewN ((Below.refl _ _).alloc (Nat.le_refl _) _) _⟩
end Go.Proofs.YbulkdrwgFmt
