/-
  THE LEAVES: big-endian arithmetic; (bigEndian).Uint32, (Name).Wire, bytes.Equal at two rows of the same bytes.
-/
import Derived.Test.YbulkdrveRows
import Derived.WalkKit
import Derived.WalkLawsBesides
import Derived.Deep.QuietTactic
import Derived.BigQuiet
import Derived.Laws.BytesArg
namespace Go.Proofs.Ybulkdrve
open Go.RowKit

/-- Four bytes, the first the highest. -/
def be (x0 x1 x2 x3 : Int) : Int := x0 * 16777216 + x1 * 65536 + x2 * 256 + x3

theorem wraps32 (n : Int) (h0 : 0 ≤ n) (h1 : n < 2 ^ 32) : IntKind.u32.wrap n = n := by
  rw [IntKind.wrap_u32']; omega
theorem or32 (i : Nat) (x y : Int) (hx0 : 0 ≤ x) (hx : x % 2 ^ i = 0) (hx1 : x < 2 ^ 32) (hy0 : 0 ≤ y) (hy : y < 2 ^ i) (hy1 : y < 2 ^ 32) : bits .or .u32 x y = x + y :=
  bits_join .u32 32 (by decide) wraps32 i x y hx0 hx hx1 hy0 hy hy1
theorem or_comm32 (x y : Int) : bits .or .u32 x y = bits .or .u32 y x := by simp only [bits, BitVec.or_comm]

theorem be_up (x0 x1 x2 x3 : Int) (p0 : 0 ≤ x0) (q0 : x0 ≤ 255) (p1 : 0 ≤ x1) (q1 : x1 ≤ 255) (p2 : 0 ≤ x2) (q2 : x2 ≤ 255) (p3 : 0 ≤ x3) (q3 : x3 ≤ 255) :
    bits .or .u32 (bits .or .u32 (bits .or .u32 x3 (x2 * 256)) (x1 * 65536)) (x0 * 16777216) = be x0 x1 x2 x3 := by
  rw [or_comm32 x3, or32 8 (x2 * 256) x3 (by omega) (by omega) (by omega) p3 (by omega) (by omega),
    or_comm32 _ (x1 * 65536), or32 16 (x1 * 65536) _ (by omega) (by omega) (by omega) (by omega) (by omega) (by omega),
    or_comm32 _ (x0 * 16777216), or32 24 (x0 * 16777216) _ (by omega) (by omega) (by omega) (by omega) (by omega) (by omega)]
  unfold be; omega
theorem be_down (x0 x1 x2 x3 : Int) (p0 : 0 ≤ x0) (q0 : x0 ≤ 255) (p1 : 0 ≤ x1) (q1 : x1 ≤ 255) (p2 : 0 ≤ x2) (q2 : x2 ≤ 255) (p3 : 0 ≤ x3) (q3 : x3 ≤ 255) :
    bits .or .u32 (bits .or .u32 (bits .or .u32 (x0 * 16777216) (x1 * 65536)) (x2 * 256)) x3 = be x0 x1 x2 x3 := by
  rw [or32 24 (x0 * 16777216) (x1 * 65536) (by omega) (by omega) (by omega) (by omega) (by omega) (by omega),
    or32 16 _ (x2 * 256) (by omega) (by omega) (by omega) (by omega) (by omega) (by omega),
    or32 8 _ x3 (by omega) (by omega) (by omega) (by omega) (by omega) (by omega)]
  unfold be; omega
theorem be_range (x0 x1 x2 x3 : Int) (p0 : 0 ≤ x0) (q0 : x0 ≤ 255) (p1 : 0 ≤ x1) (q1 : x1 ≤ 255) (p2 : 0 ≤ x2) (q2 : x2 ≤ 255) (p3 : 0 ≤ x3) (q3 : x3 ≤ 255) :
    0 ≤ be x0 x1 x2 x3 ∧ be x0 x1 x2 x3 ≤ 4294967295 := by unfold be; omega

theorem ret_int {k : IntKind} {a b : Int} (h : a = b) : Ending.returned (.int k a) = .returned (.int k b) := by rw [h]

set_option maxHeartbeats 400000 in
theorem u32_any (b off len cap : Nat) (x0 x1 x2 x3 : Int) (w : World) (hl : 4 ≤ len)
   (c0 : w.cell? ⟨b, off, none⟩ = some (.int .u8 x0)) (c1 : w.cell? ⟨b, off + 1, none⟩ = some (.int .u8 x1)) (c2 : w.cell? ⟨b, off + 2, none⟩ = some (.int .u8 x2)) (c3 : w.cell? ⟨b, off + 3, none⟩ = some (.int .u8 x3)) (hb : b < w.heap.size)
   (p0 : 0 ≤ x0) (q0 : x0 ≤ 255) (p1 : 0 ≤ x1) (q1 : x1 ≤ 255) (p2 : 0 ≤ x2) (q2 : x2 ≤ 255) (p3 : 0 ≤ x3) (q3 : x3 ≤ 255) :
    Calls Yba.prog 8 #[.agg #[], .slice (some ⟨b, off, none⟩) len cap] w fun e w' => e = .returned (.int .u32 (be x0 x1 x2 x3)) ∧ Below w.heap.size w w' := by
  have l3 : (3 : Int) < (len : Int) := by omega
  have l2 : (2 : Int) < (len : Int) := by omega
  have l1 : (1 : Int) < (len : Int) := by omega
  have l0 : (0 : Int) < (len : Int) := by omega
  go_enter Yba.func8, Yba.ntmps8
  go_wp2
  go_quiet (fail)
  go_wp2
  go_ret
  exact ⟨ret_int (be_up x0 x1 x2 x3 p0 q0 p1 q1 p2 q2 p3 q3), below_drewN ((Below.refl _ _).alloc (Nat.le_refl _) _) _⟩

theorem wire_any (s : ByteArray) (w : World) :
    Calls Yba.prog 5 #[.agg #[.string s]] w fun e w' => e = .returned (.string s) ∧ w' = w.alloc (.cells #[.string s] 29) := by
  go_enter Yba.func5, Yba.ntmps5
  go_wp2
  go_ret
  exact ⟨rfl, rfl⟩

/-- bytes.Equal of two rows that hold the same bytes. -/
theorem equal_same (b off len cap b' off' cap' : Nat) (xs : List Int) (w : World) (hlen : xs.length = len)
    (hc : ∀ i, i < len → w.cell? ⟨b, off + i, none⟩ = some (.int .u8 (xs.getD i 0))) (hc' : ∀ i, i < len → w.cell? ⟨b', off' + i, none⟩ = some (.int .u8 (xs.getD i 0))) :
    Calls Yba.prog 6 #[.slice (some ⟨b, off, none⟩) len cap, .slice (some ⟨b', off', none⟩) len cap'] w fun e w' => e = .returned (.bool true) ∧ w' = w := by
  have k1 := run_convert_bytes_arg (P := Yba.prog) w 24 5 Yba.underlying24 Yba.underlying5 b off len cap xs hlen hc 9 Yba.underlying9
  have k2 := run_convert_bytes_arg (P := Yba.prog) w 24 5 Yba.underlying24 Yba.underlying5 b' off' len cap' xs hlen hc' 9 Yba.underlying9
  clear hc hc' hlen
  generalize strOfNums xs = s at *
  go_enter Yba.func6, Yba.ntmps6
  go_wp2
  go_ret
  exact ⟨rfl, rfl⟩
end Go.Proofs.Ybulkdrve
