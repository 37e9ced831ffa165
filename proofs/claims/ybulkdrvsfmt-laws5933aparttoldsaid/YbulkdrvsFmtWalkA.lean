/-
  LawS5933APart: the walks. Its road never comes to fmt: the selector is 0, 1, 2 or 3.
-/
import Derived.Test.YbulkdrvsFmtCards
import Derived.WalkKit
import Derived.WalkLawsBesides
import Derived.Deep.QuietTactic
import Derived.BigQuiet
namespace Go.Proofs.YbulkdrvsFmt
open Go.RowKit

theorem str0 (w : World) : Calls Ybaf.prog 5 #[.int .i64 0] w fun e w' => e = .returned (.string ⟨#[105, 110, 116]⟩) ∧ w' = w := by
  go_enter Ybaf.func5, Ybaf.ntmps5
  go_wp2
  go_ret
  exact ⟨rfl, rfl⟩
theorem str1 (w : World) : Calls Ybaf.prog 5 #[.int .i64 1] w fun e w' => e = .returned (.string ⟨#[42, 98, 105, 103, 46, 73, 110, 116]⟩) ∧ w' = w := by
  go_enter Ybaf.func5, Ybaf.ntmps5
  go_wp2
  go_ret
  exact ⟨rfl, rfl⟩
theorem str2 (w : World) : Calls Ybaf.prog 5 #[.int .i64 2] w fun e w' => e = .returned (.string ⟨#[42, 98, 105, 103, 46, 82, 97, 116]⟩) ∧ w' = w := by
  go_enter Ybaf.func5, Ybaf.ntmps5
  go_wp2
  go_ret
  exact ⟨rfl, rfl⟩
theorem str3 (w : World) : Calls Ybaf.prog 5 #[.int .i64 3] w fun e w' => e = .returned (.string ⟨#[102, 108, 111, 97, 116, 54, 52]⟩) ∧ w' = w := by
  go_enter Ybaf.func5, Ybaf.ntmps5
  go_wp2
  go_ret
  exact ⟨rfl, rfl⟩

theorem lawA (x : Int) (w : World) (h0 : 0 ≤ x) (h1 : x ≤ 18446744073709551615) : Calls Ybaf.prog 3 #[.int .u64 x] w fun e w' => e = .returned (.bool true) ∧ Grown w w' := by
  rcases (by omega : x % 4 = 0 ∨ x % 4 = 1 ∨ x % 4 = 2 ∨ x % 4 = 3) with h | h | h | h
  · go_enter Ybaf.func3, Ybaf.ntmps3
    go_wp2
    go_quiet ((go_at_call 5; exact Calls.quiet_of_same (str0 _)))
    go_wp2
    go_ret
    exact ⟨rfl, by repeat (first | exact Grown.refl _ | apply Grown.drew | apply Grown.alloc)⟩
  · go_enter Ybaf.func3, Ybaf.ntmps3
    go_wp2
    go_quiet ((go_at_call 5; exact Calls.quiet_of_same (str1 _)))
    go_wp2
    go_ret
    exact ⟨rfl, by repeat (first | exact Grown.refl _ | apply Grown.drew | apply Grown.alloc)⟩
  · go_enter Ybaf.func3, Ybaf.ntmps3
    go_wp2
    go_quiet ((go_at_call 5; exact Calls.quiet_of_same (str2 _)))
    go_wp2
    go_ret
    exact ⟨rfl, by repeat (first | exact Grown.refl _ | apply Grown.drew | apply Grown.alloc)⟩
  · go_enter Ybaf.func3, Ybaf.ntmps3
    go_wp2
    go_quiet ((go_at_call 5; exact Calls.quiet_of_same (str3 _)))
    go_wp2
    go_ret
    exact ⟨rfl, by repeat (first | exact Grown.refl _ | apply Grown.drew | apply Grown.alloc)⟩
end Go.Proofs.YbulkdrvsFmt
