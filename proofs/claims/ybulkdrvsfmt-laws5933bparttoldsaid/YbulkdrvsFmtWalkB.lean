/-
  LawS5933BPart: the walks of Plural and of the law, for every answer F of fmt.Sprintf.
-/
import Derived.Test.YbulkdrvsFmtFmt
import Derived.WalkKit
import Derived.WalkSpells
import Derived.WalkLawsBesides
import Derived.Stop.Texts
namespace Go.Proofs.YbulkdrvsFmt
open Go.RowKit Go.Extern.Stop Go.Stop Go.Extern
attribute [local go_sem] call7 guardOk fmt0 fmt0r op3_100 op9_115

theorem plural_one (s : ByteArray) (w : World) (hs : ¬ 9223372036854775807 < 2 + s.size) : Calls Ybaf.prog 6 #[.int .i64 1, .string s] w fun e w' => e = .returned (.string (⟨#[49, 32]⟩ ++ s)) ∧ w' = w := by
  go_enter Ybaf.func6, Ybaf.ntmps6
  go_wp2
  go_ret
  exact ⟨rfl, rfl⟩

set_option maxHeartbeats 400000 in
theorem plural_other (F : Interp) (n : Int) (s : ByteArray) (w : World) (hF : F.answers w.tape) (hn : (n == 1) = false) : Calls Ybaf.prog 6 #[.int .i64 n, .string s] w fun e w' => ∃ t, e = .returned (.string t) ∧ w' = (w.alloc (.cells #[.iface 3 (.int .i64 n), .iface 9 (.string s)] 20)).drew := by
  have hF' := answers_open hF
  go_enter Ybaf.func6, Ybaf.ntmps6
  go_wp2
  go_ret
  exact ⟨_, rfl, rfl⟩

set_option maxRecDepth 100000 in
set_option maxHeartbeats 400000 in
theorem lawB (F : Interp) (n : Int) (s : ByteArray) (w : World) (hF : F.answers w.tape) : Calls Ybaf.prog 4 #[.int .i64 n, .string s] w fun e w' => e = .returned (.bool true) ∧ Grown w w' := by
  by_cases hl : s.size ≤ 1048576
  · have hs : ¬ 9223372036854775807 < 2 + s.size := by omega
    by_cases hn : n = 1
    · subst hn
      go_enter Ybaf.func4, Ybaf.ntmps4
      go_wp2_with (go_at_call 6; refine (plural_one _ _ hs).mono ?_; rintro e w' ⟨rfl, rfl⟩)
      go_ret
      exact ⟨rfl, Grown.refl _⟩
    · have hn1 : (n == 1) = false := by simpa using hn
      clear hn
      go_enter Ybaf.func4, Ybaf.ntmps4
      go_wp2_with fail
      refine (plural_other F _ _ _ hF hn1).mono ?_
      rintro e w' ⟨t, rfl, rfl⟩
      go_wp2_with (go_at_call 6; refine (plural_one _ _ hs).mono ?_; rintro e w' ⟨rfl, rfl⟩)
      go_ret
      exact ⟨rfl, by repeat (first | exact Grown.refl _ | apply Grown.drew | apply Grown.alloc)⟩
  · have hl1 : (1048576 : Int) < (s.size : Int) := by omega
    go_enter Ybaf.func4, Ybaf.ntmps4
    go_wp2
    go_ret
    exact ⟨rfl, Grown.refl _⟩
end Go.Proofs.YbulkdrvsFmt
