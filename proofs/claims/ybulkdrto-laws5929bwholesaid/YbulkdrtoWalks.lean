/-
  THE WALKS: inRange, hexDigit, zzs5929bmodel, zzs5929bcheck.
-/
import Derived.Test.YbulkdrtoPlain
import Derived.WalkLawsBesides
namespace Go.Proofs.Ybulkdrto
open Go.RowKit

theorem inr_any (x lo hi : Int) (w : World) :
    Calls Yba.prog 7 #[.int .i32 x, .int .i32 lo, .int .i32 hi] w fun e w' => e = .returned (.int .i32 (inrF x lo hi)) ∧ w' = w := by
  go_enter Yba.func7, Yba.ntmps7
  go_wp2
  go_ret
  exact ⟨rfl, rfl⟩

theorem hex_any (x : Int) (w : World) (h0 : 0 ≤ x) (h1 : x ≤ 255) :
    Calls Yba.prog 5 #[.int .u8 x] w fun e w' => e = .returned (.tuple #[.int .u8 (hexV x), .int .i32 (hexK x)]) ∧ w' = w := by
  go_enter Yba.func5, Yba.ntmps5
  go_wp2_with (go_at_call 7; refine (inr_any _ _ _ _).mono ?_; rintro e w' ⟨rfl, rfl⟩)
  go_ret2
  exact ⟨rfl, rfl⟩

theorem ret_pair {a b c d : Int} (h : a = c) (k : b = d) : Ending.returned (.tuple #[.int .u8 a, .int .i32 b]) = .returned (.tuple #[.int .u8 c, .int .i32 d]) := by rw [h, k]

theorem mod_any (x : Int) (w : World) (h0 : 0 ≤ x) (h1 : x ≤ 255) :
    Calls Yba.prog 6 #[.int .u8 x] w fun e w' => e = .returned (.tuple #[.int .u8 (modV x), .int .i32 (modK x)]) ∧ w' = w := by
  by_cases a1 : 48 ≤ x ∧ x ≤ 57
  · have hv : modV x = x - 48 := by simp [modV, a1]
    have hk : modK x = 1 := by simp [modK, a1]
    rw [hv, hk]
    obtain ⟨a, b⟩ := a1
    clear hv hk
    go_enter Yba.func6, Yba.ntmps6
    go_wp2
    go_ret2
    exact ⟨rfl, rfl⟩
  · by_cases a2 : 97 ≤ x ∧ x ≤ 102
    · have hv : modV x = x - 97 + 10 := by simp [modV, a1, a2]
      have hk : modK x = 1 := by simp [modK, a2]
      rw [hv, hk]
      obtain ⟨a, b⟩ := a2
      have c : 57 < x := by omega
      clear hv hk a1
      go_enter Yba.func6, Yba.ntmps6
      go_wp2
      go_ret2
      exact ⟨rfl, rfl⟩
    · by_cases a3 : 65 ≤ x ∧ x ≤ 70
      · have hv : modV x = x - 65 + 10 := by simp [modV, a1, a2, a3]
        have hk : modK x = 1 := by simp [modK, a3]
        rw [hv, hk]
        obtain ⟨a, b⟩ := a3
        have c : 57 < x := by omega
        have d : x < 97 := by omega
        clear hv hk a1 a2
        go_enter Yba.func6, Yba.ntmps6
        go_wp2
        go_ret2
        exact ⟨rfl, rfl⟩
      · have hv : modV x = 0 := by simp [modV, a1, a2, a3]
        have hk : modK x = 0 := by simp [modK, a1, a2, a3]
        rw [hv, hk]
        clear hv hk
        go_enter Yba.func6, Yba.ntmps6
        go_wp2
        all_goals first | (exfalso; omega) | (go_ret2; exact ⟨rfl, rfl⟩)

theorem check_any (x : Int) (w : World) (h0 : 0 ≤ x) (h1 : x ≤ 255) :
    Calls Yba.prog 4 #[.int .u8 x] w fun e w' => e = .returned (.bool true) ∧ w' = w := by
  have e1 : (modV x == modV x) = true := by simp
  have e2 : (modK x == modK x) = true := by simp
  go_enter Yba.func4, Yba.ntmps4
  go_wp2_with (first | (go_at_call 5; refine (hex_any _ _ h0 h1).mono ?_; rw [(same x h0 h1).1, (same x h0 h1).2]; rintro e w' ⟨rfl, rfl⟩) | (go_at_call 6; refine (mod_any _ _ h0 h1).mono ?_; rintro e w' ⟨rfl, rfl⟩))
  go_ret
  exact ⟨rfl, rfl⟩
end Go.Proofs.Ybulkdrto
