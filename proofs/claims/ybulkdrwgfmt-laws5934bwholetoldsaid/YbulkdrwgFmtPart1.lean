/-
  The law's walk, part 1: its guards and the loop that adds up the bodies' lengths.
-/
import Derived.Test.YbulkdrwgFmtState
namespace Go.Proofs.YbulkdrwgFmt
open Go.RowKit
set_option linter.unusedVariables false

set_option maxRecDepth 100000 in
set_option maxHeartbeats 1000000 in
theorem lawA (wh : Bool) (sem : Int) (sa ta za : Option Addr) (S tl N sc tc zc : Nat) (w0 : World) (hS : S ≤ 4096) (ht : tl ≤ 1048576) (hN : N ≤ 4096) (hset : AllSets w0.heap.size w0 sa S)
    (next : ∀ u, Code.wp Ybaf.prog (tailAt 4 (bodyOf Ybaf.f3)) (Good w0) (FR4 (.bool wh) (.int .u8 sem) (.slice sa S sc) (.slice ta tl tc) (.slice za N zc) u) w0) :
    Calls Ybaf.prog 3 #[.bool wh, .int .u8 sem, .slice sa S sc, .slice ta tl tc, .slice za N zc] w0 fun e w' => e = .returned (.bool true) ∧ Below w0.heap.size w0 w' := by
  have HX : Hid (∀ u, Code.wp Ybaf.prog (tailAt 4 (bodyOf Ybaf.f3)) (Good w0) (FR4 (.bool wh) (.int .u8 sem) (.slice sa S sc) (.slice ta tl tc) (.slice za N zc) u) w0) := next
  have HS : Hid (AllSets w0.heap.size w0 sa S) := hset
  clear next hset
  go_enter Ybaf.func3, Ybaf.ntmps3
  change Code.wp Ybaf.prog (bodyOf Ybaf.f3) (Good w0) _ _
  refine step cut0 (fun K hK => ?_)
  conv => arg 2; whnf
  go_wp2
  refine hK.out _ _ ?_
  clear hK K
  refine step cut1 (fun K hK => ?_)
  conv => arg 2; whnf
  go_wp2
  refine hK.out _ _ ?_
  clear hK K
  refine step cut2 (fun K hK => ?_)
  conv => arg 2; whnf
  go_wp2
  refine hK.out _ _ ?_
  clear hK K
  refine step cut3 (fun K hK => ?_)
  conv => arg 2; whnf
  go_wp2
  go_loop [11, 12] (fun t i => ∃ (k : Nat) (q : Int), k ≤ S ∧ i = .int .i64 k ∧ t = .int .i64 q ∧ 0 ≤ q ∧ q ≤ 1048576) (fun _ i => S - (intOf i).toNat)
  case atStart => exact ⟨0, 0, Nat.zero_le _, rfl, rfl, by omega, by omega⟩
  case round =>
    obtain ⟨k, q, hk, rfl, rfl, q0, q1⟩ := hrel
    by_cases hlt : k < S
    · obtain ⟨sb, so, rfl, hsb, hs⟩ := HS.out (by omega)
      obtain ⟨id, sk, ba, bl, bc, bs, hs⟩ := hs k hlt
      have c2 := hs.c2
      have hr := hs.reach
      by_cases hgt : q + bl ≤ 1048576
      · go_wp2
        go_round
        case rel => exact ⟨k + 1, q + bl, by omega, by go_num, by go_num, by omega, by omega⟩
        case measure => simp [intOf]; omega
      · go_wp2
        unfold Good
        go_ret
        exact ⟨rfl, Below.refl _ _⟩
    · go_wp2
      refine hK.out _ _ ?_
      exact frame_to (FR4 (.bool wh) (.int .u8 sem) (.slice sa S sc) (.slice ta tl tc) (.slice za N zc)) (by kernel_rfl) HX.out
end Go.Proofs.YbulkdrwgFmt
