/-
  (*Template).decodeFields where the one field runs past the data; (*Template).decodeRecord: both ways.
-/
import Derived.Test.YbulkdrwgFmtLeaf
import Derived.LoopTactic
namespace Go.Proofs.YbulkdrwgFmt
open Go.RowKit Go.Extern.Stop Go.Stop Go.Extern
set_option linter.unusedVariables false
attribute [local go_sem] call11 guardOk fmt0 fmt0r op3_100 op9_115

set_option maxRecDepth 100000 in
set_option maxHeartbeats 1000000 in
theorem fields_short (F : Interp) (TA o fb eb pb dl dc : Nat) (da : Option Addr) (q m : Int) (w : World) (hF : F.answers w.tape)
    (t1 : w.cell? ⟨TA, o + 1, none⟩ = some (.slice (some ⟨fb, 0, none⟩) 1 1))
    (f0 : w.cell? ⟨fb, 0, none⟩ = some (.pointer (some ⟨eb, 0, none⟩))) (f1 : w.cell? ⟨fb, 1, none⟩ = some (.int .u16 m)) (f2 : w.cell? ⟨fb, 2, none⟩ = some (.string ⟨#[]⟩)) (f3 : w.cell? ⟨fb, 3, none⟩ = some (.string ⟨#[]⟩))
    (e2 : w.cell? ⟨eb, 2, none⟩ = some (.string ⟨#[102]⟩)) (pq : w.cell? ⟨pb, 0, none⟩ = some (.int .i64 q))
    (hTA : TA < w.heap.size) (hfb : fb < w.heap.size) (heb : eb < w.heap.size) (hpb : pb < w.heap.size)
    (q0 : 0 ≤ q) (q1 : q ≤ dl) (q2 : (dl : Int) - q < m) (m1 : 1 ≤ m) (m2 : m ≤ 8) (hdl : dl ≤ 1000000000) :
    Calls Ybaf.prog 9 #[.pointer (some ⟨TA, o, none⟩), .slice da dl dc, .pointer (some ⟨pb, 0, none⟩), .slice none 0 0, .int .i64 1] w fun e w' => e = .returned (.string (FmtStop.textOf (F "fmt.Sprintf" (reading m) 0))) ∧ Below w.heap.size w w' := by
  have hF' := answers_open hF
  have hne : (m == 65535) = false := by rw [beq_eq_false_iff_ne]; omega
  go_enter Ybaf.func9, Ybaf.ntmps9
  go_wp2
  refine wp_loop_rounds 1 ?_
  rw [rounds_succ]
  go_wp2
  go_ret
  exact ⟨rfl, by repeat (first | exact Below.refl _ _ | apply Below.drew | (refine Below.alloc ?_ (by simp) _))⟩

set_option maxRecDepth 100000 in
set_option maxHeartbeats 1000000 in
theorem record_whole (TA o pb dl dc : Nat) (da : Option Addr) (q m : Int) (w : World)
    (t2 : w.cell? ⟨TA, o + 2, none⟩ = some (.int .i64 m)) (t3 : w.cell? ⟨TA, o + 3, none⟩ = some (.bool false))
    (pq : w.cell? ⟨pb, 0, none⟩ = some (.int .i64 q)) (pf : w.frozen? ⟨pb, 0, none⟩ = false)
    (hTA : TA < w.heap.size) (hpb : pb < w.heap.size) (hne : TA ≠ pb)
    (q0 : 0 ≤ q) (q1 : q ≤ dl) (q2 : m ≤ (dl : Int) - q) (m1 : 1 ≤ m) (m2 : m ≤ 8) (hdl : dl ≤ 1000000000) :
    Calls Ybaf.prog 8 #[.pointer (some ⟨TA, o, none⟩), .slice da dl dc, .pointer (some ⟨pb, 0, none⟩), .slice none 0 0] w fun e w' => e = .returned (.string ⟨#[]⟩) ∧ ∃ n, w' = (w.setCell ⟨pb, 0, none⟩ (.int .i64 (q + m))).drewN n := by
  have q62 : ∀ (w : World) (a : Option Addr) (n c n' c' : Nat), (binOp .eql 62 (.slice a n c) (.slice none n' c')).run Ybaf.prog w = .ok (.bool a.isNone) w := fun w a n c n' c' => Lib.run_eql_slice_nil w _ _ a n c n' c' Ybaf.underlying62
  go_enter Ybaf.func8, Ybaf.ntmps8
  go_wp2
  go_quiet (fail)
  go_wp2
  go_region
  go_wp2
  go_ret
  exact ⟨rfl, _, rfl⟩

set_option maxRecDepth 100000 in
set_option maxHeartbeats 1000000 in
theorem record_short (F : Interp) (TA o fb eb pb dl dc : Nat) (da : Option Addr) (q m : Int) (w : World) (hF : F.answers w.tape)
    (t1 : w.cell? ⟨TA, o + 1, none⟩ = some (.slice (some ⟨fb, 0, none⟩) 1 1)) (t2 : w.cell? ⟨TA, o + 2, none⟩ = some (.int .i64 m)) (t3 : w.cell? ⟨TA, o + 3, none⟩ = some (.bool false))
    (f0 : w.cell? ⟨fb, 0, none⟩ = some (.pointer (some ⟨eb, 0, none⟩))) (f1 : w.cell? ⟨fb, 1, none⟩ = some (.int .u16 m)) (f2 : w.cell? ⟨fb, 2, none⟩ = some (.string ⟨#[]⟩)) (f3 : w.cell? ⟨fb, 3, none⟩ = some (.string ⟨#[]⟩))
    (e2 : w.cell? ⟨eb, 2, none⟩ = some (.string ⟨#[102]⟩)) (pq : w.cell? ⟨pb, 0, none⟩ = some (.int .i64 q))
    (hTA : TA < w.heap.size) (hfb : fb < w.heap.size) (heb : eb < w.heap.size) (hpb : pb < w.heap.size)
    (q0 : 0 ≤ q) (q1 : q ≤ dl) (q2 : (dl : Int) - q < m) (m1 : 1 ≤ m) (m2 : m ≤ 8) (hdl : dl ≤ 1000000000) :
    Calls Ybaf.prog 8 #[.pointer (some ⟨TA, o, none⟩), .slice da dl dc, .pointer (some ⟨pb, 0, none⟩), .slice none 0 0] w fun e w' => e = .returned (.string (FmtStop.textOf (F "fmt.Sprintf" (reading m) 0))) ∧ Below w.heap.size w w' := by
  have q62 : ∀ (w : World) (a : Option Addr) (n c n' c' : Nat), (binOp .eql 62 (.slice a n c) (.slice none n' c')).run Ybaf.prog w = .ok (.bool a.isNone) w := fun w a n c n' c' => Lib.run_eql_slice_nil w _ _ a n c n' c' Ybaf.underlying62
  have hd : decide (m ≤ (dl : Int) - q) = false := by rw [decide_eq_false_iff_not]; omega
  go_enter Ybaf.func8, Ybaf.ntmps8
  go_wp2
  go_quiet (fail)
  go_wp2_with (go_at_call 9; refine (fields_short F TA o fb eb pb dl dc da q m _ (by exact hF) (by exact t1) (by exact f0) (by exact f1) (by exact f2) (by exact f3) (by exact e2) (by exact pq) (by exact hTA) (by exact hfb) (by exact heb) (by exact hpb) q0 q1 q2 m1 m2 hdl).mono ?_; rintro e w1 ⟨rfl, hb1⟩)
  go_ret
  exact ⟨rfl, (below_drewN (Below.refl _ _) _).trans hb1⟩
end Go.Proofs.YbulkdrwgFmt
