/-
  (*RR).NegativeTTL and (*Zone).negativeSOA.
-/
import Derived.Test.YbulkdrveLeaf
import Derived.Deep.RegionHeld3
namespace Go.Proofs.Ybulkdrve
open Go.RowKit

theorem bcell {W w1 : World} (hb : Below W.heap.size W w1) : (∀ b o, b < W.heap.size → w1.cell? ⟨b, o, none⟩ = W.cell? ⟨b, o, none⟩) ∧ (∀ b o, b < W.heap.size → w1.frozen? ⟨b, o, none⟩ = W.frozen? ⟨b, o, none⟩) :=
  ⟨fun b o h => hb.cell (p := ⟨b, o, none⟩) h, fun b o h => hb.frozen (p := ⟨b, o, none⟩) h⟩

/-- The smaller of the two, as Go's min reckons it. -/
def lesser (a b : Int) : Int := if b < a then b else a

set_option maxHeartbeats 1000000 in
theorem neg_any (bz k b m cap : Nat) (ttl : Int) (x0 x1 x2 x3 : Int) (w : World) (hcap : m + 4 ≤ cap) (hn : m ≤ 2000000)
   (t0 : w.cell? ⟨bz, k + 3, none⟩ = some (.int .u32 ttl)) (t1 : w.cell? ⟨bz, k + 4, none⟩ = some (.slice (some ⟨b, 0, none⟩) (m + 4) cap)) (hbz : bz < w.heap.size)
   (c0 : w.cell? ⟨b, m, none⟩ = some (.int .u8 x0)) (c1 : w.cell? ⟨b, m + 1, none⟩ = some (.int .u8 x1)) (c2 : w.cell? ⟨b, m + 2, none⟩ = some (.int .u8 x2)) (c3 : w.cell? ⟨b, m + 3, none⟩ = some (.int .u8 x3)) (hb : b < w.heap.size)
   (p0 : 0 ≤ x0) (q0 : x0 ≤ 255) (p1 : 0 ≤ x1) (q1 : x1 ≤ 255) (p2 : 0 ≤ x2) (q2 : x2 ≤ 255) (p3 : 0 ≤ x3) (q3 : x3 ≤ 255) :
    Calls Yba.prog 7 #[.pointer (some ⟨bz, k, none⟩)] w fun e w' => e = .returned (.int .u32 (lesser ttl (be x0 x1 x2 x3))) ∧ Below w.heap.size w w' := by
  have hne : ¬ cap = m := by omega
  have e1 : ((m : Int) + 4 - 4) = m := by omega
  have e2 : IntKind.i64.wrap (m : Int) = m := by rw [IntKind.wrap_i64]; omega
  have e3 : m + 4 - m = 4 := by omega
  have e4 : (m : Int) ≤ (m : Int) + 4 := by omega
  have e5 : (0 : Int) ≤ (m : Int) := by omega
  go_enter Yba.func7, Yba.ntmps7
  go_wp2
  go_region_held3 (fun w' => w'.cell? ⟨bz, k + 3, none⟩ = some (.int .u32 ttl) ∧ w'.cell? ⟨bz, k + 4, none⟩ = some (.slice (some ⟨b, 0, none⟩) (m + 4) cap)) (go_keep)
    (first | (go_at_call 8; refine (u32_any _ _ _ _ x0 x1 x2 x3 _ (by omega) (by exact c0) (by exact c1) (by exact c2) (by exact c3) (by exact hb) p0 q0 p1 q1 p2 q2 p3 q3).mono ?_; rintro e w1 ⟨rfl, hb1⟩; have t0' : w1.cell? ⟨bz, k + 3, none⟩ = some (.int .u32 ttl) := (hb1.cell (by exact hbz)).trans t0; have t1' : w1.cell? ⟨bz, k + 4, none⟩ = some (.slice (some ⟨b, 0, none⟩) (m + 4) cap) := (hb1.cell (by exact hbz)).trans t1))
  go_wp2
  · have hlt : be x0 x1 x2 x3 < ttl := by assumption
    go_ret
    exact ⟨ret_int (by rw [lesser, if_pos hlt]), (Below.refl _ _).drew.trans hb1⟩
  · go_ret
    exact ⟨ret_int (by rw [lesser, if_neg (by omega)]), (Below.refl _ _).drew.trans hb1⟩

set_option maxHeartbeats 1000000 in
theorem soa_any (bz b m cap : Nat) (nm : ByteArray) (typ cls ttl : Int) (x0 x1 x2 x3 : Int) (w : World) (hcap : m + 4 ≤ cap) (hn : m ≤ 2000000)
   (z2 : w.cell? ⟨bz, 2, none⟩ = some (.string nm)) (z3 : w.cell? ⟨bz, 3, none⟩ = some (.int .u16 typ)) (z4 : w.cell? ⟨bz, 4, none⟩ = some (.int .u16 cls)) (z5 : w.cell? ⟨bz, 5, none⟩ = some (.int .u32 ttl))
   (z6 : w.cell? ⟨bz, 6, none⟩ = some (.slice (some ⟨b, 0, none⟩) (m + 4) cap)) (hbz : bz < w.heap.size)
   (c0 : w.cell? ⟨b, m, none⟩ = some (.int .u8 x0)) (c1 : w.cell? ⟨b, m + 1, none⟩ = some (.int .u8 x1)) (c2 : w.cell? ⟨b, m + 2, none⟩ = some (.int .u8 x2)) (c3 : w.cell? ⟨b, m + 3, none⟩ = some (.int .u8 x3)) (hb : b < w.heap.size)
   (p0 : 0 ≤ x0) (q0 : x0 ≤ 255) (p1 : 0 ≤ x1) (q1 : x1 ≤ 255) (p2 : 0 ≤ x2) (q2 : x2 ≤ 255) (p3 : 0 ≤ x3) (q3 : x3 ≤ 255) :
    Calls Yba.prog 4 #[.pointer (some ⟨bz, 0, none⟩)] w fun e w' => e = .returned (.agg #[.string nm, .int .u16 typ, .int .u16 cls, .int .u32 (lesser ttl (be x0 x1 x2 x3)), .slice (some ⟨b, 0, none⟩) (m + 4) cap]) ∧ Below w.heap.size w w' := by
  have b1 : bz < w.heap.size + 1 := by omega
  have b2 : bz < w.heap.size + 1 + 1 := by omega
  have b3 : b < w.heap.size + 1 := by omega
  have b4 : b < w.heap.size + 1 + 1 := by omega
  go_enter Yba.func4, Yba.ntmps4
  go_wp2_with fail
  refine (neg_any _ 0 b m cap ttl x0 x1 x2 x3 _ hcap hn (by go_simp) (by go_simp) (by simp) (by go_simp) (by go_simp) (by go_simp) (by go_simp) (by simp; omega) p0 q0 p1 q1 p2 q2 p3 q3).mono ?_
  rintro e w1 ⟨rfl, hb1⟩
  obtain ⟨hc, hf⟩ := bcell hb1
  have hz := hb1.size
  simp only [World.size_alloc] at hz
  go_wp2
  have hbel : Below w.heap.size w w1 := (((Below.refl _ w).alloc (Nat.le_refl _) _).alloc (by simp) _).trans (hb1.mono (by simp; omega))
  have q := fun o => hc w.heap.size o (by simp; omega)
  refine bodyPost_ret (v := .agg #[.string nm, .int .u16 typ, .int .u16 cls, .int .u32 (lesser ttl (be x0 x1 x2 x3)), .slice (some ⟨b, 0, none⟩) (m + 4) cap]) (by simp [results, Yba.results4, go_sem, q]) rfl ⟨rfl, ?_⟩
  exact (((((hbel.setCell (by simp) _).setCell (by simp) _).setCell (by simp) _).setCell (by simp) _).setCell (by simp) _).setCell (by simp) _
end Go.Proofs.Ybulkdrve
