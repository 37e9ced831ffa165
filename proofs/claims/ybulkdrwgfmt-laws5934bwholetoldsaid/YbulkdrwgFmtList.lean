/-
  readRecordList: no template; a template whose records fill the bytes or do not.
-/
import Derived.Test.YbulkdrwgFmtDec
namespace Go.Proofs.YbulkdrwgFmt
open Go.RowKit Go.Extern.Stop Go.Stop Go.Extern
set_option linter.unusedVariables false

theorem bcell {B : Nat} {W w1 : World} (hb : Below B W w1) : (∀ b o, b < B → w1.cell? ⟨b, o, none⟩ = W.cell? ⟨b, o, none⟩) ∧ (∀ b o, b < B → w1.frozen? ⟨b, o, none⟩ = W.frozen? ⟨b, o, none⟩) :=
  ⟨fun b o h => hb.cell (p := ⟨b, o, none⟩) h, fun b o h => hb.frozen (p := ⟨b, o, none⟩) h⟩

/-- A template of one field of m octets at ⟨TA, o⟩, all that it leads to below block B. -/
def Tmpl (B : Nat) (w : World) (TA o : Nat) (m : Int) : Prop :=
  1 ≤ m ∧ m ≤ 8 ∧ TA < B ∧ ∃ fb eb, fb < B ∧ eb < B ∧ w.cell? ⟨TA, o + 1, none⟩ = some (.slice (some ⟨fb, 0, none⟩) 1 1) ∧ w.cell? ⟨TA, o + 2, none⟩ = some (.int .i64 m) ∧ w.cell? ⟨TA, o + 3, none⟩ = some (.bool false) ∧
    w.cell? ⟨fb, 0, none⟩ = some (.pointer (some ⟨eb, 0, none⟩)) ∧ w.cell? ⟨fb, 1, none⟩ = some (.int .u16 m) ∧ w.cell? ⟨fb, 2, none⟩ = some (.string ⟨#[]⟩) ∧ w.cell? ⟨fb, 3, none⟩ = some (.string ⟨#[]⟩) ∧
    w.cell? ⟨eb, 2, none⟩ = some (.string ⟨#[102]⟩)

theorem Tmpl.later {B TA o : Nat} {w w' : World} {m : Int} (h : Tmpl B w TA o m) (hb : Below B w w') : Tmpl B w' TA o m := by
  obtain ⟨m1, m2, hT, fb, eb, hf, he, a, b, c, d, e, f, g, i⟩ := h
  obtain ⟨k, _⟩ := bcell hb
  exact ⟨m1, m2, hT, fb, eb, hf, he, (k _ _ hT).trans a, (k _ _ hT).trans b, (k _ _ hT).trans c, (k _ _ hf).trans d, (k _ _ hf).trans e, (k _ _ hf).trans f, (k _ _ hf).trans g, (k _ _ he).trans i⟩

theorem whole_mod (k : Nat) (q m R : Int) (h : q = k * m) (e : q = R) : R % m = 0 := by rw [← e, h]; exact Int.mul_emod_left _ _
theorem short_mod (k : Nat) (q m R : Int) (h : q = k * m) (h1 : q < R) (h2 : R - q < m) : R % m ≠ 0 := by
  have e : R = R - q + k * m := by rw [← h]; omega
  rw [e, Int.add_mul_emod_self_right, Int.emod_eq_of_lt (by omega) h2]
  omega
theorem next_mul (k : Nat) (q m : Int) (h : q = k * m) : q + m = ((k + 1 : Nat) : Int) * m := by
  rw [h]; push_cast; rw [Int.add_mul]; omega

/-- The number in the cell that a slot points to. -/
def cellAt (v : Value) (w : World) : Nat := match v with | .pointer (some a) => (match w.cell? a with | some (.int _ q) => q.toNat | _ => 0) | _ => 0

/-- The result's cell, still as it was made. -/
theorem resCells {w wr : World} (hb : Below (w.heap.size + 1) (w.alloc (.cells #[.int .u16 0, .pointer none, .slice none 0 0] 52)) wr) :
    wr.cell? ⟨w.heap.size, 0, none⟩ = some (.int .u16 0) ∧ wr.cell? ⟨w.heap.size, 1, none⟩ = some (.pointer none) ∧ wr.cell? ⟨w.heap.size, 2, none⟩ = some (.slice none 0 0) ∧ ∀ o, wr.frozen? ⟨w.heap.size, o, none⟩ = false := by
  obtain ⟨hc, hf⟩ := bcell hb
  refine ⟨?_, ?_, ?_, fun o => ?_⟩
  · rw [hc _ _ (by omega), World.cell?_alloc_at _ _ _ _ rfl]; rfl
  · rw [hc _ _ (by omega), World.cell?_alloc_at _ _ _ _ rfl]; rfl
  · rw [hc _ _ (by omega), World.cell?_alloc_at _ _ _ _ rfl]; rfl
  · rw [hf _ _ (by omega), World.frozen?_alloc_at _ _ _ _ rfl]

theorem list_nil (id : Int) (ra : Option Addr) (R rc : Nat) (w : World) :
    Calls Ybaf.prog 7 #[.int .u16 id, .pointer none, .slice ra R rc] w fun e w' => e = .returned (.tuple #[.agg #[.int .u16 0, .pointer none, .slice none 0 0], .bool false]) ∧ Below w.heap.size w w' := by
  go_enter Ybaf.func7, Ybaf.ntmps7
  go_wp2
  exact bodyPost_ret (v := .tuple #[.agg #[.int .u16 0, .pointer none, .slice none 0 0], .bool false]) (by simp [results, Ybaf.results7, go_sem]) rfl ⟨rfl, (Below.refl _ _).alloc (Nat.le_refl _) _⟩

set_option maxRecDepth 100000 in
set_option maxHeartbeats 1000000 in
theorem list_some (F : Interp) (hS : Speaks F) (id m : Int) (TA o : Nat) (ra : Option Addr) (R rc : Nat) (w : World) (hF : F.answers w.tape) (T : Tmpl w.heap.size w TA o m) (hR : R ≤ 1000000000) :
    Calls Ybaf.prog 7 #[.int .u16 id, .pointer (some ⟨TA, o, none⟩), .slice ra R rc] w fun e w' =>
      (((R : Int) % m = 0 ∧ e = .returned (.tuple #[.agg #[.int .u16 id, .pointer (some ⟨TA, o, none⟩), .slice ra R rc], .bool true])) ∨
       ((R : Int) % m ≠ 0 ∧ e = .returned (.tuple #[.agg #[.int .u16 0, .pointer none, .slice none 0 0], .bool false]))) ∧ Below w.heap.size w w' := by
  go_enter Ybaf.func7, Ybaf.ntmps7
  go_wp2
  have hm := T.1
  have hm8 := T.2.1
  have hTA := T.2.2.1
  go_loopw [8] (fun v wr => ∃ (pb k : Nat) (q : Int), v = .pointer (some ⟨pb, 0, none⟩) ∧ Hid (q = k * m) ∧ 0 ≤ q ∧ q ≤ R ∧ wr.cell? ⟨pb, 0, none⟩ = some (.int .i64 q) ∧ wr.frozen? ⟨pb, 0, none⟩ = false ∧ w.heap.size + 1 ≤ pb ∧ pb < wr.heap.size ∧
      Below (w.heap.size + 1) (w.alloc (.cells #[.int .u16 0, .pointer none, .slice none 0 0] 52)) wr) (fun v wr => R - cellAt v wr)
  case atStart =>
    exact ⟨w.heap.size + 1, 0, 0, rfl, (by show (0 : Int) = _; simp), by omega, by omega, by go_simp, by go_simp, Nat.le_refl _, by simp, (Below.refl _ _).alloc (by simp) _⟩
  case round =>
    obtain ⟨pb, k, q, rfl, Hq, q0, q1, pq, pf, hpb, hpb2, hbel⟩ := hrel
    have hbw : Below w.heap.size w wr := ((Below.refl _ w).alloc (Nat.le_refl _) _).trans (hbel.mono (by omega))
    have hFr : F.answers wr.tape := by rw [hbw.tape]; exact hF
    have Tr := T.later hbw
    by_cases hq : q < R
    · by_cases hfit : m ≤ (R : Int) - q
      · obtain ⟨_, _, _, fb, eb, hfb, heb, t1, t2, t3, f0, f1, f2, f3, e2⟩ := Tr
        go_wp2_with (go_at_call 8; refine (record_whole TA o pb R rc ra q m _ (by exact t2) (by exact t3) (by exact pq) (by exact pf) (by have := hbw.size; omega) (by exact hpb2) (by omega) q0 (by omega) hfit hm hm8 hR).mono ?_; rintro e w1 ⟨rfl, nd, rfl⟩)
        have hs1 : ∀ X : World, (X.drewN nd).heap.size = X.heap.size := fun _ => rfl
        have hs2 : (wr.setCell ⟨pb, 0, none⟩ (.int .i64 (q + m))).heap.size = wr.heap.size := by simp [World.setCell]
        have hb2 : Below (w.heap.size + 1) (w.alloc (.cells #[.int .u16 0, .pointer none, .slice none 0 0] 52)) ((wr.setCell ⟨pb, 0, none⟩ (.int .i64 (q + m))).drewN nd) := below_drewN (hbel.setCell hpb _) _
        have hsz := hbel.size
        simp only [World.size_alloc] at hsz
        go_roundw
        case rel =>
          exact ⟨wr.heap.size, k + 1, q + m, rfl, next_mul k q m Hq.out, by omega, by omega, by rw [World.cell?_alloc_at _ _ _ _ (by rw [hs1, hs2])]; rfl, World.frozen?_alloc_at _ _ _ _ (by rw [hs1, hs2]), hsz, by rw [World.size_alloc, hs1, hs2]; omega, hb2.alloc (by rw [hs1, hs2]; exact hsz) _⟩
        case measure =>
          have e1 : (((wr.setCell ⟨pb, 0, none⟩ (.int .i64 (q + m))).drewN nd).alloc (.cells #[.int .i64 (q + m)] 3)).cell? ⟨wr.heap.size, 0, none⟩ = some (.int .i64 (q + m)) := by rw [World.cell?_alloc_at _ _ _ _ (by rw [hs1, hs2])]; rfl
          simp only [cellAt, e1, pq]
          omega
      · obtain ⟨_, _, _, fb, eb, hfb, heb, t1, t2, t3, f0, f1, f2, f3, e2⟩ := Tr
        have hsz := hbw.size
        have hsp := hS m hm hm8
        have hR1 := short_mod k q m R Hq.out hq (by omega)
        go_wp2_with fail
        refine (record_short F TA o fb eb pb R rc ra q m _ (by exact hFr) (by exact t1) (by exact t2) (by exact t3) (by exact f0) (by exact f1) (by exact f2) (by exact f3) (by exact e2) (by exact pq) (by omega) (by omega) (by omega) (by exact hpb2) q0 (by omega) (by omega) hm hm8 hR).mono ?_
        rintro e w1 ⟨rfl, hb1⟩
        have hb2 := hbel.trans (hb1.mono (by have := hbel.size; simpa using this))
        obtain ⟨r0, r1, r2, rf⟩ := resCells hb2
        have hb3 : Below w.heap.size w w1 := ((Below.refl _ w).alloc (Nat.le_refl _) _).trans (hb2.mono (by omega))
        go_wp2
        refine bodyPost_ret (v := .tuple #[.agg #[.int .u16 0, .pointer none, .slice none 0 0], .bool false]) (by simp [results, Ybaf.results7, go_sem, r0, r1, r2]) rfl ⟨.inr ⟨hR1, rfl⟩, ?_⟩
        exact ((hb3.setCell (by simp) _).setCell (by simp) _).setCell (by simp) _
    · obtain ⟨r0, r1, r2, rf⟩ := resCells hbel
      go_wp2
      have hR1 := whole_mod k q m R Hq.out (by omega)
      refine bodyPost_ret (v := .tuple #[.agg #[.int .u16 id, .pointer (some ⟨TA, o, none⟩), .slice ra R rc], .bool true]) (by simp [results, Ybaf.results7, go_sem, r0, r1, r2]) rfl ⟨.inl ⟨hR1, rfl⟩, ?_⟩
      exact ((hbw.setCell (by simp) _).setCell (by simp) _).setCell (by simp) _
end Go.Proofs.YbulkdrwgFmt
