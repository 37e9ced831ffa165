/-
  The law's walk, part 2: the templates are made.
-/
import Derived.Test.YbulkdrwgFmtState
namespace Go.Proofs.YbulkdrwgFmt
open Go.RowKit
set_option linter.unusedVariables false
theorem Ybaf.info40 : (Ybaf.prog.info? 40).map (fun i => (i.zero, i.size, i.bytes)) = some (some (.agg #[.bool false, .slice none 0 0, .int .i64 0, .bool false, .bool false, .pointer none]), 6, 56) := by kernel_rfl

/-- The first k templates are made; A: the row's block, A + 1: its box. -/
structure Mk (A : Nat) (w0 wr : World) (N : Nat) (sz : List Int) (k : Nat) : Prop where
  bel : Below A w0 wr
  box : wr.cell? ⟨A + 1, 0, none⟩ = some (.slice (some ⟨A, 0, none⟩) N N)
  lt : A + 2 ≤ wr.heap.size
  there : ∀ o, o < N * 6 → ∃ v, wr.cell? ⟨A, o, none⟩ = some v
  froz : ∀ o, wr.frozen? ⟨A, o, none⟩ = false
  tm : ∀ j, j < k → 1 ≤ octets sz j ∧ octets sz j ≤ 8 ∧ ∃ fb eb, A + 2 ≤ fb ∧ fb < wr.heap.size ∧ A + 2 ≤ eb ∧ eb < wr.heap.size ∧ wr.cell? ⟨A, j * 6 + 1, none⟩ = some (.slice (some ⟨fb, 0, none⟩) 1 1) ∧ wr.cell? ⟨A, j * 6 + 2, none⟩ = some (.int .i64 (octets sz j)) ∧ wr.cell? ⟨A, j * 6 + 3, none⟩ = some (.bool false) ∧
    wr.cell? ⟨fb, 0, none⟩ = some (.pointer (some ⟨eb, 0, none⟩)) ∧ wr.cell? ⟨fb, 1, none⟩ = some (.int .u16 (octets sz j)) ∧ wr.cell? ⟨fb, 2, none⟩ = some (.string ⟨#[]⟩) ∧ wr.cell? ⟨fb, 3, none⟩ = some (.string ⟨#[]⟩) ∧
    wr.cell? ⟨eb, 2, none⟩ = some (.string ⟨#[102]⟩)

theorem c_other (w : World) (A o o' : Nat) (v : Value) (h : o ≠ o') : (w.setCell ⟨A, o, none⟩ v).cell? ⟨A, o', none⟩ = w.cell? ⟨A, o', none⟩ :=
  World.cell?_setCell_other _ _ _ _ (fun e => h (congrArg Addr.off e))
theorem c_far (w : World) (A b o o' : Nat) (v : Value) (h : b ≠ A) : (w.setCell ⟨A, o, none⟩ v).cell? ⟨b, o', none⟩ = w.cell? ⟨b, o', none⟩ :=
  World.cell?_of_block (a := ⟨b, o', none⟩) (Below.heap_setCell _ _ _ _ h)
/-- Six cells laid in a row. -/
def set6 (w : World) (A o : Nat) (a b c d e f : Value) : World :=
  (((((w.setCell ⟨A, o, none⟩ a).setCell ⟨A, o + 1, none⟩ b).setCell ⟨A, o + 2, none⟩ c).setCell ⟨A, o + 3, none⟩ d).setCell ⟨A, o + 4, none⟩ e).setCell ⟨A, o + 5, none⟩ f
section
variable {w : World} {A o : Nat} {a b c d e f : Value}
theorem set6_size : (set6 w A o a b c d e f).heap.size = w.heap.size := by simp [set6]
theorem set6_far {g o' : Nat} (h : g ≠ A) : (set6 w A o a b c d e f).cell? ⟨g, o', none⟩ = w.cell? ⟨g, o', none⟩ := by
  unfold set6
  rw [c_far _ _ _ _ _ _ h, c_far _ _ _ _ _ _ h, c_far _ _ _ _ _ _ h, c_far _ _ _ _ _ _ h, c_far _ _ _ _ _ _ h, c_far _ _ _ _ _ _ h]
theorem set6_out {o' : Nat} (h : o' < o ∨ o + 6 ≤ o') : (set6 w A o a b c d e f).cell? ⟨A, o', none⟩ = w.cell? ⟨A, o', none⟩ := by
  unfold set6
  rw [c_other _ _ _ _ _ (by omega), c_other _ _ _ _ _ (by omega), c_other _ _ _ _ _ (by omega), c_other _ _ _ _ _ (by omega), c_other _ _ _ _ _ (by omega), c_other _ _ _ _ _ (by omega)]
theorem set6_frozen (x : Addr) : (set6 w A o a b c d e f).frozen? x = w.frozen? x := by
  unfold set6
  rw [World.frozen?_setCell, World.frozen?_setCell, World.frozen?_setCell, World.frozen?_setCell, World.frozen?_setCell, World.frozen?_setCell]
theorem set6_some {o' : Nat} {v : Value} (h : w.cell? ⟨A, o', none⟩ = some v) : ∃ v', (set6 w A o a b c d e f).cell? ⟨A, o', none⟩ = some v' := by
  unfold set6
  obtain ⟨v1, h1⟩ := cell?_setCell_some (p := ⟨A, o, none⟩) (x := a) h
  obtain ⟨v2, h2⟩ := cell?_setCell_some (p := ⟨A, o + 1, none⟩) (x := b) h1
  obtain ⟨v3, h3⟩ := cell?_setCell_some (p := ⟨A, o + 2, none⟩) (x := c) h2
  obtain ⟨v4, h4⟩ := cell?_setCell_some (p := ⟨A, o + 3, none⟩) (x := d) h3
  obtain ⟨v5, h5⟩ := cell?_setCell_some (p := ⟨A, o + 4, none⟩) (x := e) h4
  exact cell?_setCell_some (p := ⟨A, o + 5, none⟩) (x := f) h5
theorem set6_1 {v : Value} (h : w.cell? ⟨A, o + 1, none⟩ = some v) : (set6 w A o a b c d e f).cell? ⟨A, o + 1, none⟩ = some b := by
  unfold set6
  rw [c_other _ _ _ _ _ (by omega), c_other _ _ _ _ _ (by omega), c_other _ _ _ _ _ (by omega), c_other _ _ _ _ _ (by omega)]
  exact World.cell?_setCell_same _ _ _ (u := v) (by rw [c_other _ _ _ _ _ (by omega)]; exact h)
theorem set6_2 {v : Value} (h : w.cell? ⟨A, o + 2, none⟩ = some v) : (set6 w A o a b c d e f).cell? ⟨A, o + 2, none⟩ = some c := by
  unfold set6
  rw [c_other _ _ _ _ _ (by omega), c_other _ _ _ _ _ (by omega), c_other _ _ _ _ _ (by omega)]
  exact World.cell?_setCell_same _ _ _ (u := v) (by rw [c_other _ _ _ _ _ (by omega), c_other _ _ _ _ _ (by omega)]; exact h)
theorem set6_3 {v : Value} (h : w.cell? ⟨A, o + 3, none⟩ = some v) : (set6 w A o a b c d e f).cell? ⟨A, o + 3, none⟩ = some d := by
  unfold set6
  rw [c_other _ _ _ _ _ (by omega), c_other _ _ _ _ _ (by omega)]
  exact World.cell?_setCell_same _ _ _ (u := v) (by rw [c_other _ _ _ _ _ (by omega), c_other _ _ _ _ _ (by omega), c_other _ _ _ _ _ (by omega)]; exact h)
theorem set6_below {B : Nat} {w0 : World} (h : Below B w0 w) (hB : B ≤ A) : Below B w0 (set6 w A o a b c d e f) :=
  (((((h.setCell hB _).setCell hB _).setCell hB _).setCell hB _).setCell hB _).setCell hB _
end

/-- One template more. -/
theorem mk_next {A N k : Nat} {w0 wr : World} {sz : List Int} {z : Int} (h : Mk A w0 wr N sz k) (hk : k < N) (hA : A = w0.heap.size) (ho : octets sz k = z % 8 + 1) :
    Mk A w0 (((set6 wr A (k * 6) (.bool false) (.slice (some ⟨wr.heap.size + 1, 0, none⟩) 1 1) (.int .i64 (z % 8 + 1)) (.bool false) (.bool false) (.pointer none)).alloc (.cells #[.int .u32 0, .int .u16 0, .string ⟨#[102]⟩, .int .i64 0, .map none] 34)).alloc
      (.cells #[.pointer (some ⟨wr.heap.size, 0, none⟩), .int .u16 (z % 8 + 1), .string ⟨#[]⟩, .string ⟨#[]⟩] 36)) N sz (k + 1) := by
  have hl := h.lt
  obtain ⟨X, hX⟩ : ∃ X, X = set6 wr A (k * 6) (.bool false) (.slice (some ⟨wr.heap.size + 1, 0, none⟩) 1 1) (.int .i64 (z % 8 + 1)) (.bool false) (.bool false) (.pointer none) := ⟨_, rfl⟩
  have hs : X.heap.size = wr.heap.size := by rw [hX, set6_size]
  have hfar : ∀ g o', g ≠ A → X.cell? ⟨g, o', none⟩ = wr.cell? ⟨g, o', none⟩ := fun g o' hg => by rw [hX]; exact set6_far hg
  have hout : ∀ o', o' < k * 6 ∨ k * 6 + 6 ≤ o' → X.cell? ⟨A, o', none⟩ = wr.cell? ⟨A, o', none⟩ := fun o' hg => by rw [hX]; exact set6_out hg
  obtain ⟨t1, h1⟩ := h.there (k * 6 + 1) (by omega)
  obtain ⟨t2, h2⟩ := h.there (k * 6 + 2) (by omega)
  obtain ⟨t3, h3⟩ := h.there (k * 6 + 3) (by omega)
  have s1 : X.cell? ⟨A, k * 6 + 1, none⟩ = some (.slice (some ⟨wr.heap.size + 1, 0, none⟩) 1 1) := by rw [hX]; exact set6_1 h1
  have s2 : X.cell? ⟨A, k * 6 + 2, none⟩ = some (.int .i64 (z % 8 + 1)) := by rw [hX]; exact set6_2 h2
  have s3 : X.cell? ⟨A, k * 6 + 3, none⟩ = some (.bool false) := by rw [hX]; exact set6_3 h3
  have hbX : Below A w0 X := by rw [hX]; exact set6_below h.bel (Nat.le_refl _)
  have hfz : ∀ o, X.frozen? ⟨A, o, none⟩ = false := fun o => by rw [hX, set6_frozen]; exact h.froz o
  have hth : ∀ o, o < N * 6 → ∃ v, X.cell? ⟨A, o, none⟩ = some v := fun o ho => by
    obtain ⟨v, hv⟩ := h.there o ho
    rw [hX]; exact set6_some hv
  rw [← hX]
  clear hX
  have old : ∀ (O O' : Obj) b o', b < wr.heap.size → ((X.alloc O).alloc O').cell? ⟨b, o', none⟩ = X.cell? ⟨b, o', none⟩ := fun O O' b o' hb => by
    rw [World.cell?_alloc_past _ _ _ (by simp; omega), World.cell?_alloc_past _ _ _ (by omega)]
  refine ⟨(hbX.alloc (by omega) _).alloc (by simp; omega) _, ?_, by simp; omega, ?_, ?_, ?_⟩
  · rw [old _ _ _ _ (by omega), hfar _ _ (by omega)]; exact h.box
  · intro o ho
    rw [old _ _ _ _ (by omega)]; exact hth o ho
  · intro o
    rw [World.frozen?_alloc_past _ _ _ (by simp; omega), World.frozen?_alloc_past _ _ _ (by omega)]; exact hfz o
  · intro j hj
    by_cases hjk : j < k
    · obtain ⟨m1, m2, fb, eb, f1, f2, e1, e2, a, b, c, d, e, f, g, i⟩ := h.tm j hjk
      refine ⟨m1, m2, fb, eb, f1, by simp; omega, e1, by simp; omega, ?_, ?_, ?_, ?_, ?_, ?_, ?_, ?_⟩
      · rw [old _ _ _ _ (by omega), hout _ (by omega)]; exact a
      · rw [old _ _ _ _ (by omega), hout _ (by omega)]; exact b
      · rw [old _ _ _ _ (by omega), hout _ (by omega)]; exact c
      · rw [old _ _ _ _ (by omega), hfar _ _ (by omega)]; exact d
      · rw [old _ _ _ _ (by omega), hfar _ _ (by omega)]; exact e
      · rw [old _ _ _ _ (by omega), hfar _ _ (by omega)]; exact f
      · rw [old _ _ _ _ (by omega), hfar _ _ (by omega)]; exact g
      · rw [old _ _ _ _ (by omega), hfar _ _ (by omega)]; exact i
    · obtain rfl : j = k := by omega
      rw [ho]
      refine ⟨by omega, by omega, wr.heap.size + 1, wr.heap.size, by omega, by simp; omega, by omega, by simp; omega, ?_, ?_, ?_, ?_, ?_, ?_, ?_, ?_⟩
      · rw [old _ _ _ _ (by omega)]; exact s1
      · rw [old _ _ _ _ (by omega)]; exact s2
      · rw [old _ _ _ _ (by omega)]; exact s3
      · rw [World.cell?_alloc_at _ _ _ _ (by simp; omega)]; rfl
      · rw [World.cell?_alloc_at _ _ _ _ (by simp; omega)]; rfl
      · rw [World.cell?_alloc_at _ _ _ _ (by simp; omega)]; rfl
      · rw [World.cell?_alloc_at _ _ _ _ (by simp; omega)]; rfl
      · rw [World.cell?_alloc_past _ _ _ (by simp; omega), World.cell?_alloc_at _ _ _ _ (by omega)]; rfl

theorem mk_done {A N : Nat} {w0 wr : World} {sz : List Int} (h : Mk A w0 wr N sz N) (hN : N = sz.length) : Tmpls wr.heap.size wr (A + 1) A sz := by
  have hl := h.lt
  refine ⟨by omega, by rw [← hN]; exact h.box, fun j hj => ?_⟩
  obtain ⟨m1, m2, fb, eb, f1, f2, e1, e2, r⟩ := h.tm j (by omega)
  exact ⟨m1, m2, by omega, fb, eb, f2, e2, r⟩

set_option maxRecDepth 100000 in
set_option maxHeartbeats 1000000 in
theorem part2 (wh : Bool) (sem : Int) (sa ta za : Option Addr) (S tl sc tc zc : Nat) (sz : List Int) (w0 : World) (u : Nat → Value) (hN : sz.length ≤ 4096) (hsz : Sizes w0.heap.size w0 za sz)
    (next : ∀ (w : World) (TB TA : Nat), Below w0.heap.size w0 w → Tmpls w.heap.size w TB TA sz → ∀ u, Code.wp Ybaf.prog (tailAt 6 (bodyOf Ybaf.f3)) (Good w0) (FR6 (.bool wh) (.int .u8 sem) (.slice sa S sc) (.slice ta tl tc) (.slice za sz.length zc) (.pointer (some ⟨TB, 0, none⟩)) u) w) :
    Code.wp Ybaf.prog (tailAt 4 (bodyOf Ybaf.f3)) (Good w0) (FR4 (.bool wh) (.int .u8 sem) (.slice sa S sc) (.slice ta tl tc) (.slice za sz.length zc) u) w0 := by
  have HZ : Hid (Sizes w0.heap.size w0 za sz) := hsz
  obtain ⟨N, hNN⟩ : ∃ N, N = sz.length := ⟨_, rfl⟩
  have HN : Hid (N = sz.length) := hNN
  rw [← hNN] at hN ⊢
  simp only [← hNN] at next
  have HX := show Hid _ from next
  clear hNN next hsz
  obtain ⟨i0, hi, hz0, hz1, hz2⟩ := info_parts Ybaf.info40
  have hmk := fun w => run_make (P := Ybaf.prog) w 28 40 i0 _ Ybaf.underlying28 hi hz0 .i64 .i64 (N : Int) (N : Int) (by omega) (by omega) (by rw [hz2]; omega) (by omega)
  rw [hz1] at hmk
  simp only [Int.toNat_natCast] at hmk
  generalize hM : madeCells (Value.agg #[.bool false, .slice none 0 0, .int .i64 0, .bool false, .bool false, .pointer none]).cells (N * 6) = M at hmk
  have hMs : M.size = N * 6 := by rw [← hM]; exact size_madeCells _ _
  clear hM
  have HM : Hid (M.size = N * 6) := hMs
  clear hMs
  unfold FR4
  refine step cut4 (fun K hK => ?_)
  conv => arg 2; whnf
  go_wp2
  refine hK.out _ _ ?_
  clear hK K hmk
  refine step cut5 (fun K hK => ?_)
  conv => arg 2; whnf
  go_wp2
  go_loopw [14] (fun i wr => ∃ k : Nat, k ≤ N ∧ i = .int .i64 k ∧ Mk w0.heap.size w0 wr N sz k) (fun i _ => N - (intOf i).toNat)
  case atStart =>
    refine ⟨0, Nat.zero_le _, rfl, ⟨((Below.refl _ _).alloc (Nat.le_refl _) _).alloc (by simp) _, ?_, by simp, ?_, ?_, fun j hj => by omega⟩⟩
    · rw [World.cell?_alloc_at _ _ _ _ (by simp)]; rfl
    · intro o ho
      have hs : o < M.size := by rw [HM.out]; exact ho
      rw [World.cell?_alloc_past _ _ _ (by simp), World.cell?_alloc_at _ _ _ _ rfl]
      exact ⟨M[o], by simp [hs]⟩
    · intro o
      rw [World.frozen?_alloc_past _ _ _ (by simp), World.frozen?_alloc_at _ _ _ _ rfl]
  case round =>
    obtain ⟨k, hk, rfl, HM1⟩ := hrel
    generalize hA : w0.heap.size = A at *
    by_cases hlt : k < N
    · obtain ⟨zb, zo, rfl, hzb, hzc⟩ := HZ.out.pos (by rw [← HN.out]; omega)
      have z0 := hzc k (by rw [← HN.out]; exact hlt)
      obtain ⟨z1, z2⟩ := HZ.out.get k (by rw [← HN.out]; exact hlt)
      have zc := (HM1.bel.cell (p := ⟨zb, zo + k, none⟩) (by exact hA ▸ hzb)).trans z0
      have hbox := HM1.box
      have hl2 := HM1.lt
      obtain ⟨t0, h0⟩ := HM1.there (k * 6) (by omega)
      obtain ⟨t1, h1⟩ := HM1.there (k * 6 + 1) (by omega)
      obtain ⟨t2, h2⟩ := HM1.there (k * 6 + 2) (by omega)
      obtain ⟨t3, h3⟩ := HM1.there (k * 6 + 3) (by omega)
      obtain ⟨t4, h4⟩ := HM1.there (k * 6 + 4) (by omega)
      obtain ⟨t5, h5⟩ := HM1.there (k * 6 + 5) (by omega)
      have hfz := HM1.froz
      have hAl : A < wr.heap.size := by omega
      have hAl1 : A + 1 < wr.heap.size := by omega
      have Hoc : Hid (octets sz k = sz.getD k 0 % 8 + 1) := rfl
      generalize sz.getD k 0 = z at *
      clear hzc z0
      go_wp2
      go_roundw
      case rel => exact ⟨k + 1, by omega, by go_num, mk_next HM1 hlt hA.symm Hoc.out⟩
      case measure => simp [intOf]; omega
    · obtain rfl : k = N := by omega
      go_wp2
      refine hK.out _ _ ?_
      exact frame_to (FR6 (.bool wh) (.int .u8 sem) (.slice sa S sc) (.slice ta tl tc) (.slice za k zc) (.pointer (some ⟨A + 1, 0, none⟩))) (by kernel_rfl) (HX.out wr (A + 1) A HM1.bel (mk_done HM1 HN.out))
end Go.Proofs.YbulkdrwgFmt
