/-
  Small laws on the memory that the call itself makes: rows that outlive a step, rows that lie apart.
-/
import Derived.Test.YbulkdrwgFmtLook
namespace Go.Proofs.YbulkdrwgFmt
open Go.RowKit

section
variable {w w' : World} {base : Nat} {e : TypeId} {size : Nat} {v : Value} {n : Nat} {xs : List Value}

theorem own_kept (h : w.ownsRow base e size v n xs) (hk : ∀ k, v.ownBlock = some k → w'.heap[k]? = w.heap[k]?) : w'.ownsRow base e size v n xs := by
  refine ⟨h.1, ?_⟩
  rcases h.2 with hn | ⟨g, cap, cur, rfl, hb, hg, rest⟩
  · exact .inl hn
  · exact .inr ⟨g, cap, cur, rfl, hb, (hk g rfl).trans hg, rest⟩

/-- A row outlives whatever leaves all old blocks as they were. -/
theorem own_later (h : w.ownsRow base e size v n xs) (hb : Below w.heap.size w w') : w'.ownsRow base e size v n xs :=
  own_kept h fun k hk => hb.block k (h.lt k hk).2
/-- .. outlives a step of the closure, if it lies apart from the row of 'calls'. -/
theorem own_moved {CB : Nat} {vc vc' : Value} (h : w.ownsRow (CB + 1) e size v n xs) (hm : Moved CB vc vc' w w') (dis : ∀ k, v.ownBlock = some k → vc.ownBlock ≠ some k) : w'.ownsRow (CB + 1) e size v n xs :=
  own_kept h fun k hk => hm.kept k (h.lt k hk).2 (by have := (h.lt k hk).1; omega) (dis k hk)
end

theorem Box.later {CB : Nat} {w w' : World} {vc : Value} {ks : List Nat} (h : Box CB w vc ks) (hb : Below w.heap.size w w') : Box CB w' vc ks :=
  ⟨(hb.cell (p := ⟨CB, 0, none⟩) h.lt).trans h.cell, (hb.frozen (p := ⟨CB, 0, none⟩) h.lt).trans h.froz, own_later h.own hb, Nat.lt_of_lt_of_le h.lt hb.size⟩

/-- 'calls' outlives an append to another row. -/
theorem Box.grown {CB : Nat} {w w' : World} {vc vl : Value} {ks : List Nat} (h : Box CB w vc ks) (hg : w.grownBy w' vl.ownBlock) (hb : ∀ k, vl.ownBlock = some k → CB + 1 ≤ k) (dis : ∀ k, vl.ownBlock = some k → vc.ownBlock ≠ some k) : Box CB w' vc ks := by
  have hne : some CB ≠ vl.ownBlock := fun e => by have := hb CB e.symm; omega
  refine ⟨hg.cell (a := ⟨CB, 0, none⟩) h.cell hne, (World.frozen?_of_block (a := ⟨CB, 0, none⟩) (hg.block CB h.lt hne)).trans h.froz, ?_, Nat.lt_of_lt_of_le h.lt hg.size⟩
  exact own_kept h.own fun k hk => hg.block k (h.own.lt k hk).2 (fun e => dis k e.symm hk)

theorem cell_three_new (w : World) (a b c : Value) (t : TypeId) : ∀ j u, [a, b, c][j]? = some u → (w.alloc (.cells #[a, b, c] t)).cell? ((⟨w.heap.size, 0, none⟩ : Addr).add j) = some u := by
  intro j u hj
  match j, hj with
  | 0, hj => simp at hj; subst hj; simp [Addr.add]
  | 1, hj => simp at hj; subst hj; simp [Addr.add]
  | 2, hj => simp at hj; subst hj; simp [Addr.add]

theorem add0 (g j : Nat) : (⟨g, 0, none⟩ : Addr).add j = ⟨g, j, none⟩ := by unfold Addr.add; simp; omega

/-- A span's record list: id, the template's address, the bytes' slice. -/
def rec1 (VB vcap TA : Nat) (t : Nat × Nat × Nat) : List Value :=
  [.int .u16 (t.1 : Int), .pointer (some ⟨TA, t.1 * 6, none⟩), .slice (some (if vcap = t.2.1 then ⟨VB, 0, none⟩ else ⟨VB, t.2.1, none⟩)) (t.2.2 - t.2.1) (vcap - t.2.1)]
def recs (VB vcap TA : Nat) (ss : List (Nat × Nat × Nat)) : List Value := ss.flatMap (rec1 VB vcap TA)
theorem recs_snoc (VB vcap TA : Nat) (ss : List (Nat × Nat × Nat)) (t : Nat × Nat × Nat) : recs VB vcap TA ss ++ rec1 VB vcap TA t = recs VB vcap TA (ss ++ [t]) := by simp [recs]

/-! ### 'l, ok := readRecordList(id, template(id), v[p+4:p+length])': Go leaves open when l's own memory is made: ahead of both calls, between them, behind them. -/

/-- The zero recordList. -/
def zeroList : Obj := .cells #[.int .u16 0, .pointer none, .slice none 0 0] 52

/-- What stands behind that statement, whatever the order: l, in block lb, holds a, b, c. -/
structure Fin (CB VB vcap TA : Nat) (w wF : World) (ks : List Nat) (ss : List (Nat × Nat × Nat)) (vl vc : Value) (lb : Nat) (a b c : Value) : Prop where
  box : Box CB wF vc ks
  own : wF.ownsRow (CB + 1) 52 3 vl ss.length (recs VB vcap TA ss)
  dis : ∀ k, vl.ownBlock = some k → vc.ownBlock ≠ some k
  bel : Below CB w wF
  c0 : wF.cell? ⟨lb, 0, none⟩ = some a
  c1 : wF.cell? ⟨lb, 1, none⟩ = some b
  c2 : wF.cell? ⟨lb, 2, none⟩ = some c
  lt : lb < wF.heap.size

/-- A block that holds the zero recordList. -/
def Zero (w : World) (b : Nat) : Prop := w.cell? ⟨b, 0, none⟩ = some (.int .u16 0) ∧ w.cell? ⟨b, 1, none⟩ = some (.pointer none) ∧ w.cell? ⟨b, 2, none⟩ = some (.slice none 0 0) ∧ (∀ o, w.frozen? ⟨b, o, none⟩ = false) ∧ b < w.heap.size

theorem zero_new (w : World) : Zero (w.alloc zeroList) w.heap.size := by
  refine ⟨?_, ?_, ?_, fun o => ?_, by simp⟩
  · rw [zeroList, World.cell?_alloc_at _ _ _ _ rfl]; rfl
  · rw [zeroList, World.cell?_alloc_at _ _ _ _ rfl]; rfl
  · rw [zeroList, World.cell?_alloc_at _ _ _ _ rfl]; rfl
  · rw [zeroList, World.frozen?_alloc_at _ _ _ _ rfl]

theorem Zero.of_block {w w' : World} {b : Nat} (h : Zero w b) (hb : w'.heap[b]? = w.heap[b]?) (hl : b < w'.heap.size) : Zero w' b := by
  obtain ⟨h0, h1, h2, h3, _⟩ := h
  exact ⟨(World.cell?_of_block (w := w) (a := ⟨b, 0, none⟩) hb).trans h0, (World.cell?_of_block (w := w) (a := ⟨b, 1, none⟩) hb).trans h1, (World.cell?_of_block (w := w) (a := ⟨b, 2, none⟩) hb).trans h2, fun o => (World.frozen?_of_block (w := w) (a := ⟨b, o, none⟩) hb).trans (h3 o), hl⟩
theorem Zero.later {w w' : World} {b : Nat} (h : Zero w b) (hb : Below w.heap.size w w') : Zero w' b := h.of_block (hb.block b h.2.2.2.2) (Nat.lt_of_lt_of_le h.2.2.2.2 hb.size)

/-- Made ahead of both calls, it outlives the first. -/
theorem early1 {CB : Nat} {vc vc3 : Value} {ks : List Nat} {w2 w3 : World} (B2 : Box CB w2 vc ks) (hm : Moved CB vc vc3 (w2.alloc zeroList).drew w3) : Zero w3 w2.heap.size := by
  have hlt := B2.lt
  have hs : (w2.alloc zeroList).drew.heap.size = w2.heap.size + 1 := by simp [World.drew]
  have hz : Zero (w2.alloc zeroList).drew w2.heap.size := zero_new w2
  refine hz.of_block (hm.kept _ (by rw [hs]; omega) (by omega) (fun e => ?_)) (by have := hm.below.size; rw [hs] at this; omega)
  have := (B2.own.lt _ e).2; omega
/-- Made between them, it outlives the second. -/
theorem early2 {w3 w4 : World} (hb : Below (w3.alloc zeroList).heap.size (w3.alloc zeroList) w4) : Zero w4 w3.heap.size := (zero_new w3).later hb

theorem Box.setCell {CB b o : Nat} {w : World} {vc u : Value} {ks : List Nat} (h : Box CB w vc ks) (h1 : b ≠ CB) (h2 : vc.ownBlock ≠ some b) : Box CB (w.setCell ⟨b, o, none⟩ u) vc ks := by
  have hk : ∀ k, k ≠ b → (w.setCell ⟨b, o, none⟩ u).heap[k]? = w.heap[k]? := fun k hk => Below.heap_setCell _ _ _ _ hk
  refine ⟨(World.cell?_of_block (w := w) (a := ⟨CB, 0, none⟩) (hk CB (Ne.symm h1))).trans h.cell, (World.frozen?_of_block (w := w) (a := ⟨CB, 0, none⟩) (hk CB (Ne.symm h1))).trans h.froz, ?_, by rw [setCell_size]; exact h.lt⟩
  exact own_kept h.own fun k e => hk k (fun e2 => h2 (e2 ▸ e))

theorem cell_set3 {w : World} {b : Nat} {u0 u1 u2 x y z : Value} (h0 : w.cell? ⟨b, 0, none⟩ = some u0) (h1 : w.cell? ⟨b, 1, none⟩ = some u1) (h2 : w.cell? ⟨b, 2, none⟩ = some u2) :
    let w' := ((w.setCell ⟨b, 0, none⟩ x).setCell ⟨b, 1, none⟩ y).setCell ⟨b, 2, none⟩ z
    w'.cell? ⟨b, 0, none⟩ = some x ∧ w'.cell? ⟨b, 1, none⟩ = some y ∧ w'.cell? ⟨b, 2, none⟩ = some z := by
  have n01 : (⟨b, 0, none⟩ : Addr) ≠ ⟨b, 1, none⟩ := by simp
  have n02 : (⟨b, 0, none⟩ : Addr) ≠ ⟨b, 2, none⟩ := by simp
  have n12 : (⟨b, 1, none⟩ : Addr) ≠ ⟨b, 2, none⟩ := by simp
  refine ⟨?_, ?_, ?_⟩
  · rw [World.cell?_setCell_other _ _ _ _ (Ne.symm n02), World.cell?_setCell_other _ _ _ _ (Ne.symm n01)]; exact World.cell?_setCell_same _ _ _ h0
  · rw [World.cell?_setCell_other _ _ _ _ (Ne.symm n12)]
    exact World.cell?_setCell_same _ _ _ (u := u1) (by rw [World.cell?_setCell_other _ _ _ _ n01]; exact h1)
  · exact World.cell?_setCell_same _ _ _ (u := u2) (by rw [World.cell?_setCell_other _ _ _ _ n12, World.cell?_setCell_other _ _ _ _ n02]; exact h2)

section
variable {CB VB vcap TA : Nat} {w w2 w3 w4 : World} {ks kt : List Nat} {ss : List (Nat × Nat × Nat)} {vl vc vc3 a b c : Value}

/-- The rows behind both calls; b is a block that neither row lies in. -/
theorem fin_rows {W : World} (hW : Below w2.heap.size w2 W) (B2 : Box CB w2 vc ks) (own2 : w2.ownsRow (CB + 1) 52 3 vl ss.length (recs VB vcap TA ss)) (dis : ∀ k, vl.ownBlock = some k → vc.ownBlock ≠ some k) (bel : Below CB w w2)
    (hm : Moved CB vc vc3 W w3) (hb : Below w3.heap.size w3 w4) :
    w4.ownsRow (CB + 1) 52 3 vl ss.length (recs VB vcap TA ss) ∧ (∀ k, vl.ownBlock = some k → vc3.ownBlock ≠ some k) ∧ Below CB w w4 := by
  have o2 := own_moved (own_later own2 hW) hm dis
  refine ⟨own_later o2 hb, ?_, (bel.trans (hW.mono (Nat.le_of_lt B2.lt))).trans (hm.below.trans (hb.mono ?_))⟩
  · intro k hk e
    have h2 := (own2.lt k hk).2
    rcases hm.lies with h | ⟨j, hj, h⟩
    · rw [h] at e; exact dis k hk e
    · rw [h] at e; cases e; have := hW.size; omega
  · have := hm.below.size; have := hW.size; have := B2.lt; omega

/-- Behind both calls. -/
theorem fin_c (B2 : Box CB w2 vc ks) (own2 : w2.ownsRow (CB + 1) 52 3 vl ss.length (recs VB vcap TA ss)) (dis : ∀ k, vl.ownBlock = some k → vc.ownBlock ≠ some k) (bel : Below CB w w2)
    (hm : Moved CB vc vc3 w2.drew w3) (B3 : Box CB w3 vc3 kt) (hb : Below w3.heap.size w3 w4) : Fin CB VB vcap TA w (w4.alloc (.cells #[a, b, c] 52)) kt ss vl vc3 w4.heap.size a b c := by
  obtain ⟨o, d, e⟩ := fin_rows ((Below.refl _ w2).drew) B2 own2 dis bel hm hb
  have hB := B3.later hb
  have h1 : Below w4.heap.size w4 (w4.alloc (.cells #[a, b, c] 52)) := (Below.refl _ _).alloc (Nat.le_refl _) _
  refine ⟨hB.later h1, own_later o h1, d, e.trans (h1.mono (Nat.le_of_lt hB.lt)), ?_, ?_, ?_, by simp⟩
  · rw [World.cell?_alloc_at _ _ _ _ rfl]; rfl
  · rw [World.cell?_alloc_at _ _ _ _ rfl]; rfl
  · rw [World.cell?_alloc_at _ _ _ _ rfl]; rfl

theorem fin_set {g : Nat} (B4 : Box CB w4 vc3 kt) (o : w4.ownsRow (CB + 1) 52 3 vl ss.length (recs VB vcap TA ss)) (d : ∀ k, vl.ownBlock = some k → vc3.ownBlock ≠ some k) (e : Below CB w w4) (z : Zero w4 g) (h1 : CB < g) (h2 : vc3.ownBlock ≠ some g) (h3 : vl.ownBlock ≠ some g) :
    Fin CB VB vcap TA w (((w4.setCell ⟨g, 0, none⟩ a).setCell ⟨g, 1, none⟩ b).setCell ⟨g, 2, none⟩ c) kt ss vl vc3 g a b c := by
  obtain ⟨z0, z1, z2, _, zl⟩ := z
  obtain ⟨r0, r1, r2⟩ := cell_set3 (x := a) (y := b) (z := c) z0 z1 z2
  refine ⟨((B4.setCell (by omega) h2).setCell (by omega) h2).setCell (by omega) h2, ?_, d, ((e.setCell (by show CB ≤ g; omega) _).setCell (by show CB ≤ g; omega) _).setCell (by show CB ≤ g; omega) _, r0, r1, r2, by simpa [setCell_size] using zl⟩
  refine own_kept o fun k hk => ?_
  have hne : k ≠ g := fun e2 => h3 (e2 ▸ hk)
  rw [Below.heap_setCell _ _ _ _ hne, Below.heap_setCell _ _ _ _ hne, Below.heap_setCell _ _ _ _ hne]

/-- Between them. -/
theorem fin_b (B2 : Box CB w2 vc ks) (own2 : w2.ownsRow (CB + 1) 52 3 vl ss.length (recs VB vcap TA ss)) (dis : ∀ k, vl.ownBlock = some k → vc.ownBlock ≠ some k) (bel : Below CB w w2)
    (hm : Moved CB vc vc3 w2.drew w3) (B3 : Box CB w3 vc3 kt) (hb : Below (w3.alloc zeroList).heap.size (w3.alloc zeroList) w4) :
    Fin CB VB vcap TA w (((w4.setCell ⟨w3.heap.size, 0, none⟩ a).setCell ⟨w3.heap.size, 1, none⟩ b).setCell ⟨w3.heap.size, 2, none⟩ c) kt ss vl vc3 w3.heap.size a b c := by
  have hb' : Below w3.heap.size w3 w4 := ((Below.refl _ w3).alloc (Nat.le_refl _) _).trans (hb.mono (by simp))
  obtain ⟨o, d, e⟩ := fin_rows ((Below.refl _ w2).drew) B2 own2 dis bel hm hb'
  have hsz := hm.below.size
  have hs : w2.drew.heap.size = w2.heap.size := rfl
  refine fin_set (B3.later hb') o d e (early2 hb) B3.lt (fun h => by have := (B3.own.lt _ h).2; omega) (fun h => by have := (own2.lt _ h).2; omega)

/-- Ahead of both. -/
theorem fin_a (B2 : Box CB w2 vc ks) (own2 : w2.ownsRow (CB + 1) 52 3 vl ss.length (recs VB vcap TA ss)) (dis : ∀ k, vl.ownBlock = some k → vc.ownBlock ≠ some k) (bel : Below CB w w2)
    (hm : Moved CB vc vc3 (w2.alloc zeroList).drew w3) (B3 : Box CB w3 vc3 kt) (hb : Below w3.heap.size w3 w4) :
    Fin CB VB vcap TA w (((w4.setCell ⟨w2.heap.size, 0, none⟩ a).setCell ⟨w2.heap.size, 1, none⟩ b).setCell ⟨w2.heap.size, 2, none⟩ c) kt ss vl vc3 w2.heap.size a b c := by
  obtain ⟨o, d, e⟩ := fin_rows (((Below.refl _ w2).alloc (Nat.le_refl _) _).drew) B2 own2 dis bel hm hb
  refine fin_set (B3.later hb) o d e ((early1 B2 hm).later hb) B2.lt (fun h => ?_) (fun h => by have := (own2.lt _ h).2; omega)
  rcases hm.lies with h2 | ⟨k, hk, h2⟩
  · rw [h2] at h; have := (B2.own.lt _ h).2; omega
  · rw [h2] at h; cases h; simp [World.drew] at hk; omega
end
end Go.Proofs.YbulkdrwgFmt
