/-
  The closure 'lookup' of the law: it notes the id that it is asked and hands out a template's address.
-/
import Derived.Test.YbulkdrwgFmtList
import Derived.Test.YbulkdrwgFmtPlain
import Derived.Maps.AppendAt
namespace Go.Proofs.YbulkdrwgFmt
open Go.RowKit Go.Extern.Stop Go.Stop Go.Extern
set_option linter.unusedVariables false
theorem Ybaf.info24 : (Ybaf.prog.info? 24).map (fun i => (i.zero, i.size, i.bytes)) = some (some (.int .u16 0), 1, 2) := by kernel_rfl

/-- Numbers as uint16 values. -/
def us (ks : List Nat) : List Value := ks.map fun k : Nat => Value.int .u16 (k : Int)
theorem us_length (ks : List Nat) : (us ks).length = ks.length := by simp [us]
theorem us_snoc (ks : List Nat) (k : Nat) : us ks ++ [.int .u16 (k : Int)] = us (ks ++ [k]) := by simp [us]
theorem us_one (ks : List Nat) : ∀ v ∈ us ks, v.oneCell' = true := by
  intro v hv; simp [us] at hv; obtain ⟨b, _, rfl⟩ := hv; rfl

/-- The captured variable 'calls', in block CB, holds the slice vc; its row, beyond CB, holds ks. -/
structure Box (CB : Nat) (w : World) (vc : Value) (ks : List Nat) : Prop where
  cell : w.cell? ⟨CB, 0, none⟩ = some vc
  froz : w.frozen? ⟨CB, 0, none⟩ = false
  own : w.ownsRow (CB + 1) 24 1 vc ks.length (us ks)
  lt : CB < w.heap.size

/-- All blocks of w but CB and vc's row are as they were; the row lies where it lay or in a new block. -/
structure Moved (CB : Nat) (vc vc' : Value) (w w' : World) : Prop where
  below : Below CB w w'
  kept : ∀ k, k < w.heap.size → k ≠ CB → vc.ownBlock ≠ some k → w'.heap[k]? = w.heap[k]?
  lies : vc'.ownBlock = vc.ownBlock ∨ ∃ k, w.heap.size ≤ k ∧ vc'.ownBlock = some k

theorem own_shape {w : World} {base : Nat} {e : TypeId} {size : Nat} {v : Value} {n : Nat} {xs : List Value} (h : w.ownsRow base e size v n xs) (hn : 0 < n) : ∃ g c, v = .slice (some ⟨g, 0, none⟩) n c ∧ base ≤ g ∧ g < w.heap.size := by
  rcases h.2 with ⟨_, h0⟩ | ⟨g, c, cur, rfl, hb, hg, _⟩
  · omega
  · exact ⟨g, c, rfl, hb, (Array.getElem?_eq_some_iff.1 hg).1⟩

theorem setCell_size (w : World) (a : Addr) (v : Value) : (w.setCell a v).heap.size = w.heap.size := by simp [World.setCell]

/-- What the append and the store leave. -/
theorem box_after {CB id : Nat} {vc v1 : Value} {ks : List Nat} {w w1 : World} {O : Obj} (hb : Box CB w vc ks) (hown : w1.ownsRow (CB + 1) 24 1 v1 (ks.length + 1) (us ks ++ [.int .u16 (id : Int)])) (hgrow : (w.alloc O).grownBy w1 vc.ownBlock)
    (hat : v1.ownBlock = vc.ownBlock ∨ v1.ownBlock = some (w.alloc O).heap.size) (x0 : w1.cell? ⟨CB, 0, none⟩ = some vc) (x1 : w1.frozen? ⟨CB, 0, none⟩ = false) :
    ∃ vc', Box CB (w1.setCell ⟨CB, 0, none⟩ v1) vc' (ks ++ [id]) ∧ Moved CB vc vc' w (w1.setCell ⟨CB, 0, none⟩ v1) := by
  have hsz := hgrow.size
  rw [World.size_alloc] at hsz hat
  have hlt := hb.lt
  refine ⟨v1, ⟨World.cell?_setCell_same _ _ _ x0, ?_, ?_, by rw [setCell_size]; omega⟩, ⟨?_, ?_, ?_⟩⟩
  · rw [World.frozen?_setCell]; exact x1
  · have h := ownsRow_setCell_below hown (a := ⟨CB, 0, none⟩) (Nat.lt_succ_self CB) v1
    rw [us_snoc] at h
    simpa using h
  · have h : Below CB w w1 := ((Below.refl _ w).alloc (by omega) O).grown hgrow (by rw [World.size_alloc]; omega) (fun k hk => by have := (hb.own.lt k hk).1; omega)
    exact h.setCell (p := ⟨CB, 0, none⟩) (Nat.le_refl CB) v1
  · intro k hk h1 h2
    rw [Below.heap_setCell _ _ _ _ h1, hgrow.block k (by rw [World.size_alloc]; omega) (fun e => h2 e.symm)]
    exact Below.heap_alloc _ _ _ hk
  · rcases hat with h | h
    · exact .inl h
    · exact .inr ⟨_, by omega, h⟩

set_option maxHeartbeats 1000000 in
theorem lookup_any (CB TB TA N id : Nat) (vc : Value) (ks : List Nat) (w : World) (hbox : Box CB w vc ks) (hTB : TB < CB) (ht : w.cell? ⟨TB, 0, none⟩ = some (.slice (some ⟨TA, 0, none⟩) N N))
    (hid : id ≤ 65535) (hN : N ≤ 4096) (hks : ks.length ≤ 1000000000) :
    Calls Ybaf.prog 4 #[.int .u16 (id : Int), .pointer (some ⟨CB, 0, none⟩), .pointer (some ⟨TB, 0, none⟩)] w fun e w' =>
      e = .returned (if id < N then .pointer (some ⟨TA, id * 6, none⟩) else .pointer none) ∧ ∃ vc', Box CB w' vc' (ks ++ [id]) ∧ Moved CB vc vc' w w' := by
  obtain ⟨i0, hi, hz0, hz1, hz2⟩ := info_parts Ybaf.info24
  have HB : Hid (Box CB w vc ks) := hbox
  obtain ⟨c0, c1, own, hlt⟩ := hbox
  go_enter Ybaf.func4, Ybaf.ntmps4
  have hcb : CB < w.heap.size + 1 := by omega
  have htb : TB < w.heap.size + 1 := by omega
  have hne : ∀ k, k ≤ CB → some k ≠ vc.ownBlock := fun k hk e => by have := (own.lt k e.symm).1; omega
  have hTC : TB ≠ CB := by omega
  go_wp2_with (at_builtin; refine wpList_append_own_at _ rfl (.tmp 5) (.tmp 7) 42 rfl (CB + 1) 24 i0 (.int .u16 0) 1 2 Ybaf.underlying42 hi hz0 hz1 hz2 rfl (by decide) _ _ _ rfl (own.alloc _) ⟨w.heap.size, 0, none⟩ 1 1 [.int .u16 (id : Int)] rfl rfl (cell_one_new _ _ _) (us_one [id]) (by unfold maxLen; omega) (by omega) (by simp; omega) ?_; intro v1 w1 hown1 hgrow1 hnil1 hat1; obtain ⟨g, c, rfl, hg1, hg2⟩ := own_shape hown1 (by omega); have x0 : w1.cell? ⟨CB, 0, none⟩ = some vc := hgrow1.cell (a := ⟨CB, 0, none⟩) (by rw [World.cell?_alloc_past _ _ _ hlt]; exact c0) (hne CB (Nat.le_refl _)); have x1 : w1.frozen? ⟨CB, 0, none⟩ = false := (World.frozen?_of_block (a := ⟨CB, 0, none⟩) (hgrow1.block CB (by simpa using hcb) (hne CB (Nat.le_refl _)))).trans (by rw [World.frozen?_alloc_past _ _ _ hlt]; exact c1); have x2 : w1.cell? ⟨TB, 0, none⟩ = some (.slice (some ⟨TA, 0, none⟩) N N) := hgrow1.cell (a := ⟨TB, 0, none⟩) (by rw [World.cell?_alloc_past _ _ _ (by omega)]; exact ht) (hne TB (by omega)))
  · go_ret
    exact ⟨rfl, box_after HB.out hown1 hgrow1 hat1 x0 x1⟩
  · go_ret
    exact ⟨rfl, box_after HB.out hown1 hgrow1 hat1 x0 x1⟩
end Go.Proofs.YbulkdrwgFmt
