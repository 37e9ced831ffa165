/-
  The law's arguments, opened: the sets (structs with a slice in each), the tail, the sizes.
-/
import Derived.Test.YbulkdrwgFmtWalk
import Derived.ProofKit
import Derived.OpenShut
import Derived.Deep.Slices
import Derived.Deep.Strs
import Derived.SizedLaws
namespace Go.Proofs.YbulkdrwgFmt
open Go.ChangeShapes Go.WideShapes Go.ChangeAt Go.RowKit

section
variable {H : Type} {enc : TypeId × Value → H} {W : World}

theorem Ybaf.cells5 : Ybaf.prog.cellsOf 5 = 1 := by kernel_rfl
theorem Ybaf.cells23 : Ybaf.prog.cellsOf 23 = 1 := by kernel_rfl
theorem Ybaf.cells24 : Ybaf.prog.cellsOf 24 = 1 := by kernel_rfl
theorem Ybaf.cells25 : Ybaf.prog.cellsOf 25 = 1 := by kernel_rfl
theorem Ybaf.cells27 : Ybaf.prog.cellsOf 27 = 3 := by kernel_rfl
theorem Ybaf.bytes5 : Ybaf.prog.bytesOf 5 = 1 := by kernel_rfl

/-- A slice of bytes that came in. -/
theorem src_open {fuel : Nat} {a : Option Addr} {len cap : Nat} {x : DataW H × List MemPlace} (h : DataW.trod enc Ybaf.prog W 0 (fun _ => true) true fuel 23 [.slice a len cap] = some x) :
    ∃ bs, Src8 W.heap.size W a len cap bs ∧ (len = 0 ∨ ∃ elems spare, x.1 = .slice elems spare ∧ len ≤ elems.length + spare.length) := by
  rcases open_ints Ybaf.underlying23 Ybaf.underlying5 Ybaf.cells5 h with ⟨hcs, _⟩ | ⟨ad, l, c, zs, hcs, _, hl, hm, hz, hx, hcell, hwz⟩
  · simp at hcs
    obtain ⟨rfl, rfl, rfl⟩ := hcs
    exact ⟨[], ⟨rfl, Nat.le_refl _, by simp, .inl ⟨rfl, rfl, rfl⟩⟩, .inl rfl⟩
  · simp at hcs
    obtain ⟨rfl, rfl, rfl⟩ := hcs
    simp at hz
    have hlz : len ≤ zs.length := by omega
    refine ⟨zs.take len, ⟨by simp; omega, hl, fun b hb => bounds_u8 (hwz b (List.mem_of_mem_take hb)), .inr ⟨ad, rfl, fun h0 => ?_, fun j v hj => ?_⟩⟩, .inr ⟨_, _, by rw [hx], by simp [lits]; omega⟩⟩
    · have h1 := World.block_lt_of_cell? W (ad.add 0) (hcell 0 (by omega))
      have e : (ad.add 0).block = ad.block := by unfold Addr.add; split <;> rfl
      rwa [e] at h1
    · have hjl : j < len := by
        have := (List.getElem?_eq_some_iff.1 hj).1
        rw [bv_length] at this; simp at this; omega
      rw [bv_get _ j (by simp; omega)] at hj
      have e : (zs.take len).getD j 0 = zs.getD j 0 := by simp [List.getD, hjl]
      rw [e] at hj
      cases hj
      exact hcell j (by omega)

/-- The same, as the argument 'sizes' is read. -/
theorem sizes_open {a : Option Addr} {len cap : Nat} {bs : List Int} (h : Src8 W.heap.size W a len cap bs) : Sizes W.heap.size W a bs := by
  obtain ⟨h1, h2, h3, h4⟩ := h
  refine ⟨h3, fun h0 => ?_⟩
  rcases h4 with ⟨_, h5, _⟩ | ⟨ad, rfl, had, hc⟩
  · omega
  · obtain ⟨b, off, spot⟩ := ad
    have h00 := hc 0 _ (bv_get bs 0 h0)
    have hspot : spot = none := by simpa [Addr.add] using World.cell?_spot h00
    subst hspot
    refine ⟨b, off, rfl, had (by omega), fun j hj => ?_⟩
    have hj2 := hc j _ (bv_get bs j hj)
    rwa [Go.WideShapes.add_plain] at hj2

theorem bounds_u16' {n : Int} (h : (Lit.int .u16 n).wf = true) : 0 ≤ n ∧ n ≤ 65535 := by
  simp [Lit.wf, IntKind.min, IntKind.max, IntKind.signed, IntKind.bits] at h
  omega
theorem bounds_i8' {n : Int} (h : (Lit.int .i8 n).wf = true) : -128 ≤ n ∧ n ≤ 127 := by
  simp [Lit.wf, IntKind.min, IntKind.max, IntKind.signed, IntKind.bits] at h
  omega

theorem weights_all {P : Program} {e : TypeId} {d : DataW H} {n : Nat} : ∀ {ds : List (DataW H)}, d ∈ ds → n ∈ d.weights P e → n ∈ DataW.weightsAll P e ds
  | d0 :: ds, hd, hn => by
    simp only [DataW.weightsAll, List.mem_append]
    rcases List.mem_cons.1 hd with rfl | hd
    · exact .inl hn
    · exact .inr (weights_all hd hn)

/-- The sets. -/
theorem sets_open {fuel : Nat} {a : Option Addr} {len cap : Nat} {x : DataW H × List MemPlace} (h : DataW.trod enc Ybaf.prog W 0 (fun _ => true) true fuel 22 [.slice a len cap] = some x) (hw : ∀ n ∈ x.1.weights Ybaf.prog 22, n ≤ reachBytes) :
    AllSets W.heap.size W a len := by
  intro h0
  rcases Deep.open_slice Ybaf.underlying22 h with ⟨hcs, _⟩ | ⟨ad, l, c, m, n, D, Pl, hcs, hb, hl, hm, hmm, hx, hel⟩
  · simp at hcs; omega
  · simp at hcs
    obtain ⟨rfl, rfl, rfl⟩ := hcs
    simp at hmm
    rw [Ybaf.cells27] at hel
    have hcell : ∀ i, i < len → ∃ c0 c1 c2, W.cell? (ad.add (i * 3)) = some c0 ∧ W.cell? ((ad.add (i * 3)).add 1) = some c1 ∧ W.cell? ((ad.add (i * 3)).add 2) = some c2 ∧ DataW.trod enc Ybaf.prog W 0 (fun _ => true) true n 27 [c0, c1, c2] = some (D i, Pl i) := by
      intro i hi
      obtain ⟨cs, h1, h2⟩ := hel i (by omega)
      obtain ⟨hle, hlen, hc⟩ := World.cells?_some h1
      match cs, hlen with
      | [c0, c1, c2], _ =>
        have k0 := hc 0 (by omega)
        have k1 := hc 1 (by omega)
        have k2 := hc 2 (by omega)
        have e0 : (ad.add (i * 3)).add 0 = ad.add (i * 3) := by simp [Addr.add]
        rw [e0] at k0
        exact ⟨c0, c1, c2, k0, k1, k2, h2⟩
    -- the address is a plain one
    obtain ⟨b, off, spot⟩ := ad
    have hspot : spot = none := by
      obtain ⟨c0, _, _, k0, _⟩ := hcell 0 h0
      simpa [Addr.add] using World.cell?_spot k0
    subst hspot
    have hblk : b < W.heap.size := by
      obtain ⟨c0, _, _, k0, _⟩ := hcell 0 h0
      have h1 := World.block_lt_of_cell? W _ k0
      simpa [Addr.add] using h1
    refine ⟨b, off, rfl, hblk, fun i hi => ?_⟩
    obtain ⟨c0, c1, c2, k0, k1, k2, hd⟩ := hcell i hi
    rw [Go.WideShapes.add_plain] at k0 k1 k2
    rw [Go.WideShapes.add_plain] at k1 k2
    obtain ⟨y0, y1, y2, n', hxe, _, t0, t1, t2⟩ := Deep.trod_struct3 Ybaf.underlying27 hd
    simp only [Ybaf.cells24, Ybaf.cells25, Ybaf.cells23, List.drop_zero, List.take_succ_cons, List.take_zero, List.drop_succ_cons] at t0 t1 t2
    obtain ⟨id, e0, _, w0⟩ := DataW.trod_int Ybaf.underlying24 t0
    obtain ⟨sk, e1, _, w1⟩ := DataW.trod_int Ybaf.underlying25 t1
    simp at e0 e1
    subst e0 e1
    obtain ⟨ba, bl, bc, rfl⟩ : ∃ ba bl bc, c2 = .slice ba bl bc := by
      rcases open_ints Ybaf.underlying23 Ybaf.underlying5 Ybaf.cells5 t2 with ⟨hcs, _⟩ | ⟨ad, l, c, zs, hcs, _⟩
      · simp at hcs; exact ⟨_, _, _, hcs⟩
      · simp at hcs; exact ⟨_, _, _, hcs⟩
    obtain ⟨bs, hs, hlen⟩ := src_open t2
    have hreach : bl ≤ 140737488355328 := by
      rcases hlen with h1 | ⟨elems, spare, h1, h2⟩
      · omega
      · have hD : D i = .agg [y0.1, y1.1, y2.1] := congrArg Prod.fst hxe
        have hmem : D i ∈ (List.range len).map D := List.mem_map.2 ⟨i, List.mem_range.2 hi, rfl⟩
        have hw1 : (elems.length + spare.length) * 1 ∈ (D i).weights Ybaf.prog 27 := by
          rw [hD]
          simp [DataW.weights, DataW.weightsEach, Ybaf.underlying27, h1, Ybaf.underlying23, Ybaf.bytes5]
        have hw2 := hw ((elems.length + spare.length) * 1) (by
          rw [hx]
          simp only [DataW.weights, Ybaf.underlying22]
          exact List.mem_cons_of_mem _ (List.mem_append.2 (.inl (weights_all hmem hw1))))
        have := reachBytes_lt
        omega
    have b0 := bounds_u16' w0
    have b1 := bounds_i8' w1
    exact ⟨id, sk, ba, bl, bc, bs, ⟨k0, k1, k2, b0, b1, hreach, hs⟩⟩
end
end Go.Proofs.YbulkdrwgFmt
