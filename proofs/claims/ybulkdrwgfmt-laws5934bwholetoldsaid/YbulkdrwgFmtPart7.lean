/-
  The law's walk, parts 7 and 8: v against its copy; the calls against those wanted.
-/
import Derived.Test.YbulkdrwgFmtPart6
namespace Go.Proofs.YbulkdrwgFmt
open Go.RowKit
set_option linter.unusedVariables false

theorem us_get (ks : List Nat) (i : Nat) (h : i < ks.length) : (us ks)[i]? = some (.int .u16 ((ks.getD i 0 : Nat) : Int)) := by
  simp [us, List.getElem?_eq_getElem h, List.getD]
/-- The cells of a row of uint16 numbers. -/
theorem us_cells {w : World} {base : Nat} {a : Option Addr} {c : Nat} {ks : List Nat} (h : w.ownsRow base 24 1 (.slice a ks.length c) ks.length (us ks)) (h0 : 0 < ks.length) : ∃ g, a = some ⟨g, 0, none⟩ ∧ g < w.heap.size ∧ ∀ i, i < ks.length → w.cell? ⟨g, i, none⟩ = some (.int .u16 ((ks.getD i 0 : Nat) : Int)) := by
  obtain ⟨g, c', e, _, hg⟩ := own_shape h h0
  cases e
  refine ⟨g, rfl, hg, fun i hi => ?_⟩
  have hc := h.cells (g := g) rfl i _ (us_get ks i hi)
  rwa [add0] at hc

set_option maxRecDepth 100000 in
set_option maxHeartbeats 2000000 in
theorem part7 (va za : Option Addr) (vcap TB TA KB CB VB : Nat) (vl okv vw vk wok : Value) (xs sz : List Int) (w0 w : World) (u : Nat → Value) (hCB : CB < w.heap.size) (hE : Env CB VB vcap KB TB TA va za xs sz w)
    (next : ∀ (w' : World), Below w.heap.size w w' → ∀ u, Code.wp Ybaf.prog (tailAt 21 (bodyOf Ybaf.f3)) (Good w0) (FR19 (.pointer (some ⟨TB, 0, none⟩)) (.slice va xs.length vcap) (.slice (some ⟨KB, 0, none⟩) xs.length xs.length) (.pointer (some ⟨CB, 0, none⟩)) vl okv vw vk wok u) w') :
    Code.wp Ybaf.prog (tailAt 19 (bodyOf Ybaf.f3)) (Good w0) (FR19 (.pointer (some ⟨TB, 0, none⟩)) (.slice va xs.length vcap) (.slice (some ⟨KB, 0, none⟩) xs.length xs.length) (.pointer (some ⟨CB, 0, none⟩)) vl okv vw vk wok u) w := by
  have HE := show Hid _ from hE
  have hn := hE.len
  have hkb := hE.kb
  clear hE
  obtain ⟨n, hnn⟩ : ∃ n, n = xs.length := ⟨_, rfl⟩
  have Hn : Hid (n = xs.length) := hnn
  rw [← hnn] at hn ⊢
  simp only [← hnn] at next
  have HX := show Hid _ from next
  clear hnn next
  have hne : ((n : Int) != (n : Int)) = false := by simp
  unfold FR19
  refine step cut19 (fun K hK => ?_)
  conv => arg 2; whnf
  go_wp2
  refine hK.out _ _ ?_
  clear hK K
  refine step cut20 (fun K hK => ?_)
  conv => arg 2; whnf
  go_wp2
  go_loopw [34] (fun i wr => ∃ k : Nat, k ≤ n ∧ i = .int .i64 k ∧ Below w.heap.size w wr) (fun i _ => n - (intOf i).toNat)
  case atStart => exact ⟨0, Nat.zero_le _, rfl, Below.refl _ _⟩
  case round =>
    obtain ⟨k, hk, rfl, hbel⟩ := hrel
    by_cases hlt : k < n
    · obtain ⟨rfl, hvb⟩ := HE.out.at_ (by rw [← Hn.out]; omega)
      have c0 := (hbel.cell (p := ⟨VB, k, none⟩) (by show VB < _; omega)).trans (HE.out.cells k (by rw [← Hn.out]; exact hlt))
      have c1 := (hbel.cell (p := ⟨KB, k, none⟩) (by show KB < _; omega)).trans (HE.out.copy k (by rw [← Hn.out]; exact hlt))
      generalize xs.getD k 0 = x at *
      have e0 : (k : Int) < (n : Int) := by omega
      have hxe : (x != x) = false := by simp
      have hszw := hbel.size
      have hv2 : VB < wr.heap.size := by omega
      have hk2 : KB < wr.heap.size := by omega
      go_wp2
      go_quiet (fail)
      go_wp2
      go_roundw
      case rel => exact ⟨k + 1, by omega, by go_num, below_drewN hbel _⟩
      case measure => simp [intOf]; omega
    · go_wp2
      refine hK.out _ _ ?_
      exact frame_to (FR19 (.pointer (some ⟨TB, 0, none⟩)) (.slice va n vcap) (.slice (some ⟨KB, 0, none⟩) n n) (.pointer (some ⟨CB, 0, none⟩)) vl okv vw vk wok) (by kernel_rfl) (HX.out wr hbel)

set_option maxRecDepth 100000 in
set_option maxHeartbeats 2000000 in
theorem part8 (ca ka : Option Addr) (TB CB cc kc : Nat) (v kv vl okv vw wok : Value) (B : Nat) (ks : List Nat) (w0 w : World) (u : Nat → Value) (hCB : CB < w.heap.size)
    (hc : w.cell? ⟨CB, 0, none⟩ = some (.slice ca ks.length cc)) (rowc : w.ownsRow (CB + 1) 24 1 (.slice ca ks.length cc) ks.length (us ks)) (rowk : w.ownsRow B 24 1 (.slice ka ks.length kc) ks.length (us ks)) (hks : ks.length ≤ 300000000)
    (next : ∀ (w' : World), Below w.heap.size w w' → ∀ u, Code.wp Ybaf.prog (tailAt 23 (bodyOf Ybaf.f3)) (Good w0) (FR23 (.pointer (some ⟨TB, 0, none⟩)) v vl okv vw wok u) w') :
    Code.wp Ybaf.prog (tailAt 21 (bodyOf Ybaf.f3)) (Good w0) (FR19 (.pointer (some ⟨TB, 0, none⟩)) v kv (.pointer (some ⟨CB, 0, none⟩)) vl okv vw (.slice ka ks.length kc) wok u) w := by
  have HX := show Hid _ from next
  clear next
  have HC := show Hid _ from @us_cells w (CB + 1) ca cc ks rowc
  have HK := show Hid _ from @us_cells w B ka kc ks rowk
  clear rowc rowk
  obtain ⟨m, hmm⟩ : ∃ m, m = ks.length := ⟨_, rfl⟩
  have Hm : Hid (m = ks.length) := hmm
  rw [← hmm] at hks hc ⊢
  clear hmm
  have hme : ((m : Int) != (m : Int)) = false := by simp
  unfold FR19
  refine step cut21 (fun K hK => ?_)
  conv => arg 2; whnf
  go_wp2
  refine hK.out _ _ ?_
  clear hK K
  refine step cut22 (fun K hK => ?_)
  conv => arg 2; whnf
  go_wp2
  go_loopw [35] (fun i wq => ∃ k : Nat, k ≤ m ∧ i = .int .i64 k ∧ Below w.heap.size w wq) (fun i _ => m - (intOf i).toNat)
  case atStart => exact ⟨0, Nat.zero_le _, rfl, Below.refl _ _⟩
  case round =>
    obtain ⟨j, hj, rfl, hbe2⟩ := hrel
    have hcq := (hbe2.cell (p := ⟨CB, 0, none⟩) hCB).trans hc
    have hsq := hbe2.size
    have hcb2 : CB < wr.heap.size := by omega
    by_cases hjl : j < m
    · obtain ⟨g, rfl, hg, hgc⟩ := HC.out (by rw [← Hm.out]; omega)
      obtain ⟨g', rfl, hg', hgc'⟩ := HK.out (by rw [← Hm.out]; omega)
      have d0 := (hbe2.cell (p := ⟨g, j, none⟩) hg).trans (hgc j (by rw [← Hm.out]; exact hjl))
      have d1 := (hbe2.cell (p := ⟨g', j, none⟩) hg').trans (hgc' j (by rw [← Hm.out]; exact hjl))
      generalize ks.getD j 0 = x at *
      clear hgc hgc' hc
      have hg2 : g < wr.heap.size := by omega
      have hg3 : g' < wr.heap.size := by omega
      have e0 : (j : Int) < (m : Int) := by omega
      have hxe : ((x : Int) != (x : Int)) = false := by simp
      go_wp2
      go_quiet (fail)
      go_wp2
      go_roundw
      case rel => exact ⟨j + 1, by omega, by go_num, below_drewN hbe2 _⟩
      case measure => simp [intOf]; omega
    · clear hc
      go_wp2
      refine hK.out _ _ ?_
      exact frame_to (FR23 (.pointer (some ⟨TB, 0, none⟩)) v vl okv vw wok) (by kernel_rfl) (HX.out wr hbe2)
end Go.Proofs.YbulkdrwgFmt
