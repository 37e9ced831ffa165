/-
  The law's walk, part 9: the reader's answer against the model's.
-/
import Derived.Test.YbulkdrwgFmtPart6
import Derived.Test.YbulkdrwgFmtPart2
import Derived.Lib.Builder
namespace Go.Proofs.YbulkdrwgFmt
open Go.RowKit
set_option linter.unusedVariables false

theorem flat3 {α : Type} (f : Nat × Nat × Nat → List α) (hf : ∀ t, (f t).length = 3) : ∀ (ss : List (Nat × Nat × Nat)) (i c : Nat), i < ss.length → c < 3 → (ss.flatMap f)[i * 3 + c]? = (f (ss.getD i (0, 0, 0)))[c]?
  | [], i, c, h, _ => by simp at h
  | t :: ss, 0, c, _, hc => by
    simp [List.getElem?_append_left (show c < (f t).length by rw [hf]; exact hc)]
  | t :: ss, i + 1, c, h, hc => by
    rw [List.flatMap_cons, List.getElem?_append_right (by rw [hf]; omega), hf, show (i + 1) * 3 + c - 3 = i * 3 + c from by omega, flat3 f hf ss i c (by simpa using h) hc]
    simp

/-- The cells of a row of spans. -/
theorem sps_cells {w : World} {B c : Nat} {a : Option Addr} {ss : List (Nat × Nat × Nat)} (h : w.ownsRow B 50 3 (.slice a ss.length c) ss.length (sps ss)) (h0 : 0 < ss.length) : ∃ g, a = some ⟨g, 0, none⟩ ∧ g < w.heap.size ∧ ∀ i, i < ss.length →
    w.cell? ⟨g, i * 3, none⟩ = some (.int .u16 ((ss.getD i (0, 0, 0)).1 : Int)) ∧ w.cell? ⟨g, i * 3 + 1, none⟩ = some (.int .i64 ((ss.getD i (0, 0, 0)).2.1 : Int)) ∧ w.cell? ⟨g, i * 3 + 2, none⟩ = some (.int .i64 ((ss.getD i (0, 0, 0)).2.2 : Int)) := by
  obtain ⟨g, c', e, _, hg⟩ := own_shape h h0
  cases e
  refine ⟨g, rfl, hg, fun i hi => ?_⟩
  have k := fun c hc => flat3 sp1 (fun _ => rfl) ss i c hi hc
  have hc := fun j u hu => (add0 g j) ▸ h.cells (g := g) rfl j u hu
  exact ⟨hc _ _ (k 0 (by omega)), hc _ _ (k 1 (by omega)), hc _ _ (k 2 (by omega))⟩
/-- The cells of a row of record lists. -/
theorem recs_cells {w : World} {B c VB vcap TA : Nat} {a : Option Addr} {ss : List (Nat × Nat × Nat)} (h : w.ownsRow B 52 3 (.slice a ss.length c) ss.length (recs VB vcap TA ss)) (h0 : 0 < ss.length) : ∃ g, a = some ⟨g, 0, none⟩ ∧ g < w.heap.size ∧ ∀ i, i < ss.length →
    w.cell? ⟨g, i * 3, none⟩ = some (.int .u16 ((ss.getD i (0, 0, 0)).1 : Int)) ∧ w.cell? ⟨g, i * 3 + 1, none⟩ = some (.pointer (some ⟨TA, (ss.getD i (0, 0, 0)).1 * 6, none⟩)) ∧
    w.cell? ⟨g, i * 3 + 2, none⟩ = some (.slice (some (if vcap = (ss.getD i (0, 0, 0)).2.1 then ⟨VB, 0, none⟩ else ⟨VB, (ss.getD i (0, 0, 0)).2.1, none⟩)) ((ss.getD i (0, 0, 0)).2.2 - (ss.getD i (0, 0, 0)).2.1) (vcap - (ss.getD i (0, 0, 0)).2.1)) := by
  obtain ⟨g, c', e, _, hg⟩ := own_shape h h0
  cases e
  refine ⟨g, rfl, hg, fun i hi => ?_⟩
  have k := fun c hc => flat3 (rec1 VB vcap TA) (fun _ => rfl) ss i c hi hc
  have hc := fun j u hu => (add0 g j) ▸ h.cells (g := g) rfl j u hu
  exact ⟨hc _ _ (k 0 (by omega)), hc _ _ (k 1 (by omega)), hc _ _ (k 2 (by omega))⟩

set_option maxRecDepth 100000 in
set_option maxHeartbeats 1000000 in
/-- Where the reader refuses. -/
theorem part9_no (TB : Nat) (v vw : Value) (w0 w : World) (u : Nat → Value) (hb : Below w0.heap.size w0 w) :
    Code.wp Ybaf.prog (tailAt 23 (bodyOf Ybaf.f3)) (Good w0) (FR23 (.pointer (some ⟨TB, 0, none⟩)) v (.slice none 0 0) (.bool false) vw (.bool false) u) w := by
  have q45 : ∀ (w : World) (a : Option Addr) (n c n' c' : Nat), (binOp .eql 45 (.slice a n c) (.slice none n' c')).run Ybaf.prog w = .ok (.bool a.isNone) w := fun w a n c n' c' => Lib.run_eql_slice_nil w _ _ a n c n' c' Ybaf.underlying45
  unfold FR23
  refine step cut23 (fun K hK => ?_)
  conv => arg 2; whnf
  go_wp2
  refine hK.out _ _ ?_
  clear hK K
  refine step cut24 (fun K hK => ?_)
  conv => arg 2; whnf
  go_wp2
  unfold Good
  go_ret
  exact ⟨rfl, hb⟩

set_option maxRecDepth 100000 in
set_option maxHeartbeats 4000000 in
/-- Where it reads the list. -/
theorem part9_yes (va za la wa : Option Addr) (vcap TB TA KB CB VB lc wc : Nat) (B : Nat) (xs sz : List Int) (ss : List (Nat × Nat × Nat)) (w0 w : World) (u : Nat → Value) (hCB : CB ≤ w.heap.size) (hb : Below w0.heap.size w0 w) (hE : Env CB VB vcap KB TB TA va za xs sz w)
    (rowl : w.ownsRow (CB + 1) 52 3 (.slice la ss.length lc) ss.length (recs VB vcap TA ss)) (roww : w.ownsRow B 50 3 (.slice wa ss.length wc) ss.length (sps ss)) (hok : ∀ t ∈ ss, SpanOk xs sz t) (hnil : ss = [] → (Value.slice la ss.length lc) = .slice none 0 0) (hss : ss.length ≤ 300000000) :
    Code.wp Ybaf.prog (tailAt 23 (bodyOf Ybaf.f3)) (Good w0) (FR23 (.pointer (some ⟨TB, 0, none⟩)) (.slice va xs.length vcap) (.slice la ss.length lc) (.bool true) (.slice wa ss.length wc) (.bool true) u) w := by
  have q45 : ∀ (w : World) (a : Option Addr) (n c n' c' : Nat), (binOp .eql 45 (.slice a n c) (.slice none n' c')).run Ybaf.prog w = .ok (.bool a.isNone) w := fun w a n c n' c' => Lib.run_eql_slice_nil w _ _ a n c n' c' Ybaf.underlying45
  have HE := show Hid _ from hE
  have hn := hE.len
  have hvc := hE.cap
  have hN := hE.num
  have htb := hE.tb
  clear hE
  obtain ⟨n, hnn⟩ : ∃ n, n = xs.length := ⟨_, rfl⟩
  have Hn : Hid (n = xs.length) := hnn
  rw [← hnn] at hn hvc ⊢
  obtain ⟨N, hNN⟩ : ∃ N, N = sz.length := ⟨_, rfl⟩
  have HN : Hid (N = sz.length) := hNN
  rw [← hNN] at hN
  have hok2 : ∀ i, i < ss.length → (ss.getD i (0, 0, 0)).1 < N ∧ (ss.getD i (0, 0, 0)).2.1 ≤ (ss.getD i (0, 0, 0)).2.2 ∧ (ss.getD i (0, 0, 0)).2.2 ≤ n := fun i hi => by
    have h := hok (ss.getD i (0, 0, 0)) (by simp [List.getD, List.getElem?_eq_getElem hi])
    rw [hnn, hNN]; exact h
  have HO := show Hid _ from hok2
  clear hnn hNN hok hok2
  have HL := show Hid _ from @recs_cells w (CB + 1) lc VB vcap TA la ss rowl
  have HW := show Hid _ from @sps_cells w B wc wa ss roww
  clear rowl roww
  obtain ⟨m, hmm⟩ : ∃ m, m = ss.length := ⟨_, rfl⟩
  have Hm : Hid (m = ss.length) := hmm
  have hnil2 : m = 0 → la = none := fun h => by
    have := hnil (List.eq_nil_of_length_eq_zero (by omega))
    exact (Value.slice.inj this).1
  have HNil := show Hid _ from hnil2
  rw [← hmm] at hss ⊢
  clear hmm hnil hnil2
  have hme : ((m : Int) != (m : Int)) = false := by simp
  unfold FR23
  refine step cut23 (fun K hK => ?_)
  conv => arg 2; whnf
  go_wp2
  refine hK.out _ _ ?_
  clear hK K
  refine step cut24 (fun K hK => ?_)
  conv => arg 2; whnf
  go_wp2
  refine hK.out _ _ ?_
  clear hK K
  refine step cut25 (fun K hK => ?_)
  conv => arg 2; whnf
  go_wp2
  refine hK.out _ _ ?_
  clear hK K
  refine step cut26 (fun K hK => ?_)
  conv => arg 2; whnf
  by_cases hm0 : m = 0
  · have hz : ((m : Int) == 0) = true := by rw [beq_iff_eq]; omega
    have hl := HNil.out hm0
    subst hl
    have H0 : Hid (m = 0) := hm0
    clear hm0
    go_wp2
    unfold Good
    go_ret
    exact ⟨rfl, hb⟩
  · have hz : ((m : Int) == 0) = false := by rw [beq_eq_false_iff_ne]; omega
    obtain ⟨gl, rfl, hgl, hlc⟩ := HL.out (by rw [← Hm.out]; omega)
    obtain ⟨gw, rfl, hgw, hwc⟩ := HW.out (by rw [← Hm.out]; omega)
    have HLC := show Hid _ from hlc
    have HWC := show Hid _ from hwc
    clear hlc hwc hm0
    go_wp2
    refine hK.out _ _ ?_
    clear hK K
    refine step cut27 (fun K hK => ?_)
    conv => arg 2; whnf
    go_wp2
    go_loopw [36] (fun i wr => ∃ k : Nat, k ≤ m ∧ i = .int .i64 k ∧ Below w.heap.size w wr) (fun i _ => m - (intOf i).toNat)
    case atStart => exact ⟨0, Nat.zero_le _, rfl, Below.refl _ _⟩
    case round =>
      obtain ⟨k, hk, rfl, hbel⟩ := hrel
      by_cases hlt : k < m
      · obtain ⟨l0, l1, l2⟩ := HLC.out k (by rw [← Hm.out]; exact hlt)
        obtain ⟨m0, m1, m2⟩ := HWC.out k (by rw [← Hm.out]; exact hlt)
        obtain ⟨o1, o2, o3⟩ := HO.out k (by rw [← Hm.out]; exact hlt)
        generalize ss.getD k (0, 0, 0) = t at *
        obtain ⟨id, s, e⟩ := t
        simp only at l0 l1 l2 m0 m1 m2 o1 o2 o3
        obtain ⟨R, rfl⟩ : ∃ R, e = s + R := ⟨e - s, by omega⟩
        rw [show s + R - s = R from by omega] at l2
        have hszw := hbel.size
        have hL0 := (hbel.cell (p := ⟨gl, k * 3, none⟩) hgl).trans l0
        have hL1 := (hbel.cell (p := ⟨gl, k * 3 + 1, none⟩) hgl).trans l1
        have hL2 := (hbel.cell (p := ⟨gl, k * 3 + 2, none⟩) hgl).trans l2
        have hM0 := (hbel.cell (p := ⟨gw, k * 3, none⟩) hgw).trans m0
        have hM1 := (hbel.cell (p := ⟨gw, k * 3 + 1, none⟩) hgw).trans m1
        have hM2 := (hbel.cell (p := ⟨gw, k * 3 + 2, none⟩) hgw).trans m2
        have htm := (hbel.cell (p := ⟨TB, 0, none⟩) (by show TB < _; omega)).trans HE.out.tmpls
        rw [← HN.out] at htm
        have HC : Hid (∀ j, j < n → wr.cell? ⟨VB, j, none⟩ = some (.int .u8 (xs.getD j 0))) := fun j hj => (hbel.cell (p := ⟨VB, j, none⟩) (by have := (HE.out.at_ (by rw [← Hn.out]; omega)).2; show VB < _; omega)).trans (HE.out.cells j (by rw [← Hn.out]; exact hj))
        clear l0 l1 l2 m0 m1 m2
        have bl1 : gl < wr.heap.size := by omega
        have bw1 : gw < wr.heap.size := by omega
        have bl2 : gl < wr.heap.size + 1 := by omega
        have bt1 : TB < wr.heap.size := by omega
        obtain ⟨A, hA⟩ : ∃ A : Addr, (if vcap = s then (⟨VB, 0, none⟩ : Addr) else ⟨VB, s, none⟩) = A := ⟨_, rfl⟩
        rw [hA] at hL2
        have HA := show Hid _ from hA
        clear hA
        go_wp2
        obtain ⟨wX, hX⟩ : ∃ wX, wX = ((wr.alloc (.cells #[.int .u16 (id : Int), .int .i64 (s : Int), .int .i64 ((s : Int) + (R : Int))] 50)).alloc (.cells #[.int .u16 (id : Int), .pointer (some ⟨TA, id * 6, none⟩), .slice (some A) R (vcap - s)] 52)) := ⟨_, rfl⟩
        have hbX : Below wr.heap.size wr wX := by rw [hX]; exact ((Below.refl _ _).alloc (Nat.le_refl _) _).alloc (by simp) _
        have X0 : wX.cell? ⟨wr.heap.size, 0, none⟩ = some (.int .u16 (id : Int)) := by rw [hX, World.cell?_alloc_past _ _ _ (by simp), World.cell?_alloc_at _ _ _ _ rfl]; rfl
        have X1 : wX.cell? ⟨wr.heap.size, 1, none⟩ = some (.int .i64 (s : Int)) := by rw [hX, World.cell?_alloc_past _ _ _ (by simp), World.cell?_alloc_at _ _ _ _ rfl]; rfl
        have X2 : wX.cell? ⟨wr.heap.size, 2, none⟩ = some (.int .i64 ((s : Int) + (R : Int))) := by rw [hX, World.cell?_alloc_past _ _ _ (by simp), World.cell?_alloc_at _ _ _ _ rfl]; rfl
        have Y0 : wX.cell? ⟨wr.heap.size + 1, 0, none⟩ = some (.int .u16 (id : Int)) := by rw [hX, World.cell?_alloc_at _ _ _ _ (by simp)]; rfl
        have Y1 : wX.cell? ⟨wr.heap.size + 1, 1, none⟩ = some (.pointer (some ⟨TA, id * 6, none⟩)) := by rw [hX, World.cell?_alloc_at _ _ _ _ (by simp)]; rfl
        have Y2 : wX.cell? ⟨wr.heap.size + 1, 2, none⟩ = some (.slice (some A) R (vcap - s)) := by rw [hX, World.cell?_alloc_at _ _ _ _ (by simp)]; rfl
        have hsX : wr.heap.size + 1 < wX.heap.size := by rw [hX]; simp
        rw [← hX]
        clear hX
        have htX := (hbX.cell (p := ⟨TB, 0, none⟩) bt1).trans htm
        have HCX : Hid (∀ j, j < n → wX.cell? ⟨VB, j, none⟩ = some (.int .u8 (xs.getD j 0))) := fun j hj => (hbX.cell (p := ⟨VB, j, none⟩) (by have := (HE.out.at_ (by rw [← Hn.out]; omega)).2; show VB < _; omega)).trans (HC.out j hj)
        have hbW : Below w.heap.size w wX := hbel.trans (hbX.mono hszw)
        have hwX : wr.heap.size ≤ wX.heap.size := hbX.size
        have btX : TB < wX.heap.size := by omega
        clear hL0 hL1 hL2 hM0 hM1 hM2 htm HC hbX bl1 bw1 bl2 bt1
        generalize wr.heap.size = wb at *
        obtain ⟨i5, hi5, _, _, _⟩ := info_parts Ybaf.info5
        obtain ⟨i40, hi40, _, _, _⟩ := info_parts Ybaf.info40
        have hp43 := fun w => Lib.run_neq_ptr_same (P := Ybaf.prog) w ⟨TA, id * 6, none⟩ Ybaf.underlying43 hi40
        have hie : ((id : Int) != (id : Int)) = false := by simp
        have hiN : (id : Int) < (N : Int) := by omega
        have wbX : wb < wX.heap.size := by omega
        go_quiet (fail)
        have hbY : Below wX.heap.size wX (wX.drewN nq) := below_drewN (Below.refl _ _) _
        generalize wX.drewN nq = wY at *
        have P1 := (hbY.cell (p := ⟨wb, 1, none⟩) wbX).trans X1
        have P2 := (hbY.cell (p := ⟨wb, 2, none⟩) wbX).trans X2
        have P5 := (hbY.cell (p := ⟨wb + 1, 2, none⟩) hsX).trans Y2
        have HCY : Hid (∀ j, j < n → wY.cell? ⟨VB, j, none⟩ = some (.int .u8 (xs.getD j 0))) := fun j hj => (hbY.cell (p := ⟨VB, j, none⟩) (by have := (HE.out.at_ (by rw [← Hn.out]; omega)).2; show VB < _; omega)).trans (HCX.out j hj)
        have hbZ : Below w.heap.size w wY := hbW.trans (hbY.mono (by omega))
        have hsY : wb + 1 < wY.heap.size := by have := hbY.size; omega
        have wbY : wb < wY.heap.size := by omega
        have hszY := hbZ.size
        clear X0 X1 X2 Y0 Y1 Y2 hsX htX HCX hbW hwX btX wbX hbY hp43 hie hiN
        have hre : ((R : Int) != (s : Int) + (R : Int) - (s : Int)) = false := by
          rw [show (s : Int) + (R : Int) - (s : Int) = R from by omega]; simp
        have hre2 : (s : Int) + (R : Int) - (s : Int) = R := by omega
        have hre3 : ((R : Int) != (R : Int)) = false := by simp
        have hRn : R ≤ 300000000 := by omega
        go_wp2
        go_loopw [39] (fun i wq => ∃ j : Nat, j ≤ R ∧ i = .int .i64 j ∧ Below wY.heap.size wY wq) (fun i _ => R - (intOf i).toNat)
        case atStart => exact ⟨0, Nat.zero_le _, rfl, Below.refl _ _⟩
        case round =>
          obtain ⟨j, hj, rfl, hbq⟩ := hrel
          have T1 := (hbq.cell (p := ⟨wb, 1, none⟩) wbY).trans P1
          have T5 := (hbq.cell (p := ⟨wb + 1, 2, none⟩) hsY).trans P5
          have hsq := hbq.size
          have wbq : wb < wr.heap.size := by omega
          have hsq2 : wb + 1 < wr.heap.size := by omega
          by_cases hjR : j < R
          · obtain ⟨rfl, hvb⟩ := HE.out.at_ (by rw [← Hn.out]; omega)
            have hAe : A = ⟨VB, s, none⟩ := by rw [← HA.out, if_neg (by omega)]
            subst hAe
            have c0 := (hbq.cell (p := ⟨VB, s + j, none⟩) (by show VB < _; omega)).trans (HCY.out (s + j) (by omega))
            generalize xs.getD (s + j) 0 = x at *
            have hxe : (x != x) = false := by simp
            have e0 : (j : Int) < (R : Int) := by omega
            have e1 : (s : Int) + (j : Int) < (n : Int) := by omega
            have e2 : ((s : Int) + (j : Int)).toNat = s + j := by omega
            have e3 : (0 : Int) ≤ (s : Int) + (j : Int) := by omega
            have hvq : VB < wr.heap.size := by omega
            go_wp2
            go_quiet (fail)
            go_wp2
            go_roundw
            case rel => exact ⟨j + 1, by omega, by go_num, below_drewN hbq _⟩
            case measure => simp [intOf]; omega
          · by_cases hR0 : 0 < R
            · obtain ⟨rfl, hvb⟩ := HE.out.at_ (by rw [← Hn.out]; omega)
              have hAe : A = ⟨VB, s, none⟩ := by rw [← HA.out, if_neg (by omega)]
              subst hAe
              have hp53 := fun w => Lib.run_neq_ptr_same (P := Ybaf.prog) w ⟨VB, s, none⟩ Ybaf.underlying53 hi5
              have e0 : (0 : Int) < (R : Int) := by omega
              have e1 : (s : Int) < (n : Int) := by omega
              go_wp2
              go_quiet (fail)
              go_wp2
              go_roundw
              case rel => exact ⟨k + 1, by omega, by go_num, below_drewN (hbZ.trans (hbq.mono hszY)) _⟩
              case measure => simp [intOf]; omega
            · have hd : decide ((0 : Int) < (R : Int)) = false := by rw [decide_eq_false_iff_not]; omega
              go_wp2
              go_quiet (fail)
              go_wp2
              go_roundw
              case rel => exact ⟨k + 1, by omega, by go_num, below_drewN (hbZ.trans (hbq.mono hszY)) _⟩
              case measure => simp [intOf]; omega
      · go_wp2
        refine hK.out _ _ ?_
        conv => arg 2; whnf
        go_wp2
        unfold Good
        go_ret
        exact ⟨rfl, hb.trans (hbel.mono hb.size)⟩
end Go.Proofs.YbulkdrwgFmt
