/-
  The law's walk, part 6: its own model of the answer.
-/
import Derived.Test.YbulkdrwgFmtPart5
namespace Go.Proofs.YbulkdrwgFmt
open Go.RowKit
set_option linter.unusedVariables false
theorem Ybaf.info50 : (Ybaf.prog.info? 50).map (fun i => (i.zero, i.size, i.bytes)) = some (some (.agg #[.int .u16 0, .int .i64 0, .int .i64 0]), 3, 24) := by kernel_rfl

/-- A span's cells. -/
def sp1 (t : Nat × Nat × Nat) : List Value := [.int .u16 (t.1 : Int), .int .i64 (t.2.1 : Int), .int .i64 (t.2.2 : Int)]
def sps (ss : List (Nat × Nat × Nat)) : List Value := ss.flatMap sp1
theorem sps_snoc (ss : List (Nat × Nat × Nat)) (t : Nat × Nat × Nat) : sps ss ++ sp1 t = sps (ss ++ [t]) := by simp [sps]

/-- What the law's own model has gathered, its two rows from block B on. -/
structure Wanted (B : Nat) (w : World) (vw vk : Value) (ks : List Nat) (ss : List (Nat × Nat × Nat)) : Prop where
  calls : w.ownsRow B 24 1 vk ks.length (us ks)
  spans : w.ownsRow B 50 3 vw ss.length (sps ss)
  dis : ∀ k, vw.ownBlock = some k → vk.ownBlock ≠ some k

/-- What the model's loop leaves. -/
structure Modelled (B : Nat) (w : World) (vw vk : Value) (xs sz : List Int) : Prop where
  calls : w.ownsRow B 24 1 vk (answer xs sz).1.length (us (answer xs sz).1)
  spans : (answer xs sz).2.2 = true → w.ownsRow B 50 3 vw (answer xs sz).2.1.length (sps (answer xs sz).2.1)

section
variable {B : Nat} {w w' : World} {vw vk v' : Value} {ks : List Nat} {ss : List (Nat × Nat × Nat)} {O : Obj}

/-- One call more. -/
theorem Wanted.call {I : Nat} (h : Wanted B w vw vk ks ss) (hB : B ≤ w.heap.size) (hown : w'.ownsRow B 24 1 v' (ks.length + 1) (us ks ++ [.int .u16 (I : Int)])) (hgrow : (w.alloc O).grownBy w' vk.ownBlock) (hat : v'.ownBlock = vk.ownBlock ∨ v'.ownBlock = some (w.alloc O).heap.size) : Wanted B w' vw v' (ks ++ [I]) ss := by
  refine ⟨by rw [us_snoc] at hown; simpa using hown, own_kept (h.spans.alloc O) fun k hk => ?_, fun k hk e => ?_⟩
  · have := (h.spans.lt k hk).2
    exact hgrow.block k (by simp; omega) (fun e => h.dis k hk e.symm)
  · rcases hat with h2 | h2
    · rw [h2] at e; exact h.dis k hk e
    · rw [h2] at e; cases e
      have := (h.spans.lt _ hk).2
      simp at this; omega

/-- One span more. -/
theorem Wanted.span {t : Nat × Nat × Nat} (h : Wanted B w vw vk ks ss) (hB : B ≤ w.heap.size) (hown : w'.ownsRow B 50 3 v' (ss.length + 1) (sps ss ++ sp1 t)) (hgrow : (w.alloc O).grownBy w' vw.ownBlock) (hat : v'.ownBlock = vw.ownBlock ∨ v'.ownBlock = some (w.alloc O).heap.size) : Wanted B w' v' vk ks (ss ++ [t]) := by
  refine ⟨own_kept (h.calls.alloc O) fun k hk => ?_, by rw [sps_snoc] at hown; simpa using hown, fun k hk e => ?_⟩
  · have := (h.calls.lt k hk).2
    exact hgrow.block k (by simp; omega) (fun e => h.dis k e.symm hk)
  · rcases hat with h2 | h2
    · rw [h2] at hk; exact h.dis k hk e
    · rw [h2] at hk; cases hk
      have := (h.calls.lt _ e).2
      simp at this; omega
end

theorem or16' (x0 x1 : Int) (p0 : 0 ≤ x0) (q0 : x0 ≤ 255) (p1 : 0 ≤ x1) (q1 : x1 ≤ 255) : bits .or .u16 (x0 * 256) x1 = x0 * 256 + x1 :=
  bits_join .u16 16 (by decide) wraps16 8 (x0 * 256) x1 (by omega) (by omega) (by omega) p1 (by omega) (by omega)
theorem or64' (x0 x1 : Int) (p0 : 0 ≤ x0) (q0 : x0 ≤ 255) (p1 : 0 ≤ x1) (q1 : x1 ≤ 255) : bits .or .i64 (x0 * 256) x1 = x0 * 256 + x1 :=
  bits_join .i64 16 (by decide) (fun n h0 h1 => by rw [IntKind.wrap_i64]; omega) 8 (x0 * 256) x1 (by omega) (by omega) (by omega) p1 (by omega) (by omega)

theorem sp1_eq (I p L : Nat) : sp1 (I, p + 4, p + L) = [.int .u16 (I : Int), .int .i64 ((p : Int) + 4), .int .i64 ((p : Int) + (L : Int))] := by simp [sp1]

theorem env_get {CB VB vcap KB TB TA : Nat} {va za : Option Addr} {xs sz : List Int} {w : World} (h : Env CB VB vcap KB TB TA va za xs sz w) (i : Nat) (hi : i < xs.length) : 0 ≤ xs.getD i 0 ∧ xs.getD i 0 ≤ 255 := by
  have : xs.getD i 0 ∈ xs := by simp [List.getD, List.getElem?_eq_getElem hi]
  exact h.by8 _ this

set_option maxRecDepth 100000 in
set_option maxHeartbeats 4000000 in
theorem part6 (va za : Option Addr) (vcap zc TB TA KB CB VB : Nat) (vl okv : Value) (xs sz : List Int) (w0 w : World) (u : Nat → Value) (hCB : CB ≤ w.heap.size) (hE : Env CB VB vcap KB TB TA va za xs sz w)
    (next : ∀ (w' : World) (vw vk : Value), Below w.heap.size w w' → Modelled w.heap.size w' vw vk xs sz → ∀ u,
      Code.wp Ybaf.prog (tailAt 19 (bodyOf Ybaf.f3)) (Good w0) (FR19 (.pointer (some ⟨TB, 0, none⟩)) (.slice va xs.length vcap) (.slice (some ⟨KB, 0, none⟩) xs.length xs.length) (.pointer (some ⟨CB, 0, none⟩)) vl okv vw vk (.bool (answer xs sz).2.2) u) w') :
    Code.wp Ybaf.prog (tailAt 14 (bodyOf Ybaf.f3)) (Good w0) (FR14 (.slice za sz.length zc) (.pointer (some ⟨TB, 0, none⟩)) (.slice va xs.length vcap) (.slice (some ⟨KB, 0, none⟩) xs.length xs.length) (.pointer (some ⟨CB, 0, none⟩)) vl okv u) w := by
  have HX := show Hid _ from next
  have HE := show Hid _ from hE
  have hn := hE.len
  have hN := hE.num
  clear next hE
  obtain ⟨n, hnn⟩ : ∃ n, n = xs.length := ⟨_, rfl⟩
  have Hn : Hid (n = xs.length) := hnn
  obtain ⟨N, hNN⟩ : ∃ N, N = sz.length := ⟨_, rfl⟩
  have HN : Hid (N = sz.length) := hNN
  rw [← hnn] at hn ⊢
  rw [← hNN] at hN ⊢
  clear hnn hNN
  unfold FR14
  refine step cut14 (fun K hK => ?_)
  conv => arg 2; whnf
  go_wp2
  refine hK.out _ _ ?_
  clear hK K
  refine step cut15 (fun K hK => ?_)
  conv => arg 2; whnf
  go_wp2
  refine hK.out _ _ ?_
  clear hK K
  refine step cut16 (fun K hK => ?_)
  conv => arg 2; whnf
  go_wp2
  refine hK.out _ _ ?_
  clear hK K
  refine step cut17 (fun K hK => ?_)
  conv => arg 2; whnf
  go_wp2
  refine hK.out _ _ ?_
  clear hK K
  refine step cut18 (fun K hK => ?_)
  conv => arg 2; whnf
  by_cases h0 : n = 0
  · have H0 : Hid (n = 0) := h0
    have hz : ((n : Int) == 0) = true := by rw [beq_iff_eq]; omega
    clear h0
    go_wp2
    refine hK.out _ _ ?_
    have ha : answer xs sz = ([], [], false) := by rw [answer, if_pos (by rw [← Hn.out]; exact H0.out)]
    have R := HX.out w (.slice none 0 0) (.slice none 0 0) (Below.refl _ _) ⟨by rw [ha]; exact World.ownsRow_nil _ _ _ _, by rw [ha]; intro h; cases h⟩
    rw [ha, ← Hn.out] at R
    exact frame_to (FR19 (.pointer (some ⟨TB, 0, none⟩)) (.slice va n vcap) (.slice (some ⟨KB, 0, none⟩) n n) (.pointer (some ⟨CB, 0, none⟩)) vl okv (.slice none 0 0) (.slice none 0 0) (.bool false)) (by kernel_rfl) R
  · have hz : ((n : Int) == 0) = false := by rw [beq_eq_false_iff_ne]; omega
    have hpos : 0 < n := by omega
    clear h0
    obtain ⟨rfl, hvb⟩ := HE.out.at_ (by rw [← Hn.out]; exact hpos)
    have ha : answer xs sz = total xs sz := by rw [answer, if_neg (by rw [← Hn.out]; omega)]
    have HA : Hid (answer xs sz = total xs sz) := ha
    clear ha
    have hbad : ∀ (w' : World) (vw vk : Value) (kt : List Nat), (total xs sz).1 = kt ∧ (total xs sz).2.2 = false → w'.ownsRow w.heap.size 24 1 vk kt.length (us kt) → Below w.heap.size w w' → ∀ u,
        Code.wp Ybaf.prog (tailAt 19 (bodyOf Ybaf.f3)) (Good w0) (FR19 (.pointer (some ⟨TB, 0, none⟩)) (.slice (some ⟨VB, 0, none⟩) n vcap) (.slice (some ⟨KB, 0, none⟩) n n) (.pointer (some ⟨CB, 0, none⟩)) vl okv vw vk (.bool false) u) w' := by
      intro w' vw vk kt h1 h3 h4
      have R := HX.out w' vw vk h4 ⟨by rw [HA.out, h1.1]; exact h3, by rw [HA.out, h1.2]; intro h; cases h⟩
      rw [HA.out, h1.2, ← Hn.out] at R
      exact R
    have hgood : ∀ (w' : World) (vw vk : Value) (ks : List Nat) (ss : List (Nat × Nat × Nat)), total xs sz = (ks, ss, true) → Wanted w.heap.size w' vw vk ks ss → Below w.heap.size w w' → ∀ u,
        Code.wp Ybaf.prog (tailAt 19 (bodyOf Ybaf.f3)) (Good w0) (FR19 (.pointer (some ⟨TB, 0, none⟩)) (.slice (some ⟨VB, 0, none⟩) n vcap) (.slice (some ⟨KB, 0, none⟩) n n) (.pointer (some ⟨CB, 0, none⟩)) vl okv vw vk (.bool true) u) w' := by
      intro w' vw vk ks ss h1 h3 h4
      have R := HX.out w' vw vk h4 ⟨by rw [HA.out, h1]; exact h3.calls, by rw [HA.out, h1]; exact fun _ => h3.spans⟩
      rw [HA.out, h1, ← Hn.out] at R
      exact R
    have HBad := show Hid _ from hbad
    have HGood := show Hid _ from hgood
    clear hbad hgood
    go_wp2
    go_loopw [26, 27, 28, 30] (fun vw vk ok i wr => ∃ (p : Nat) (ks : List Nat) (ss : List (Nat × Nat × Nat)), i = .int .i64 p ∧ ok = .bool true ∧ 1 ≤ p ∧ p ≤ n ∧ Hid (Inv xs sz p ks ss) ∧ ks.length ≤ p ∧ ss.length ≤ p ∧ Wanted w.heap.size wr vw vk ks ss ∧ Below w.heap.size w wr) (fun _ _ _ i _ => n - (intOf i).toNat)
    case atStart => exact ⟨1, [], [], rfl, rfl, Nat.le_refl _, hpos, inv_start _ _, by simp, by simp, ⟨World.ownsRow_nil _ _ _ _, World.ownsRow_nil _ _ _ _, by simp [Value.ownBlock]⟩, Below.refl _ _⟩
    case round =>
      obtain ⟨p, ks, ss, rfl, rfl, p1, p2, HI, hkl, hsl, hW, hbel⟩ := hrel
      by_cases hp : p < n
      · by_cases h4 : n < p + 4
        · go_wp2
          refine hK.out _ _ ?_
          exact frame_to (FR19 (.pointer (some ⟨TB, 0, none⟩)) (.slice (some ⟨VB, 0, none⟩) n vcap) (.slice (some ⟨KB, 0, none⟩) n n) (.pointer (some ⟨CB, 0, none⟩)) vl okv u26 u27 (.bool false)) (by kernel_rfl) (HBad.out wr u26 u27 ks (inv_bad1 HI.out (by rw [← Hn.out]; exact hp) (by simp [bad1]; left; left; rw [← Hn.out]; exact h4)) hW.calls hbel)
        · have ER := HE.out.later (hbel.mono hCB)
          have hwsz := hbel.size
          have hvw : VB < wr.heap.size := by omega
          obtain ⟨a0, b0⟩ := env_get ER p (by rw [← Hn.out]; omega)
          obtain ⟨a1, b1⟩ := env_get ER (p + 1) (by rw [← Hn.out]; omega)
          obtain ⟨a2, b2⟩ := env_get ER (p + 2) (by rw [← Hn.out]; omega)
          obtain ⟨a3, b3⟩ := env_get ER (p + 3) (by rw [← Hn.out]; omega)
          have c0 := ER.cells p (by rw [← Hn.out]; omega)
          have c1 := ER.cells (p + 1) (by rw [← Hn.out]; omega)
          have c2 := ER.cells (p + 2) (by rw [← Hn.out]; omega)
          have c3 := ER.cells (p + 3) (by rw [← Hn.out]; omega)
          obtain ⟨I, hI⟩ : ∃ I, idAt xs p = I := ⟨_, rfl⟩
          obtain ⟨L, hL⟩ : ∃ L, lenAt xs p = L := ⟨_, rfl⟩
          have hI2 : bits .or .u16 (xs.getD p 0 * 256) (xs.getD (p + 1) 0) = (I : Int) := by rw [or16' _ _ a0 b0 a1 b1, ← hI]; unfold idAt be; omega
          have hL2 : bits .or .i64 (xs.getD (p + 2) 0 * 256) (xs.getD (p + 3) 0) = (L : Int) := by rw [or64' _ _ a2 b2 a3 b3, ← hL]; unfold lenAt be; rw [show p + 2 + 1 = p + 3 from rfl]; omega
          have hI3 : I ≤ 65535 := by rw [or16' _ _ a0 b0 a1 b1] at hI2; omega
          have hL3 : L ≤ 65535 := by rw [or64' _ _ a2 b2 a3 b3] at hL2; omega
          have HI2 : Hid (idAt xs p = I) := hI
          have HL2 : Hid (lenAt xs p = L) := hL
          generalize xs.getD p 0 = x0 at *
          generalize xs.getD (p + 1) 0 = x1 at *
          generalize xs.getD (p + 2) 0 = x2 at *
          generalize xs.getD (p + 3) 0 = x3 at *
          clear hI hL
          have e0 : (0 : Int) ≤ (p : Int) := by omega
          have e1 : (p : Int) < (n : Int) := by omega
          have e2 : (p : Int) + 1 < (n : Int) := by omega
          have e3 : (p : Int) + 2 < (n : Int) := by omega
          have e4 : (p : Int) + 3 < (n : Int) := by omega
          have f1 : ((p : Int) + 1).toNat = p + 1 := by omega
          have f2 : ((p : Int) + 2).toNat = p + 2 := by omega
          have f3 : ((p : Int) + 3).toNat = p + 3 := by omega
          go_wp2
          go_quiet (fail)
          have hba : Below wr.heap.size wr (wr.drewN nq) := below_drewN (Below.refl _ _) _
          have d2 : (wr.drewN nq).cell? ⟨VB, p + 2, none⟩ = some (.int .u8 x2) := c2
          have d3 : (wr.drewN nq).cell? ⟨VB, p + 3, none⟩ = some (.int .u8 x3) := c3
          generalize wr.drewN nq = wa at *
          clear c0 c1 c2 c3
          go_wp2
          go_quiet (fail)
          have hbb : Below wr.heap.size wr (wa.drewN nq) := below_drewN hba _
          generalize wa.drewN nq = wb at *
          clear d2 d3 hba hI2 hL2 e0 e1 e2 e3 e4 f1 f2 f3 a0 a1 a2 a3 b0 b1 b2 b3
          have hWb : Wanted w.heap.size wb u26 u27 ks ss := ⟨own_later hW.calls hbb, own_later hW.spans hbb, hW.dis⟩
          have hbw : Below w.heap.size w wb := hbel.trans (hbb.mono hwsz)
          have hwb : w.heap.size ≤ wb.heap.size := hbw.size
          clear hW hbb ER hvw
          by_cases hl4 : L < 4
          · go_wp2
            refine hK.out _ _ ?_
            exact frame_to (FR19 (.pointer (some ⟨TB, 0, none⟩)) (.slice (some ⟨VB, 0, none⟩) n vcap) (.slice (some ⟨KB, 0, none⟩) n n) (.pointer (some ⟨CB, 0, none⟩)) vl okv u26 u27 (.bool false)) (by kernel_rfl) (HBad.out wb u26 u27 ks (inv_bad1 HI.out (by rw [← Hn.out]; exact hp) (by simp [bad1, HL2.out, hl4])) hWb.calls hbw)
          · by_cases hbl : n < p + L
            · go_wp2
              refine hK.out _ _ ?_
              exact frame_to (FR19 (.pointer (some ⟨TB, 0, none⟩)) (.slice (some ⟨VB, 0, none⟩) n vcap) (.slice (some ⟨KB, 0, none⟩) n n) (.pointer (some ⟨CB, 0, none⟩)) vl okv u26 u27 (.bool false)) (by kernel_rfl) (HBad.out wb u26 u27 ks (inv_bad1 HI.out (by rw [← Hn.out]; exact hp) (by simp [bad1, HL2.out]; right; rw [← Hn.out]; exact hbl)) hWb.calls hbw)
            · obtain ⟨g1, g2⟩ : 4 ≤ L ∧ p + L ≤ n := by omega
              clear hbl hl4
              have hb1 : bad1 xs p = false := by simp [bad1, HL2.out]; rw [← Hn.out]; omega
              have HB1 : Hid (bad1 xs p = false) := hb1
              clear hb1
              obtain ⟨i0, hi, hz0, hz1, hz2⟩ := info_parts Ybaf.info24
              by_cases hid : I < N
              · obtain ⟨zb, zo, rfl, hzb, hzc⟩ := HE.out.sizes.pos (by rw [← HN.out]; omega)
                have hzc := hzc I (by rw [← HN.out]; exact hid)
                obtain ⟨z1, z2⟩ := HE.out.sizes.get I (by rw [← HN.out]; exact hid)
                have Hoc : Hid (octets sz I = sz.getD I 0 % 8 + 1) := rfl
                generalize sz.getD I 0 = z at *
                obtain ⟨j0, hj, hj0, hj1, hj2⟩ := info_parts Ybaf.info50
                by_cases hfit : ((L : Int) - 4) % (z % 8 + 1) = 0
                · have HF : Hid (((L : Int) - 4) % (z % 8 + 1) = 0) := hfit
                  have hfb : (((L : Int) - 4) % (z % 8 + 1) != 0) = false := by simp [hfit]
                  clear hfit
                  go_wp2_with (first | (at_builtin; refine wpList_append_own_at _ rfl (.tmp 217) (.tmp 219) 42 rfl w.heap.size 24 i0 (.int .u16 0) 1 2 Ybaf.underlying42 hi hz0 hz1 hz2 rfl (by decide) _ _ _ rfl (hWb.calls.alloc _) ⟨wb.heap.size, 0, none⟩ 1 1 [.int .u16 (I : Int)] rfl rfl (cell_one_new _ _ _) (us_one [I]) (by unfold maxLen; omega) (by omega) (by simp; omega) ?_; intro v5 w5 hown5 hgrow5 hnil5 hat5; have hb5 := (hbw.alloc hwb _).grown hgrow5 (by simp; omega) (own_base hWb.calls); have zc := (hb5.cell (p := ⟨zb, zo + I, none⟩) (by show zb < _; omega)).trans hzc; have hW5 := hWb.call hwb hown5 hgrow5 hat5; have hw5 := hb5.size) | (at_builtin; refine wpList_append_own_at _ rfl (.tmp 238) (.tmp 246) 48 rfl w.heap.size 50 j0 (.agg #[.int .u16 0, .int .i64 0, .int .i64 0]) 3 24 Ybaf.underlying48 hj hj0 hj1 hj2 rfl (by decide) _ _ _ rfl (hW5.spans.alloc _) ⟨w5.heap.size, 0, none⟩ 1 1 [.int .u16 (I : Int), .int .i64 ((p : Int) + 4), .int .i64 ((p : Int) + (L : Int))] rfl rfl (cell_three_new _ _ _ _ _) (by intro u hu; simp at hu; rcases hu with rfl | rfl | rfl <;> rfl) (by unfold maxLen; omega) (by omega) (by simp; omega) ?_; intro v6 w6 hown6 hgrow6 hnil6 hat6))
                  have hW6 := hW5.span (t := (I, p + 4, p + L)) hw5 (by rw [sp1_eq]; exact hown6) hgrow6 hat6
                  have hb6 := (hb5.alloc hw5 _).grown hgrow6 (by simp; omega) (own_base hW5.spans)
                  have hst := inv_step (sz := sz) HI.out (by rw [← Hn.out]; exact hp) HB1.out (by simp [bad2, HI2.out, HL2.out, Hoc.out]; exact ⟨by rw [← HN.out]; exact hid, HF.out⟩)
                  rw [HI2.out, HL2.out] at hst
                  go_roundw
                  case rel => exact ⟨p + L, ks ++ [I], ss ++ [(I, p + 4, p + L)], by go_num, rfl, by omega, g2, hst, by simp; omega, by simp; omega, hW6, hb6⟩
                  case measure => simp [intOf]; omega
                · have HF : Hid (¬ ((L : Int) - 4) % (z % 8 + 1) = 0) := hfit
                  have hfb : (((L : Int) - 4) % (z % 8 + 1) != 0) = true := by simp [hfit]
                  clear hfit
                  go_wp2_with (at_builtin; refine wpList_append_own_at _ rfl (.tmp 217) (.tmp 219) 42 rfl w.heap.size 24 i0 (.int .u16 0) 1 2 Ybaf.underlying42 hi hz0 hz1 hz2 rfl (by decide) _ _ _ rfl (hWb.calls.alloc _) ⟨wb.heap.size, 0, none⟩ 1 1 [.int .u16 (I : Int)] rfl rfl (cell_one_new _ _ _) (us_one [I]) (by unfold maxLen; omega) (by omega) (by simp; omega) ?_; intro v5 w5 hown5 hgrow5 hnil5 hat5; have hb5 := (hbw.alloc hwb _).grown hgrow5 (by simp; omega) (own_base hWb.calls); have zc := (hb5.cell (p := ⟨zb, zo + I, none⟩) (by show zb < _; omega)).trans hzc; have hW5 := hWb.call hwb hown5 hgrow5 hat5; have hw5 := hb5.size)
                  refine hK.out _ _ ?_
                  have hb := inv_bad2 (sz := sz) HI.out (by rw [← Hn.out]; exact hp) HB1.out (by simp [bad2, HI2.out, HL2.out, Hoc.out]; right; exact HF.out)
                  rw [HI2.out] at hb
                  exact frame_to (FR19 (.pointer (some ⟨TB, 0, none⟩)) (.slice (some ⟨VB, 0, none⟩) n vcap) (.slice (some ⟨KB, 0, none⟩) n n) (.pointer (some ⟨CB, 0, none⟩)) vl okv u26 v5 (.bool false)) (by kernel_rfl) (HBad.out w5 u26 v5 (ks ++ [I]) hb hW5.calls hb5)
              · go_wp2_with (at_builtin; refine wpList_append_own_at _ rfl (.tmp 217) (.tmp 219) 42 rfl w.heap.size 24 i0 (.int .u16 0) 1 2 Ybaf.underlying42 hi hz0 hz1 hz2 rfl (by decide) _ _ _ rfl (hWb.calls.alloc _) ⟨wb.heap.size, 0, none⟩ 1 1 [.int .u16 (I : Int)] rfl rfl (cell_one_new _ _ _) (us_one [I]) (by unfold maxLen; omega) (by omega) (by simp; omega) ?_; intro v5 w5 hown5 hgrow5 hnil5 hat5)
                refine hK.out _ _ ?_
                have hW5 := hWb.call hwb hown5 hgrow5 hat5
                have hb5 := (hbw.alloc hwb _).grown hgrow5 (by simp; omega) (own_base hWb.calls)
                have hb := inv_bad2 (sz := sz) HI.out (by rw [← Hn.out]; exact hp) HB1.out (by simp [bad2, HI2.out]; left; rw [← HN.out]; omega)
                rw [HI2.out] at hb
                exact frame_to (FR19 (.pointer (some ⟨TB, 0, none⟩)) (.slice (some ⟨VB, 0, none⟩) n vcap) (.slice (some ⟨KB, 0, none⟩) n n) (.pointer (some ⟨CB, 0, none⟩)) vl okv u26 v5 (.bool false)) (by kernel_rfl) (HBad.out w5 u26 v5 (ks ++ [I]) hb hW5.calls hb5)
      · go_wp2
        refine hK.out _ _ ?_
        exact frame_to (FR19 (.pointer (some ⟨TB, 0, none⟩)) (.slice (some ⟨VB, 0, none⟩) n vcap) (.slice (some ⟨KB, 0, none⟩) n n) (.pointer (some ⟨CB, 0, none⟩)) vl okv u26 u27 (.bool true)) (by kernel_rfl) (HGood.out wr u26 u27 ks ss (inv_end HI.out (by rw [← Hn.out]; omega)) hW hbel)
end Go.Proofs.YbulkdrwgFmt
