/-
  The law's walk, part 3: v is built out of the sets; what its bytes are is left open.
-/
import Derived.Test.YbulkdrwgFmtState
import Derived.Laws.AppendOwnNone
namespace Go.Proofs.YbulkdrwgFmt
open Go.RowKit
set_option linter.unusedVariables false
theorem Ybaf.info5 : (Ybaf.prog.info? 5).map (fun i => (i.zero, i.size, i.bytes)) = some (some (.int .u8 0), 1, 1) := by kernel_rfl

theorem cell_four_new (w : World) (a b c d : Value) (t : TypeId) : ∀ j u, [a, b, c, d][j]? = some u → (w.alloc (.cells #[a, b, c, d] t)).cell? ((⟨w.heap.size, 0, none⟩ : Addr).add j) = some u := by
  intro j u hj
  match j, hj with
  | 0, hj => simp at hj; subst hj; simp [Addr.add]
  | 1, hj => simp at hj; subst hj; simp [Addr.add]
  | 2, hj => simp at hj; subst hj; simp [Addr.add]
  | 3, hj => simp at hj; subst hj; simp [Addr.add]

/-- v behind an append of bytes. -/
theorem made_push {B m : Nat} {w w' : World} {v v' : Value} {xs ys : List Int} (h : Made B w v xs) (hown : w'.ownsRow B 5 1 v' (xs.length + m) (bv xs ++ bv ys)) (hm : ys.length = m) (hy : ∀ b ∈ ys, 0 ≤ b ∧ b ≤ 255) : Made B w' v' (xs ++ ys) := by
  refine ⟨?_, ?_⟩
  · rw [bv_append] at hown
    rw [List.length_append, hm]; exact hown
  · intro b hb
    rcases List.mem_append.1 hb with hb | hb
    · exact h.by8 b hb
    · exact hy b hb
theorem four_by8 (a b c d : Int) : ∀ x ∈ [a % 256, b % 256, c % 256, d % 256], 0 ≤ x ∧ x ≤ 255 := by
  intro x hx
  simp at hx
  rcases hx with rfl | rfl | rfl | rfl <;> omega
theorem own_base {w : World} {base : Nat} {e : TypeId} {size : Nat} {v : Value} {n : Nat} {xs : List Value} (h : w.ownsRow base e size v n xs) : ∀ k, v.ownBlock = some k → base ≤ k := fun k hk => (h.lt k hk).1

/-- 'body[:65531]'. -/
theorem cut_body (ad : Addr) (bl bc : Nat) (hc : 65531 ≤ bc) (w : World) :
    (Instr.slice 23 (.slice (some ad) bl bc) none (some (.int .i64 65531)) none).run Ybaf.prog w = .ok (.slice (some ad) 65531 bc) w := by
  have h := run_slice_h (P := Ybaf.prog) w 23 (some ad) bl bc Ybaf.underlying23 .i64 65531 (by omega) (by omega)
  rw [h]
  go_simp

set_option maxRecDepth 100000 in
set_option maxHeartbeats 2000000 in
theorem part3 (wh : Bool) (sem : Int) (sa ta za : Option Addr) (S tl N sc tc zc TB : Nat) (w0 w1 : World) (u : Nat → Value) (hS : S ≤ 4096) (hN : N ≤ 4096) (hsem : 0 ≤ sem ∧ sem ≤ 255) (hset : AllSets w0.heap.size w1 sa S) (hb01 : w0.heap.size ≤ w1.heap.size)
    (next : ∀ (w : World) (v : Value) (xs : List Int), Below w1.heap.size w1 w → Made w1.heap.size w v xs → xs.length ≤ 268500000 → ∀ u, Code.wp Ybaf.prog (tailAt 8 (bodyOf Ybaf.f3)) (Good w0) (FR8 (.slice ta tl tc) (.slice za N zc) (.pointer (some ⟨TB, 0, none⟩)) v u) w) :
    Code.wp Ybaf.prog (tailAt 6 (bodyOf Ybaf.f3)) (Good w0) (FR6 (.bool wh) (.int .u8 sem) (.slice sa S sc) (.slice ta tl tc) (.slice za N zc) (.pointer (some ⟨TB, 0, none⟩)) u) w1 := by
  have HX := show Hid _ from next
  have HS : Hid (AllSets w0.heap.size w1 sa S) := hset
  clear next hset
  obtain ⟨i0, hi, hz0, hz1, hz2⟩ := info_parts Ybaf.info5
  unfold FR6
  cases wh with
  | false =>
    refine step cut6 (fun K hK => ?_)
    conv => arg 2; whnf
    go_wp2
    refine hK.out _ _ ?_
    clear hK K
    refine step cut7 (fun K hK => ?_)
    conv => arg 2; whnf
    go_wp2
    refine hK.out _ _ ?_
    exact frame_to (FR8 (.slice ta tl tc) (.slice za N zc) (.pointer (some ⟨TB, 0, none⟩)) (.slice none 0 0)) (by kernel_rfl) (HX.out w1 _ [] (Below.refl _ _) ⟨World.ownsRow_nil _ _ _ _, by simp⟩ (by simp))
  | true =>
    refine step cut6 (fun K hK => ?_)
    conv => arg 2; whnf
    go_wp2
    refine hK.out _ _ ?_
    clear hK K
    refine step cut7 (fun K hK => ?_)
    conv => arg 2; whnf
    go_wp2_with (at_builtin; refine wpList_append_own _ rfl (.tmp 97) (.tmp 99) 23 rfl w1.heap.size 5 i0 (.int .u8 0) 1 1 Ybaf.underlying23 hi hz0 hz1 hz2 rfl (by decide) _ _ _ rfl (World.ownsRow_nil _ _ _ _) ⟨w1.heap.size, 0, none⟩ 1 1 [.int .u8 sem] rfl rfl (cell_one_new _ _ _) (bv_one [sem]) (by decide) (by omega) (by simp) ?_; intro v2 w2 hown2 hgrow2 hnil2)
    go_loopw [16, 17] (fun v i wr => ∃ (k : Nat) (xs : List Int), k ≤ S ∧ i = .int .i64 k ∧ Below w1.heap.size w1 wr ∧ Made w1.heap.size wr v xs ∧ xs.length ≤ 1 + k * 65535) (fun _ i _ => S - (intOf i).toNat)
    case atStart => exact ⟨0, [sem], Nat.zero_le _, rfl, ((Below.refl _ w1).alloc (Nat.le_refl _) _).grown hgrow2 (by simp) (fun k hk => by cases hk), ⟨hown2, by simp; exact hsem⟩, by simp⟩
    case round =>
      obtain ⟨k, xs, hk, rfl, hbel, hmd, hxl⟩ := hrel
      by_cases hlt : k < S
      · obtain ⟨sb, so, rfl, hsb, hs⟩ := HS.out (by omega)
        obtain ⟨id, sk, ba, bl, bc, bs, hs⟩ := hs k hlt
        have hs := hs.later hsb (hbel.mono hb01)
        have c0 := hs.c0
        have c1 := hs.c1
        have c2 := hs.c2
        obtain ⟨id0, id1⟩ := hs.id0
        obtain ⟨sk0, sk1⟩ := hs.sk0
        obtain ⟨s1, s2, s3, s4⟩ := hs.src
        have hr := hs.reach
        have hsbw : sb < wr.heap.size := by have := hbel.size; omega
        have hwsz := hbel.size
        rcases s4 with ⟨rfl, rfl, rfl⟩ | ⟨ad, rfl, had, hcs⟩
        · go_wp2_with (first | (at_builtin; refine wpList_append_own _ rfl (.tmp 138) (.tmp 149) 23 rfl w1.heap.size 5 i0 (.int .u8 0) 1 1 Ybaf.underlying23 hi hz0 hz1 hz2 rfl (by decide) _ _ _ rfl (hmd.own.alloc _) ⟨wr.heap.size, 0, none⟩ 4 4 _ rfl rfl (cell_four_new _ _ _ _ _ _) (by intro u hu; simp at hu; rcases hu with rfl | rfl | rfl | rfl <;> rfl) (by unfold maxLen; omega) (by omega) (by have := hbel.size; simp; omega) ?_; intro v3 w3 hown3 hgrow3 hnil3; have hb3 : Below w1.heap.size w1 w3 := (hbel.alloc hbel.size _).grown hgrow3 (by have := hbel.size; simp; omega) (own_base hmd.own)) | (at_builtin; refine wpList_append_own_none rfl (.tmp 151) (.tmp 152) 23 rfl w1.heap.size 5 i0 1 Ybaf.underlying23 hi _ _ _ rfl hown3 rfl ?_))
          go_roundw
          case rel => exact ⟨k + 1, xs ++ _, by omega, by go_num, hb3, made_push hmd hown3 rfl (four_by8 _ _ _ _), by simp; omega⟩
          case measure => simp [intOf]; omega
        · have hsrc : ∀ W, Below w1.heap.size wr W → ∀ j v, (bv bs)[j]? = some v → W.cell? (ad.add j) = some v := fun W hW j v hj => by
            have h0 : 0 < bl := by have := (List.getElem?_eq_some_iff.1 hj).1; rw [bv_length] at this; omega
            exact (hW.cell (by have := had h0; unfold Addr.add; split <;> (show ad.block < _; omega))).trans (hcs j v hj)
          have Hsrc := show Hid _ from hsrc
          have Hs1 : Hid (bs.length = bl) := s1
          have Hs3 : Hid (∀ b ∈ bs, 0 ≤ b ∧ b ≤ 255) := s3
          clear hsrc hcs s1 s3 had
          by_cases hgt : bl ≤ 65531
          · go_wp2_with (first | (at_builtin; refine wpList_append_own _ rfl (.tmp 138) (.tmp 149) 23 rfl w1.heap.size 5 i0 (.int .u8 0) 1 1 Ybaf.underlying23 hi hz0 hz1 hz2 rfl (by decide) _ _ _ rfl (hmd.own.alloc _) ⟨wr.heap.size, 0, none⟩ 4 4 _ rfl rfl (cell_four_new _ _ _ _ _ _) (by intro u hu; simp at hu; rcases hu with rfl | rfl | rfl | rfl <;> rfl) (by unfold maxLen; omega) (by omega) (by have := hbel.size; simp; omega) ?_; intro v3 w3 hown3 hgrow3 hnil3; have hb3 : Below w1.heap.size w1 w3 := (hbel.alloc hbel.size _).grown hgrow3 (by have := hbel.size; simp; omega) (own_base hmd.own)) | (at_builtin; refine wpList_append_own _ rfl (.tmp 151) (.tmp 152) 23 rfl w1.heap.size 5 i0 (.int .u8 0) 1 1 Ybaf.underlying23 hi hz0 hz1 hz2 rfl (by decide) _ _ _ rfl hown3 ad bl bc (bv bs) rfl (by rw [bv_length, Hs1.out]; omega) (Hsrc.out w3 (((Below.refl _ wr).alloc hwsz _).grown hgrow3 (by simp; omega) (own_base hmd.own))) (bv_one bs) (by unfold maxLen; omega) (by omega) (by have := hb3.size; omega) ?_; intro v4 w4 hown4 hgrow4 hnil4))
            have M3 := made_push hmd hown3 rfl (four_by8 _ _ _ _)
            have M4 := made_push (ys := bs) (m := bl) M3 (by rw [List.length_append, ← bv_append]; exact hown4) Hs1.out Hs3.out
            go_roundw
            case rel => exact ⟨k + 1, _, by omega, by go_num, hb3.grown hgrow4 (by have := hb3.size; omega) (own_base hown3), M4, by simp [Hs1.out]; omega⟩
            case measure => simp [intOf]; omega
          · have hsl : ∀ w, (Instr.slice 23 (.slice (some ad) bl bc) none (some (.int .i64 65531)) none).run Ybaf.prog w = .ok (.slice (some ad) 65531 bc) w := fun w => cut_body ad bl bc (by omega) w
            have ht : (bs.take 65531).length = 65531 := by rw [List.length_take, Hs1.out]; omega
            have Ht : Hid ((bs.take 65531).length = 65531) := ht
            have hs8 : ∀ b ∈ bs.take 65531, 0 ≤ b ∧ b ≤ 255 := fun b hb => Hs3.out b (List.mem_of_mem_take hb)
            have Hs8 := show Hid _ from hs8
            have hsr : ∀ W, Below w1.heap.size wr W → ∀ j v, (bv (bs.take 65531))[j]? = some v → W.cell? (ad.add j) = some v := fun W hW j v hj => Hsrc.out W hW j v (by
              simp only [bv, List.map_take] at hj ⊢
              rw [List.getElem?_take] at hj
              split at hj
              · exact hj
              · cases hj)
            have Hsr := show Hid _ from hsr
            clear ht hs8 hsr
            generalize bs.take 65531 = cs at *
            go_wp2_with (first | (at_builtin; refine wpList_append_own _ rfl (.tmp 138) (.tmp 149) 23 rfl w1.heap.size 5 i0 (.int .u8 0) 1 1 Ybaf.underlying23 hi hz0 hz1 hz2 rfl (by decide) _ _ _ rfl (hmd.own.alloc _) ⟨wr.heap.size, 0, none⟩ 4 4 _ rfl rfl (cell_four_new _ _ _ _ _ _) (by intro u hu; simp at hu; rcases hu with rfl | rfl | rfl | rfl <;> rfl) (by unfold maxLen; omega) (by omega) (by have := hbel.size; simp; omega) ?_; intro v3 w3 hown3 hgrow3 hnil3; have hb3 : Below w1.heap.size w1 w3 := (hbel.alloc hbel.size _).grown hgrow3 (by have := hbel.size; simp; omega) (own_base hmd.own)) | (at_builtin; refine wpList_append_own _ rfl (.tmp 151) (.tmp 152) 23 rfl w1.heap.size 5 i0 (.int .u8 0) 1 1 Ybaf.underlying23 hi hz0 hz1 hz2 rfl (by decide) _ _ _ rfl hown3 ad 65531 bc (bv cs) rfl (by rw [bv_length, Ht.out]) (Hsr.out w3 (((Below.refl _ wr).alloc hwsz _).grown hgrow3 (by simp; omega) (own_base hmd.own))) (bv_one cs) (by unfold maxLen; omega) (by omega) (by have := hb3.size; omega) ?_; intro v4 w4 hown4 hgrow4 hnil4))
            have M3 := made_push hmd hown3 rfl (four_by8 _ _ _ _)
            have M4 := made_push (ys := cs) (m := 65531) M3 (by rw [List.length_append, ← bv_append]; exact hown4) Ht.out Hs8.out
            go_roundw
            case rel => exact ⟨k + 1, _, by omega, by go_num, hb3.grown hgrow4 (by have := hb3.size; omega) (own_base hown3), M4, by simp [Ht.out]; omega⟩
            case measure => simp [intOf]; omega
      · go_wp2
        refine hK.out _ _ ?_
        exact frame_to (FR8 (.slice ta tl tc) (.slice za N zc) (.pointer (some ⟨TB, 0, none⟩)) u16) (by kernel_rfl) (HX.out wr _ xs hbel hmd (by have : k * 65535 ≤ 4096 * 65535 := Nat.mul_le_mul_right _ (by omega); omega))
end Go.Proofs.YbulkdrwgFmt
