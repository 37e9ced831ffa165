/-
  The law's walk, part 4: the tail is appended; v is copied.
-/
import Derived.Test.YbulkdrwgFmtPart3
import Derived.Laws.CopyOwn
namespace Go.Proofs.YbulkdrwgFmt
open Go.RowKit
set_option linter.unusedVariables false

theorem own_any {w : World} {base : Nat} {e : TypeId} {size : Nat} {v : Value} {n : Nat} {xs : List Value} (h : w.ownsRow base e size v n xs) : ∃ a c, v = .slice a n c ∧ n ≤ c := by
  rcases h.2 with ⟨rfl, rfl⟩ | ⟨g, c, cur, rfl, hb, hg, hc, _⟩
  · exact ⟨none, 0, rfl, Nat.le_refl _⟩
  · exact ⟨_, c, rfl, hc⟩

/-- v and its copy, at block KB. -/
structure Twice (B : Nat) (w : World) (v : Value) (KB : Nat) (xs : List Int) : Prop where
  made : Made B w v xs
  copy : ∀ i, i < xs.length → w.cell? ⟨KB, i, none⟩ = some (.int .u8 (xs.getD i 0))
  lt : KB < w.heap.size

theorem twice_of {B : Nat} {w2 w3 : World} {v : Value} {xs : List Int} {M : List Value} (h : Made B w2 v xs) (hM : M.length = xs.length)
    (hg : w3.heap[w2.heap.size]? = some (.cells (splice M 0 (bv xs)).toArray 5 (0, 0))) (hb : Below w2.heap.size w2 w3) : Twice B w3 v w2.heap.size xs := by
  have hsp : splice M 0 (bv xs) = bv xs := by
    simp [splice]; rw [bv_length]; omega
  rw [hsp] at hg
  refine ⟨⟨own_later h.own hb, h.by8⟩, fun i hi => ?_, (Array.getElem?_eq_some_iff.1 hg).1⟩
  rw [cell_of_row w3 _ i _ 5 (0, 0) hg]
  simpa using bv_get xs i hi

set_option maxRecDepth 100000 in
set_option maxHeartbeats 2000000 in
theorem part4 (ta za : Option Addr) (tl N tc zc TB : Nat) (ts xs : List Int) (v : Value) (w0 w1 w : World) (u : Nat → Value) (hsrc : Src8 w0.heap.size w1 ta tl tc ts) (hb01 : w0.heap.size ≤ w1.heap.size) (ht : tl ≤ 1048576)
    (hbel : Below w1.heap.size w1 w) (hmd : Made w1.heap.size w v xs) (hx : xs.length ≤ 268500000)
    (next : ∀ (w' : World) (va : Option Addr) (vcap KB : Nat) (ys : List Int), Below w1.heap.size w1 w' → Twice w1.heap.size w' (.slice va ys.length vcap) KB ys → ys.length ≤ 300000000 → ∀ u, Code.wp Ybaf.prog (tailAt 11 (bodyOf Ybaf.f3)) (Good w0) (FR11 (.slice za N zc) (.pointer (some ⟨TB, 0, none⟩)) (.slice va ys.length vcap) (.slice (some ⟨KB, 0, none⟩) ys.length ys.length) u) w') :
    Code.wp Ybaf.prog (tailAt 8 (bodyOf Ybaf.f3)) (Good w0) (FR8 (.slice ta tl tc) (.slice za N zc) (.pointer (some ⟨TB, 0, none⟩)) v u) w := by
  have HX := show Hid _ from next
  have HS : Hid (Src8 w0.heap.size w ta tl tc ts) := hsrc.later (hbel.mono hb01)
  clear next hsrc
  obtain ⟨i0, hi, hz0, hz1, hz2⟩ := info_parts Ybaf.info5
  have hwsz := hbel.size
  -- the tail, appended: the same in both ways
  suffices h : ∀ (w2 : World) (v2 : Value) (ys : List Int) (u : Nat → Value), Below w1.heap.size w1 w2 → Made w1.heap.size w2 v2 ys → ys.length ≤ 300000000 →
      Code.wp Ybaf.prog (tailAt 9 (bodyOf Ybaf.f3)) (Good w0) (FR8 (.slice ta tl tc) (.slice za N zc) (.pointer (some ⟨TB, 0, none⟩)) v2 u) w2 by
    have HH := show Hid _ from h
    clear h
    obtain ⟨s1, s2, s3, s4⟩ := HS.out
    unfold FR8
    rcases s4 with ⟨rfl, rfl, rfl⟩ | ⟨ad, rfl, had, hcs⟩
    · refine step cut8 (fun K hK => ?_)
      conv => arg 2; whnf
      go_wp2_with (at_builtin; refine wpList_append_own_none rfl (.tmp 154) (.tmp 155) 23 rfl w1.heap.size 5 i0 1 Ybaf.underlying23 hi _ _ _ rfl hmd.own rfl ?_)
      refine hK.out _ _ ?_
      exact frame_to (FR8 (.slice none 0 0) (.slice za N zc) (.pointer (some ⟨TB, 0, none⟩)) v) (by kernel_rfl) (fun u => HH.out w v xs u hbel hmd (by omega))
    · have Hs1 : Hid (ts.length = tl) := s1
      have Hs3 : Hid (∀ b ∈ ts, 0 ≤ b ∧ b ≤ 255) := s3
      have Hcs := show Hid _ from hcs
      clear s1 s3 hcs had
      refine step cut8 (fun K hK => ?_)
      conv => arg 2; whnf
      go_wp2_with (at_builtin; refine wpList_append_own _ rfl (.tmp 154) (.tmp 155) 23 rfl w1.heap.size 5 i0 (.int .u8 0) 1 1 Ybaf.underlying23 hi hz0 hz1 hz2 rfl (by decide) _ _ _ rfl hmd.own ad tl tc (bv ts) rfl (by rw [bv_length, Hs1.out]; omega) Hcs.out (bv_one ts) (by unfold maxLen; omega) (by omega) hwsz ?_; intro v2 w2 hown2 hgrow2 hnil2)
      refine hK.out _ _ ?_
      have M2 := made_push (ys := ts) hmd hown2 Hs1.out Hs3.out
      exact frame_to (FR8 (.slice (some ad) tl tc) (.slice za N zc) (.pointer (some ⟨TB, 0, none⟩)) v2) (by kernel_rfl) (fun u => HH.out w2 v2 (xs ++ ts) u (hbel.grown hgrow2 hwsz (own_base hmd.own)) M2 (by rw [List.length_append, Hs1.out]; omega))
  clear hbel hmd hx hwsz HS u
  intro w2 v2 ys u hbel hmd hy
  obtain ⟨va, vcap, rfl, hvc⟩ := own_any hmd.own
  obtain ⟨n, hn⟩ : ∃ n, n = ys.length := ⟨_, rfl⟩
  have Hn : Hid (n = ys.length) := hn
  rw [← hn] at hy ⊢
  clear hn
  have hmk := fun w => run_make (P := Ybaf.prog) w 23 5 i0 (.int .u8 0) Ybaf.underlying23 hi hz0 .i64 .i64 (n : Int) (n : Int) (by omega) (by omega) (by rw [hz2]; omega) (by omega)
  rw [hz1] at hmk
  simp only [Int.toNat_natCast, Nat.mul_one] at hmk
  generalize hM : madeCells (Value.int IntKind.u8 0).cells n = M at hmk
  have hMs : M.size = n := by rw [← hM]; exact size_madeCells _ _
  clear hM
  have hMl : M.toList.length = n := by simpa using hMs
  have HM : Hid (M.toList.length = n) := hMl
  have hsz : (Ybaf.prog.info? 5).map (·.size) = some 1 := by rw [hi]; simp [hz1]
  have Hsz : Hid ((Ybaf.prog.info? 5).map (·.size) = some 1) := hsz
  have HA : Hid ((w2.alloc (Obj.cells M 5)).heap[w2.heap.size]? = some (Obj.cells M.toList.toArray 5)) := by show _ = _; rw [heap_alloc_new]
  have HB : Hid ((bv ys).length = n.min n) := by show _ = _; rw [bv_length, ← Hn.out]; exact (Nat.min_self _).symm
  have HD : Hid (0 + (bv ys).length ≤ M.toList.length) := by show _ ≤ _; rw [bv_length, hMl, ← Hn.out]; omega
  clear hMl hMs hsz
  unfold FR8
  refine step cut9 (fun K hK => ?_)
  conv => arg 2; whnf
  go_wp2
  refine hK.out _ _ ?_
  clear hK K hmk
  have HC : Hid (0 < (bv ys).length → some (⟨w2.heap.size, 0, none⟩ : Addr) = some ⟨w2.heap.size, 0, none⟩ ∧ ∃ ad, va = some ad ∧ ∀ (j : Nat) (v : Value), (bv ys)[j]? = some v → (w2.alloc (Obj.cells M 5)).cell? (ad.add j) = some v) := by
    intro h0
    rw [bv_length] at h0
    obtain ⟨g, c, e, _, _⟩ := own_shape hmd.own h0
    cases e
    exact ⟨rfl, _, rfl, (hmd.own.alloc _).cells rfl⟩
  refine step cut10 (fun K hK => ?_)
  conv => arg 2; whnf
  go_wp2_with (refine wpList_copy_splice rfl (.tmp 160) (.tmp 161) 23 23 rfl 5 Ybaf.underlying23 Hsz.out _ _ _ _ _ _ rfl rfl w2.heap.size 0 M.toList 5 HA.out (bv ys) HB.out HC.out HD.out (bv_one ys) w2.heap.size w2 ((Below.refl _ _).alloc (Nat.le_refl _) _) (Nat.le_refl _) ?_; intro w3 hg3 hb3)
  refine hK.out _ _ ?_
  have T := twice_of hmd (by rw [HM.out, Hn.out]) hg3.out hb3
  have R := HX.out w3 va vcap w2.heap.size ys (hbel.trans (hb3.mono hbel.size)) T (by rw [← Hn.out]; exact hy)
  rw [← Hn.out] at R
  exact frame_to (FR11 (.slice za N zc) (.pointer (some ⟨TB, 0, none⟩)) (.slice va n vcap) (.slice (some ⟨w2.heap.size, 0, none⟩) n n)) (by kernel_rfl) R
end Go.Proofs.YbulkdrwgFmt
