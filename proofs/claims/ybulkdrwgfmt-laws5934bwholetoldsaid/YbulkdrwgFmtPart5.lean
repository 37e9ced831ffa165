/-
  The law's walk, part 5: the call.
-/
import Derived.Test.YbulkdrwgFmtPart4
import Derived.Test.YbulkdrwgFmtMulti
namespace Go.Proofs.YbulkdrwgFmt
open Go.RowKit Go.Extern.Stop Go.Stop Go.Extern
set_option linter.unusedVariables false

/-- The whole answer, the empty bytes too. -/
def answer (xs sz : List Int) : List Nat × List (Nat × Nat × Nat) × Bool := if xs.length = 0 then ([], [], false) else total xs sz
theorem answer_ok (xs sz : List Int) : ∀ t ∈ (answer xs sz).2.1, SpanOk xs sz t := by
  unfold answer
  split
  · simp
  · exact total_ok xs sz

/-- All that is read behind the call, each below block CB. -/
structure Env (CB VB vcap KB TB TA : Nat) (va za : Option Addr) (xs sz : List Int) (w : World) : Prop where
  at_ : 0 < xs.length → va = some ⟨VB, 0, none⟩ ∧ VB < CB
  len : xs.length ≤ 300000000
  cap : xs.length ≤ vcap
  by8 : ∀ b ∈ xs, 0 ≤ b ∧ b ≤ 255
  cells : ∀ i, i < xs.length → w.cell? ⟨VB, i, none⟩ = some (.int .u8 (xs.getD i 0))
  kb : KB < CB
  copy : ∀ i, i < xs.length → w.cell? ⟨KB, i, none⟩ = some (.int .u8 (xs.getD i 0))
  tb : TB < CB
  tmpls : w.cell? ⟨TB, 0, none⟩ = some (.slice (some ⟨TA, 0, none⟩) sz.length sz.length)
  num : sz.length ≤ 4096
  sizes : Sizes CB w za sz
theorem Env.later {CB VB vcap KB TB TA : Nat} {va za : Option Addr} {xs sz : List Int} {w w' : World} (h : Env CB VB vcap KB TB TA va za xs sz w) (hb : Below CB w w') : Env CB VB vcap KB TB TA va za xs sz w' :=
  ⟨h.at_, h.len, h.cap, h.by8, fun i hi => (hb.cell (p := ⟨VB, i, none⟩) (h.at_ (by omega)).2).trans (h.cells i hi), h.kb, fun i hi => (hb.cell (p := ⟨KB, i, none⟩) h.kb).trans (h.copy i hi), h.tb, (hb.cell (p := ⟨TB, 0, none⟩) h.tb).trans h.tmpls, h.num, h.sizes.later hb⟩

/-- What the call has left: the calls; the lists. -/
structure Called (CB VB vcap TA : Nat) (xs sz : List Int) (w : World) (vl vc : Value) : Prop where
  box : Box CB w vc (answer xs sz).1
  bad : (answer xs sz).2.2 = false → vl = .slice none 0 0
  good : (answer xs sz).2.2 = true → w.ownsRow (CB + 1) 52 3 vl (answer xs sz).2.1.length (recs VB vcap TA (answer xs sz).2.1) ∧ ((answer xs sz).2.1 = [] → vl = .slice none 0 0)

theorem multi_zero (n : Nat) (hn : n = 0) (va : Option Addr) (vcap : Nat) (f : Value) (w : World) : Calls Ybaf.prog 5 #[.slice va n vcap, f] w fun e w' => e = .returned (.tuple #[.slice none 0 0, .bool false]) ∧ w' = w := by
  subst hn
  go_enter Ybaf.func5, Ybaf.ntmps5
  go_wp2
  go_ret2
  exact ⟨rfl, rfl⟩

set_option maxRecDepth 100000 in
set_option maxHeartbeats 2000000 in
theorem part5 (F : Interp) (hS : Speaks F) (va za : Option Addr) (vcap zc TB TA KB : Nat) (xs sz : List Int) (w0 w1 w : World) (u : Nat → Value) (hF : F.answers w0.tape) (hb01 : Below w0.heap.size w0 w1) (hbel : Below w1.heap.size w1 w)
    (htw : Twice w1.heap.size w (.slice va xs.length vcap) KB xs) (hx : xs.length ≤ 300000000) (htm : Tmpls w1.heap.size w TB TA sz) (hsz : Sizes w0.heap.size w za sz) (hN : sz.length ≤ 4096)
    (next : ∀ (w' : World) (CB VB : Nat) (vl vc : Value), Below w0.heap.size w0 w' → w0.heap.size ≤ CB → Env CB VB vcap KB TB TA va za xs sz w' → Called CB VB vcap TA xs sz w' vl vc → ∀ u,
      Code.wp Ybaf.prog (tailAt 14 (bodyOf Ybaf.f3)) (Good w0) (FR14 (.slice za sz.length zc) (.pointer (some ⟨TB, 0, none⟩)) (.slice va xs.length vcap) (.slice (some ⟨KB, 0, none⟩) xs.length xs.length) (.pointer (some ⟨CB, 0, none⟩)) vl (.bool (answer xs sz).2.2) u) w') :
    Code.wp Ybaf.prog (tailAt 11 (bodyOf Ybaf.f3)) (Good w0) (FR11 (.slice za sz.length zc) (.pointer (some ⟨TB, 0, none⟩)) (.slice va xs.length vcap) (.slice (some ⟨KB, 0, none⟩) xs.length xs.length) u) w := by
  have hb0 : Below w0.heap.size w0 w := hb01.trans (hbel.mono hb01.size)
  have hl1 := hbel.size
  have hl0 := hb01.size
  -- the environment, at the block that 'calls' is about to take
  obtain ⟨VB, hE⟩ : ∃ VB, Env w.heap.size VB vcap KB TB TA va za xs sz w := by
    have hown := htw.made.own
    obtain ⟨a', c', e, hc⟩ := own_any hown
    cases e
    by_cases h0 : 0 < xs.length
    · obtain ⟨g, c, e, _, hg⟩ := own_shape hown h0
      cases e
      refine ⟨g, ⟨fun _ => ⟨rfl, hg⟩, hx, hc, htw.made.by8, fun i hi => ?_, htw.lt, htw.copy, by have := htm.tb; omega, htm.box, hN, ?_⟩⟩
      · have h := hown.cells (g := g) rfl i _ (bv_get xs i hi)
        rwa [add0] at h
      · exact ⟨hsz.by8, fun h => by obtain ⟨zb, zo, e, hl, hcc⟩ := hsz.pos h; exact ⟨zb, zo, e, by omega, hcc⟩⟩
    · refine ⟨0, ⟨fun h => absurd h h0, hx, hc, htw.made.by8, fun i hi => by omega, htw.lt, fun i hi => by omega, by have := htm.tb; omega, htm.box, hN, ?_⟩⟩
      exact ⟨hsz.by8, fun h => by obtain ⟨zb, zo, e, hl, hcc⟩ := hsz.pos h; exact ⟨zb, zo, e, by omega, hcc⟩⟩
  have hT : ∀ j, j < sz.length → Tmpl w.heap.size w TA (j * 6) (octets sz j) := fun j hj => (htm.tm j hj).up hl1
  have HX := show Hid _ from next
  have HE := show Hid _ from hE
  have HT := show Hid _ from hT
  clear next hE hT
  have hmf : ∀ (fn : Fn) (first cap : Array Value) (w : World), (Instr.makeFunc fn first cap).run Ybaf.prog w = .ok (.func fn first cap) w := fun _ _ _ _ => rfl
  have hbA : Below w.heap.size w (w.alloc (.cells #[.slice none 0 0] 42)) := (Below.refl _ _).alloc (Nat.le_refl _) _
  have hbox : Box w.heap.size (w.alloc (.cells #[.slice none 0 0] 42)) (.slice none 0 0) [] := by
    refine ⟨?_, ?_, World.ownsRow_nil _ _ _ _, by simp⟩
    · rw [World.cell?_alloc_at _ _ _ _ rfl]; rfl
    · rw [World.frozen?_alloc_at _ _ _ _ rfl]
  have hFA : F.answers (w.alloc (.cells #[.slice none 0 0] 42)).tape := by rw [hbA.tape, hb0.tape]; exact hF
  unfold FR11
  refine step cut11 (fun K hK => ?_)
  conv => arg 2; whnf
  go_wp2
  refine hK.out _ _ ?_
  clear hK K
  refine step cut12 (fun K hK => ?_)
  conv => arg 2; whnf
  go_wp2
  refine hK.out _ _ ?_
  clear hK K
  refine step cut13 (fun K hK => ?_)
  conv => arg 2; whnf
  by_cases h0 : xs.length = 0
  · have H0 : Hid (xs.length = 0) := h0
    clear h0
    go_wp2_with fail
    refine (multi_zero _ H0.out _ _ _ _).mono ?_
    rintro e w' ⟨rfl, rfl⟩
    go_wp2
    refine hK.out _ _ ?_
    have ha : answer xs sz = ([], [], false) := by rw [answer, if_pos H0.out]
    have R := HX.out _ w.heap.size VB (.slice none 0 0) (.slice none 0 0) (hb0.alloc hb0.size (.cells #[.slice none 0 0] 42)) hb0.size (HE.out.later hbA) ⟨by rw [ha]; exact hbox, fun _ => rfl, by rw [ha]; intro h; cases h⟩
    rw [ha] at R
    exact frame_to (FR14 (.slice za sz.length zc) (.pointer (some ⟨TB, 0, none⟩)) (.slice va xs.length vcap) (.slice (some ⟨KB, 0, none⟩) xs.length xs.length) (.pointer (some ⟨w.heap.size, 0, none⟩)) (.slice none 0 0) (.bool false)) (by kernel_rfl) R
  · have hpos : 0 < xs.length := by omega
    obtain ⟨rfl, hvb⟩ := HE.out.at_ hpos
    have E1 := HE.out.later hbA
    have G1 : Given w.heap.size VB vcap TB TA xs sz (w.alloc (.cells #[.slice none 0 0] 42)) :=
      ⟨hvb, E1.cap, E1.len, E1.by8, E1.cells, E1.tb, E1.tmpls, E1.num, fun j hj => (HT.out j hj).later hbA⟩
    have ha : answer xs sz = total xs sz := by rw [answer, if_neg h0]
    have HA : Hid (answer xs sz = total xs sz) := ha
    clear h0 ha
    go_wp2_with fail
    refine (multi_any F hS w.heap.size VB vcap TB TA xs sz (.slice none 0 0) _ hFA G1 hbox hpos).mono ?_
    rintro e w' ⟨vl, vc, rfl, hbx, hbl, hbad, hgood⟩
    go_wp2
    refine hK.out _ _ ?_
    have R := HX.out w' w.heap.size VB vl vc ((hb0.alloc hb0.size _).trans (hbl.mono hb0.size)) hb0.size (E1.later hbl) ⟨by rw [HA.out]; exact hbx, by rw [HA.out]; exact hbad, by rw [HA.out]; exact hgood⟩
    rw [HA.out] at R
    exact frame_to (FR14 (.slice za sz.length zc) (.pointer (some ⟨TB, 0, none⟩)) (.slice (some ⟨VB, 0, none⟩) xs.length vcap) (.slice (some ⟨KB, 0, none⟩) xs.length xs.length) (.pointer (some ⟨w.heap.size, 0, none⟩)) vl (.bool (total xs sz).2.2)) (by kernel_rfl) R
end Go.Proofs.YbulkdrwgFmt
