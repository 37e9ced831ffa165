/-
  The law's whole walk, put together; and what fmt's told text says where a record is cut short.
-/
import Derived.Test.YbulkdrwgFmtPart1
import Derived.Test.YbulkdrwgFmtPart2
import Derived.Test.YbulkdrwgFmtPart3
import Derived.Test.YbulkdrwgFmtPart4
import Derived.Test.YbulkdrwgFmtPart5
import Derived.Test.YbulkdrwgFmtPart6
import Derived.Test.YbulkdrwgFmtPart7
import Derived.Test.YbulkdrwgFmtPart9
import Derived.Stop.Told
import Derived.Stop.FmtTextKit
import Derived.Stop.FmtTextVerbs
import Derived.Lib.Strings
namespace Go.Proofs.YbulkdrwgFmt
open Go.RowKit Go.Kit Go.Extern.Stop Go.Stop Go.Extern
set_option linter.unusedVariables false

theorem t_parse : (FmtText.parse [37, 115, 58, 32, 118, 97, 108, 117, 101, 32, 111, 102, 32, 37, 100, 32, 111, 99, 116, 101, 116, 115]).map FmtText.glue = some [.verb {} 115, .lit [58, 32, 118, 97, 108, 117, 101, 32, 111, 102, 32], .verb {} 100, .lit [32, 111, 99, 116, 101, 116, 115]] := by rfl

/-- 'f: value of M octets'. -/
def tText (m : Int) : List UInt8 := 102 :: ([58, 32, 118, 97, 108, 117, 101, 32, 111, 102, 32] ++ (Lib.itoa m ++ [32, 111, 99, 116, 101, 116, 115]))

theorem t_text (m : Int) (hw : (Lit.int .i64 m).wf = true) : FmtText.text "fmt.Sprintf" (reading m) = some (tText m) := by
  have hi := FmtText.operand_int_at (sh := shape3) (k := .i64) rfl rfl m hw
  have hs := FmtText.operand_str_at (sh := shape9) rfl rfl [102] (by decide)
  rw [reading, FmtText.text_sprintf_glued t_parse (FmtText.operands_cons hs (FmtText.operands_cons hi FmtText.operands_nil))]
  simp [FmtText.render, FmtText.printArg_s_str, FmtText.printArg_d _ _ hw, tText]

theorem speaks_told (F : Interp) : Speaks F.told := by
  intro m h1 h2
  have hw : (Lit.int .i64 m).wf = true := by simp [Lit.wf, IntKind.min, IntKind.max, IntKind.signed, IntKind.bits]; omega
  have hl := FmtText.itoa_length_le hw
  have ht := told_string F (t_text m hw) (by simp [tText]; omega)
  rw [Lib.toList_data, textOf_list, ht]
  rfl

theorem parse_len (xs sz : List Int) : ∀ (f p : Nat), (parse xs sz f p).1.length ≤ xs.length - p ∧ (parse xs sz f p).2.1.length ≤ xs.length - p
  | 0, _ => by simp [parse]
  | f + 1, p => by
    rw [parse]
    split
    · simp
    · split
      · simp
      · rename_i h0 h1
        have h2 : 4 ≤ lenAt xs p ∧ p + lenAt xs p ≤ xs.length := by
          simp [bad1] at h1; omega
        split
        · simp; omega
        · have ih := parse_len xs sz f (p + lenAt xs p)
          simp; omega
theorem answer_len (xs sz : List Int) : (answer xs sz).1.length ≤ xs.length ∧ (answer xs sz).2.1.length ≤ xs.length := by
  unfold answer
  split
  · simp
  · have h := parse_len xs sz (xs.length + 1) 1
    unfold total; omega

set_option maxRecDepth 100000 in
set_option maxHeartbeats 1000000 in
/-- Where one of the three arguments is too long the law says true at once. -/
theorem law_long (wh : Bool) (sem : Int) (sa ta za : Option Addr) (S tl N sc tc zc : Nat) (w0 : World) (h : 4096 < S ∨ 1048576 < tl ∨ 4096 < N) :
    Calls Ybaf.prog 3 #[.bool wh, .int .u8 sem, .slice sa S sc, .slice ta tl tc, .slice za N zc] w0 fun e w' => e = .returned (.bool true) ∧ Below w0.heap.size w0 w' := by
  by_cases hS : 4096 < S
  · have h1 : (4096 : Int) < (S : Int) := by omega
    go_enter Ybaf.func3, Ybaf.ntmps3
    go_wp2
    go_ret
    exact ⟨rfl, Below.refl _ _⟩
  · by_cases ht : 1048576 < tl
    · have h1 : (1048576 : Int) < (tl : Int) := by omega
      go_enter Ybaf.func3, Ybaf.ntmps3
      go_wp2
      go_ret
      exact ⟨rfl, Below.refl _ _⟩
    · have h1 : (4096 : Int) < (N : Int) := by omega
      go_enter Ybaf.func3, Ybaf.ntmps3
      go_wp2
      go_ret
      exact ⟨rfl, Below.refl _ _⟩

/-- THE WALK: for every answer F of fmt that speaks where a record is cut short. -/
theorem law_walk (F : Interp) (hSp : Speaks F) (wh : Bool) (sem : Int) (sa ta za : Option Addr) (S tl sc tc zc : Nat) (ts sz : List Int) (w0 : World) (hF : F.answers w0.tape) (hsem : 0 ≤ sem ∧ sem ≤ 255)
    (hset : AllSets w0.heap.size w0 sa S) (htail : Src8 w0.heap.size w0 ta tl tc ts) (hsz : Sizes w0.heap.size w0 za sz) :
    Calls Ybaf.prog 3 #[.bool wh, .int .u8 sem, .slice sa S sc, .slice ta tl tc, .slice za sz.length zc] w0 fun e w' => e = .returned (.bool true) ∧ Below w0.heap.size w0 w' := by
  by_cases hlong : 4096 < S ∨ 1048576 < tl ∨ 4096 < sz.length
  · exact law_long wh sem sa ta za S tl sz.length sc tc zc w0 hlong
  have hS : S ≤ 4096 := by omega
  have ht : tl ≤ 1048576 := by omega
  have hN : sz.length ≤ 4096 := by omega
  refine lawA wh sem sa ta za S tl sz.length sc tc zc w0 hS ht hN hset fun u => ?_
  refine part2 wh sem sa ta za S tl sc tc zc sz w0 u hN hsz fun w1 TB TA hb1 htm u => ?_
  refine part3 wh sem sa ta za S tl sz.length sc tc zc TB w0 w1 u hS hN hsem (hset.later hb1) hb1.size fun w2 v xs hb2 hmd hx u => ?_
  refine part4 ta za tl sz.length tc zc TB ts xs v w0 w1 w2 u (htail.later hb1) hb1.size ht hb2 hmd hx fun w3 va vcap KB ys hb3 htw hy u => ?_
  refine part5 F hSp va za vcap zc TB TA KB ys sz w0 w1 w3 u hF hb1 hb3 htw hy (htm.later hb3) ((hsz.later hb1).later (hb3.mono hb1.size)) hN fun w4 CB VB vl vc hb4 hcb hE hC u => ?_
  have hCB := hC.box.lt
  refine part6 va za vcap zc TB TA KB CB VB vl (.bool (answer ys sz).2.2) ys sz w0 w4 u (Nat.le_of_lt hCB) hE fun w5 vw vk hb5 hM u => ?_
  have hl := answer_len ys sz
  obtain ⟨ka, kc, rfl, _⟩ := own_any hM.calls
  obtain ⟨ca, cc, rfl, _⟩ := own_any hC.box.own
  have hs5 := hb5.size
  have hE5 := hE.later (hb5.mono (Nat.le_of_lt hCB))
  refine part7 va za vcap TB TA KB CB VB vl (.bool (answer ys sz).2.2) vw (.slice ka (answer ys sz).1.length kc) (.bool (answer ys sz).2.2) ys sz w0 w5 u (by omega) hE5 fun w6 hb6 u => ?_
  have hs6 := hb6.size
  have hb46 : Below w4.heap.size w4 w6 := hb5.trans (hb6.mono hs5)
  refine part8 ca ka TB CB cc kc (.slice va ys.length vcap) (.slice (some ⟨KB, 0, none⟩) ys.length ys.length) vl (.bool (answer ys sz).2.2) vw (.bool (answer ys sz).2.2) w4.heap.size (answer ys sz).1 w0 w6 u (by omega)
    ((hb46.cell (p := ⟨CB, 0, none⟩) hCB).trans hC.box.cell) (own_later hC.box.own hb46) (own_later hM.calls hb6) (by omega) fun w7 hb7 u => ?_
  have hb47 : Below w4.heap.size w4 w7 := hb46.trans (hb7.mono (by omega))
  have hb57 : Below w5.heap.size w5 w7 := hb6.trans (hb7.mono hs6)
  have hb07 : Below w0.heap.size w0 w7 := hb4.trans (hb47.mono hb4.size)
  have hs7 := hb7.size
  cases hok : (answer ys sz).2.2 with
  | false =>
    have e := hC.bad hok
    subst e
    exact part9_no TB _ vw w0 w7 u hb07
  | true =>
    obtain ⟨ho, hnil⟩ := hC.good hok
    have hw := hM.spans hok
    obtain ⟨la, lc, rfl, _⟩ := own_any ho
    obtain ⟨wa, wc, rfl, _⟩ := own_any hw
    exact part9_yes va za la wa vcap TB TA KB CB VB lc wc w4.heap.size ys sz (answer ys sz).2.1 w0 w7 u (by omega) hb07 (hE5.later (hb57.mono (by omega))) (own_later ho hb47) (own_later hw hb57) (answer_ok ys sz) hnil (by omega)
end Go.Proofs.YbulkdrwgFmt
