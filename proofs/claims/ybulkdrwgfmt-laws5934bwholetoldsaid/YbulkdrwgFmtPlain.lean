/-
  THE PLAIN LAW: what a subTemplateMultiList's bytes parse to. No Go in sight.
-/
import Derived.Test.YbulkdrwgFmtRows
namespace Go.Proofs.YbulkdrwgFmt

/-- Two bytes at p, the first the higher. -/
def be (xs : List Int) (p : Nat) : Nat := (xs.getD p 0 * 256 + xs.getD (p + 1) 0).toNat
def idAt (xs : List Int) (p : Nat) : Nat := be xs p
def lenAt (xs : List Int) (p : Nat) : Nat := be xs (p + 2)
/-- A template's octets. -/
def octets (sz : List Int) (j : Nat) : Int := sz.getD j 0 % 8 + 1
/-- The set at p is cut short, or its length is too small or too great. -/
def bad1 (xs : List Int) (p : Nat) : Bool := decide (xs.length < p + 4) || decide (lenAt xs p < 4) || decide (xs.length < p + lenAt xs p)
/-- Its template is not known, or its records do not fill it. -/
def bad2 (xs sz : List Int) (p : Nat) : Bool := decide (sz.length ≤ idAt xs p) || decide (((lenAt xs p : Int) - 4) % octets sz (idAt xs p) ≠ 0)

def parse (xs sz : List Int) : Nat → Nat → List Nat × List (Nat × Nat × Nat) × Bool
  | 0, _ => ([], [], true)
  | f + 1, p =>
    if xs.length ≤ p then ([], [], true)
    else if bad1 xs p = true then ([], [], false)
    else if bad2 xs sz p = true then ([idAt xs p], [], false)
    else (idAt xs p :: (parse xs sz f (p + lenAt xs p)).1, (idAt xs p, p + 4, p + lenAt xs p) :: (parse xs sz f (p + lenAt xs p)).2.1, (parse xs sz f (p + lenAt xs p)).2.2)

/-- The whole answer. -/
def total (xs sz : List Int) : List Nat × List (Nat × Nat × Nat) × Bool := parse xs sz (xs.length + 1) 1

/-- At p, behind the calls ks and the spans ss. -/
def Inv (xs sz : List Int) (p : Nat) (ks : List Nat) (ss : List (Nat × Nat × Nat)) : Prop :=
  ∃ f, xs.length < f + p ∧ total xs sz = (ks ++ (parse xs sz f p).1, ss ++ (parse xs sz f p).2.1, (parse xs sz f p).2.2)

theorem inv_start (xs sz : List Int) : Inv xs sz 1 [] [] := ⟨xs.length + 1, by omega, by simp [total]⟩

theorem inv_step {xs sz : List Int} {p : Nat} {ks : List Nat} {ss : List (Nat × Nat × Nat)} (h : Inv xs sz p ks ss) (hp : p < xs.length) (h1 : bad1 xs p = false) (h2 : bad2 xs sz p = false) :
    Inv xs sz (p + lenAt xs p) (ks ++ [idAt xs p]) (ss ++ [(idAt xs p, p + 4, p + lenAt xs p)]) := by
  obtain ⟨f, hf, he⟩ := h
  obtain ⟨g, rfl⟩ : ∃ g, f = g + 1 := ⟨f - 1, by omega⟩
  have h4 : 4 ≤ lenAt xs p := by simp [bad1] at h1; omega
  refine ⟨g, by omega, ?_⟩
  rw [he, parse, if_neg (by omega), if_neg (by simp [h1]), if_neg (by simp [h2])]
  simp

theorem inv_end {xs sz : List Int} {p : Nat} {ks : List Nat} {ss : List (Nat × Nat × Nat)} (h : Inv xs sz p ks ss) (hp : xs.length ≤ p) : total xs sz = (ks, ss, true) := by
  obtain ⟨f, hf, he⟩ := h
  rw [he]
  cases f with
  | zero => simp [parse]
  | succ g => simp [parse, hp]

theorem inv_bad1 {xs sz : List Int} {p : Nat} {ks : List Nat} {ss : List (Nat × Nat × Nat)} (h : Inv xs sz p ks ss) (hp : p < xs.length) (h1 : bad1 xs p = true) : (total xs sz).1 = ks ∧ (total xs sz).2.2 = false := by
  obtain ⟨f, hf, he⟩ := h
  obtain ⟨g, rfl⟩ : ∃ g, f = g + 1 := ⟨f - 1, by omega⟩
  rw [he, parse, if_neg (by omega), if_pos h1]
  simp

theorem inv_bad2 {xs sz : List Int} {p : Nat} {ks : List Nat} {ss : List (Nat × Nat × Nat)} (h : Inv xs sz p ks ss) (hp : p < xs.length) (h1 : bad1 xs p = false) (h2 : bad2 xs sz p = true) : (total xs sz).1 = ks ++ [idAt xs p] ∧ (total xs sz).2.2 = false := by
  obtain ⟨f, hf, he⟩ := h
  obtain ⟨g, rfl⟩ : ∃ g, f = g + 1 := ⟨f - 1, by omega⟩
  rw [he, parse, if_neg (by omega), if_neg (by simp [h1]), if_pos h2]
  simp

/-- Each span lies in the bytes and names a template that is known. -/
def SpanOk (xs sz : List Int) (t : Nat × Nat × Nat) : Prop := t.1 < sz.length ∧ t.2.1 ≤ t.2.2 ∧ t.2.2 ≤ xs.length

theorem parse_ok (xs sz : List Int) : ∀ (f p : Nat), ∀ t ∈ (parse xs sz f p).2.1, SpanOk xs sz t
  | 0, _ => by simp [parse]
  | f + 1, p => by
    rw [parse]
    split
    · simp
    · split
      · simp
      · split
        · simp
        · rename_i h0 h1 h2
          intro t ht
          simp only [List.mem_cons] at ht
          rcases ht with rfl | ht
          · simp [bad1] at h1
            simp [bad2] at h2
            refine ⟨by simpa using h2.1, ?_, ?_⟩
            · show p + 4 ≤ p + lenAt xs p; omega
            · show p + lenAt xs p ≤ xs.length; omega
          · exact parse_ok xs sz f _ t ht

theorem total_ok (xs sz : List Int) : ∀ t ∈ (total xs sz).2.1, SpanOk xs sz t := parse_ok xs sz _ _
end Go.Proofs.YbulkdrwgFmt
