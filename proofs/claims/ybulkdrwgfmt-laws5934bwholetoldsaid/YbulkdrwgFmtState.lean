/-
  What holds at each cut of the law's walk.
-/
import Derived.Test.YbulkdrwgFmtCut
namespace Go.Proofs.YbulkdrwgFmt
open Go.RowKit
/-- Bytes as values. -/
def bv (bs : List Int) : List Value := bs.map (Value.int .u8)

/-- A slice of bytes that came in: nil; or its bytes lie behind its address. -/
def Src8 (B : Nat) (w : World) (a : Option Addr) (len cap : Nat) (bs : List Int) : Prop :=
  bs.length = len ∧ len ≤ cap ∧ (∀ b ∈ bs, 0 ≤ b ∧ b ≤ 255) ∧ ((a = none ∧ len = 0 ∧ cap = 0) ∨ ∃ ad, a = some ad ∧ (0 < len → ad.block < B) ∧ ∀ j v, (bv bs)[j]? = some v → w.cell? (ad.add j) = some v)
theorem Src8.later {B len cap : Nat} {w w' : World} {a : Option Addr} {bs : List Int} (h : Src8 B w a len cap bs) (hb : RowKit.Below B w w') : Src8 B w' a len cap bs := by
  obtain ⟨h1, h2, h3, h4⟩ := h
  refine ⟨h1, h2, h3, ?_⟩
  rcases h4 with h4 | ⟨ad, e, hl, hc⟩
  · exact .inl h4
  · refine .inr ⟨ad, e, hl, fun j v hj => ?_⟩
    have h0 : 0 < len := by
      have := (List.getElem?_eq_some_iff.1 hj).1
      simp [bv] at this; omega
    exact (hb.cell (by unfold Addr.add; split <;> exact hl h0)).trans (hc j v hj)

/-- Set number i: its cells, and the bytes of its body. -/
structure SetAt (B : Nat) (w : World) (sb so i : Nat) (id sk : Int) (ba : Option Addr) (bl bc : Nat) (bs : List Int) : Prop where
  c0 : w.cell? ⟨sb, so + i * 3, none⟩ = some (.int .u16 id)
  c1 : w.cell? ⟨sb, so + i * 3 + 1, none⟩ = some (.int .i8 sk)
  c2 : w.cell? ⟨sb, so + i * 3 + 2, none⟩ = some (.slice ba bl bc)
  id0 : 0 ≤ id ∧ id ≤ 65535
  sk0 : -128 ≤ sk ∧ sk ≤ 127
  reach : bl ≤ 140737488355328
  src : Src8 B w ba bl bc bs
def AllSets (B : Nat) (w : World) (sa : Option Addr) (S : Nat) : Prop :=
  0 < S → ∃ sb so, sa = some ⟨sb, so, none⟩ ∧ sb < B ∧ ∀ i, i < S → ∃ id sk ba bl bc bs, SetAt B w sb so i id sk ba bl bc bs


theorem bv_length (bs : List Int) : (bv bs).length = bs.length := by simp [bv]
theorem bv_one (bs : List Int) : ∀ v ∈ bv bs, v.oneCell' = true := by
  intro v hv; simp [bv] at hv; obtain ⟨b, _, rfl⟩ := hv; rfl
theorem bv_append (bs cs : List Int) : bv bs ++ bv cs = bv (bs ++ cs) := by simp [bv]
theorem bv_get (bs : List Int) (i : Nat) (h : i < bs.length) : (bv bs)[i]? = some (.int .u8 (bs.getD i 0)) := by
  simp [bv, List.getElem?_eq_getElem h, List.getD]

/-- The argument 'sizes': its bytes. -/
structure Sizes (B : Nat) (w : World) (za : Option Addr) (sz : List Int) : Prop where
  by8 : ∀ b ∈ sz, 0 ≤ b ∧ b ≤ 255
  pos : 0 < sz.length → ∃ zb zo, za = some ⟨zb, zo, none⟩ ∧ zb < B ∧ ∀ j, j < sz.length → w.cell? ⟨zb, zo + j, none⟩ = some (.int .u8 (sz.getD j 0))
theorem Sizes.later {B : Nat} {w w' : World} {za : Option Addr} {sz : List Int} (h : Sizes B w za sz) (hb : Below B w w') : Sizes B w' za sz := by
  refine ⟨h.by8, fun h0 => ?_⟩
  obtain ⟨zb, zo, e, hl, hc⟩ := h.pos h0
  exact ⟨zb, zo, e, hl, fun j hj => (hb.cell (p := ⟨zb, zo + j, none⟩) hl).trans (hc j hj)⟩
theorem Sizes.get {B : Nat} {w : World} {za : Option Addr} {sz : List Int} (h : Sizes B w za sz) (j : Nat) (hj : j < sz.length) : 0 ≤ sz.getD j 0 ∧ sz.getD j 0 ≤ 255 := by
  have : sz.getD j 0 ∈ sz := by simp [List.getD, List.getElem?_eq_getElem hj]
  exact h.by8 _ this
theorem SetAt.later {B sb so i bl bc : Nat} {w w' : World} {id sk : Int} {ba : Option Addr} {bs : List Int} (h : SetAt B w sb so i id sk ba bl bc bs) (hsb : sb < B) (hb : Below B w w') : SetAt B w' sb so i id sk ba bl bc bs :=
  ⟨(hb.cell (p := ⟨sb, so + i * 3, none⟩) hsb).trans h.c0, (hb.cell (p := ⟨sb, so + i * 3 + 1, none⟩) hsb).trans h.c1, (hb.cell (p := ⟨sb, so + i * 3 + 2, none⟩) hsb).trans h.c2, h.id0, h.sk0, h.reach, h.src.later hb⟩
theorem AllSets.later {B S : Nat} {w w' : World} {sa : Option Addr} (h : AllSets B w sa S) (hb : Below B w w') : AllSets B w' sa S := by
  intro h0
  obtain ⟨sb, so, e, hl, hs⟩ := h h0
  exact ⟨sb, so, e, hl, fun i hi => by
    obtain ⟨id, sk, ba, bl, bc, bs, hs⟩ := hs i hi
    exact ⟨id, sk, ba, bl, bc, bs, hs.later hl hb⟩⟩

/-- The templates, made: the box TB, the row TA. -/
structure Tmpls (B : Nat) (w : World) (TB TA : Nat) (sz : List Int) : Prop where
  tb : TB < B
  box : w.cell? ⟨TB, 0, none⟩ = some (.slice (some ⟨TA, 0, none⟩) sz.length sz.length)
  tm : ∀ j, j < sz.length → Tmpl B w TA (j * 6) (octets sz j)
theorem Tmpls.later {B TB TA : Nat} {w w' : World} {sz : List Int} (h : Tmpls B w TB TA sz) (hb : Below B w w') : Tmpls B w' TB TA sz :=
  ⟨h.tb, (hb.cell (p := ⟨TB, 0, none⟩) h.tb).trans h.box, fun j hj => (h.tm j hj).later hb⟩

/-- The bytes of v, whatever they are: a row of the call's own from block B on. -/
structure Made (B : Nat) (w : World) (v : Value) (xs : List Int) : Prop where
  own : w.ownsRow B 5 1 v xs.length (bv xs)
  by8 : ∀ b ∈ xs, 0 ≤ b ∧ b ≤ 255
end Go.Proofs.YbulkdrwgFmt
