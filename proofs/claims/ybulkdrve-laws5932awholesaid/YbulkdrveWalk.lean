/-
  THE LAW's WALK: its own text, through both copies, the padding loop, the Zone, the call of negativeSOA, and the checks.
-/
import Derived.Test.YbulkdrveNeg
import Derived.Laws.CopyOwn
import Derived.OwnWalk
import Derived.LoopTactic
import Derived.WalkSpells
import Derived.Lib.Builder
namespace Go.Proofs.Ybulkdrve
open Go.RowKit
theorem Yba.info5 : (Yba.prog.info? 5).map (fun i => (i.zero, i.size, i.bytes)) = some (some (.int .u8 0), 1, 1) := by kernel_rfl

/-- The bytes as values. -/
def vs (bs : List Int) : List Value := bs.map (Value.int .u8)
theorem vs_length (bs : List Int) : (vs bs).length = bs.length := by simp [vs]
theorem vs_one (bs : List Int) : ∀ v ∈ vs bs, v.oneCell' = true := by
  intro v hv; simp [vs] at hv; obtain ⟨b, _, rfl⟩ := hv; rfl
theorem vs_snoc (bs : List Int) (x : Int) : vs bs ++ [.int .u8 x] = vs (bs ++ [x]) := by simp [vs]
def lenOf : Value → Nat | .slice _ n _ => n | _ => 0

/-- Row d of the law: a slice at the head of a block of the call's own, its first n cells the bytes bs. -/
structure Row (B : Nat) (w : World) (g n cap : Nat) (bs : List Int) : Prop where
  own : w.ownsRow B 5 1 (.slice (some ⟨g, 0, none⟩) n cap) n (vs bs)
  len : bs.length = n
  by8 : ∀ b ∈ bs, 0 ≤ b ∧ b ≤ 255
  base : B ≤ g

theorem row_of_splice {B g len c : Nat} {w1 : World} {M : List Value} {bs : List Int} (hM : M.length = c) (hl : bs.length = len) (hc : len ≤ c) (hc2 : c ≤ maxLen) (hB : B ≤ g)
    (hg : w1.heap[g]? = some (.cells (splice M 0 (vs bs)).toArray 5 (0, 0))) (h8 : ∀ b ∈ bs, 0 ≤ b ∧ b ≤ 255) : Row B w1 g len c bs :=
  ⟨⟨by rw [vs_length, hl]; omega, .inr ⟨g, c, _, rfl, hB, hg, hc, hc2, by simp [splice, vs_length]; omega, by simp [splice]; rw [← hl, ← vs_length]; simp⟩⟩, hl, h8, hB⟩

theorem row_append {B g n cap : Nat} {w w2 : World} {bs : List Int} {v : Value} (R : Row B w g n cap bs) (h : w2.ownsRow B 5 1 v (n + 1) (vs bs ++ [.int .u8 0])) :
    ∃ g2 c2, v = .slice (some ⟨g2, 0, none⟩) (n + 1) c2 ∧ Row B w2 g2 (n + 1) c2 (bs ++ [0]) := by
  rw [vs_snoc] at h
  have h2 := h.2
  rcases h2 with ⟨_, h0⟩ | ⟨g2, c2, cur, rfl, hB, _⟩
  · omega
  · refine ⟨g2, c2, rfl, h, by simp [R.len], ?_, hB⟩
    intro b hb
    rcases List.mem_append.1 hb with hb | hb
    · exact R.by8 b hb
    · simp at hb; omega

theorem add0 (g j : Nat) : (⟨g, 0, none⟩ : Addr).add j = ⟨g, j, none⟩ := by unfold Addr.add; simp; omega
theorem vs_get (bs : List Int) (i : Nat) (h : i < bs.length) : (vs bs)[i]? = some (.int .u8 (bs.getD i 0)) := by
  simp [vs, List.getElem?_eq_getElem h, List.getD]

/-- What the rest of the law needs of the two rows: d at block g, keep at block k, the same n bytes. -/
structure Two (w : World) (g k m cap : Nat) (xs : List Int) : Prop where
  len : xs.length = m + 4
  cap : m + 4 ≤ cap
  gd : g < w.heap.size
  kd : k < w.heap.size
  d : ∀ i, i < m + 4 → w.cell? ⟨g, i, none⟩ = some (.int .u8 (xs.getD i 0))
  k : ∀ i, i < m + 4 → w.cell? ⟨k, i, none⟩ = some (.int .u8 (xs.getD i 0))
  by8 : ∀ b ∈ xs, 0 ≤ b ∧ b ≤ 255

theorem two_of {B g m cap : Nat} {wr w3 : World} {xs : List Int} {M : List Value} (R : Row B wr g (m + 4) cap xs) (hM : M.length = m + 4)
    (hg : w3.heap[wr.heap.size]? = some (.cells (splice M 0 (vs xs)).toArray 5 (0, 0))) (hb : Below wr.heap.size wr w3) : Two w3 g wr.heap.size m cap xs := by
  have hlt := (R.own.lt g rfl).2
  have hsz : wr.heap.size < w3.heap.size := (Array.getElem?_eq_some_iff.1 hg).1
  have hsp : splice M 0 (vs xs) = vs xs := by
    simp [splice]; rw [vs_length, R.len]; omega
  rw [hsp] at hg
  refine ⟨R.len, ?_, by omega, hsz, ?_, ?_, R.by8⟩
  · rcases R.own.2 with ⟨h, _⟩ | ⟨g', c', cur, h, _, _, h2, _⟩
    · simp at h
    · simp at h; omega
  · intro i hi
    have hc := R.own.cells (g := g) rfl i _ (vs_get xs i (by rw [R.len]; exact hi))
    rw [add0] at hc
    rw [hb.cell (p := ⟨g, i, none⟩) hlt]; exact hc
  · intro i hi
    rw [cell_of_row w3 _ i _ 5 (0, 0) hg]
    simpa using vs_get xs i (by rw [R.len]; exact hi)

theorem Two.get {w : World} {g k m cap : Nat} {xs : List Int} (T : Two w g k m cap xs) (i : Nat) (hi : i < m + 4) : 0 ≤ xs.getD i 0 ∧ xs.getD i 0 ≤ 255 := by
  have : xs.getD i 0 ∈ xs := by
    have hl : i < xs.length := by rw [T.len]; exact hi
    simp [List.getD, List.getElem?_eq_getElem hl]
  exact T.by8 _ this

set_option maxRecDepth 100000 in
set_option maxHeartbeats 1000000 in
theorem walkA (ttl typ cls rec : Int) (a : Option Addr) (len cap : Nat) (bs : List Int) (w : World) (hlen : len ≤ 1048576) (hbs : bs.length = len)
    (h8 : ∀ b ∈ bs, 0 ≤ b ∧ b ≤ 255)
    (hpos : 0 < len → ∃ ad, a = some ad ∧ ad.block < w.heap.size ∧ ∀ j v, (vs bs)[j]? = some v → w.cell? (ad.add j) = some v) :
    Calls Yba.prog 3 #[.int .u32 ttl, .int .u16 typ, .int .u16 cls, .slice a len cap, .int .i64 rec] w fun e w' => e = .returned (.bool true) ∧ Below w.heap.size w w' := by
  obtain ⟨i0, hi, hz0, hz1, hz2⟩ := info_parts Yba.info5
  have hmk := fun w => run_make (P := Yba.prog) w 24 5 i0 (.int .u8 0) Yba.underlying24 hi hz0 .i64 .i64 len (len + 4) (by omega) (by omega) (by rw [hz2]; omega) (by omega)
  rw [hz1] at hmk
  have et : ((len : Int) + 4).toNat = len + 4 := by omega
  simp only [Int.toNat_natCast, et, Nat.mul_one] at hmk
  generalize hM : madeCells (Value.int IntKind.u8 0).cells (len + 4) = M at hmk
  have hMs : M.size = len + 4 := by rw [← hM]; exact size_madeCells _ _
  clear hM
  have hMl : M.toList.length = len + 4 := by simpa using hMs
  have hsz : (Yba.prog.info? 5).map (·.size) = some 1 := by rw [hi]; simp [hz1]
  have Hl : Hid (bs.length = len) := hbs
  have HMl : Hid (M.toList.length = len + 4) := hMl
  have Hsz : Hid ((Yba.prog.info? 5).map (·.size) = some 1) := hsz
  have HA : Hid ((w.alloc (Obj.cells M 5)).heap[w.heap.size]? = some (Obj.cells M.toList.toArray 5)) := by show _ = _; rw [heap_alloc_new]
  have HB : Hid ((vs bs).length = len.min len) := by show _ = _; rw [vs_length, hbs]; exact (Nat.min_self _).symm
  have HC : Hid (0 < (vs bs).length → some (⟨w.heap.size, 0, none⟩ : Addr) = some ⟨w.heap.size, 0, none⟩ ∧ ∃ ad, a = some ad ∧ ∀ (j : Nat) (v : Value), (vs bs)[j]? = some v → (w.alloc (Obj.cells M 5)).cell? (ad.add j) = some v) := by
    rw [vs_length, hbs]; intro h0; obtain ⟨ad, rfl, hlt, hcell⟩ := hpos h0
    exact ⟨rfl, ad, rfl, fun j v hj => (((Below.refl _ w).alloc (Nat.le_refl _) _).cell (by unfold Addr.add; split <;> exact hlt)).trans (hcell j v hj)⟩
  have HD : Hid (0 + (vs bs).length ≤ M.toList.length) := by show _ ≤ _; rw [vs_length, hbs, hMl]; omega
  clear hbs hMl hsz hMs hpos
  go_enter Yba.func3, Yba.ntmps3
  go_wp2_with (refine wpList_copy_splice rfl (.tmp 27) (.tmp 28) 24 24 rfl 5 Yba.underlying24 Hsz.out _ _ _ _ _ _ rfl rfl w.heap.size 0 M.toList 5 HA.out (vs bs) HB.out HC.out HD.out (vs_one bs) w.heap.size w ((Below.refl _ _).alloc (Nat.le_refl _) _) (Nat.le_refl _) ?_; intro w1 hg1 hb1)
  have R1 : Row w.heap.size w1 w.heap.size len (len + 4) bs := row_of_splice HMl.out Hl.out (by omega) (by unfold maxLen; omega) (Nat.le_refl _) hg1.out h8
  clear hmk HA HB HC HD HMl Hl hg1 et
  go_loopw [11] (fun v wr => ∃ g n cap xs, v = .slice (some ⟨g, 0, none⟩) n cap ∧ n ≤ 1048576 ∧ Row w.heap.size wr g n cap xs ∧ Below w.heap.size w wr) (fun v _ => 4 - lenOf v)
  case atStart => exact ⟨w.heap.size, len, len + 4, bs, rfl, hlen, R1, hb1⟩
  case round =>
    obtain ⟨g, n, cap', xs, rfl, hn, R, hbel⟩ := hrel
    by_cases hlt : n < 4
    · have hbw : w.heap.size ≤ (wr.alloc (Obj.cells #[.int .u8 0] 5)).heap.size := by have := hbel.size; simp; omega
      have hmx : n + 1 ≤ maxLen := by unfold maxLen; omega
      go_wp2_with (at_builtin; refine wpList_append_own _ rfl (.tmp 33) (.tmp 34) 24 rfl w.heap.size 5 i0 (.int .u8 0) 1 1 Yba.underlying24 hi hz0 hz1 hz2 rfl (by decide) _ _ _ rfl (R.own.alloc _) ⟨wr.heap.size, 0, none⟩ 1 1 [.int .u8 0] rfl rfl (cell_one_new _ _ _) (vs_one [0]) hmx (by omega) hbw ?_; intro v1 w2 hown2 hgrow2 hnil2)
      obtain ⟨g2, c2, hv, hR2⟩ := row_append R hown2
      go_roundw
      case rel => exact ⟨g2, n + 1, c2, xs ++ [0], hv, by omega, hR2, (hbel.alloc hbel.size _).grown hgrow2 (by have := hbel.size; simp; omega) (fun k hk => (R.own.lt k hk).1)⟩
      case measure => rw [hv]; simp [lenOf]; omega
    · obtain ⟨m, rfl⟩ : ∃ m, n = m + 4 := ⟨n - 4, by omega⟩
      have hmk := fun w => run_make (P := Yba.prog) w 24 5 i0 (.int .u8 0) Yba.underlying24 hi hz0 .i64 .i64 ((m : Int) + 4) ((m : Int) + 4) (by omega) (by omega) (by rw [hz2]; omega) (by omega)
      rw [hz1] at hmk
      have et : ((m : Int) + 4).toNat = m + 4 := by omega
      simp only [et, Nat.mul_one] at hmk
      generalize hM2 : madeCells (Value.int IntKind.u8 0).cells (m + 4) = M2 at hmk
      have hMs : M2.size = m + 4 := by rw [← hM2]; exact size_madeCells _ _
      clear hM2
      have hMl : M2.toList.length = m + 4 := by simpa using hMs
      have HM2 : Hid (M2.toList.length = m + 4) := hMl
      have HA : Hid ((wr.alloc (Obj.cells M2 5)).heap[wr.heap.size]? = some (Obj.cells M2.toList.toArray 5)) := by show _ = _; rw [heap_alloc_new]
      have HB : Hid ((vs xs).length = (m + 4).min (m + 4)) := by show _ = _; rw [vs_length, R.len]; exact (Nat.min_self _).symm
      have HC : Hid (0 < (vs xs).length → some (⟨wr.heap.size, 0, none⟩ : Addr) = some ⟨wr.heap.size, 0, none⟩ ∧ ∃ ad, some (⟨g, 0, none⟩ : Addr) = some ad ∧ ∀ (j : Nat) (v : Value), (vs xs)[j]? = some v → (wr.alloc (Obj.cells M2 5)).cell? (ad.add j) = some v) :=
        fun _ => ⟨rfl, _, rfl, (R.own.alloc _).cells rfl⟩
      have HD : Hid (0 + (vs xs).length ≤ M2.toList.length) := by show _ ≤ _; rw [vs_length, R.len, hMl]; omega
      clear hMl hMs
      go_wp2_with (refine wpList_copy_splice rfl (.tmp 39) (.tmp 40) 24 24 rfl 5 Yba.underlying24 Hsz.out _ _ _ _ _ _ rfl rfl wr.heap.size 0 M2.toList 5 HA.out (vs xs) HB.out HC.out HD.out (vs_one xs) wr.heap.size wr ((Below.refl _ _).alloc (Nat.le_refl _) _) (Nat.le_refl _) ?_; intro w3 hg3 hb3)
      have T := two_of R HM2.out hg3.out hb3
      have hb4 : Below w.heap.size w w3 := hbel.trans (hb3.mono hbel.size)
      generalize wr.heap.size = kb at *
      clear R hbel hb3 hg3 HA HB HC HD HM2 hmk hb1
      obtain ⟨p0, q0⟩ := T.get m (by omega)
      obtain ⟨p1, q1⟩ := T.get (m + 1) (by omega)
      obtain ⟨p2, q2⟩ := T.get (m + 2) (by omega)
      obtain ⟨p3, q3⟩ := T.get (m + 3) (by omega)
      have d0 := T.d m (by omega)
      have d1 := T.d (m + 1) (by omega)
      have d2 := T.d (m + 2) (by omega)
      have d3 := T.d (m + 3) (by omega)
      have k0 := T.k m (by omega)
      have k1 := T.k (m + 1) (by omega)
      have k2 := T.k (m + 2) (by omega)
      have k3 := T.k (m + 3) (by omega)
      have gd := T.gd
      have kd := T.kd
      have hcap := T.cap
      generalize xs.getD m 0 = x0 at *
      generalize xs.getD (m + 1) 0 = x1 at *
      generalize xs.getD (m + 2) 0 = x2 at *
      generalize xs.getD (m + 3) 0 = x3 at *
      refine (soa_any _ g m cap' ⟨#[]⟩ typ cls ttl x0 x1 x2 x3 _ hcap (by omega) (by go_simp) (by go_simp) (by go_simp) (by go_simp) (by go_simp) (by simp) (by go_simp) (by go_simp) (by go_simp) (by go_simp) (by simp; omega) p0 q0 p1 q1 p2 q2 p3 q3).mono ?_
      rintro e w5 ⟨rfl, hb5⟩
      obtain ⟨hc, hf⟩ := bcell hb5
      have hz5 : w3.heap.size + 1 ≤ w5.heap.size := by have := hb5.size; simpa using this
      have K0 : ∀ o1, (w5.alloc o1).cell? ⟨kb, m, none⟩ = some (.int .u8 x0) := fun o1 => by rw [World.cell?_alloc_past _ _ _ (by omega), hc kb m (by simp; omega), World.cell?_alloc_past _ _ _ kd]; exact k0
      have K1 : ∀ o1, (w5.alloc o1).cell? ⟨kb, m + 1, none⟩ = some (.int .u8 x1) := fun o1 => by rw [World.cell?_alloc_past _ _ _ (by omega), hc kb _ (by simp; omega), World.cell?_alloc_past _ _ _ kd]; exact k1
      have K2 : ∀ o1, (w5.alloc o1).cell? ⟨kb, m + 2, none⟩ = some (.int .u8 x2) := fun o1 => by rw [World.cell?_alloc_past _ _ _ (by omega), hc kb _ (by simp; omega), World.cell?_alloc_past _ _ _ kd]; exact k2
      have K3 : ∀ o1, (w5.alloc o1).cell? ⟨kb, m + 3, none⟩ = some (.int .u8 x3) := fun o1 => by rw [World.cell?_alloc_past _ _ _ (by omega), hc kb _ (by simp; omega), World.cell?_alloc_past _ _ _ kd]; exact k3
      have i0' : (0 : Int) ≤ (m : Int) := by omega
      have i1 : (m : Int) + 4 - 4 = m := by omega
      have i2 : (m : Int) + 4 - 3 = m + 1 := by omega
      have i3 : (m : Int) + 4 - 2 = m + 2 := by omega
      have i4 : (m : Int) + 4 - 1 = m + 3 := by omega
      have j1 : ((m : Int) + 1).toNat = m + 1 := by omega
      have j2 : ((m : Int) + 2).toNat = m + 2 := by omega
      have j3 : ((m : Int) + 3).toNat = m + 3 := by omega
      have l1 : (m : Int) < m + 4 := by omega
      have l2 : (m : Int) + 1 < m + 4 := by omega
      have l3 : (m : Int) + 2 < m + 4 := by omega
      have l4 : (m : Int) + 3 < m + 4 := by omega
      clear k0 k1 k2 k3
      go_wp2
      go_quiet (fail)
      rw [be_down x0 x1 x2 x3 p0 q0 p1 q1 p2 q2 p3 q3]
      generalize be x0 x1 x2 x3 = V at *
      clear K0 K1 K2 K3 i1 i2 i3 i4 j1 j2 j3 l1 l2 l3 l4
      obtain ⟨L, hL, hcase⟩ : ∃ L, lesser ttl V = L ∧ ((V < ttl ∧ (L != V) = false) ∨ (ttl ≤ V ∧ (L != ttl) = false)) := by
        by_cases hle : V < ttl
        · exact ⟨V, by rw [lesser, if_pos hle], .inl ⟨hle, by simp⟩⟩
        · exact ⟨ttl, by rw [lesser, if_neg hle], .inr ⟨by omega, by simp⟩⟩
      rw [hL] at *
      clear hL
      rcases hcase with ⟨hle, hne⟩ | ⟨hle, hne⟩
      all_goals
        go_wp2_with (go_at_call 5; refine (wire_any _ _).mono ?_; rintro e w' ⟨rfl, rfl⟩)
        generalize hX : World.alloc ((World.alloc w5 (.cells #[.string ⟨#[]⟩, .int .u16 typ, .int .u16 cls, .int .u32 L, .slice (some ⟨g, 0, none⟩) (m + 4) cap'] 31)).drewN nq) (.cells #[.string ⟨#[]⟩] 29) = wX
        have X4 : wX.cell? ⟨w5.heap.size, 4, none⟩ = some (.slice (some ⟨g, 0, none⟩) (m + 4) cap') := by rw [← hX]; clear hX; go_simp
        have hb6 : Below w5.heap.size w5 wX := by rw [← hX]; exact (below_drewN ((Below.refl _ _).alloc (Nat.le_refl _) _) _).alloc (by simp [World.drewN]) _
        have hsX : w5.heap.size + 1 ≤ wX.heap.size := by rw [← hX]; simp [World.drewN]
        clear hX
        have hb7 : Below w.heap.size w wX := (hb4.alloc hb4.size _).trans ((hb5.mono (by have := hb4.size; simp; omega)).trans (hb6.mono (by have := hb4.size; omega)))
        have hcX : ∀ b o, b < w3.heap.size + 1 → wX.cell? ⟨b, o, none⟩ = (w3.alloc (.cells #[.string ⟨#[]⟩, .int .i64 rec, .string ⟨#[]⟩, .int .u16 typ, .int .u16 cls, .int .u32 ttl, .slice (some ⟨g, 0, none⟩) (m + 4) cap', .map none] 34)).cell? ⟨b, o, none⟩ := fun b o h => by
          rw [hb6.cell (p := ⟨b, o, none⟩) (by show b < _; omega), hc b o (by simpa using h)]
        have Z0 : wX.cell? ⟨w3.heap.size, 0, none⟩ = some (.string ⟨#[]⟩) := by rw [hcX _ _ (by omega)]; clear hcX; go_simp
        have Z1 : wX.cell? ⟨w3.heap.size, 1, none⟩ = some (.int .i64 rec) := by rw [hcX _ _ (by omega)]; clear hcX; go_simp
        have Z2 : wX.cell? ⟨w3.heap.size, 2, none⟩ = some (.string ⟨#[]⟩) := by rw [hcX _ _ (by omega)]; clear hcX; go_simp
        have Z3 : wX.cell? ⟨w3.heap.size, 3, none⟩ = some (.int .u16 typ) := by rw [hcX _ _ (by omega)]; clear hcX; go_simp
        have Z4 : wX.cell? ⟨w3.heap.size, 4, none⟩ = some (.int .u16 cls) := by rw [hcX _ _ (by omega)]; clear hcX; go_simp
        have Z5 : wX.cell? ⟨w3.heap.size, 5, none⟩ = some (.int .u32 ttl) := by rw [hcX _ _ (by omega)]; clear hcX; go_simp
        have Z6 : wX.cell? ⟨w3.heap.size, 6, none⟩ = some (.slice (some ⟨g, 0, none⟩) (m + 4) cap') := by rw [hcX _ _ (by omega)]; clear hcX; go_simp
        have Z7 : wX.cell? ⟨w3.heap.size, 7, none⟩ = some (.map none) := by rw [hcX _ _ (by omega)]; clear hcX; go_simp
        have TX : Two wX g kb m cap' xs := ⟨T.len, T.cap, by omega, by omega, fun i hi => by rw [hcX _ _ (by omega), World.cell?_alloc_past _ _ _ gd]; exact T.d i hi, fun i hi => by rw [hcX _ _ (by omega), World.cell?_alloc_past _ _ _ kd]; exact T.k i hi, T.by8⟩
        have hzX : w3.heap.size < wX.heap.size := by omega
        generalize w3.heap.size = zb at *
        generalize w5.heap.size = gb at *
        have gX := TX.gd
        have kX := TX.kd
        clear hc hf hcX hb4 hb5 hb6 T d0 d1 d2 d3
        have hpn := fun w => Lib.run_neq_ptr_same (P := Yba.prog) w ⟨g, 0, none⟩ Yba.underlying38 hi
        have l0 : (0 : Int) < (m : Int) + 4 := by omega
        go_quiet ((go_at_call 6; exact Calls.quiet_of_same (equal_same g 0 (m + 4) cap' kb 0 (m + 4) xs _ TX.len (fun i hi => by rw [Nat.zero_add]; exact TX.d i hi) (fun i hi => by rw [Nat.zero_add]; exact TX.k i hi))))
        go_wp2_with (go_at_call 5; refine (wire_any _ _).mono ?_; rintro e w' ⟨rfl, rfl⟩)
        generalize hY : World.alloc (wX.drewN nq) (.cells #[.string ⟨#[]⟩] 29) = wY
        have hbY : Below wX.heap.size wX wY := by rw [← hY]; exact (below_drewN (Below.refl _ _) _).alloc (by simp [World.drewN]) _
        have hb8 : Below w.heap.size w wY := hb7.trans (hbY.mono hb7.size)
        have TY : Two wY g kb m cap' xs := ⟨TX.len, TX.cap, by have := hbY.size; omega, by have := hbY.size; omega, fun i hi => (hbY.cell (p := ⟨g, i, none⟩) gX).trans (TX.d i hi), fun i hi => (hbY.cell (p := ⟨kb, i, none⟩) kX).trans (TX.k i hi), TX.by8⟩
        have hcY : ∀ o, wY.cell? ⟨zb, o, none⟩ = wX.cell? ⟨zb, o, none⟩ := fun o => hbY.cell (p := ⟨zb, o, none⟩) hzX
        have hzY : zb < wY.heap.size := by have := hbY.size; omega
        have hmn := fun w r => run_eql_map_nil (P := Yba.prog) w 32 _ _ r Yba.underlying32
        have hz7 : ∀ n o1, ((wY.drewN n).alloc o1).cell? ⟨zb, 7, none⟩ = some (.map none) := fun n o1 => (World.cell?_alloc_past _ _ _ (by simpa [World.drewN] using hzY)).trans ((hcY 7).trans Z7)
        clear hY hbY hb7 TX
        go_quiet ((go_at_call 6; exact Calls.quiet_of_same (equal_same g 0 (m + 4) cap' kb 0 (m + 4) xs _ TY.len (fun i hi => by rw [Nat.zero_add]; exact TY.d i hi) (fun i hi => by rw [Nat.zero_add]; exact TY.k i hi))))
        go_wp2_with (go_at_call 5; refine (wire_any _ _).mono ?_; rintro e w' ⟨rfl, rfl⟩)
        go_ret
        exact ⟨rfl, (below_drewN hb8 _).alloc (by have := hb8.size; simpa [World.drewN] using this) _⟩
end Go.Proofs.Ybulkdrve
