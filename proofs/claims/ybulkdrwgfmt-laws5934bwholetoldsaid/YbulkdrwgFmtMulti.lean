/-
  readSubTemplateMultiList: it answers as 'total' says.
-/
import Derived.Test.YbulkdrwgFmtMem
namespace Go.Proofs.YbulkdrwgFmt
open Go.RowKit Go.Extern.Stop Go.Stop Go.Extern
set_option linter.unusedVariables false
theorem Ybaf.info52 : (Ybaf.prog.info? 52).map (fun i => (i.zero, i.size, i.bytes)) = some (some (.agg #[.int .u16 0, .pointer none, .slice none 0 0]), 3, 40) := by kernel_rfl

/-- What the reader is handed: the bytes xs at block VB, the templates sz at TA behind the box TB, all below CB. -/
structure Given (CB VB vcap TB TA : Nat) (xs sz : List Int) (w : World) : Prop where
  vb : VB < CB
  cap : xs.length ≤ vcap
  len : xs.length ≤ 300000000
  by8 : ∀ b ∈ xs, 0 ≤ b ∧ b ≤ 255
  cells : ∀ i, i < xs.length → w.cell? ⟨VB, i, none⟩ = some (.int .u8 (xs.getD i 0))
  tb : TB < CB
  tmpls : w.cell? ⟨TB, 0, none⟩ = some (.slice (some ⟨TA, 0, none⟩) sz.length sz.length)
  num : sz.length ≤ 4096
  tm : ∀ j, j < sz.length → Tmpl CB w TA (j * 6) (octets sz j)

theorem Given.later {CB VB vcap TB TA : Nat} {xs sz : List Int} {w w' : World} (h : Given CB VB vcap TB TA xs sz w) (hb : Below CB w w') : Given CB VB vcap TB TA xs sz w' :=
  ⟨h.vb, h.cap, h.len, h.by8, fun i hi => (hb.cell (p := ⟨VB, i, none⟩) h.vb).trans (h.cells i hi), h.tb, (hb.cell (p := ⟨TB, 0, none⟩) h.tb).trans h.tmpls, h.num, fun j hj => (h.tm j hj).later hb⟩
theorem Given.get {CB VB vcap TB TA : Nat} {xs sz : List Int} {w : World} (h : Given CB VB vcap TB TA xs sz w) (i : Nat) (hi : i < xs.length) : 0 ≤ xs.getD i 0 ∧ xs.getD i 0 ≤ 255 := by
  have : xs.getD i 0 ∈ xs := by simp [List.getD, List.getElem?_eq_getElem hi]
  exact h.by8 _ this

/-- What stands at the head of each round. -/
structure Here (CB VB vcap TB TA : Nat) (xs sz : List Int) (w wr : World) (p : Nat) (ks : List Nat) (ss : List (Nat × Nat × Nat)) (vl vc : Value) : Prop where
  p1 : 1 ≤ p
  p2 : p ≤ xs.length
  inv : Inv xs sz p ks ss
  kl : ks.length ≤ p
  sl : ss.length ≤ p
  box : Box CB wr vc ks
  own : wr.ownsRow (CB + 1) 52 3 vl ss.length (recs VB vcap TA ss)
  dis : ∀ k, vl.ownBlock = some k → vc.ownBlock ≠ some k
  nil : ss = [] → vl = .slice none 0 0
  bel : Below CB w wr

/-- What the call leaves. -/
def Post (CB VB vcap TA : Nat) (xs sz : List Int) (w : World) (e : Ending) (w' : World) : Prop :=
  ∃ vl vc, e = .returned (.tuple #[vl, .bool (total xs sz).2.2]) ∧ Box CB w' vc (total xs sz).1 ∧ Below CB w w' ∧ ((total xs sz).2.2 = false → vl = .slice none 0 0) ∧
    ((total xs sz).2.2 = true → w'.ownsRow (CB + 1) 52 3 vl (total xs sz).2.1.length (recs VB vcap TA (total xs sz).2.1) ∧ ((total xs sz).2.1 = [] → vl = .slice none 0 0))

section
variable {CB VB vcap TB TA p : Nat} {xs sz : List Int} {w wr w' : World} {ks : List Nat} {ss : List (Nat × Nat × Nat)} {vl vc : Value}

theorem post_end (H : Here CB VB vcap TB TA xs sz w wr p ks ss vl vc) (hp : xs.length ≤ p) : Post CB VB vcap TA xs sz w (.returned (.tuple #[vl, .bool true])) wr := by
  have ht := inv_end H.inv hp
  refine ⟨vl, vc, ?_, ?_, H.bel, ?_, ?_⟩
  · rw [ht]
  · rw [ht]; exact H.box
  · rw [ht]; intro h; cases h
  · rw [ht]; exact fun _ => ⟨H.own, H.nil⟩

theorem post_false {kt : List Nat} (h1 : (total xs sz).1 = kt) (h2 : (total xs sz).2.2 = false) (hb : Box CB w' vc kt) (hbel : Below CB w w') : Post CB VB vcap TA xs sz w (.returned (.tuple #[.slice none 0 0, .bool false])) w' := by
  refine ⟨.slice none 0 0, vc, by rw [h2], by rw [h1]; exact hb, hbel, fun _ => rfl, ?_⟩
  rw [h2]; intro h; cases h
end

theorem Tmpl.up {B B' TA o : Nat} {w : World} {m : Int} (h : Tmpl B w TA o m) (hB : B ≤ B') : Tmpl B' w TA o m := by
  obtain ⟨m1, m2, hT, fb, eb, hf, he, r⟩ := h
  exact ⟨m1, m2, by omega, fb, eb, by omega, by omega, r⟩

/-- One round on. -/
theorem here_next {CB VB vcap TB TA p I L : Nat} {xs sz : List Int} {w wr wF w5 : World} {ks : List Nat} {ss : List (Nat × Nat × Nat)} {vl vc vc3 v5 : Value} {lb : Nat} {A : Addr} {O : Obj}
    (H : Here CB VB vcap TB TA xs sz w wr p ks ss vl vc) (hI : idAt xs p = I) (hL : lenAt xs p = L) (hp : p < xs.length) (g1 : 4 ≤ L) (g2 : p + L ≤ xs.length) (hb1 : bad1 xs p = false) (hb2 : bad2 xs sz p = false)
    (hA : A = (if vcap = p + 4 then ⟨VB, 0, none⟩ else ⟨VB, p + 4, none⟩))
    (FN : Fin CB VB vcap TA w wF (ks ++ [I]) ss vl vc3 lb (.int .u16 (I : Int)) (.pointer (some ⟨TA, I * 6, none⟩)) (.slice (some A) (L - 4) (vcap - (p + 4))))
    (hown : w5.ownsRow (CB + 1) 52 3 v5 (ss.length + 1) (recs VB vcap TA ss ++ [.int .u16 (I : Int), .pointer (some ⟨TA, I * 6, none⟩), .slice (some A) (L - 4) (vcap - (p + 4))])) (hgrow : (wF.alloc O).grownBy w5 vl.ownBlock)
    (hat : v5.ownBlock = vl.ownBlock ∨ v5.ownBlock = some (wF.alloc O).heap.size) :
    Here CB VB vcap TB TA xs sz w w5 (p + L) (ks ++ [I]) (ss ++ [(I, p + 4, p + L)]) v5 vc3 := by
  have hst := inv_step H.inv hp hb1 hb2
  rw [hI, hL] at hst
  have hge : ∀ k, vl.ownBlock = some k → CB + 1 ≤ k := fun k hk => (FN.own.lt k hk).1
  have hal : Below wF.heap.size wF (wF.alloc O) := (Below.refl _ _).alloc (Nat.le_refl _) O
  have hsz := FN.box.lt
  refine ⟨by have := H.p1; omega, g2, hst, by have := H.kl; simp; omega, by have := H.sl; simp; omega, (FN.box.later hal).grown hgrow hge FN.dis, ?_, ?_, by simp, ?_⟩
  · have e : rec1 VB vcap TA (I, p + 4, p + L) = [.int .u16 (I : Int), .pointer (some ⟨TA, I * 6, none⟩), .slice (some A) (L - 4) (vcap - (p + 4))] := by
      simp only [rec1, hA]
      rw [show p + L - (p + 4) = L - 4 from by omega]
    rw [← e, recs_snoc] at hown
    simpa using hown
  · intro k hk e
    rcases hat with h | h
    · rw [h] at hk; exact FN.dis k hk e
    · rw [h] at hk; cases hk
      have := (FN.box.own.lt _ e).2
      simp at this
      omega
  · exact (FN.bel.trans (hal.mono (Nat.le_of_lt hsz))).grown hgrow (by simp; omega) (fun k hk => by have := hge k hk; omega)

theorem slice_at (VB n vcap p L : Nat) (A : Addr) (hA : A = (if vcap = p + 4 then ⟨VB, 0, none⟩ else ⟨VB, p + 4, none⟩)) (h4 : 4 ≤ L) (hc : p + L ≤ vcap) (hb : p ≤ 300000000) (w : World) :
    (Instr.slice 23 (.slice (some ⟨VB, 0, none⟩) n vcap) (some (.int .i64 ((p : Int) + 4))) (some (.int .i64 ((p : Int) + (L : Int)))) none).run Ybaf.prog w = .ok (.slice (some A) (L - 4) (vcap - (p + 4))) w := by
  have f3 : ((p : Int) + 4).toNat = p + 4 := by omega
  have f4 : ((p : Int) + (L : Int)).toNat = p + L := by omega
  have f5 : (p : Int) + 4 ≤ (p : Int) + (L : Int) := by omega
  have f6 : (p : Int) + (L : Int) ≤ (vcap : Int) := by omega
  have f0 : (0 : Int) ≤ (p : Int) + 4 := by omega
  subst hA
  have h := run_slice_lh (P := Ybaf.prog) w 23 (some ⟨VB, 0, none⟩) n vcap Ybaf.underlying23 .i64 .i64 ((p : Int) + 4) ((p : Int) + (L : Int)) f0 f5 f6
  rw [h, f3, f4]
  go_simp
  refine ⟨?_, by omega⟩
  split <;> rfl

/-- readRecordList where the records fill the bytes. -/
theorem list_fit (F : Interp) (hS : Speaks F) (id m : Int) (TA o : Nat) (ra : Option Addr) (R rc : Nat) (w : World) (hF : F.answers w.tape) (T : Tmpl w.heap.size w TA o m) (hR : R ≤ 1000000000) (h : (R : Int) % m = 0) :
    Calls Ybaf.prog 7 #[.int .u16 id, .pointer (some ⟨TA, o, none⟩), .slice ra R rc] w fun e w' => e = .returned (.tuple #[.agg #[.int .u16 id, .pointer (some ⟨TA, o, none⟩), .slice ra R rc], .bool true]) ∧ Below w.heap.size w w' :=
  (list_some F hS id m TA o ra R rc w hF T hR).mono fun _ _ ⟨h1, h2⟩ => ⟨h1.elim (fun x => x.2) (fun x => absurd h x.1), h2⟩
/-- .. where they do not. -/
theorem list_unfit (F : Interp) (hS : Speaks F) (id m : Int) (TA o : Nat) (ra : Option Addr) (R rc : Nat) (w : World) (hF : F.answers w.tape) (T : Tmpl w.heap.size w TA o m) (hR : R ≤ 1000000000) (h : (R : Int) % m ≠ 0) :
    Calls Ybaf.prog 7 #[.int .u16 id, .pointer (some ⟨TA, o, none⟩), .slice ra R rc] w fun e w' => e = .returned (.tuple #[.agg #[.int .u16 0, .pointer none, .slice none 0 0], .bool false]) ∧ Below w.heap.size w w' :=
  (list_some F hS id m TA o ra R rc w hF T hR).mono fun _ _ ⟨h1, h2⟩ => ⟨h1.elim (fun x => absurd x.1 h) (fun x => x.2), h2⟩

set_option maxRecDepth 100000 in
set_option maxHeartbeats 2000000 in
theorem multi_any (F : Interp) (hS : Speaks F) (CB VB vcap TB TA : Nat) (xs sz : List Int) (vc0 : Value) (w : World) (hF : F.answers w.tape) (G : Given CB VB vcap TB TA xs sz w) (hbox : Box CB w vc0 []) (h1 : 1 ≤ xs.length) :
    Calls Ybaf.prog 5 #[.slice (some ⟨VB, 0, none⟩) xs.length vcap, .func (.func 4) #[] #[.pointer (some ⟨CB, 0, none⟩), .pointer (some ⟨TB, 0, none⟩)]] w fun e w' => Post CB VB vcap TA xs sz w e w' := by
  have hn := G.len
  have HG : Hid (Given CB VB vcap TB TA xs sz w) := G
  clear G
  obtain ⟨n, hnx⟩ : ∃ n, n = xs.length := ⟨_, rfl⟩
  have Hn : Hid (n = xs.length) := hnx
  rw [← hnx] at h1 hn ⊢
  clear hnx
  go_enter Ybaf.func5, Ybaf.ntmps5
  go_wp2
  go_loopw [6, 7] (fun v i wr => ∃ (p : Nat) (ks : List Nat) (ss : List (Nat × Nat × Nat)) (vc : Value), i = .int .i64 p ∧ 1 ≤ p ∧ p ≤ n ∧ Here CB VB vcap TB TA xs sz w wr p ks ss v vc) (fun _ i _ => n - (intOf i).toNat)
  case atStart => exact ⟨1, [], [], vc0, rfl, Nat.le_refl _, h1, ⟨Nat.le_refl _, by rw [← Hn.out]; exact h1, inv_start _ _, by simp, by simp, hbox, World.ownsRow_nil _ _ _ _, by simp [Value.ownBlock], fun _ => rfl, Below.refl _ _⟩⟩
  case round =>
    obtain ⟨p, ks, ss, vc, rfl, p1, p2, HR⟩ := hrel
    by_cases hp : p < n
    · by_cases h4 : n < p + 4
      · go_wp2
        go_ret2
        have hb := inv_bad1 HR.inv (by rw [← Hn.out]; exact hp) (by simp [bad1]; left; left; rw [← Hn.out]; exact h4)
        exact post_false hb.1 hb.2 HR.box HR.bel
      · have GR := HG.out.later HR.bel
        have hlt := HR.box.lt
        have hvb := GR.vb
        have hcap := GR.cap
        rw [← Hn.out] at hcap
        obtain ⟨a0, b0⟩ := GR.get p (by rw [← Hn.out]; omega)
        obtain ⟨a1, b1⟩ := GR.get (p + 1) (by rw [← Hn.out]; omega)
        obtain ⟨a2, b2⟩ := GR.get (p + 2) (by rw [← Hn.out]; omega)
        obtain ⟨a3, b3⟩ := GR.get (p + 3) (by rw [← Hn.out]; omega)
        have c0 := GR.cells p (by rw [← Hn.out]; omega)
        have c1 := GR.cells (p + 1) (by rw [← Hn.out]; omega)
        have c2 := GR.cells (p + 2) (by rw [← Hn.out]; omega)
        have c3 := GR.cells (p + 3) (by rw [← Hn.out]; omega)
        obtain ⟨I, hI⟩ : ∃ I, idAt xs p = I := ⟨_, rfl⟩
        obtain ⟨L, hL⟩ : ∃ L, lenAt xs p = L := ⟨_, rfl⟩
        have hI2 : xs.getD p 0 * 256 + xs.getD (p + 1) 0 = (I : Int) := by rw [← hI]; unfold idAt be; omega
        have hL2 : xs.getD (p + 2) 0 * 256 + xs.getD (p + 2 + 1) 0 = (L : Int) := by rw [← hL]; unfold lenAt be; rw [show p + 2 + 1 = p + 3 from rfl]; omega
        rw [show p + 2 + 1 = p + 3 from rfl] at hL2
        have HI : Hid (idAt xs p = I) := hI
        have HL : Hid (lenAt xs p = L) := hL
        generalize xs.getD p 0 = x0 at *
        generalize xs.getD (p + 1) 0 = x1 at *
        generalize xs.getD (p + 2) 0 = x2 at *
        generalize xs.getD (p + 3) 0 = x3 at *
        have HI2 : Hid (x0 * 256 + x1 = (I : Int)) := hI2
        have HL2 : Hid (x2 * 256 + x3 = (L : Int)) := hL2
        have hI3 : I ≤ 65535 := by omega
        have hL3 : L ≤ 65535 := by omega
        clear hI hL hI2 hL2
        have e0 : (0 : Int) ≤ (p : Int) := by omega
        have e1 : (p : Int) ≤ (n : Int) := by omega
        have e2 : IntKind.i64.wrap (p : Int) = p := by rw [IntKind.wrap_i64]; omega
        have e3 : ¬ vcap = p := by omega
        have e4 : IntKind.i64.wrap ((p : Int) + 2) = (p : Int) + 2 := by rw [IntKind.wrap_i64]; omega
        have e5 : ((p : Int) + 2).toNat = p + 2 := by omega
        have e6 : ¬ vcap = p + 2 := by omega
        have e7 : (p : Int) + 2 ≤ (n : Int) := by omega
        have e8 : (0 : Int) ≤ (p : Int) + 2 := by omega
        go_wp2
        go_region_held3 (fun w' => True) (trivial) (first | (go_at_call 6; refine (u16_any VB p (n - p) (vcap - p) x0 x1 _ (by omega) (by exact c0) (by exact c1) (by exact Nat.lt_trans hvb hlt) a0 b0 a1 b1).mono ?_; rw [HI2.out]; rintro e w1 ⟨rfl, hb1⟩))
        have hb1' : Below wr.heap.size wr w1 := ((Below.refl _ wr).drew).trans hb1
        clear hb1
        have hvw : VB < wr.heap.size := Nat.lt_trans hvb hlt
        have d2 := (hb1'.cell (p := ⟨VB, p + 2, none⟩) hvw).trans c2
        have d3 := (hb1'.cell (p := ⟨VB, p + 3, none⟩) hvw).trans c3
        clear c0 c1 c2 c3
        go_wp2
        go_region_held3 (fun w' => True) (trivial) (first | (go_at_call 6; refine (u16_any VB (p + 2) (n - (p + 2)) (vcap - (p + 2)) x2 x3 _ (by omega) (by exact d2) (by exact d3) (by exact Nat.lt_of_lt_of_le hvw hb1'.size) a2 b2 a3 b3).mono ?_; rw [HL2.out]; rintro e w2 ⟨rfl, hb2⟩))
        have hb2' : Below wr.heap.size wr w2 := hb1'.trans ((((Below.refl _ w1).drew).trans hb2).mono hb1'.size)
        clear hb2 hb1' d2 d3
        by_cases hl4 : L < 4
        · go_wp2
          go_ret2
          have hb := inv_bad1 HR.inv (by rw [← Hn.out]; exact hp) (by simp [bad1, HL.out, hl4])
          exact post_false hb.1 hb.2 (HR.box.later hb2') (HR.bel.trans (hb2'.mono (Nat.le_of_lt hlt)))
        · by_cases hbl : n < p + L
          · go_wp2
            go_ret2
            have hb := inv_bad1 HR.inv (by rw [← Hn.out]; exact hp) (by simp [bad1, HL.out]; right; rw [← Hn.out]; exact hbl)
            exact post_false hb.1 hb.2 (HR.box.later hb2') (HR.bel.trans (hb2'.mono (Nat.le_of_lt hlt)))
          obtain ⟨g1, g2⟩ : 4 ≤ L ∧ p + L ≤ n := by omega
          clear hbl hl4
          have f0 : (0 : Int) ≤ (p : Int) + 4 := by omega
          have f1 : IntKind.i64.wrap ((p : Int) + 4) = (p : Int) + 4 := by rw [IntKind.wrap_i64]; omega
          have f2 : IntKind.i64.wrap ((p : Int) + (L : Int)) = (p : Int) + (L : Int) := by rw [IntKind.wrap_i64]; omega
          have f3 : ((p : Int) + 4).toNat = p + 4 := by omega
          have f4 : ((p : Int) + (L : Int)).toNat = p + L := by omega
          have f5 : (p : Int) + 4 ≤ (p : Int) + (L : Int) := by omega
          have f6 : (p : Int) + (L : Int) ≤ (vcap : Int) := by omega
          have f7 : (0 : Int) ≤ (p : Int) + (L : Int) := by omega
          have hb1 : bad1 xs p = false := by simp [bad1, HL.out]; rw [← Hn.out]; omega
          have HB1 : Hid (bad1 xs p = false) := hb1
          clear hb1
          obtain ⟨A, hA⟩ : ∃ A : Addr, A = (if vcap = p + 4 then ⟨VB, 0, none⟩ else ⟨VB, p + 4, none⟩) := ⟨_, rfl⟩
          have hsl := slice_at VB n vcap p L A hA g1 (by omega) (by omega)
          have HA : Hid (A = (if vcap = p + 4 then ⟨VB, 0, none⟩ else ⟨VB, p + 4, none⟩)) := hA
          have G2 := HG.out.later (HR.bel.trans (hb2'.mono (Nat.le_of_lt hlt)))
          have B2 := HR.box.later hb2'
          have hN := G2.num
          obtain ⟨N, hNN⟩ : ∃ N, N = sz.length := ⟨_, rfl⟩
          have HN : Hid (N = sz.length) := hNN
          have htm := G2.tmpls
          rw [← hNN] at hN htm
          clear hA hNN
          by_cases hid : I < N
          · have hkl := HR.kl
            have hsl0 := HR.sl
            have own2 := own_later HR.own hb2'
            have bel2 := HR.bel.trans (hb2'.mono (Nat.le_of_lt hlt))
            have htb2 : TB < w2.heap.size := Nat.lt_trans G2.tb B2.lt
            have T2 := G2.tm I (by rw [← HN.out]; exact hid)
            have hF2 : F.answers w2.tape := by rw [bel2.tape]; exact hF
            obtain ⟨m, hm⟩ : ∃ m, m = octets sz I := ⟨_, rfl⟩
            have Hm : Hid (m = octets sz I) := hm
            rw [← hm] at T2
            clear hm
            by_cases hfit : ((L - 4 : Nat) : Int) % m = 0
            · have HX : Hid (((L - 4 : Nat) : Int) % m = 0) := hfit
              clear hfit
              obtain ⟨i0, hi, hz0, hz1, hz2⟩ := info_parts Ybaf.info52
              go_wp2
              go_region_held3 (fun w' => True) (trivial) (first | (go_at_call 4; refine (lookup_any CB TB TA N I vc ks _ (by first | exact B2.later ((Below.refl _ _).drew) | exact B2.later (((Below.refl _ _).alloc (Nat.le_refl _) _).drew)) (by exact G2.tb) (by first | exact htm | exact (World.cell?_alloc_past _ _ _ htb2).trans htm) hI3 hN (by omega)).mono ?_; rw [if_pos hid]; rintro e w3 ⟨rfl, vc3, hbox3, hmov3⟩; have hb3 : Below CB w2 w3 := (by first | exact ((Below.refl _ _).drew).trans hmov3.below | exact (((Below.refl _ _).alloc (Nat.le_of_lt B2.lt) _).drew).trans hmov3.below); first | (have zz := early1 B2 hmov3; obtain ⟨z0, z1, z2, zf, zl⟩ := zz) | skip) | (go_at_call 7; refine (list_fit F hS (I : Int) m TA (I * 6) (some A) (L - 4) (vcap - (p + 4)) _ (by show F.answers w3.tape; rw [hb3.tape]; exact hF2) (by first | exact (T2.later hb3).up (Nat.le_of_lt hbox3.lt) | exact ((T2.later hb3).later ((Below.refl _ _).alloc (Nat.le_of_lt hbox3.lt) _)).up (by have := hbox3.lt; simp; omega)) (by omega) HX.out).mono ?_; rintro e w4 ⟨rfl, hb4⟩; first | (have yy := early2 hb4; obtain ⟨y0, y1, y2, yf, yl⟩ := yy) | (have yy := (early1 B2 hmov3).later hb4; obtain ⟨y0, y1, y2, yf, yl⟩ := yy) | skip))
              all_goals
                first
                | (have FN := fin_c (a := .int .u16 (I : Int)) (b := .pointer (some ⟨TA, I * 6, none⟩)) (c := .slice (some A) (L - 4) (vcap - (p + 4))) B2 own2 HR.dis bel2 hmov3 hbox3 hb4
                   generalize w4.alloc (.cells #[.int .u16 (I : Int), .pointer (some ⟨TA, I * 6, none⟩), .slice (some A) (L - 4) (vcap - (p + 4))] 52) = wF at FN ⊢
                   generalize w4.heap.size = lb at FN ⊢)
                | (have FN := fin_b (a := .int .u16 (I : Int)) (b := .pointer (some ⟨TA, I * 6, none⟩)) (c := .slice (some A) (L - 4) (vcap - (p + 4))) B2 own2 HR.dis bel2 hmov3 hbox3 hb4
                   generalize ((w4.setCell ⟨w3.heap.size, 0, none⟩ (.int .u16 (I : Int))).setCell ⟨w3.heap.size, 1, none⟩ (.pointer (some ⟨TA, I * 6, none⟩))).setCell ⟨w3.heap.size, 2, none⟩ (.slice (some A) (L - 4) (vcap - (p + 4))) = wF at FN ⊢
                   generalize w3.heap.size = lb at FN ⊢)
                | (have FN := fin_a (a := .int .u16 (I : Int)) (b := .pointer (some ⟨TA, I * 6, none⟩)) (c := .slice (some A) (L - 4) (vcap - (p + 4))) B2 own2 HR.dis bel2 hmov3 hbox3 hb4
                   generalize ((w4.setCell ⟨w2.heap.size, 0, none⟩ (.int .u16 (I : Int))).setCell ⟨w2.heap.size, 1, none⟩ (.pointer (some ⟨TA, I * 6, none⟩))).setCell ⟨w2.heap.size, 2, none⟩ (.slice (some A) (L - 4) (vcap - (p + 4))) = wF at FN ⊢
                   generalize w2.heap.size = lb at FN ⊢)
                have k0 := FN.c0
                have k1 := FN.c1
                have k2 := FN.c2
                have klt := FN.lt
                have hwf := FN.box.lt
                go_wp2_with (at_builtin; refine wpList_append_own_at _ rfl (.tmp 63) (.tmp 65) 45 rfl (CB + 1) 52 i0 (.agg #[.int .u16 0, .pointer none, .slice none 0 0]) 3 40 Ybaf.underlying45 hi hz0 hz1 hz2 rfl (by decide) _ _ _ rfl (FN.own.alloc _) ⟨wF.heap.size, 0, none⟩ 1 1 [.int .u16 (I : Int), .pointer (some ⟨TA, I * 6, none⟩), .slice (some A) (L - 4) (vcap - (p + 4))] rfl rfl (cell_three_new _ _ _ _ _) (by intro u hu; simp at hu; rcases hu with rfl | rfl | rfl <;> rfl) (by unfold maxLen; omega) (by omega) (by simp; omega) ?_; intro v5 w5 hown5 hgrow5 hnil5 hat5)
                go_roundw
                case rel => exact ⟨p + L, ks ++ [I], ss ++ [(I, p + 4, p + L)], _, by go_num, by omega, g2, here_next HR HI.out HL.out (by rw [← Hn.out]; exact hp) g1 (by rw [← Hn.out]; exact g2) HB1.out (by simp [bad2, HI.out, HL.out]; refine ⟨by rw [← HN.out]; exact hid, ?_⟩; rw [← Hm.out, ← show ((L - 4 : Nat) : Int) = (L : Int) - 4 from by omega]; exact HX.out) HA.out FN hown5 hgrow5 hat5⟩
                case measure => simp [intOf]; omega
            · go_wp2
              go_region_held3 (fun w' => True) (trivial) (first | (go_at_call 4; refine (lookup_any CB TB TA N I vc ks _ (by first | exact B2.later ((Below.refl _ _).drew) | exact B2.later (((Below.refl _ _).alloc (Nat.le_refl _) _).drew)) (by exact G2.tb) (by first | exact htm | exact (World.cell?_alloc_past _ _ _ htb2).trans htm) hI3 hN (by omega)).mono ?_; rw [if_pos hid]; rintro e w3 ⟨rfl, vc3, hbox3, hmov3⟩; have hb3 : Below CB w2 w3 := (by first | exact ((Below.refl _ _).drew).trans hmov3.below | exact (((Below.refl _ _).alloc (Nat.le_of_lt B2.lt) _).drew).trans hmov3.below); first | (have zz := early1 B2 hmov3; obtain ⟨z0, z1, z2, zf, zl⟩ := zz) | skip) | (go_at_call 7; refine (list_unfit F hS (I : Int) m TA (I * 6) (some A) (L - 4) (vcap - (p + 4)) _ (by show F.answers w3.tape; rw [hb3.tape]; exact hF2) (by first | exact (T2.later hb3).up (Nat.le_of_lt hbox3.lt) | exact ((T2.later hb3).later ((Below.refl _ _).alloc (Nat.le_of_lt hbox3.lt) _)).up (by have := hbox3.lt; simp; omega)) (by omega) hfit).mono ?_; rintro e w4 ⟨rfl, hb4⟩; first | (have yy := early2 hb4; obtain ⟨y0, y1, y2, yf, yl⟩ := yy) | (have yy := (early1 B2 hmov3).later hb4; obtain ⟨y0, y1, y2, yf, yl⟩ := yy) | skip))
              all_goals
                go_wp2
                go_ret2
                have hb := inv_bad2 (sz := sz) HR.inv (by rw [← Hn.out]; exact hp) HB1.out (by simp [bad2, HI.out, HL.out]; right; rw [← Hm.out, ← show ((L - 4 : Nat) : Int) = (L : Int) - 4 from by omega]; exact hfit)
                rw [HI.out] at hb
                first
                | (have FN := fin_c (a := .int .u16 0) (b := .pointer none) (c := .slice none 0 0) B2 own2 HR.dis bel2 hmov3 hbox3 hb4; exact post_false hb.1 hb.2 FN.box FN.bel)
                | (have FN := fin_b (a := .int .u16 0) (b := .pointer none) (c := .slice none 0 0) B2 own2 HR.dis bel2 hmov3 hbox3 hb4; exact post_false hb.1 hb.2 FN.box FN.bel)
                | (have FN := fin_a (a := .int .u16 0) (b := .pointer none) (c := .slice none 0 0) B2 own2 HR.dis bel2 hmov3 hbox3 hb4; exact post_false hb.1 hb.2 FN.box FN.bel)
          · have hkl := HR.kl
            have own2 := own_later HR.own hb2'
            have bel2 := HR.bel.trans (hb2'.mono (Nat.le_of_lt hlt))
            have htb2 : TB < w2.heap.size := Nat.lt_trans G2.tb B2.lt
            go_wp2
            go_region_held3 (fun w' => True) (trivial) (first | (go_at_call 4; refine (lookup_any CB TB TA N I vc ks _ (by first | exact B2.later ((Below.refl _ _).drew) | exact B2.later (((Below.refl _ _).alloc (Nat.le_refl _) _).drew)) (by exact G2.tb) (by first | exact htm | exact (World.cell?_alloc_past _ _ _ htb2).trans htm) hI3 hN (by omega)).mono ?_; rw [if_neg hid]; rintro e w3 ⟨rfl, vc3, hbox3, hmov3⟩; first | (have zz := early1 B2 hmov3; obtain ⟨z0, z1, z2, zf, zl⟩ := zz) | skip) | (go_at_call 7; refine (list_nil _ _ _ _ _).mono ?_; rintro e w4 ⟨rfl, hb4⟩; first | (have yy := early2 hb4; obtain ⟨y0, y1, y2, yf, yl⟩ := yy) | (have yy := (early1 B2 hmov3).later hb4; obtain ⟨y0, y1, y2, yf, yl⟩ := yy) | skip))
            all_goals
              go_wp2
              go_ret2
              have hb := inv_bad2 (sz := sz) HR.inv (by rw [← Hn.out]; exact hp) HB1.out (by simp [bad2, HI.out]; left; rw [← HN.out]; omega)
              rw [HI.out] at hb
              first
              | (have FN := fin_c (a := .int .u16 0) (b := .pointer none) (c := .slice none 0 0) B2 own2 HR.dis bel2 hmov3 hbox3 hb4; exact post_false hb.1 hb.2 FN.box FN.bel)
              | (have FN := fin_b (a := .int .u16 0) (b := .pointer none) (c := .slice none 0 0) B2 own2 HR.dis bel2 hmov3 hbox3 hb4; exact post_false hb.1 hb.2 FN.box FN.bel)
              | (have FN := fin_a (a := .int .u16 0) (b := .pointer none) (c := .slice none 0 0) B2 own2 HR.dis bel2 hmov3 hbox3 hb4; exact post_false hb.1 hb.2 FN.box FN.bel)
    · go_wp2
      go_ret2
      exact post_end HR (by rw [← Hn.out]; omega)
end Go.Proofs.YbulkdrwgFmt
