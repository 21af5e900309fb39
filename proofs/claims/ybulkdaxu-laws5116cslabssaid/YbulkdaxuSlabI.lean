import Derived.Test.YbulkdaxuSlabH
namespace Go.Proofs.Ybulkdaxu
open Go.RowKit
set_option linter.unusedSimpArgs false
set_option linter.unusedVariables false

/-- A row of boxes. -/
structure RB (w : World) (b n : Nat) (l u : Nat → Value) : Prop where
  lt : b < w.heap.size
  f0 : ∀ i, i < n → w.cell? ⟨b, i * 2, none⟩ = some (l i)
  f1 : ∀ i, i < n → w.cell? ⟨b, i * 2 + 1, none⟩ = some (u i)
theorem RB.below {w w' : World} {b n : Nat} {l u : Nat → Value} (H : RB w b n l u) (hb : Below w.heap.size w w') : RB w' b n l u :=
  ⟨Nat.lt_of_lt_of_le H.lt hb.size, fun i hi => (hb.cell (p := ⟨b, i * 2, none⟩) H.lt).trans (H.f0 i hi), fun i hi => (hb.cell (p := ⟨b, i * 2 + 1, none⟩) H.lt).trans (H.f1 i hi)⟩
/-- A slice of boxes of this law. -/
def BS (h : Int → Nat) (w : World) (d b n : Nat) (lo hi : Nat → Int) : Prop := ∃ l u, RB w b n l u ∧ ∀ i, i < n → CO h w d (l i) (u i) (lo i) (hi i)
theorem BS.below {h : Int → Nat} {w w' : World} {d b n : Nat} {lo hi : Nat → Int} (H : BS h w d b n lo hi) (hb : Below w.heap.size w w') : BS h w' d b n lo hi := by
  obtain ⟨l, u, R, C⟩ := H
  exact ⟨l, u, R.below hb, fun i hi => (C i hi).below hb⟩
/-- The i-th box, its corners as slices. -/
theorem BS.at {h : Int → Nat} {w : World} {d b n : Nat} {lo hi : Nat → Int} (H : BS h w d b n lo hi) {i : Nat} (hi' : i < n) : ∃ xb xc yb yc, w.cell? ⟨b, i * 2, none⟩ = some (.slice (some ⟨xb, 0, none⟩) d xc) ∧ w.cell? ⟨b, i * 2 + 1, none⟩ = some (.slice (some ⟨yb, 0, none⟩) d yc) ∧ CO h w d (.slice (some ⟨xb, 0, none⟩) d xc) (.slice (some ⟨yb, 0, none⟩) d yc) (lo i) (hi i) := by
  obtain ⟨l, u, R, C⟩ := H
  have f0 := R.f0 i hi'
  have f1 := R.f1 i hi'
  have c := C i hi'
  obtain ⟨xb, xc, ex, _⟩ := c.1
  obtain ⟨yb, yc, ey, _⟩ := c.2.1
  rw [ex] at f0 c
  rw [ey] at f1 c
  exact ⟨xb, xc, yb, yc, f0, f1, c⟩

/-- What reach hands back: true across the second dimension. -/
def RE (j n : Nat) (w : World) (e : Ending) (w' : World) : Prop := ∃ B : Bool, e = .returned (.bool B) ∧ (j = 1 → 0 < n → B = true) ∧ Below w.heap.size w w'
set_option maxRecDepth 100000 in
set_option maxHeartbeats 4000000 in
theorem reach_any (h : Int → Nat) (K : FK h) (w : World) (d b n c j : Nat) (l u : Value) (lo hi : Int) (zl zh : Nat → Int) (hd2 : d ≤ 2) (hj : j < d) (hn : n ≤ 600) (G : CO h w d l u lo hi) (Z : BS h w d b n zl zh) :
    Calls Yba.prog 48 #[.agg #[l, u], .slice (some ⟨b, 0, none⟩) n c, .int .i64 j] w (RE j n w) := by
  obtain ⟨G1, G2, G3, G4⟩ := G
  obtain ⟨b1, c1, rfl, x1, y1, q1⟩ := G1
  obtain ⟨b2, c2, rfl, x2, y2, q2⟩ := G2
  obtain ⟨W, hW⟩ : ∃ W, W = w.alloc (.cells #[.slice (some ⟨b1, 0, none⟩) d c1, .slice (some ⟨b2, 0, none⟩) d c2] 27) := ⟨_, rfl⟩
  have BW : Below w.heap.size w W := by rw [hW]; exact (Below.refl _ _).alloc (Nat.le_refl _) _
  have sW : W.heap.size = w.heap.size + 1 := by rw [hW]; simp
  have a0 : W.cell? ⟨w.heap.size, 0, none⟩ = some (.slice (some ⟨b1, 0, none⟩) d c1) := by rw [hW]; go_simp
  have a1 : W.cell? ⟨w.heap.size, 1, none⟩ = some (.slice (some ⟨b2, 0, none⟩) d c2) := by rw [hW]; go_simp
  have e1 := (BW.cell (p := ⟨b1, j, none⟩) y1).trans (q1 j hj)
  have e2 := (BW.cell (p := ⟨b2, j, none⟩) y2).trans (q2 j hj)
  have hj0 : (0 : Int) ≤ (j : Int) := by omega
  have hj1 : (j : Int) < (d : Int) := by omega
  have HBW := Hid.mk BW
  have HsW := Hid.mk sW
  have HZ := Hid.mk (Z.below BW)
  have ra := rg_bl G3 j
  have rb := rg_bu G4 j
  clear q1 q2 BW sW Z
  go_enter Yba.func48, Yba.ntmps48
  go_wp2_with fail
  rw [← hW]
  clear hW
  go_quiet (fail)
  go_wp2_with fail
  go_loopw [7, 8, 23] (fun va vb vk wr => ∃ (k : Nat) (p q : Int), k ≤ n ∧ va = .float .f64 (h p) ∧ vb = .float .f64 (h q) ∧ vk = .int .i64 (k : Int) ∧ RG p ∧ RG q ∧ (j = 1 → 0 < k → p ≤ 0 ∧ 8 ≤ q) ∧ Below W.heap.size W wr) (fun _ _ vk _ => n - (intOf vk).toNat)
  case atStart => exact ⟨0, _, _, by omega, rfl, rfl, rfl, rb, ra, fun _ x => by omega, Below.drewN (Below.refl _ _) _⟩
  case round =>
    obtain ⟨k, p, q, hk, rfl, rfl, rfl, rp, rq, hpq, hB⟩ := hrel
    have HB := Hid.mk hB
    have hs := hB.size
    clear hB
    by_cases hkn : k < n
    · have hk' : (k : Int) < (n : Int) := by omega
      have hk0 : (0 : Int) ≤ (k : Int) := by omega
      obtain ⟨xb, xc, yb, yc, f0, f1, C⟩ := (HZ.out.below HB.out).at hkn
      obtain ⟨C1, C2, C3, C4⟩ := C
      obtain ⟨_, xlt, xv⟩ := C1.open
      obtain ⟨_, ylt, yv⟩ := C2.open
      have BV := (Below.refl wr.heap.size wr).alloc (Nat.le_refl _) (.cells #[.slice (some ⟨xb, 0, none⟩) d xc, .slice (some ⟨yb, 0, none⟩) d yc] 27)
      have g1 := (BV.cell (p := ⟨xb, j, none⟩) xlt).trans (xv j hj)
      have g2 := (BV.cell (p := ⟨yb, j, none⟩) ylt).trans (yv j hj)
      have rz := rg_bl C3 j
      have rz' := rg_bu C4 j
      have m1 := K.mn rp rz
      have m2 := K.mx rq rz'
      have P1 : RG (min p (bl (zl k) j)) := by unfold RG at *; omega
      have P2 : RG (max q (bu (zh k) j)) := by unfold RG at *; omega
      have P3 : Hid (j = 1 → 0 < k + 1 → min p (bl (zl k) j) ≤ 0 ∧ 8 ≤ max q (bu (zh k) j)) := ⟨fun x _ => by
        subst x
        have e1 : bl (zl k) 1 = 0 := rfl
        have e2 : bu (zh k) 1 = 8 := rfl
        rw [e1, e2]
        omega⟩
      have HBV := Hid.mk (HB.out.trans (BV.mono hs))
      generalize min p (bl (zl k) j) = p' at *
      generalize max q (bu (zh k) j) = q' at *
      clear BV xv yv C1 C2 C3 C4 rz rz' hpq
      go_wp2_with fail
      go_quiet (fail)
      go_wp2_with fail
      go_roundw
      case rel => exact ⟨k + 1, p', q', by omega, rfl, rfl, by simp, P1, P2, P3.out, Below.drewN HBV.out _⟩
      case measure => simp only [intOf]; omega
    · have hk' : ¬ (k : Int) < (n : Int) := by omega
      have f0 := (HB.out.cell (p := ⟨w.heap.size, 0, none⟩) (by have := HsW.out; simp; omega)).trans a0
      have f1 := (HB.out.cell (p := ⟨w.heap.size, 1, none⟩) (by have := HsW.out; simp; omega)).trans a1
      have f2 := (HB.out.cell (p := ⟨b1, j, none⟩) (by have := HsW.out; simp; omega)).trans e1
      have f3 := (HB.out.cell (p := ⟨b2, j, none⟩) (by have := HsW.out; simp; omega)).trans e2
      have o1 := K.le rp ra
      have o2 := K.le rb rq
      have HBF := Hid.mk (HBW.out.trans (HB.out.mono HBW.out.size))
      have FIN : Hid (j = 1 → 0 < n → p ≤ bl lo j ∧ bu hi j ≤ q) := ⟨fun x y => by
        subst x
        have e1 : bl lo 1 = 0 := rfl
        have e2 : bu hi 1 = 8 := rfl
        rw [e1, e2]
        have := hpq rfl (by omega)
        omega⟩
      clear hpq
      by_cases h1 : p ≤ bl lo j
      · rw [decide_eq_true h1] at o1
        by_cases h2 : bu hi j ≤ q
        · rw [decide_eq_true h2] at o2
          clear FIN
          go_wp2_with fail
          go_ret
          exact ⟨true, rfl, fun _ _ => rfl, HBF.out⟩
        · rw [decide_eq_false h2] at o2
          have F2 : Hid (j = 1 → 0 < n → False) := ⟨fun x y => h2 (FIN.out x y).2⟩
          clear FIN
          go_wp2_with fail
          go_ret
          exact ⟨false, rfl, fun x y => (F2.out x y).elim, HBF.out⟩
      · rw [decide_eq_false h1] at o1
        have F2 : Hid (j = 1 → 0 < n → False) := ⟨fun x y => h1 (FIN.out x y).1⟩
        clear FIN
        go_wp2_with fail
        go_ret
        exact ⟨false, rfl, fun x y => (F2.out x y).elim, HBF.out⟩
end Go.Proofs.Ybulkdaxu
