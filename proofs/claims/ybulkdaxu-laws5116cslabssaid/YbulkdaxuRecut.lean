import Derived.Test.YbulkdaxuSplit
namespace Go.Proofs.Ybulkdaxu
open Go.RowKit
set_option linter.unusedSimpArgs false
set_option linter.unusedVariables false

theorem alloc1_cell {w1 : World} {p : Addr} {u : Value} (h : w1.cell? p = some u) : ∀ o, (w1.alloc o).cell? p = some u := fun o => (((Below.refl w1.heap.size w1).alloc (Nat.le_refl _) o).cell (World.block_lt_of_cell? w1 p h)).trans h
theorem alloc1_frozen {w1 : World} {b : Nat} {u : Value} (h : w1.cell? ⟨b, 0, none⟩ = some u) (hf : ∀ j, w1.frozen? ⟨b, j, none⟩ = false) : ∀ o j, (w1.alloc o).frozen? ⟨b, j, none⟩ = false := fun o j => (((Below.refl w1.heap.size w1).alloc (Nat.le_refl _) o).frozen (p := ⟨b, j, none⟩) (show b < w1.heap.size from World.block_lt_of_cell? w1 ⟨b, 0, none⟩ h)).trans (hf j)
/-- Every double that lay there lies there. -/
structure KeepF (wa wb : World) : Prop where
  size : wa.heap.size ≤ wb.heap.size
  cell : ∀ (a : Addr) (u : Nat), wa.cell? a = some (.float .f64 u) → wb.cell? a = some (.float .f64 u)
theorem KeepF.refl (w : World) : KeepF w w := ⟨Nat.le_refl _, fun _ _ h => h⟩
theorem KeepF.trans {a b c : World} (h : KeepF a b) (k : KeepF b c) : KeepF a c := ⟨Nat.le_trans h.size k.size, fun x u hx => k.cell x u (h.cell x u hx)⟩
theorem KeepF.of_below {a b : World} (h : Below a.heap.size a b) : KeepF a b := ⟨h.size, fun x u hx => (h.cell (World.block_lt_of_cell? a x hx)).trans hx⟩
theorem KeepF.alloc {a b : World} (h : KeepF a b) (o : Obj) : KeepF a (b.alloc o) := h.trans (KeepF.of_below ((Below.refl _ _).alloc (Nat.le_refl _) o))
theorem KeepF.drew {a b : World} (h : KeepF a b) : KeepF a b.drew := ⟨h.size, h.cell⟩
theorem KeepF.setCell {a b : World} (h : KeepF a b) {p : Addr} (hp : ∀ u, b.cell? p ≠ some (.float .f64 u)) (v : Value) : KeepF a (b.setCell p v) := by
  refine ⟨by simpa using h.size, fun x u hx => ?_⟩
  have h1 := h.cell x u hx
  rw [World.cell?_setCell_other _ _ (a := p) (b := x) (by rintro rfl; exact hp u h1)]
  exact h1
theorem FR.keep {wa wb : World} {v : Value} {d : Nat} {x : Nat → Int} (h : FR wa v d x) (k : KeepF wa wb) : FR wb v d x := by
  obtain ⟨b, c, rfl, h1, h2, h3⟩ := h
  exact ⟨b, c, rfl, h1, Nat.lt_of_lt_of_le h2 k.size, fun j hj => k.cell _ _ (h3 j hj)⟩

theorem keep4 {w1 w' : World} {g g' : Nat} {p q r s : Value} (hw : (((w1.setCell ⟨g, 0, none⟩ p).setCell ⟨g, 1, none⟩ q).setCell ⟨g', 0, none⟩ r).setCell ⟨g', 1, none⟩ s = w') {a1 a2 a3 a4 : Option Addr} {l1 l2 l3 l4 c1 c2 c3 c4 : Nat} (h0 : w1.cell? ⟨g, 0, none⟩ = some (.slice a1 l1 c1)) (h1 : w1.cell? ⟨g, 1, none⟩ = some (.slice a2 l2 c2)) (h2 : w1.cell? ⟨g', 0, none⟩ = some (.slice a3 l3 c3)) (h3 : w1.cell? ⟨g', 1, none⟩ = some (.slice a4 l4 c4)) : KeepF w1 w' := by
  subst hw
  refine ⟨by simp, fun x u hx => ?_⟩
  rw [World.cell?_setCell_other _ _ (a := ⟨g', 1, none⟩) (b := x) (by rintro rfl; rw [h3] at hx; cases hx), World.cell?_setCell_other _ _ (a := ⟨g', 0, none⟩) (b := x) (by rintro rfl; rw [h2] at hx; cases hx), World.cell?_setCell_other _ _ (a := ⟨g, 1, none⟩) (b := x) (by rintro rfl; rw [h1] at hx; cases hx), World.cell?_setCell_other _ _ (a := ⟨g, 0, none⟩) (b := x) (by rintro rfl; rw [h0] at hx; cases hx)]
  exact hx

set_option maxRecDepth 100000 in
set_option maxHeartbeats 4000000 in
theorem recut_any (w : World) (lo hi p at_ : Value) (d n j : Nat) (x y z A : Nat → Int) (h : FR w lo d x) (h' : FR w hi d y) (hp : FR w p d z) (ha : FR w at_ n A) (hj : j < n) (hd : 0 < d) (hd3 : d ≤ 3) (sx : ∀ k, k < d → Sm (x k)) (sy : ∀ k, k < d → Sm (y k)) (sz : ∀ k, k < d → Sm (z k)) (sa : Sm (A j)) (hz : Ins d x y z) :
    Calls Yba.prog 24 #[.agg #[lo, hi], .int .i64 j, p, at_] w fun e w' => Below w.heap.size w w' ∧
      ((¬ (x (j % d) < A j ∧ A j < y (j % d)) ∧ e = .returned (.tuple #[nilBox, nilBox, .int .i64 ((j % d : Nat) : Int), .bool false])) ∨
       ((x (j % d) < A j ∧ A j < y (j % d)) ∧ ∃ k1 k2 t1 t2, e = .returned (.tuple #[.agg #[k1, k2], .agg #[t1, t2], .int .i64 ((j % d : Nat) : Int), .bool true]) ∧
          ((z (j % d) < A j ∧ FR w' t1 d x ∧ FR w' t2 d (up y (j % d) (A j)) ∧ FR w' k1 d (up x (j % d) (A j)) ∧ FR w' k2 d y) ∨
           (A j ≤ z (j % d) ∧ FR w' k1 d x ∧ FR w' k2 d (up y (j % d) (A j)) ∧ FR w' t1 d (up x (j % d) (A j)) ∧ FR w' t2 d y)))) := by
  obtain ⟨k, hke, hk⟩ : ∃ k, j % d = k ∧ k < d := ⟨j % d, rfl, Nat.mod_lt _ hd⟩
  rw [hke]
  have hmod : (j : Int) % (d : Int) = (k : Int) := by rw [← hke]; omega
  have Hh := Hid.mk h
  have Hh' := Hid.mk h'
  have Hp := Hid.mk hp
  have Ha := Hid.mk ha
  obtain ⟨bl, cl, rfl, p1, p2, p3⟩ := h
  obtain ⟨bh, ch, rfl, r1, r2, r3⟩ := h'
  obtain ⟨ba, ca, rfl, q1, q2, q3⟩ := ha
  have hj0 : (0 : Int) ≤ (j : Int) := by omega
  have hj1 : (j : Int) < (n : Int) := by omega
  have hj2 : ¬ (n : Int) ≤ (j : Int) := by omega
  have hdz : ¬ (d : Int) = 0 := by omega
  go_enter Yba.func24, Yba.ntmps24
  go_wp2_with fail
  have BS := below_alloc3 w (Obj.cells #[Value.slice (some ⟨bl, 0, none⟩) d cl, Value.slice (some ⟨bh, 0, none⟩) d ch] 27) (Obj.cells #[Value.slice none 0 0, Value.slice none 0 0] 27) (Obj.cells #[Value.slice none 0 0, Value.slice none 0 0] 27)
  refine (dims_any _ _ _ d x (Hh.out.below BS)).mono ?_
  rintro e w1 ⟨rfl, B1⟩
  have s1 : w.heap.size + 3 ≤ w1.heap.size := by have := B1.size; simp at this; omega
  have a0 : w1.cell? ⟨w.heap.size, 0, none⟩ = some (.slice (some ⟨bl, 0, none⟩) d cl) := by rw [B1.cell (p := ⟨w.heap.size, 0, none⟩) (by simp; omega)]; go_simp
  have a1 : w1.cell? ⟨w.heap.size, 1, none⟩ = some (.slice (some ⟨bh, 0, none⟩) d ch) := by rw [B1.cell (p := ⟨w.heap.size, 1, none⟩) (by simp; omega)]; go_simp
  have a20 : w1.cell? ⟨w.heap.size + 1, 0, none⟩ = some (.slice none 0 0) := by rw [B1.cell (p := ⟨w.heap.size + 1, 0, none⟩) (by simp)]; go_simp
  have a21 : w1.cell? ⟨w.heap.size + 1, 1, none⟩ = some (.slice none 0 0) := by rw [B1.cell (p := ⟨w.heap.size + 1, 1, none⟩) (by simp)]; go_simp
  have a30 : w1.cell? ⟨w.heap.size + 1 + 1, 0, none⟩ = some (.slice none 0 0) := by rw [B1.cell (p := ⟨w.heap.size + 1 + 1, 0, none⟩) (by simp)]; go_simp
  have a31 : w1.cell? ⟨w.heap.size + 1 + 1, 1, none⟩ = some (.slice none 0 0) := by rw [B1.cell (p := ⟨w.heap.size + 1 + 1, 1, none⟩) (by simp)]; go_simp
  have z2 : ∀ j, w1.frozen? ⟨w.heap.size + 1, j, none⟩ = false := by intro j; rw [B1.frozen (p := ⟨w.heap.size + 1, j, none⟩) (by simp)]; go_simp
  have z3 : ∀ j, w1.frozen? ⟨w.heap.size + 1 + 1, j, none⟩ = false := by intro j; rw [B1.frozen (p := ⟨w.heap.size + 1 + 1, j, none⟩) (by simp)]; go_simp
  have BW := Hid.mk (BS.trans (B1.mono (by simp; omega)))
  clear BS B1
  have aj : w1.cell? ⟨ba, j, none⟩ = some (.float .f64 (fx (A j))) := (BW.out.cell (p := ⟨ba, j, none⟩) q2).trans (q3 j hj)
  go_upto_region 4 with fail
  rw [hmod]
  clear hmod hke
  have HR : Hid (∀ w', Below w1.heap.size w1 w' → FR w' (.slice (some ⟨bl, 0, none⟩) d cl) d x ∧ FR w' (.slice (some ⟨bh, 0, none⟩) d ch) d y ∧ FR w' p d z) := ⟨fun w' hB => ⟨(Hh.out.below BW.out).below hB, (Hh'.out.below BW.out).below hB, (Hp.out.below BW.out).below hB⟩⟩
  have B0 : Hid (Below w1.heap.size w1 w1) := ⟨Below.refl _ _⟩
  have hk0 : (0 : Int) ≤ (k : Int) := by omega
  have hk1 : (k : Int) < (d : Int) := by omega
  have sxk := sx k hk
  have syk := sy k hk
  have m1 := World.new_ne w1 _ a0
  clear p3 r3 q3
  have m2 := World.new_ne w1 _ aj
  have m3 := World.new_ne w1 _ a20
  have m4 := World.new_ne w1 _ a30
  by_cases hok : x k < A j ∧ A j < y k
  · have Hok := Hid.mk hok
    clear hok
    go_cut [11, 12, 13] from 14 to 55 (fun o q r wx => o = .bool true ∧ ∃ g12 g13 l1 l2 u1 u2, q = .pointer (some ⟨g12, 0, none⟩) ∧ r = .pointer (some ⟨g13, 0, none⟩) ∧ Below w1.heap.size w1 wx ∧ w1.heap.size ≤ g12 ∧ w1.heap.size ≤ g13 ∧ g12 < wx.heap.size ∧ g13 < wx.heap.size ∧ wx.cell? ⟨g12, 0, none⟩ = some l1 ∧ wx.cell? ⟨g12, 1, none⟩ = some l2 ∧ wx.cell? ⟨g13, 0, none⟩ = some u1 ∧ wx.cell? ⟨g13, 1, none⟩ = some u2 ∧ FR wx l1 d x ∧ FR wx l2 d (up y k (A j)) ∧ FR wx u1 d (up x k (A j)) ∧ FR wx u2 d y)
    case first =>
      go_region_held3 (fun v => v.cell? ⟨w.heap.size, 0, none⟩ = some (.slice (some ⟨bl, 0, none⟩) d cl) ∧ v.cell? ⟨w.heap.size, 1, none⟩ = some (.slice (some ⟨bh, 0, none⟩) d ch) ∧ v.cell? ⟨ba, j, none⟩ = some (.float .f64 (fx (A j)))) (go_keep) (first
        | (go_at_call 40; refine (split_ok _ _ _ d k x y (A j) (HR.out _ (by first | exact B0.out.drew | exact (B0.out.alloc (Nat.le_refl _) _).drew | exact ((B0.out.alloc (Nat.le_refl _) _).alloc (by simp) _).drew)).1 (HR.out _ (by first | exact B0.out.drew | exact (B0.out.alloc (Nat.le_refl _) _).drew | exact ((B0.out.alloc (Nat.le_refl _) _).alloc (by simp) _).drew)).2.1 hk hd3 sxk syk sa Hok.out.1 Hok.out.2).mono ?_; rintro e w2 ⟨l1, l2, u1, u2, rfl, hB2, F1, F2, F3, F4⟩; have G1 := Hid.mk F1; have G2 := Hid.mk F2; have G3 := Hid.mk F3; have G4 := Hid.mk F4; obtain ⟨b1, g1, rfl, _, _, _⟩ := F1; obtain ⟨b2, g2, rfl, _, _, _⟩ := F2; obtain ⟨b3, g3, rfl, _, _, _⟩ := F3; obtain ⟨b4, g4, rfl, _, _, _⟩ := F4; have B2 : Hid (Below w1.heap.size w1 w2) := ⟨by first | exact B0.out.drew.trans hB2 | exact Below.trans (B0.out.alloc (Nat.le_refl _) _).drew (hB2.mono (by simp)) | exact Below.trans ((B0.out.alloc (Nat.le_refl _) _).alloc (by simp) _).drew (hB2.mono (by simp; omega))⟩; have lt2 := B2.out.size; have f0w2 : w2.cell? ⟨w.heap.size, 0, none⟩ = some (.slice (some ⟨bl, 0, none⟩) d cl) := (B2.out.cell (p := ⟨w.heap.size, 0, none⟩) (by simp; omega)).trans a0; have f1w2 : w2.cell? ⟨w.heap.size, 1, none⟩ = some (.slice (some ⟨bh, 0, none⟩) d ch) := (B2.out.cell (p := ⟨w.heap.size, 1, none⟩) (by simp; omega)).trans a1; have f2w2 : w2.cell? ⟨w.heap.size + 1, 0, none⟩ = some (.slice none 0 0) := (B2.out.cell (p := ⟨w.heap.size + 1, 0, none⟩) (by simp; omega)).trans a20; have f3w2 : w2.cell? ⟨w.heap.size + 1, 1, none⟩ = some (.slice none 0 0) := (B2.out.cell (p := ⟨w.heap.size + 1, 1, none⟩) (by simp; omega)).trans a21; have f4w2 : w2.cell? ⟨w.heap.size + 1 + 1, 0, none⟩ = some (.slice none 0 0) := (B2.out.cell (p := ⟨w.heap.size + 1 + 1, 0, none⟩) (by simp; omega)).trans a30; have f5w2 : w2.cell? ⟨w.heap.size + 1 + 1, 1, none⟩ = some (.slice none 0 0) := (B2.out.cell (p := ⟨w.heap.size + 1 + 1, 1, none⟩) (by simp; omega)).trans a31; have f6w2 : ∀ j, w2.frozen? ⟨w.heap.size + 1, j, none⟩ = false := fun j => (B2.out.frozen (p := ⟨w.heap.size + 1, j, none⟩) (by simp; omega)).trans (z2 j); have f7w2 : ∀ j, w2.frozen? ⟨w.heap.size + 1 + 1, j, none⟩ = false := fun j => (B2.out.frozen (p := ⟨w.heap.size + 1 + 1, j, none⟩) (by simp; omega)).trans (z3 j); have f8w2 : w2.cell? ⟨ba, j, none⟩ = some (.float .f64 (fx (A j))) := (B2.out.cell (p := ⟨ba, j, none⟩) (by simp; omega)).trans aj; have gk1 := World.new_ne w2 _ f0w2; have gk2 := World.new_ne w2 _ f8w2; have gk3 : w2.heap.size + 1 ≠ w.heap.size := (by omega); have gk4 : w2.heap.size + 1 ≠ ba := (by omega); have gk5 : w1.heap.size + 1 ≠ w.heap.size := (by omega); have gk6 : w1.heap.size + 1 ≠ ba := (by omega); first | ((have ga0 : w2.cell? ⟨w1.heap.size, 0, none⟩ = some (.slice none 0 0) := by (rw [hB2.cell (p := ⟨w1.heap.size, 0, none⟩) (by first | (simp; done) | (simp; omega))]; go_simp)); (have ga1 : w2.cell? ⟨w1.heap.size, 1, none⟩ = some (.slice none 0 0) := by (rw [hB2.cell (p := ⟨w1.heap.size, 1, none⟩) (by first | (simp; done) | (simp; omega))]; go_simp)); (have ga2 : ∀ j, w2.frozen? ⟨w1.heap.size, j, none⟩ = false := by (intro j; rw [hB2.frozen (p := ⟨w1.heap.size, j, none⟩) (by first | (simp; done) | (simp; omega))]; go_simp)); (have gh0 := alloc1_cell ga0); (have gh1 := alloc1_cell ga1); (have gh2 := alloc1_frozen ga0 ga2); (have gs := hB2.size); (simp at gs); (have gn1 : w2.heap.size ≠ w1.heap.size := by (have h := hB2.size; simp at h; omega)); (have gn2 : ¬ w1.heap.size = w2.heap.size := by omega); (have gn3 : ¬ w1.heap.size = w2.heap.size + 1 := by (have h := hB2.size; simp at h; omega)); (have gn4 : ¬ w2.heap.size + 1 = w1.heap.size := by omega); (have gb0 : w2.cell? ⟨w1.heap.size + 1, 0, none⟩ = some (.slice none 0 0) := by (rw [hB2.cell (p := ⟨w1.heap.size + 1, 0, none⟩) (by first | (simp; done) | (simp; omega))]; go_simp)); (have gb1 : w2.cell? ⟨w1.heap.size + 1, 1, none⟩ = some (.slice none 0 0) := by (rw [hB2.cell (p := ⟨w1.heap.size + 1, 1, none⟩) (by first | (simp; done) | (simp; omega))]; go_simp)); (have gb2 : ∀ j, w2.frozen? ⟨w1.heap.size + 1, j, none⟩ = false := by (intro j; rw [hB2.frozen (p := ⟨w1.heap.size + 1, j, none⟩) (by first | (simp; done) | (simp; omega))]; go_simp))) | ((have ga0 : w2.cell? ⟨w1.heap.size, 0, none⟩ = some (.slice none 0 0) := by (rw [hB2.cell (p := ⟨w1.heap.size, 0, none⟩) (by first | (simp; done) | (simp; omega))]; go_simp)); (have ga1 : w2.cell? ⟨w1.heap.size, 1, none⟩ = some (.slice none 0 0) := by (rw [hB2.cell (p := ⟨w1.heap.size, 1, none⟩) (by first | (simp; done) | (simp; omega))]; go_simp)); (have ga2 : ∀ j, w2.frozen? ⟨w1.heap.size, j, none⟩ = false := by (intro j; rw [hB2.frozen (p := ⟨w1.heap.size, j, none⟩) (by first | (simp; done) | (simp; omega))]; go_simp)); (have gh0 := alloc1_cell ga0); (have gh1 := alloc1_cell ga1); (have gh2 := alloc1_frozen ga0 ga2); (have gs := hB2.size); (simp at gs); (have gn1 : w2.heap.size ≠ w1.heap.size := by (have h := hB2.size; simp at h; omega)); (have gn2 : ¬ w1.heap.size = w2.heap.size := by omega); (have gn3 : ¬ w1.heap.size = w2.heap.size + 1 := by (have h := hB2.size; simp at h; omega)); (have gn4 : ¬ w2.heap.size + 1 = w1.heap.size := by omega)) | skip))
      all_goals go_wp2_with fail
      all_goals go_meet
      all_goals refine ⟨rfl, _, _, _, _, _, _, rfl, rfl, ?_, ?_, ?_, ?_, ?_, ?_, ?_, ?_, ?_, FR.keep G1.out ?_, FR.keep G2.out ?_, FR.keep G3.out ?_, FR.keep G4.out ?_⟩
      all_goals first
        | omega
        | (simp; done)
        | (simp; omega)
        | (go_simp; done)
        | ((repeat (first | exact B2.out | refine Below.alloc ?_ (by first | exact lt2 | (simp; omega)) _ | refine Below.setCell ?_ (by first | exact Nat.le_refl _ | exact lt2 | (simp; done) | (simp; omega)) _)); done)
        | ((repeat (first | exact KeepF.refl _ | refine KeepF.alloc ?_ _ | refine KeepF.setCell ?_ (by intro u; go_simp) _)); done)
    case rest =>
      obtain ⟨rfl, g12, g13, l1, l2, u1, u2, rfl, rfl, BX, e1, e2, e3, e4, c1, c2, c3, c4, F1, F2, F3, F4⟩ := hcut
      have BX' := Hid.mk BX
      have bx := BX.size
      have k20 := (BX.cell (p := ⟨w.heap.size + 1, 0, none⟩) (by simp; omega)).trans a20
      have k21 := (BX.cell (p := ⟨w.heap.size + 1, 1, none⟩) (by simp; omega)).trans a21
      have k30 := (BX.cell (p := ⟨w.heap.size + 1 + 1, 0, none⟩) (by simp; omega)).trans a30
      have k31 := (BX.cell (p := ⟨w.heap.size + 1 + 1, 1, none⟩) (by simp; omega)).trans a31
      have y2 : ∀ j, wc.frozen? ⟨w.heap.size + 1, j, none⟩ = false := fun j => (BX.frozen (p := ⟨w.heap.size + 1, j, none⟩) (by simp; omega)).trans (z2 j)
      have y3 : ∀ j, wc.frozen? ⟨w.heap.size + 1 + 1, j, none⟩ = false := fun j => (BX.frozen (p := ⟨w.heap.size + 1 + 1, j, none⟩) (by simp; omega)).trans (z3 j)
      have P1 := (HR.out _ BX).2.2
      have G1 := Hid.mk F1
      have G2 := Hid.mk F2
      have G3 := Hid.mk F3
      have G4 := Hid.mk F4
      have HP1 := Hid.mk P1
      obtain ⟨b1, t1, rfl, _, _, _⟩ := F1
      obtain ⟨b2, t2, rfl, _, _, _⟩ := F2
      obtain ⟨b3, t3, rfl, _, _, _⟩ := F3
      obtain ⟨b4, t4, rfl, _, _, _⟩ := F4
      clear P1 BX a0 a1 a20 a21 a30 a31 z2 z3 m1 m2 m3 m4
      have sy' : ∀ i, i < d → Sm (up y k (A j) i) := fun i hi => by unfold up; split; · exact sa
                                                                    · exact sy i hi
      have hiff : Ins d x (up y k (A j)) z ↔ z k < A j := by
        constructor
        · intro h; have := (h k hk).2; simpa [up] using this
        · intro h i hi
          refine ⟨(hz i hi).1, ?_⟩
          unfold up
          split
          · rename_i e; subst e; exact h
          · exact (hz i hi).2
      have Hiff := Hid.mk hiff
      clear hiff
      go_wp2_with fail
      refine (share_any wc _ _ _ _ p d x (up y k (A j)) (up x k (A j)) y z G1.out G2.out G3.out G4.out HP1.out hd3 sx sy' sz).mono ?_
      rintro e w3 (⟨hI, rfl, B3⟩ | ⟨hI, rfl, B3⟩)
      · have HI := Hid.mk (Hiff.out.1 hI)
        clear hI
        have q20 := (B3.cell (p := ⟨w.heap.size + 1, 0, none⟩) (by simp; omega)).trans k20
        have q21 := (B3.cell (p := ⟨w.heap.size + 1, 1, none⟩) (by simp; omega)).trans k21
        have q30 := (B3.cell (p := ⟨w.heap.size + 1 + 1, 0, none⟩) (by simp; omega)).trans k30
        have q31 := (B3.cell (p := ⟨w.heap.size + 1 + 1, 1, none⟩) (by simp; omega)).trans k31
        have v2 : ∀ j, w3.frozen? ⟨w.heap.size + 1, j, none⟩ = false := fun j => (B3.frozen (p := ⟨w.heap.size + 1, j, none⟩) (by simp; omega)).trans (y2 j)
        have v3 : ∀ j, w3.frozen? ⟨w.heap.size + 1 + 1, j, none⟩ = false := fun j => (B3.frozen (p := ⟨w.heap.size + 1 + 1, j, none⟩) (by simp; omega)).trans (y3 j)
        have HB3 := Hid.mk B3
        clear B3 k20 k21 k30 k31 y2 y3
        go_wp2_with fail
        go_region
        go_wp2_with fail
        generalize h5 : ((((w3.setCell { block := w.heap.size + 1, off := 0 } (Value.slice (some { block := b3, off := 0 }) d t3)).setCell { block := w.heap.size + 1, off := 1 } (Value.slice (some { block := b4, off := 0 }) d t4)).setCell { block := w.heap.size + 1 + 1, off := 0 } (Value.slice (some { block := b1, off := 0 }) d t1)).setCell { block := w.heap.size + 1 + 1, off := 1 } (Value.slice (some { block := b2, off := 0 }) d t2)) = w5
        generalize h6 : ((((w5.setCell { block := w.heap.size + 1, off := 0 } (Value.slice (some { block := b3, off := 0 }) d t3)).setCell { block := w.heap.size + 1, off := 1 } (Value.slice (some { block := b4, off := 0 }) d t4)).setCell { block := w.heap.size + 1 + 1, off := 0 } (Value.slice (some { block := b1, off := 0 }) d t1)).setCell { block := w.heap.size + 1 + 1, off := 1 } (Value.slice (some { block := b2, off := 0 }) d t2)) = w6
        have F5 := fin3 (by omega) h5 q20 q21 q30 q31
        have F6 := fin3 (by omega) h6 F5.a0 F5.a1 F5.b0 F5.b1
        have K := ((KeepF.of_below HB3.out).trans (keep4 h5 q20 q21 q30 q31)).trans (keep4 h6 F5.a0 F5.a1 F5.b0 F5.b1)
        refine bodyPost_ret (res_box4 rfl _ _ (w.heap.size + 1) (w.heap.size + 1 + 1) _ _ _ _ rfl rfl F6.a0 F6.a1 F6.b0 F6.b1) rfl ?_
        have hbel : Below w.heap.size w w6 := F6.bel (by omega) (by omega) (F5.bel (by omega) (by omega) ((BW.out.trans (BX'.out.mono (by omega))).trans (HB3.out.mono (by omega))))
        exact ⟨hbel.drew, .inr ⟨Hok.out, _, _, _, _, rfl, .inl ⟨HI.out, G1.out.keep K.drew, G2.out.keep K.drew, G3.out.keep K.drew, G4.out.keep K.drew⟩⟩⟩
      · have HI : Hid (A j ≤ z k) := ⟨by
          have : ¬ z k < A j := fun h => hI (Hiff.out.2 h)
          omega⟩
        clear hI
        have q20 := (B3.cell (p := ⟨w.heap.size + 1, 0, none⟩) (by simp; omega)).trans k20
        have q21 := (B3.cell (p := ⟨w.heap.size + 1, 1, none⟩) (by simp; omega)).trans k21
        have q30 := (B3.cell (p := ⟨w.heap.size + 1 + 1, 0, none⟩) (by simp; omega)).trans k30
        have q31 := (B3.cell (p := ⟨w.heap.size + 1 + 1, 1, none⟩) (by simp; omega)).trans k31
        have v2 : ∀ j, w3.frozen? ⟨w.heap.size + 1, j, none⟩ = false := fun j => (B3.frozen (p := ⟨w.heap.size + 1, j, none⟩) (by simp; omega)).trans (y2 j)
        have v3 : ∀ j, w3.frozen? ⟨w.heap.size + 1 + 1, j, none⟩ = false := fun j => (B3.frozen (p := ⟨w.heap.size + 1 + 1, j, none⟩) (by simp; omega)).trans (y3 j)
        have HB3 := Hid.mk B3
        clear B3 k20 k21 k30 k31 y2 y3
        go_wp2_with fail
        go_region
        go_wp2_with fail
        generalize h5 : ((((w3.setCell { block := w.heap.size + 1, off := 0 } (Value.slice (some { block := b1, off := 0 }) d t1)).setCell { block := w.heap.size + 1, off := 1 } (Value.slice (some { block := b2, off := 0 }) d t2)).setCell { block := w.heap.size + 1 + 1, off := 0 } (Value.slice (some { block := b3, off := 0 }) d t3)).setCell { block := w.heap.size + 1 + 1, off := 1 } (Value.slice (some { block := b4, off := 0 }) d t4)) = w5
        generalize h6 : ((((w5.setCell { block := w.heap.size + 1, off := 0 } (Value.slice (some { block := b1, off := 0 }) d t1)).setCell { block := w.heap.size + 1, off := 1 } (Value.slice (some { block := b2, off := 0 }) d t2)).setCell { block := w.heap.size + 1 + 1, off := 0 } (Value.slice (some { block := b3, off := 0 }) d t3)).setCell { block := w.heap.size + 1 + 1, off := 1 } (Value.slice (some { block := b4, off := 0 }) d t4)) = w6
        have F5 := fin3 (by omega) h5 q20 q21 q30 q31
        have F6 := fin3 (by omega) h6 F5.a0 F5.a1 F5.b0 F5.b1
        have K := ((KeepF.of_below HB3.out).trans (keep4 h5 q20 q21 q30 q31)).trans (keep4 h6 F5.a0 F5.a1 F5.b0 F5.b1)
        refine bodyPost_ret (res_box4 rfl _ _ (w.heap.size + 1) (w.heap.size + 1 + 1) _ _ _ _ rfl rfl F6.a0 F6.a1 F6.b0 F6.b1) rfl ?_
        have hbel : Below w.heap.size w w6 := F6.bel (by omega) (by omega) (F5.bel (by omega) (by omega) ((BW.out.trans (BX'.out.mono (by omega))).trans (HB3.out.mono (by omega))))
        exact ⟨hbel.drew, .inr ⟨Hok.out, _, _, _, _, rfl, .inr ⟨HI.out, G1.out.keep K.drew, G2.out.keep K.drew, G3.out.keep K.drew, G4.out.keep K.drew⟩⟩⟩
  · have Hok := Hid.mk hok
    clear hok
    go_cut [11, 12, 13] from 14 to 55 (fun o q r wx => o = .bool false ∧ ∃ g12 g13, q = .pointer (some ⟨g12, 0, none⟩) ∧ r = .pointer (some ⟨g13, 0, none⟩) ∧ Below w1.heap.size w1 wx)
    case first =>
      go_region_held3 (fun v => v.cell? ⟨w.heap.size, 0, none⟩ = some (.slice (some ⟨bl, 0, none⟩) d cl) ∧ v.cell? ⟨w.heap.size, 1, none⟩ = some (.slice (some ⟨bh, 0, none⟩) d ch) ∧ v.cell? ⟨ba, j, none⟩ = some (.float .f64 (fx (A j)))) (go_keep) (first
        | (go_at_call 40; refine (split_no _ _ _ d k x y (A j) (HR.out _ (by first | exact B0.out.drew | exact (B0.out.alloc (Nat.le_refl _) _).drew | exact ((B0.out.alloc (Nat.le_refl _) _).alloc (by simp) _).drew)).1 (HR.out _ (by first | exact B0.out.drew | exact (B0.out.alloc (Nat.le_refl _) _).drew | exact ((B0.out.alloc (Nat.le_refl _) _).alloc (by simp) _).drew)).2.1 hk hd3 sxk syk sa Hok.out).mono ?_; rintro e w2 ⟨rfl, hB2⟩; unfold nilBox; have B2 : Hid (Below w1.heap.size w1 w2) := ⟨by first | exact B0.out.drew.trans hB2 | exact Below.trans (B0.out.alloc (Nat.le_refl _) _).drew (hB2.mono (by simp)) | exact Below.trans ((B0.out.alloc (Nat.le_refl _) _).alloc (by simp) _).drew (hB2.mono (by simp; omega))⟩; have lt2 := B2.out.size; have f0w2 : w2.cell? ⟨w.heap.size, 0, none⟩ = some (.slice (some ⟨bl, 0, none⟩) d cl) := (B2.out.cell (p := ⟨w.heap.size, 0, none⟩) (by simp; omega)).trans a0; have f1w2 : w2.cell? ⟨w.heap.size, 1, none⟩ = some (.slice (some ⟨bh, 0, none⟩) d ch) := (B2.out.cell (p := ⟨w.heap.size, 1, none⟩) (by simp; omega)).trans a1; have f2w2 : w2.cell? ⟨w.heap.size + 1, 0, none⟩ = some (.slice none 0 0) := (B2.out.cell (p := ⟨w.heap.size + 1, 0, none⟩) (by simp; omega)).trans a20; have f3w2 : w2.cell? ⟨w.heap.size + 1, 1, none⟩ = some (.slice none 0 0) := (B2.out.cell (p := ⟨w.heap.size + 1, 1, none⟩) (by simp; omega)).trans a21; have f4w2 : w2.cell? ⟨w.heap.size + 1 + 1, 0, none⟩ = some (.slice none 0 0) := (B2.out.cell (p := ⟨w.heap.size + 1 + 1, 0, none⟩) (by simp; omega)).trans a30; have f5w2 : w2.cell? ⟨w.heap.size + 1 + 1, 1, none⟩ = some (.slice none 0 0) := (B2.out.cell (p := ⟨w.heap.size + 1 + 1, 1, none⟩) (by simp; omega)).trans a31; have f6w2 : ∀ j, w2.frozen? ⟨w.heap.size + 1, j, none⟩ = false := fun j => (B2.out.frozen (p := ⟨w.heap.size + 1, j, none⟩) (by simp; omega)).trans (z2 j); have f7w2 : ∀ j, w2.frozen? ⟨w.heap.size + 1 + 1, j, none⟩ = false := fun j => (B2.out.frozen (p := ⟨w.heap.size + 1 + 1, j, none⟩) (by simp; omega)).trans (z3 j); have f8w2 : w2.cell? ⟨ba, j, none⟩ = some (.float .f64 (fx (A j))) := (B2.out.cell (p := ⟨ba, j, none⟩) (by simp; omega)).trans aj; have gk1 := World.new_ne w2 _ f0w2; have gk2 := World.new_ne w2 _ f8w2; have gk3 : w2.heap.size + 1 ≠ w.heap.size := (by omega); have gk4 : w2.heap.size + 1 ≠ ba := (by omega); have gk5 : w1.heap.size + 1 ≠ w.heap.size := (by omega); have gk6 : w1.heap.size + 1 ≠ ba := (by omega); first | ((have ga0 : w2.cell? ⟨w1.heap.size, 0, none⟩ = some (.slice none 0 0) := by (rw [hB2.cell (p := ⟨w1.heap.size, 0, none⟩) (by first | (simp; done) | (simp; omega))]; go_simp)); (have ga1 : w2.cell? ⟨w1.heap.size, 1, none⟩ = some (.slice none 0 0) := by (rw [hB2.cell (p := ⟨w1.heap.size, 1, none⟩) (by first | (simp; done) | (simp; omega))]; go_simp)); (have ga2 : ∀ j, w2.frozen? ⟨w1.heap.size, j, none⟩ = false := by (intro j; rw [hB2.frozen (p := ⟨w1.heap.size, j, none⟩) (by first | (simp; done) | (simp; omega))]; go_simp)); (have gh0 := alloc1_cell ga0); (have gh1 := alloc1_cell ga1); (have gh2 := alloc1_frozen ga0 ga2); (have gs := hB2.size); (simp at gs); (have gn1 : w2.heap.size ≠ w1.heap.size := by (have h := hB2.size; simp at h; omega)); (have gn2 : ¬ w1.heap.size = w2.heap.size := by omega); (have gn3 : ¬ w1.heap.size = w2.heap.size + 1 := by (have h := hB2.size; simp at h; omega)); (have gn4 : ¬ w2.heap.size + 1 = w1.heap.size := by omega); (have gb0 : w2.cell? ⟨w1.heap.size + 1, 0, none⟩ = some (.slice none 0 0) := by (rw [hB2.cell (p := ⟨w1.heap.size + 1, 0, none⟩) (by first | (simp; done) | (simp; omega))]; go_simp)); (have gb1 : w2.cell? ⟨w1.heap.size + 1, 1, none⟩ = some (.slice none 0 0) := by (rw [hB2.cell (p := ⟨w1.heap.size + 1, 1, none⟩) (by first | (simp; done) | (simp; omega))]; go_simp)); (have gb2 : ∀ j, w2.frozen? ⟨w1.heap.size + 1, j, none⟩ = false := by (intro j; rw [hB2.frozen (p := ⟨w1.heap.size + 1, j, none⟩) (by first | (simp; done) | (simp; omega))]; go_simp))) | ((have ga0 : w2.cell? ⟨w1.heap.size, 0, none⟩ = some (.slice none 0 0) := by (rw [hB2.cell (p := ⟨w1.heap.size, 0, none⟩) (by first | (simp; done) | (simp; omega))]; go_simp)); (have ga1 : w2.cell? ⟨w1.heap.size, 1, none⟩ = some (.slice none 0 0) := by (rw [hB2.cell (p := ⟨w1.heap.size, 1, none⟩) (by first | (simp; done) | (simp; omega))]; go_simp)); (have ga2 : ∀ j, w2.frozen? ⟨w1.heap.size, j, none⟩ = false := by (intro j; rw [hB2.frozen (p := ⟨w1.heap.size, j, none⟩) (by first | (simp; done) | (simp; omega))]; go_simp)); (have gh0 := alloc1_cell ga0); (have gh1 := alloc1_cell ga1); (have gh2 := alloc1_frozen ga0 ga2); (have gs := hB2.size); (simp at gs); (have gn1 : w2.heap.size ≠ w1.heap.size := by (have h := hB2.size; simp at h; omega)); (have gn2 : ¬ w1.heap.size = w2.heap.size := by omega); (have gn3 : ¬ w1.heap.size = w2.heap.size + 1 := by (have h := hB2.size; simp at h; omega)); (have gn4 : ¬ w2.heap.size + 1 = w1.heap.size := by omega)) | skip))
      all_goals go_wp2_with fail
      all_goals go_meet
      all_goals refine ⟨rfl, _, _, rfl, rfl, ?_⟩
      all_goals (repeat (first | exact B2.out | refine Below.alloc ?_ (by first | exact lt2 | (simp; omega)) _ | refine Below.setCell ?_ (by first | exact Nat.le_refl _ | exact lt2 | (simp; done) | (simp; omega)) _))
    case rest =>
      obtain ⟨rfl, g12, g13, rfl, rfl, BX⟩ := hcut
      have BX' := Hid.mk BX
      have bx := BX.size
      have k20 := (BX.cell (p := ⟨w.heap.size + 1, 0, none⟩) (by simp; omega)).trans a20
      have k21 := (BX.cell (p := ⟨w.heap.size + 1, 1, none⟩) (by simp; omega)).trans a21
      have k30 := (BX.cell (p := ⟨w.heap.size + 1 + 1, 0, none⟩) (by simp; omega)).trans a30
      have k31 := (BX.cell (p := ⟨w.heap.size + 1 + 1, 1, none⟩) (by simp; omega)).trans a31
      have y2 : ∀ j, wc.frozen? ⟨w.heap.size + 1, j, none⟩ = false := fun j => (BX.frozen (p := ⟨w.heap.size + 1, j, none⟩) (by simp; omega)).trans (z2 j)
      have y3 : ∀ j, wc.frozen? ⟨w.heap.size + 1 + 1, j, none⟩ = false := fun j => (BX.frozen (p := ⟨w.heap.size + 1 + 1, j, none⟩) (by simp; omega)).trans (z3 j)
      clear BX a0 a1 a20 a21 a30 a31 z2 z3 m1 m2 m3 m4
      go_wp2_with fail
      generalize h5 : ((((wc.setCell { block := w.heap.size + 1, off := 0 } (Value.slice none 0 0)).setCell { block := w.heap.size + 1, off := 1 } (Value.slice none 0 0)).setCell { block := w.heap.size + 1 + 1, off := 0 } (Value.slice none 0 0)).setCell { block := w.heap.size + 1 + 1, off := 1 } (Value.slice none 0 0)) = w5
      have F5 := fin3 (by omega) h5 k20 k21 k30 k31
      refine bodyPost_ret (res_box4 rfl _ _ (w.heap.size + 1) (w.heap.size + 1 + 1) _ _ _ _ rfl rfl F5.a0 F5.a1 F5.b0 F5.b1) rfl ?_
      exact ⟨F5.bel (by omega) (by omega) (BW.out.trans (BX'.out.mono (by omega))), .inl ⟨Hok.out, rfl⟩⟩
end Go.Proofs.Ybulkdaxu
