import Derived.Test.YbulkdaxuSlabK
namespace Go.Proofs.Ybulkdaxu
open Go.RowKit
set_option linter.unusedSimpArgs false
set_option linter.unusedVariables false

theorem HR.ne {h : Int → Nat} {w : World} {b d d' c g : Nat} {z : Nat → Int} (H : HR h w (.slice (some ⟨b, 0, none⟩) d' c) d z) (hd : 0 < d) {a : Option Addr} {l c' : Nat} (hc : w.cell? ⟨g, 0, none⟩ = some (.slice a l c')) : b ≠ g := by
  intro e
  subst e
  have := H.open.2.2 0 hd
  rw [hc] at this
  cases this
theorem HR.set {h : Int → Nat} {w : World} {b d d' c : Nat} {z : Nat → Int} (H : HR h w (.slice (some ⟨b, 0, none⟩) d' c) d z) {p : Addr} (hp : b ≠ p.block) (u : Value) : HR h (w.setCell p u) (.slice (some ⟨b, 0, none⟩) d' c) d z := by
  obtain ⟨b', c', e, h1, h2, h3⟩ := H
  cases e
  refine ⟨b, c, rfl, h1, by simpa using h2, fun k hk => ?_⟩
  rw [World.cell?_of_block (a := ⟨b, k, none⟩) (Below.heap_setCell w p u b hp)]
  exact h3 k hk
set_option maxRecDepth 100000 in
set_option maxHeartbeats 4000000 in
theorem beside_end (h : Int → Nat) (K : FK h) (w : World) (d b c : Nat) (l u : Value) (lo hi f : Int) (zl zh : Nat → Int) (hd : 0 < d) (hd2 : d ≤ 2) (rf : RG f) (G : CO h w d l u lo hi) (Z : BS h w d b 1 zl zh) (hle : max lo (zl 0) ≤ f) :
    Calls Yba.prog 51 #[.agg #[l, u], .int .i64 0, .float .f64 (h f), .slice (some ⟨b, 0, none⟩) 1 c, .bool true] w fun e w' => ∃ l' u', e = .returned (.agg #[l', u']) ∧ CO h w' d l' u' (max lo (zl 0)) f ∧ Below w.heap.size w w' := by
  have HG := Hid.mk G
  obtain ⟨G1, G2, G3, G4⟩ := G
  obtain ⟨b1, c1, rfl, x1, y1, q1⟩ := G1
  obtain ⟨b2, c2, rfl, x2, y2, q2⟩ := G2
  obtain ⟨W, hW⟩ : ∃ W, W = (w.alloc (.cells #[.slice (some ⟨b1, 0, none⟩) d c1, .slice (some ⟨b2, 0, none⟩) d c2] 27)).alloc (.cells #[.slice none 0 0, .slice none 0 0] 27) := ⟨_, rfl⟩
  have BW : Below w.heap.size w W := by rw [hW]; exact below_alloc2 _ _ _
  have sW : W.heap.size = w.heap.size + 1 + 1 := by rw [hW]; simp
  have a0 : W.cell? ⟨w.heap.size, 0, none⟩ = some (.slice (some ⟨b1, 0, none⟩) d c1) := by rw [hW]; go_simp
  have a1 : W.cell? ⟨w.heap.size, 1, none⟩ = some (.slice (some ⟨b2, 0, none⟩) d c2) := by rw [hW]; go_simp
  have a2 : W.cell? ⟨w.heap.size + 1, 0, none⟩ = some (.slice none 0 0) := by rw [hW]; go_simp
  have a3 : W.cell? ⟨w.heap.size + 1, 1, none⟩ = some (.slice none 0 0) := by rw [hW]; go_simp
  have az : ∀ k, W.frozen? ⟨w.heap.size + 1, k, none⟩ = false := fun k => by rw [hW]; go_simp
  have e1 : W.cell? ⟨b1, 0, none⟩ = some (.float .f64 (h lo)) := (BW.cell (p := ⟨b1, 0, none⟩) y1).trans (q1 0 hd)
  have e1x := e1
  rw [hW] at e1x
  have hd1 : (0 : Int) < (d : Int) := by omega
  have HBW := Hid.mk BW
  have HsW := Hid.mk sW
  have HZ := Hid.mk (Z.below BW)
  have HGW := Hid.mk (HG.out.below BW)
  clear q1 q2 BW sW Z
  go_enter Yba.func51, Yba.ntmps51
  go_wp2_with fail
  rw [← hW]
  clear hW e1x
  go_loopw [11, 25] (fun va vk wr => ((va = .float .f64 (h lo) ∧ vk = .int .i64 0) ∨ (va = .float .f64 (h (max lo (zl 0))) ∧ vk = .int .i64 1)) ∧ Below W.heap.size W wr) (fun _ vk _ => 1 - (intOf vk).toNat)
  case atStart => exact ⟨.inl ⟨rfl, rfl⟩, Below.refl _ _⟩
  case round =>
    obtain ⟨hv, hB⟩ := hrel
    have HB := Hid.mk hB
    have hs := hB.size
    have s := HsW.out
    have g0 := (hB.cell (p := ⟨w.heap.size, 0, none⟩) (by simp; omega)).trans a0
    have g1 := (hB.cell (p := ⟨w.heap.size, 1, none⟩) (by simp; omega)).trans a1
    have g2 := (hB.cell (p := ⟨w.heap.size + 1, 0, none⟩) (by simp; omega)).trans a2
    have g3 := (hB.cell (p := ⟨w.heap.size + 1, 1, none⟩) (by simp; omega)).trans a3
    have gz : ∀ k, wr.frozen? ⟨w.heap.size + 1, k, none⟩ = false := fun k => (hB.frozen (p := ⟨w.heap.size + 1, k, none⟩) (by simp; omega)).trans (az k)
    clear hB s
    rcases hv with ⟨rfl, rfl⟩ | ⟨rfl, rfl⟩
    · obtain ⟨xb, xc, yb, yc, f0, f1, C⟩ := (HZ.out.below HB.out).at (i := 0) (by omega)
      obtain ⟨C1, C2, C3, C4⟩ := C
      obtain ⟨_, xlt, xv⟩ := C1.open
      obtain ⟨_, ylt, yv⟩ := C2.open
      have f0' : wr.cell? ⟨b, 0, none⟩ = some (.slice (some ⟨xb, 0, none⟩) d xc) := by simpa using f0
      have f1' : wr.cell? ⟨b, 1, none⟩ = some (.slice (some ⟨yb, 0, none⟩) d yc) := by simpa using f1
      have BV := (Below.refl wr.heap.size wr).alloc (Nat.le_refl _) (.cells #[.slice (some ⟨xb, 0, none⟩) d xc, .slice (some ⟨yb, 0, none⟩) d yc] 27)
      have k1 : (wr.alloc (.cells #[.slice (some ⟨xb, 0, none⟩) d xc, .slice (some ⟨yb, 0, none⟩) d yc] 27)).cell? ⟨xb, 0, none⟩ = some (.float .f64 (h (zl 0))) := (BV.cell (p := ⟨xb, 0, none⟩) xlt).trans (xv 0 hd)
      have m1 := K.mx G3 C3
      have HBV := Hid.mk (HB.out.trans (BV.mono hs))
      clear BV xv yv C1 C2 f0 f1
      go_wp2_with fail
      go_roundw
      case rel => exact ⟨.inr ⟨rfl, rfl⟩, HBV.out⟩
      case measure => simp only [intOf]; omega
    · obtain ⟨_, _, _, _, _, _, C⟩ := (HZ.out.below HB.out).at (i := 0) (by omega)
      have hF1 : RG (max lo (zl 0)) := by obtain ⟨_, _, c3, c4⟩ := C; unfold RG at *; omega
      have AC := across_any h K wr d _ _ lo hi (max lo (zl 0)) f hd hd2 (HGW.out.below HB.out) hF1 rf hle
      clear C
      go_wp2_with fail
      refine AC.mono ?_
      rintro e w5 ⟨l', u', rfl, C5, B5⟩
      have HC5 := Hid.mk C5
      obtain ⟨⟨lb, lc, rfl, _, _, _⟩, ⟨ub, uc, rfl, _, _, _⟩, _, _⟩ := C5
      have s := HsW.out
      have k2 := (B5.cell (p := ⟨w.heap.size + 1, 0, none⟩) (by simp; omega)).trans g2
      have k3 := (B5.cell (p := ⟨w.heap.size + 1, 1, none⟩) (by simp; omega)).trans g3
      have kz : ∀ k, w5.frozen? ⟨w.heap.size + 1, k, none⟩ = false := fun k => (B5.frozen (p := ⟨w.heap.size + 1, k, none⟩) (by simp; omega)).trans (gz k)
      have HF := Hid.mk ((HBW.out.trans (HB.out.mono HBW.out.size)).trans (B5.mono (Nat.le_trans HBW.out.size hs)))
      clear AC B5 s
      dsimp only
      go_wp2_with fail
      have n1 := HC5.out.1.ne hd k2
      have n2 := HC5.out.2.1.ne hd k2
      refine bodyPost_ret (res_box (p := 10) rfl _ _ (w.heap.size + 1) (.slice (some ⟨lb, 0, none⟩) d lc) (.slice (some ⟨ub, 0, none⟩) d uc) rfl (by go_simp) (by go_simp)) rfl ?_
      exact ⟨_, _, rfl, ⟨(HC5.out.1.set (p := ⟨w.heap.size + 1, 0, none⟩) n1 _).set (p := ⟨w.heap.size + 1, 1, none⟩) n1 _, (HC5.out.2.1.set (p := ⟨w.heap.size + 1, 0, none⟩) n2 _).set (p := ⟨w.heap.size + 1, 1, none⟩) n2 _, HC5.out.2.2⟩, (HF.out.setCell (p := ⟨w.heap.size + 1, 0, none⟩) (by simp) _).setCell (p := ⟨w.heap.size + 1, 1, none⟩) (by simp) _⟩
set_option maxRecDepth 100000 in
set_option maxHeartbeats 4000000 in
theorem beside_beg (h : Int → Nat) (K : FK h) (w : World) (d b c : Nat) (l u : Value) (lo hi f : Int) (zl zh : Nat → Int) (hd : 0 < d) (hd2 : d ≤ 2) (rf : RG f) (G : CO h w d l u lo hi) (Z : BS h w d b 1 zl zh) (hle : f ≤ min hi (zh 0)) :
    Calls Yba.prog 51 #[.agg #[l, u], .int .i64 0, .float .f64 (h f), .slice (some ⟨b, 0, none⟩) 1 c, .bool false] w fun e w' => ∃ l' u', e = .returned (.agg #[l', u']) ∧ CO h w' d l' u' f (min hi (zh 0)) ∧ Below w.heap.size w w' := by
  have HG := Hid.mk G
  obtain ⟨G1, G2, G3, G4⟩ := G
  obtain ⟨b1, c1, rfl, x1, y1, q1⟩ := G1
  obtain ⟨b2, c2, rfl, x2, y2, q2⟩ := G2
  obtain ⟨W, hW⟩ : ∃ W, W = (w.alloc (.cells #[.slice (some ⟨b1, 0, none⟩) d c1, .slice (some ⟨b2, 0, none⟩) d c2] 27)).alloc (.cells #[.slice none 0 0, .slice none 0 0] 27) := ⟨_, rfl⟩
  have BW : Below w.heap.size w W := by rw [hW]; exact below_alloc2 _ _ _
  have sW : W.heap.size = w.heap.size + 1 + 1 := by rw [hW]; simp
  have a0 : W.cell? ⟨w.heap.size, 0, none⟩ = some (.slice (some ⟨b1, 0, none⟩) d c1) := by rw [hW]; go_simp
  have a1 : W.cell? ⟨w.heap.size, 1, none⟩ = some (.slice (some ⟨b2, 0, none⟩) d c2) := by rw [hW]; go_simp
  have a2 : W.cell? ⟨w.heap.size + 1, 0, none⟩ = some (.slice none 0 0) := by rw [hW]; go_simp
  have a3 : W.cell? ⟨w.heap.size + 1, 1, none⟩ = some (.slice none 0 0) := by rw [hW]; go_simp
  have az : ∀ k, W.frozen? ⟨w.heap.size + 1, k, none⟩ = false := fun k => by rw [hW]; go_simp
  have e1 : W.cell? ⟨b2, 0, none⟩ = some (.float .f64 (h hi)) := (BW.cell (p := ⟨b2, 0, none⟩) y2).trans (q2 0 hd)
  have e1x := e1
  rw [hW] at e1x
  have hd1 : (0 : Int) < (d : Int) := by omega
  have HBW := Hid.mk BW
  have HsW := Hid.mk sW
  have HZ := Hid.mk (Z.below BW)
  have HGW := Hid.mk (HG.out.below BW)
  clear q1 q2 BW sW Z
  go_enter Yba.func51, Yba.ntmps51
  go_wp2_with fail
  rw [← hW]
  clear hW e1x
  go_loopw [14, 49] (fun va vk wr => ((va = .float .f64 (h hi) ∧ vk = .int .i64 0) ∨ (va = .float .f64 (h (min hi (zh 0))) ∧ vk = .int .i64 1)) ∧ Below W.heap.size W wr) (fun _ vk _ => 1 - (intOf vk).toNat)
  case atStart => exact ⟨.inl ⟨rfl, rfl⟩, Below.refl _ _⟩
  case round =>
    obtain ⟨hv, hB⟩ := hrel
    have HB := Hid.mk hB
    have hs := hB.size
    have s := HsW.out
    have g0 := (hB.cell (p := ⟨w.heap.size, 0, none⟩) (by simp; omega)).trans a0
    have g1 := (hB.cell (p := ⟨w.heap.size, 1, none⟩) (by simp; omega)).trans a1
    have g2 := (hB.cell (p := ⟨w.heap.size + 1, 0, none⟩) (by simp; omega)).trans a2
    have g3 := (hB.cell (p := ⟨w.heap.size + 1, 1, none⟩) (by simp; omega)).trans a3
    have gz : ∀ k, wr.frozen? ⟨w.heap.size + 1, k, none⟩ = false := fun k => (hB.frozen (p := ⟨w.heap.size + 1, k, none⟩) (by simp; omega)).trans (az k)
    clear hB s
    rcases hv with ⟨rfl, rfl⟩ | ⟨rfl, rfl⟩
    · obtain ⟨xb, xc, yb, yc, f0, f1, C⟩ := (HZ.out.below HB.out).at (i := 0) (by omega)
      obtain ⟨C1, C2, C3, C4⟩ := C
      obtain ⟨_, xlt, xv⟩ := C1.open
      obtain ⟨_, ylt, yv⟩ := C2.open
      have f0' : wr.cell? ⟨b, 0, none⟩ = some (.slice (some ⟨xb, 0, none⟩) d xc) := by simpa using f0
      have f1' : wr.cell? ⟨b, 1, none⟩ = some (.slice (some ⟨yb, 0, none⟩) d yc) := by simpa using f1
      have BV := (Below.refl wr.heap.size wr).alloc (Nat.le_refl _) (.cells #[.slice (some ⟨xb, 0, none⟩) d xc, .slice (some ⟨yb, 0, none⟩) d yc] 27)
      have k1 : (wr.alloc (.cells #[.slice (some ⟨xb, 0, none⟩) d xc, .slice (some ⟨yb, 0, none⟩) d yc] 27)).cell? ⟨yb, 0, none⟩ = some (.float .f64 (h (zh 0))) := (BV.cell (p := ⟨yb, 0, none⟩) ylt).trans (yv 0 hd)
      have m1 := K.mn G4 C4
      have HBV := Hid.mk (HB.out.trans (BV.mono hs))
      clear BV xv yv C1 C2 f0 f1
      go_wp2_with fail
      go_roundw
      case rel => exact ⟨.inr ⟨rfl, rfl⟩, HBV.out⟩
      case measure => simp only [intOf]; omega
    · obtain ⟨_, _, _, _, _, _, C⟩ := (HZ.out.below HB.out).at (i := 0) (by omega)
      have hF1 : RG (min hi (zh 0)) := by obtain ⟨_, _, c3, c4⟩ := C; unfold RG at *; omega
      have AC := across_any h K wr d _ _ lo hi f (min hi (zh 0)) hd hd2 (HGW.out.below HB.out) rf hF1 hle
      clear C
      go_wp2_with fail
      refine AC.mono ?_
      rintro e w5 ⟨l', u', rfl, C5, B5⟩
      have HC5 := Hid.mk C5
      obtain ⟨⟨lb, lc, rfl, _, _, _⟩, ⟨ub, uc, rfl, _, _, _⟩, _, _⟩ := C5
      have s := HsW.out
      have k2 := (B5.cell (p := ⟨w.heap.size + 1, 0, none⟩) (by simp; omega)).trans g2
      have k3 := (B5.cell (p := ⟨w.heap.size + 1, 1, none⟩) (by simp; omega)).trans g3
      have kz : ∀ k, w5.frozen? ⟨w.heap.size + 1, k, none⟩ = false := fun k => (B5.frozen (p := ⟨w.heap.size + 1, k, none⟩) (by simp; omega)).trans (gz k)
      have HF := Hid.mk ((HBW.out.trans (HB.out.mono HBW.out.size)).trans (B5.mono (Nat.le_trans HBW.out.size hs)))
      clear AC B5 s
      dsimp only
      go_wp2_with fail
      have n1 := HC5.out.1.ne hd k2
      have n2 := HC5.out.2.1.ne hd k2
      refine bodyPost_ret (res_box (p := 10) rfl _ _ (w.heap.size + 1) (.slice (some ⟨lb, 0, none⟩) d lc) (.slice (some ⟨ub, 0, none⟩) d uc) rfl (by go_simp) (by go_simp)) rfl ?_
      exact ⟨_, _, rfl, ⟨(HC5.out.1.set (p := ⟨w.heap.size + 1, 0, none⟩) n1 _).set (p := ⟨w.heap.size + 1, 1, none⟩) n1 _, (HC5.out.2.1.set (p := ⟨w.heap.size + 1, 0, none⟩) n2 _).set (p := ⟨w.heap.size + 1, 1, none⟩) n2 _, HC5.out.2.2⟩, (HF.out.setCell (p := ⟨w.heap.size + 1, 0, none⟩) (by simp) _).setCell (p := ⟨w.heap.size + 1, 1, none⟩) (by simp) _⟩
end Go.Proofs.Ybulkdaxu
