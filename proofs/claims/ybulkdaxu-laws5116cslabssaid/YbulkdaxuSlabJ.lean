import Derived.Test.YbulkdaxuSlabI
namespace Go.Proofs.Ybulkdaxu
open Go.RowKit
set_option linter.unusedSimpArgs false
set_option linter.unusedVariables false

theorem hold_l {a x : Int} (h : a ≤ x) (k : Nat) : ¬ bl x k < bl a k := by
  unfold bl; by_cases e : k = 0 <;> simp [e] <;> omega
theorem hold_u {b y : Int} (h : y ≤ b) (k : Nat) : ¬ bu b k < bu y k := by
  unfold bu; by_cases e : k = 0 <;> simp [e] <;> omega
set_option maxRecDepth 100000 in
set_option maxHeartbeats 2000000 in
/-- A zone that holds the box. -/
theorem holds_any (h : Int → Nat) (K : FK h) (w : World) (d : Nat) (l1 u1 l2 u2 : Value) (a b x y : Int) (hd2 : d ≤ 2) (H1 : CO h w d l1 u1 a b) (H2 : CO h w d l2 u2 x y) (hax : a ≤ x) (hyb : y ≤ b) :
    Calls Yba.prog 63 #[.agg #[l1, u1], .agg #[l2, u2]] w fun r w' => r = .returned (.bool true) ∧ Below w.heap.size w w' := by
  obtain ⟨A1, A2, A3, A4⟩ := H1
  obtain ⟨C1, C2, C3, C4⟩ := H2
  obtain ⟨b1, c1, rfl, x1, y1, z1⟩ := A1
  obtain ⟨b2, c2, rfl, x2, y2, z2⟩ := A2
  obtain ⟨b3, c3, rfl, x3, y3, z3⟩ := C1
  obtain ⟨b4, c4, rfl, x4, y4, z4⟩ := C2
  obtain ⟨W, hW⟩ : ∃ W, W = (w.alloc (.cells #[.slice (some ⟨b1, 0, none⟩) d c1, .slice (some ⟨b2, 0, none⟩) d c2] 27)).alloc (.cells #[.slice (some ⟨b3, 0, none⟩) d c3, .slice (some ⟨b4, 0, none⟩) d c4] 27) := ⟨_, rfl⟩
  have BW : Below w.heap.size w W := by rw [hW]; exact below_alloc2 _ _ _
  have sW : W.heap.size = w.heap.size + 1 + 1 := by rw [hW]; simp
  have q0 : W.cell? ⟨w.heap.size, 0, none⟩ = some (.slice (some ⟨b1, 0, none⟩) d c1) := by rw [hW]; go_simp
  have q1 : W.cell? ⟨w.heap.size, 1, none⟩ = some (.slice (some ⟨b2, 0, none⟩) d c2) := by rw [hW]; go_simp
  have q2 : W.cell? ⟨w.heap.size + 1, 0, none⟩ = some (.slice (some ⟨b3, 0, none⟩) d c3) := by rw [hW]; go_simp
  have q3 : W.cell? ⟨w.heap.size + 1, 1, none⟩ = some (.slice (some ⟨b4, 0, none⟩) d c4) := by rw [hW]; go_simp
  have HBW := Hid.mk BW
  have HsW := Hid.mk sW
  clear BW sW
  go_enter Yba.func63, Yba.ntmps63
  go_wp2_with fail
  rw [← hW]
  clear hW
  go_loopw [9] (fun v wr => ∃ k : Nat, k ≤ d ∧ v = .int .i64 (k : Int) ∧ Below W.heap.size W wr) (fun v _ => d - (intOf v).toNat)
  case atStart => exact ⟨0, by omega, rfl, Below.refl _ _⟩
  case round =>
    obtain ⟨k, hk, rfl, hB⟩ := hrel
    have HBr := Hid.mk (HBW.out.trans (hB.mono HBW.out.size))
    have s1 := HsW.out
    have g0 := (hB.cell (p := ⟨w.heap.size, 0, none⟩) (by simp; omega)).trans q0
    have g1 := (hB.cell (p := ⟨w.heap.size, 1, none⟩) (by simp; omega)).trans q1
    have g2 := (hB.cell (p := ⟨w.heap.size + 1, 0, none⟩) (by simp; omega)).trans q2
    have g3 := (hB.cell (p := ⟨w.heap.size + 1, 1, none⟩) (by simp; omega)).trans q3
    have HBx := Hid.mk hB
    clear hB s1
    by_cases hkd : k < d
    · have hk' : (k : Int) < (d : Int) := by omega
      have hk0 : (0 : Int) ≤ (k : Int) := by omega
      have f1 := (HBr.out.cell (p := ⟨b1, k, none⟩) y1).trans (z1 k hkd)
      have f2 := (HBr.out.cell (p := ⟨b2, k, none⟩) y2).trans (z2 k hkd)
      have f3 := (HBr.out.cell (p := ⟨b3, k, none⟩) y3).trans (z3 k hkd)
      have f4 := (HBr.out.cell (p := ⟨b4, k, none⟩) y4).trans (z4 k hkd)
      have o1 := (K.lt (rg_bl C3 k) (rg_bl A3 k)).trans (decide_eq_false (hold_l hax k))
      have o2 := (K.gt (rg_bu C4 k) (rg_bu A4 k)).trans (decide_eq_false (hold_u hyb k))
      clear z1 z2 z3 z4
      go_wp2_with fail
      go_quiet (fail)
      go_wp2_with fail
      go_roundw
      case rel => exact ⟨k + 1, by omega, by simp, Below.drewN HBx.out _⟩
      case measure => simp only [intOf]; omega
    · have hk' : ¬ (k : Int) < (d : Int) := by omega
      go_wp2_with fail
      go_ret
      exact ⟨rfl, HBr.out⟩

theorem ec62 : ∀ args w, (callFunc 62 args).run Yba.prog w = .ok (.enter 62 args) w := enters_of Yba.func62 (by kernel_rfl) rfl
set_option maxRecDepth 100000 in
set_option maxHeartbeats 2000000 in
theorem clo62 (h : Int → Nat) (K : FK h) (w : World) (d g : Nat) (l1 u1 l2 u2 : Value) (a b x y : Int) (hd2 : d ≤ 2) (H1 : CO h w d l1 u1 a b) (H2 : CO h w d l2 u2 x y) (hax : a ≤ x) (hyb : y ≤ b) (hg : g < w.heap.size) (g0 : w.cell? ⟨g, 0, none⟩ = some l2) (g1 : w.cell? ⟨g, 1, none⟩ = some u2) :
    Calls Yba.prog 62 #[.agg #[l1, u1], .pointer (some ⟨g, 0, none⟩)] w fun r w' => r = .returned (.bool true) ∧ Below w.heap.size w w' := by
  have M := fun w' (hb : Below w.heap.size w w') => holds_any h K w' d l1 u1 l2 u2 a b x y hd2 (H1.below hb) (H2.below hb) hax hyb
  have B0 := (Below.refl w.heap.size w).alloc (Nat.le_refl _) (.cells #[l1, u1] 27)
  have n1 : ¬ w.heap.size = g := by omega
  have n2 : ¬ g = w.heap.size := by omega
  go_enter Yba.func62, Yba.ntmps62
  go_wp2_with fail
  refine (M _ B0).mono ?_
  rintro r w' ⟨rfl, B1⟩
  have HB := Hid.mk (B0.trans (B1.mono B0.size))
  clear M B1
  dsimp only
  go_wp2_with fail
  go_ret
  exact ⟨rfl, HB.out⟩

set_option maxRecDepth 100000 in
set_option maxHeartbeats 2000000 in
/-- heldBy at one zone that holds the box. -/
theorem held_any (h : Int → Nat) (K : FK h) (w : World) (d b c : Nat) (l u : Value) (x y : Int) (zl zh : Nat → Int) (hd2 : d ≤ 2) (C : CO h w d l u x y) (Z : BS h w d b 1 zl zh) (hax : zl 0 ≤ x) (hyb : y ≤ zh 0) :
    Calls Yba.prog 50 #[.agg #[l, u], .slice (some ⟨b, 0, none⟩) 1 c] w fun r w' => r = .returned (.bool true) ∧ Below w.heap.size w w' := by
  have B0 := (Below.refl w.heap.size w).alloc (Nat.le_refl _) (.cells #[l, u] 27)
  have t0 : (w.alloc (.cells #[l, u] 27)).cell? ⟨w.heap.size, 0, none⟩ = some l := by go_simp
  have t1 : (w.alloc (.cells #[l, u] 27)).cell? ⟨w.heap.size, 1, none⟩ = some u := by go_simp
  have s1 : (w.alloc (.cells #[l, u] 27)).heap.size = w.heap.size + 1 := by simp
  have I61 : ∀ W, Below w.heap.size w W → w.heap.size < W.heap.size → W.cell? ⟨w.heap.size, 0, none⟩ = some l → W.cell? ⟨w.heap.size, 1, none⟩ = some u → Calls Yba.prog 61 #[.slice (some ⟨b, 0, none⟩) 1 c, .func (.func 62) #[] #[.pointer (some ⟨w.heap.size, 0, none⟩)]] W fun r w' => r = .returned (.bool true) ∧ Below W.heap.size W w' := by
    intro W BW hlt h0 h1
    have ZW := Z.below BW
    have CW := C.below BW
    obtain ⟨xb, xc, yb, yc, f0, f1, C0⟩ := ZW.at (i := 0) (by omega)
    have f0' : W.cell? ⟨b, 0, none⟩ = some (.slice (some ⟨xb, 0, none⟩) d xc) := by simpa using f0
    have f1' : W.cell? ⟨b, 1, none⟩ = some (.slice (some ⟨yb, 0, none⟩) d yc) := by simpa using f1
    have CL := clo62 h K W d w.heap.size _ _ _ _ _ _ _ _ hd2 C0 CW hax hyb hlt h0 h1
    have eg := ec62
    have I78 : Calls Yba.prog 78 #[.slice (some ⟨b, 0, none⟩) 1 c, .func (.func 62) #[] #[.pointer (some ⟨w.heap.size, 0, none⟩)]] W fun r w' => r = .returned (.int .i64 0) ∧ Below W.heap.size W w' := by
      have HCL := Hid.mk CL
      clear CL f0 f1 h0 h1 CW C0 ZW
      go_enter Yba.func78, Yba.ntmps78
      go_wp2_with fail
      go_loopw [8] (fun v wr => v = .int .i64 0 ∧ wr = W) (fun _ _ => 0)
      case atStart => exact ⟨rfl, rfl⟩
      case round =>
        obtain ⟨rfl, rfl⟩ := hrel
        go_wp2_with fail
        refine HCL.out.mono ?_
        rintro e w2 ⟨rfl, B2⟩
        dsimp only
        go_wp2_with fail
        go_ret
        exact ⟨rfl, B2⟩
    clear CL f0 f1 f0' f1' h0 h1 CW C0 ZW eg
    go_enter Yba.func61, Yba.ntmps61
    go_wp2_with fail
    refine I78.mono ?_
    rintro e w2 ⟨rfl, B2⟩
    clear I78
    dsimp only
    go_wp2_with fail
    go_ret
    exact ⟨rfl, B2⟩
  go_enter Yba.func50, Yba.ntmps50
  go_wp2_with fail
  refine (I61 _ B0 (by simp) t0 t1).mono ?_
  rintro e w2 ⟨rfl, B2⟩
  have HB := Hid.mk (B0.trans (B2.mono B0.size))
  clear I61 B2
  dsimp only
  go_wp2_with fail
  go_ret
  exact ⟨rfl, HB.out⟩
end Go.Proofs.Ybulkdaxu
