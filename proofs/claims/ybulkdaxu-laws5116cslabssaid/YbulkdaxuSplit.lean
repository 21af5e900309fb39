import Derived.Test.YbulkdaxuPart
namespace Go.Proofs.Ybulkdaxu
open Go.RowKit
set_option linter.unusedSimpArgs false
set_option linter.unusedVariables false

theorem below_alloc3 (w1 : World) (o o' o'' : Obj) : Below w1.heap.size w1 (((w1.alloc o).alloc o').alloc o'') := (((Below.refl w1.heap.size w1).alloc (Nat.le_refl _) o).alloc (by simp) o').alloc (by simp; omega) o''
theorem alloc3_cell {w1 : World} {p : Addr} {u : Value} (h : w1.cell? p = some u) (hp : p.block < w1.heap.size) : ∀ o o' o'', (((w1.alloc o).alloc o').alloc o'').cell? p = some u := fun o o' o'' => ((below_alloc3 w1 o o' o'').cell hp).trans h
theorem alloc3_frozen {w1 : World} {p : Addr} (h : w1.frozen? p = false) (hp : p.block < w1.heap.size) : ∀ o o' o'', (((w1.alloc o).alloc o').alloc o'').frozen? p = false := fun o o' o'' => ((below_alloc3 w1 o o' o'').frozen hp).trans h

theorem FN.other {n0 : Nat} {w : World} {b c d d' : Nat} {x : Nat → Int} (h : FN n0 w (.slice (some ⟨b, 0, none⟩) d' c) d x) {p : Addr} (hp : b ≠ p.block) (u : Value) : FN n0 (w.setCell p u) (.slice (some ⟨b, 0, none⟩) d' c) d x := by
  obtain ⟨b', c', e, h1, h0, h2, h3, h4⟩ := h
  cases e
  refine ⟨b, c, rfl, h1, h0, by simpa using h2, fun k hk => ?_, fun k => ?_⟩
  · rw [World.cell?_of_block (a := ⟨b, k, none⟩) (Below.heap_setCell w p u b hp)]; exact h3 k hk
  · rw [World.frozen?_setCell]; exact h4 k
theorem FN.cells {n0 : Nat} {w : World} {b c d d' : Nat} {x : Nat → Int} (h : FN n0 w (.slice (some ⟨b, 0, none⟩) d' c) d x) : (∀ k, k < d → w.cell? ⟨b, k, none⟩ = some (.float .f64 (fx (x k)))) ∧ (∀ k, w.frozen? ⟨b, k, none⟩ = false) ∧ b < w.heap.size := by
  obtain ⟨b', c', e, h1, h0, h2, h3, h4⟩ := h
  cases e
  exact ⟨h3, h4, h2⟩
/-- Two boxes written: what lies behind. -/
structure Fin3 (w1 : World) (g g' : Nat) (p q r s : Value) (w' : World) : Prop where
  a0 : w'.cell? ⟨g, 0, none⟩ = some p
  a1 : w'.cell? ⟨g, 1, none⟩ = some q
  b0 : w'.cell? ⟨g', 0, none⟩ = some r
  b1 : w'.cell? ⟨g', 1, none⟩ = some s
  bel : ∀ {n : Nat} {w : World}, n ≤ g → n ≤ g' → Below n w w1 → Below n w w'
  fn : ∀ {n0 : Nat} {v : Value} {d : Nat} {x : Nat → Int}, g < n0 → g' < n0 → FN n0 w1 v d x → FN n0 w' v d x
  frz : ∀ a : Addr, w'.frozen? a = w1.frozen? a
  size : w'.heap.size = w1.heap.size
theorem fin3 {w1 w' : World} {g g' : Nat} (hne : g ≠ g') {p q r s : Value} (hw : (((w1.setCell ⟨g, 0, none⟩ p).setCell ⟨g, 1, none⟩ q).setCell ⟨g', 0, none⟩ r).setCell ⟨g', 1, none⟩ s = w') {u0 u1 v0 v1 : Value} (h0 : w1.cell? ⟨g, 0, none⟩ = some u0) (h1 : w1.cell? ⟨g, 1, none⟩ = some u1) (h2 : w1.cell? ⟨g', 0, none⟩ = some v0) (h3 : w1.cell? ⟨g', 1, none⟩ = some v1) :
    Fin3 w1 g g' p q r s w' := by
  generalize h5 : (w1.setCell ⟨g, 0, none⟩ p).setCell ⟨g, 1, none⟩ q = w5 at hw
  have T5 := set2 h5 h0 h1
  have T6 := set2 hw ((T5.other ⟨g', 0, none⟩ (fun e => hne (Eq.symm e))).trans h2) ((T5.other ⟨g', 1, none⟩ (fun e => hne (Eq.symm e))).trans h3)
  exact ⟨(T6.other ⟨g, 0, none⟩ hne).trans T5.c0, (T6.other ⟨g, 1, none⟩ hne).trans T5.c1, T6.c0, T6.c1, fun h h' hb => T6.bel h' (T5.bel h hb), fun h h' hf => T6.fn h' (T5.fn h hf), fun a => (T6.frz a).trans (T5.frz a), T6.size.trans T5.size⟩

set_option maxRecDepth 100000 in
set_option maxHeartbeats 4000000 in
theorem split_ok (w : World) (lo hi : Value) (d k : Nat) (x y : Nat → Int) (a : Int) (h : FR w lo d x) (h' : FR w hi d y) (hk : k < d) (hd3 : d ≤ 3) (sx : Sm (x k)) (sy : Sm (y k)) (sa : Sm a) (h1 : x k < a) (h2 : a < y k) :
    Calls Yba.prog 40 #[.agg #[lo, hi], .int .i64 k, .float .f64 (fx a)] w fun e w' => ∃ l1 l2 u1 u2, e = .returned (.tuple #[.agg #[l1, l2], .agg #[u1, u2], .bool true]) ∧ Below w.heap.size w w' ∧ FR w' l1 d x ∧ FR w' l2 d (up y k a) ∧ FR w' u1 d (up x k a) ∧ FR w' u2 d y := by
  have hd : 0 < d := by omega
  have Hh := Hid.mk h
  have Hh' := Hid.mk h'
  obtain ⟨bl, cl, rfl, p1, p2, p3⟩ := h
  obtain ⟨bh, ch, rfl, r1, r2, r3⟩ := h'
  have c1 := alloc3_cell (p3 k hk) p2
  have c2 := alloc3_cell (r3 k hk) r2
  have o1 := ord_lt sx sa h1
  have o2 := ord_lt sa sy h2
  have hk0 : (0 : Int) ≤ (k : Int) := by omega
  have hk1 : (k : Int) < (d : Int) := by omega
  go_enter Yba.func40, Yba.ntmps40
  go_wp2_with fail
  have BW : Below w.heap.size w (((w.alloc (Obj.cells #[Value.slice (some ⟨bl, 0, none⟩) d cl, Value.slice (some ⟨bh, 0, none⟩) d ch] 27)).alloc (Obj.cells #[Value.slice none 0 0, Value.slice none 0 0] 27)).alloc (Obj.cells #[Value.slice none 0 0, Value.slice none 0 0] 27)) := below_alloc3 _ _ _ _
  have s1 : (((w.alloc (Obj.cells #[Value.slice (some ⟨bl, 0, none⟩) d cl, Value.slice (some ⟨bh, 0, none⟩) d ch] 27)).alloc (Obj.cells #[Value.slice none 0 0, Value.slice none 0 0] 27)).alloc (Obj.cells #[Value.slice none 0 0, Value.slice none 0 0] 27)).heap.size = w.heap.size + 3 := by simp
  have a0 : (((w.alloc (Obj.cells #[Value.slice (some ⟨bl, 0, none⟩) d cl, Value.slice (some ⟨bh, 0, none⟩) d ch] 27)).alloc (Obj.cells #[Value.slice none 0 0, Value.slice none 0 0] 27)).alloc (Obj.cells #[Value.slice none 0 0, Value.slice none 0 0] 27)).cell? ⟨w.heap.size, 0, none⟩ = some (.slice (some ⟨bl, 0, none⟩) d cl) := by go_simp
  have a1 : (((w.alloc (Obj.cells #[Value.slice (some ⟨bl, 0, none⟩) d cl, Value.slice (some ⟨bh, 0, none⟩) d ch] 27)).alloc (Obj.cells #[Value.slice none 0 0, Value.slice none 0 0] 27)).alloc (Obj.cells #[Value.slice none 0 0, Value.slice none 0 0] 27)).cell? ⟨w.heap.size, 1, none⟩ = some (.slice (some ⟨bh, 0, none⟩) d ch) := by go_simp
  have a20 : (((w.alloc (Obj.cells #[Value.slice (some ⟨bl, 0, none⟩) d cl, Value.slice (some ⟨bh, 0, none⟩) d ch] 27)).alloc (Obj.cells #[Value.slice none 0 0, Value.slice none 0 0] 27)).alloc (Obj.cells #[Value.slice none 0 0, Value.slice none 0 0] 27)).cell? ⟨w.heap.size + 1, 0, none⟩ = some (.slice none 0 0) := by go_simp
  have a21 : (((w.alloc (Obj.cells #[Value.slice (some ⟨bl, 0, none⟩) d cl, Value.slice (some ⟨bh, 0, none⟩) d ch] 27)).alloc (Obj.cells #[Value.slice none 0 0, Value.slice none 0 0] 27)).alloc (Obj.cells #[Value.slice none 0 0, Value.slice none 0 0] 27)).cell? ⟨w.heap.size + 1, 1, none⟩ = some (.slice none 0 0) := by go_simp
  have a30 : (((w.alloc (Obj.cells #[Value.slice (some ⟨bl, 0, none⟩) d cl, Value.slice (some ⟨bh, 0, none⟩) d ch] 27)).alloc (Obj.cells #[Value.slice none 0 0, Value.slice none 0 0] 27)).alloc (Obj.cells #[Value.slice none 0 0, Value.slice none 0 0] 27)).cell? ⟨w.heap.size + 1 + 1, 0, none⟩ = some (.slice none 0 0) := by go_simp
  have a31 : (((w.alloc (Obj.cells #[Value.slice (some ⟨bl, 0, none⟩) d cl, Value.slice (some ⟨bh, 0, none⟩) d ch] 27)).alloc (Obj.cells #[Value.slice none 0 0, Value.slice none 0 0] 27)).alloc (Obj.cells #[Value.slice none 0 0, Value.slice none 0 0] 27)).cell? ⟨w.heap.size + 1 + 1, 1, none⟩ = some (.slice none 0 0) := by go_simp
  have z2 : ∀ j, (((w.alloc (Obj.cells #[Value.slice (some ⟨bl, 0, none⟩) d cl, Value.slice (some ⟨bh, 0, none⟩) d ch] 27)).alloc (Obj.cells #[Value.slice none 0 0, Value.slice none 0 0] 27)).alloc (Obj.cells #[Value.slice none 0 0, Value.slice none 0 0] 27)).frozen? ⟨w.heap.size + 1, j, none⟩ = false := by intro j; go_simp
  have z3 : ∀ j, (((w.alloc (Obj.cells #[Value.slice (some ⟨bl, 0, none⟩) d cl, Value.slice (some ⟨bh, 0, none⟩) d ch] 27)).alloc (Obj.cells #[Value.slice none 0 0, Value.slice none 0 0] 27)).alloc (Obj.cells #[Value.slice none 0 0, Value.slice none 0 0] 27)).frozen? ⟨w.heap.size + 1 + 1, j, none⟩ = false := by intro j; go_simp
  generalize (((w.alloc (Obj.cells #[Value.slice (some ⟨bl, 0, none⟩) d cl, Value.slice (some ⟨bh, 0, none⟩) d ch] 27)).alloc (Obj.cells #[Value.slice none 0 0, Value.slice none 0 0] 27)).alloc (Obj.cells #[Value.slice none 0 0, Value.slice none 0 0] 27)) = w1 at *
  have BW := Hid.mk BW
  have HR : Hid (∀ w', Below w1.heap.size w1 w' → FR w' (.slice (some ⟨bl, 0, none⟩) d cl) d x ∧ FR w' (.slice (some ⟨bh, 0, none⟩) d ch) d y) := ⟨fun w' hB => ⟨(Hh.out.below BW.out).below hB, (Hh'.out.below BW.out).below hB⟩⟩
  have B0 : Hid (Below w1.heap.size w1 w1) := ⟨Below.refl _ _⟩
  have n7 : w.heap.size ≠ w.heap.size + 1 + 1 := by omega
  have n8 : ¬ w.heap.size + 1 + 1 = w.heap.size := by omega
  clear p3 r3 c1 c2
  go_region_held3 (fun z => z.cell? ⟨w.heap.size, 0, none⟩ = some (.slice (some ⟨bl, 0, none⟩) d cl) ∧ z.cell? ⟨w.heap.size, 1, none⟩ = some (.slice (some ⟨bh, 0, none⟩) d ch)) (go_keep) (first
    | (go_at_call 57; refine (clone_any _ _ _ d x y (HR.out _ BP.out).1 (HR.out _ BP.out).2 hd hd3).mono ?_; rintro e wb ⟨q1, q2, rfl, hBb, hQ1, hQ2, hne2⟩; obtain ⟨gq1, cq1, rfl⟩ := hQ1.form; obtain ⟨gq2, cq2, rfl⟩ := hQ2.form; have BB : Hid (Below w1.heap.size w1 wb) := ⟨BP.out.trans (hBb.mono BP.out.size)⟩; have NQ1 := Hid.mk hQ1; have NQ2 := Hid.mk hQ2; have MP1 := NP1.mov hBb; have MP2 := NP2.mov hBb; have HQ := Hid.mk hne2; have f0wb : wb.cell? ⟨w.heap.size, 0, none⟩ = some (.slice (some ⟨bl, 0, none⟩) d cl) := (BB.out.cell (p := ⟨w.heap.size, 0, none⟩) (by simp; omega)).trans a0; have f1wb : wb.cell? ⟨w.heap.size, 1, none⟩ = some (.slice (some ⟨bh, 0, none⟩) d ch) := (BB.out.cell (p := ⟨w.heap.size, 1, none⟩) (by simp; omega)).trans a1; have f2wb : wb.cell? ⟨w.heap.size + 1, 0, none⟩ = some (.slice none 0 0) := (BB.out.cell (p := ⟨w.heap.size + 1, 0, none⟩) (by simp; omega)).trans a20; have f3wb : wb.cell? ⟨w.heap.size + 1, 1, none⟩ = some (.slice none 0 0) := (BB.out.cell (p := ⟨w.heap.size + 1, 1, none⟩) (by simp; omega)).trans a21; have f4wb : wb.cell? ⟨w.heap.size + 1 + 1, 0, none⟩ = some (.slice none 0 0) := (BB.out.cell (p := ⟨w.heap.size + 1 + 1, 0, none⟩) (by simp; omega)).trans a30; have f5wb : wb.cell? ⟨w.heap.size + 1 + 1, 1, none⟩ = some (.slice none 0 0) := (BB.out.cell (p := ⟨w.heap.size + 1 + 1, 1, none⟩) (by simp; omega)).trans a31; have f6wb : ∀ j, wb.frozen? ⟨w.heap.size + 1, j, none⟩ = false := fun j => (BB.out.frozen (p := ⟨w.heap.size + 1, j, none⟩) (by simp; omega)).trans (z2 j); have f7wb : ∀ j, wb.frozen? ⟨w.heap.size + 1 + 1, j, none⟩ = false := fun j => (BB.out.frozen (p := ⟨w.heap.size + 1 + 1, j, none⟩) (by simp; omega)).trans (z3 j))
    | (go_at_call 57; refine (clone_any _ _ _ d x y (HR.out _ B0.out.drew).1 (HR.out _ B0.out.drew).2 hd hd3).mono ?_; rintro e wa ⟨p1, p2, rfl, hBa, hP1, hP2, hne1⟩; obtain ⟨gp1, cp1, rfl⟩ := hP1.form; obtain ⟨gp2, cp2, rfl⟩ := hP2.form; have BP : Hid (Below w1.heap.size w1 wa) := ⟨B0.out.drew.trans hBa⟩; have NP1 := Hid.mk hP1; have NP2 := Hid.mk hP2; have HP := Hid.mk hne1; have f0wa : wa.cell? ⟨w.heap.size, 0, none⟩ = some (.slice (some ⟨bl, 0, none⟩) d cl) := (BP.out.cell (p := ⟨w.heap.size, 0, none⟩) (by simp; omega)).trans a0; have f1wa : wa.cell? ⟨w.heap.size, 1, none⟩ = some (.slice (some ⟨bh, 0, none⟩) d ch) := (BP.out.cell (p := ⟨w.heap.size, 1, none⟩) (by simp; omega)).trans a1; have f2wa : wa.cell? ⟨w.heap.size + 1, 0, none⟩ = some (.slice none 0 0) := (BP.out.cell (p := ⟨w.heap.size + 1, 0, none⟩) (by simp; omega)).trans a20; have f3wa : wa.cell? ⟨w.heap.size + 1, 1, none⟩ = some (.slice none 0 0) := (BP.out.cell (p := ⟨w.heap.size + 1, 1, none⟩) (by simp; omega)).trans a21; have f4wa : wa.cell? ⟨w.heap.size + 1 + 1, 0, none⟩ = some (.slice none 0 0) := (BP.out.cell (p := ⟨w.heap.size + 1 + 1, 0, none⟩) (by simp; omega)).trans a30; have f5wa : wa.cell? ⟨w.heap.size + 1 + 1, 1, none⟩ = some (.slice none 0 0) := (BP.out.cell (p := ⟨w.heap.size + 1 + 1, 1, none⟩) (by simp; omega)).trans a31; have f6wa : ∀ j, wa.frozen? ⟨w.heap.size + 1, j, none⟩ = false := fun j => (BP.out.frozen (p := ⟨w.heap.size + 1, j, none⟩) (by simp; omega)).trans (z2 j); have f7wa : ∀ j, wa.frozen? ⟨w.heap.size + 1 + 1, j, none⟩ = false := fun j => (BP.out.frozen (p := ⟨w.heap.size + 1 + 1, j, none⟩) (by simp; omega)).trans (z3 j)))
  · generalize h5 : ((((wb.setCell { block := w.heap.size + 1, off := 0 } (Value.slice (some { block := gp1, off := 0 }) d cp1)).setCell { block := w.heap.size + 1, off := 1 } (Value.slice (some { block := gp2, off := 0 }) d cp2)).setCell { block := w.heap.size + 1 + 1, off := 0 } (Value.slice (some { block := gq1, off := 0 }) d cq1)).setCell { block := w.heap.size + 1 + 1, off := 1 } (Value.slice (some { block := gq2, off := 0 }) d cq2)) = w5
    have F := fin3 (by omega) h5 f2wb f3wb f4wb f5wb
    have L1 := F.fn (by omega) (by omega) (MP1.out.mono (n1 := w1.heap.size) (by first | exact Nat.le_refl _ | (have := BP.out.size; omega)))
    have L2 := F.fn (by omega) (by omega) (MP2.out.mono (n1 := w1.heap.size) (by first | exact Nat.le_refl _ | (have := BP.out.size; omega)))
    have U1 := F.fn (by omega) (by omega) (NQ1.out.mono (n1 := w1.heap.size) (by first | exact Nat.le_refl _ | (have := BP.out.size; omega)))
    have U2 := F.fn (by omega) (by omega) (NQ2.out.mono (n1 := w1.heap.size) (by first | exact Nat.le_refl _ | (have := BP.out.size; omega)))
    have lp1 : w1.heap.size ≤ gp1 ∧ gp1 < wa.heap.size := NP1.out.lo
    have lp2 : w1.heap.size ≤ gp2 ∧ gp2 < wa.heap.size := NP2.out.lo
    have lq1 := NQ1.out.lo
    have lq2 := NQ2.out.lo
    have np : gp1 ≠ gp2 := fun e => HP.out (by rw [e]; rfl)
    have nq : gq1 ≠ gq2 := fun e => HQ.out (by rw [e]; rfl)
    have lwa := BP.out.size
    have cl2 := L2.cells.1 k hk
    have zl2 := L2.cells.2.1
    have cu1 := U1.cells.1 k hk
    have zu1 := U1.cells.2.1
    have e1 := F.a0
    have e2 := F.a1
    have e3 := F.b0
    have e4 := F.b1
    have zz1 : ∀ j, w5.frozen? ⟨w.heap.size + 1, j, none⟩ = false := fun j => (F.frz _).trans (f6wb j)
    have zz2 : ∀ j, w5.frozen? ⟨w.heap.size + 1 + 1, j, none⟩ = false := fun j => (F.frz _).trans (f7wb j)
    have m1 : gp2 ≠ w.heap.size + 1 := by omega
    have m2 : ¬ w.heap.size + 1 = gp2 := by omega
    have m3 : gp2 ≠ w.heap.size + 1 + 1 := by omega
    have m4 : ¬ w.heap.size + 1 + 1 = gp2 := by omega
    have m5 : gq1 ≠ w.heap.size + 1 := by omega
    have m6 : ¬ w.heap.size + 1 = gq1 := by omega
    have m7 : gq1 ≠ w.heap.size + 1 + 1 := by omega
    have m8 : ¬ w.heap.size + 1 + 1 = gq1 := by omega
    have m9 : gp2 ≠ gq1 := by omega
    have m10 : ¬ gq1 = gp2 := by omega
    have m11 : gp1 ≠ gp2 := by omega
    have m12 : gp1 ≠ gq1 := by omega
    have m13 : gq2 ≠ gp2 := by omega
    have m14 : gq2 ≠ gq1 := by omega
    have HL1 := Hid.mk L1
    have HL2 := Hid.mk L2
    have HU1 := Hid.mk U1
    have HU2 := Hid.mk U2
    have BW5 : Hid (Below w.heap.size w w5) := ⟨F.bel (by omega) (by omega) (BW.out.trans (BB.out.mono (by omega)))⟩
    clear L1 L2 U1 U2 F h5 f0wb f1wb f2wb f3wb f4wb f5wb f6wb f7wb f0wa f1wa f2wa f3wa f4wa f5wa f6wa f7wa hBa hBb hP1 hP2 hQ1 hQ2 hne1 hne2 HR
    go_wp2_with fail
    go_region
    go_wp2_with fail
    generalize h6 : (w5.setCell { block := gp2, off := k } (Value.float FloatKind.f64 (fx a))).setCell { block := gq1, off := k } (Value.float FloatKind.f64 (fx a)) = w6
    have K1 := (HL1.out.other (p := ⟨gp2, k, none⟩) m11 (.float .f64 (fx a))).other (p := ⟨gq1, k, none⟩) m12 (.float .f64 (fx a))
    have K2 := (HL2.out.put hk a).other (p := ⟨gq1, k, none⟩) m9 (.float .f64 (fx a))
    have K3 := (HU1.out.other (p := ⟨gp2, k, none⟩) m10 (.float .f64 (fx a))).put hk a
    have K4 := (HU2.out.other (p := ⟨gp2, k, none⟩) m13 (.float .f64 (fx a))).other (p := ⟨gq1, k, none⟩) m14 (.float .f64 (fx a))
    have B6 := (BW5.out.setCell (p := ⟨gp2, k, none⟩) (by simp; omega) (.float .f64 (fx a))).setCell (p := ⟨gq1, k, none⟩) (by simp; omega) (.float .f64 (fx a))
    rw [h6] at K1 K2 K3 K4 B6
    have y0 : w6.cell? ⟨w.heap.size + 1, 0, none⟩ = some (Value.slice (some ⟨gp1, 0, none⟩) d cp1) := by rw [← h6, World.cell?_setCell_other _ _ (a := ⟨gq1, k, none⟩) (b := ⟨w.heap.size + 1, 0, none⟩) (by intro e; cases e; omega), World.cell?_setCell_other _ _ (a := ⟨gp2, k, none⟩) (b := ⟨w.heap.size + 1, 0, none⟩) (by intro e; cases e; omega)]; exact e1
    have y1 : w6.cell? ⟨w.heap.size + 1, 1, none⟩ = some (Value.slice (some ⟨gp2, 0, none⟩) d cp2) := by rw [← h6, World.cell?_setCell_other _ _ (a := ⟨gq1, k, none⟩) (b := ⟨w.heap.size + 1, 1, none⟩) (by intro e; cases e; omega), World.cell?_setCell_other _ _ (a := ⟨gp2, k, none⟩) (b := ⟨w.heap.size + 1, 1, none⟩) (by intro e; cases e; omega)]; exact e2
    have y2 : w6.cell? ⟨w.heap.size + 1 + 1, 0, none⟩ = some (Value.slice (some ⟨gq1, 0, none⟩) d cq1) := by rw [← h6, World.cell?_setCell_other _ _ (a := ⟨gq1, k, none⟩) (b := ⟨w.heap.size + 1 + 1, 0, none⟩) (by intro e; cases e; omega), World.cell?_setCell_other _ _ (a := ⟨gp2, k, none⟩) (b := ⟨w.heap.size + 1 + 1, 0, none⟩) (by intro e; cases e; omega)]; exact e3
    have y3 : w6.cell? ⟨w.heap.size + 1 + 1, 1, none⟩ = some (Value.slice (some ⟨gq2, 0, none⟩) d cq2) := by rw [← h6, World.cell?_setCell_other _ _ (a := ⟨gq1, k, none⟩) (b := ⟨w.heap.size + 1 + 1, 1, none⟩) (by intro e; cases e; omega), World.cell?_setCell_other _ _ (a := ⟨gp2, k, none⟩) (b := ⟨w.heap.size + 1 + 1, 1, none⟩) (by intro e; cases e; omega)]; exact e4
    generalize h7 : ((((w6.setCell { block := w.heap.size + 1, off := 0 } (Value.slice (some { block := gp1, off := 0 }) d cp1)).setCell { block := w.heap.size + 1, off := 1 } (Value.slice (some { block := gp2, off := 0 }) d cp2)).setCell { block := w.heap.size + 1 + 1, off := 0 } (Value.slice (some { block := gq1, off := 0 }) d cq1)).setCell { block := w.heap.size + 1 + 1, off := 1 } (Value.slice (some { block := gq2, off := 0 }) d cq2)) = w7
    have F := fin3 (by omega) h7 y0 y1 y2 y3
    refine bodyPost_ret (res_box3 rfl _ _ (w.heap.size + 1) (w.heap.size + 1 + 1) _ _ _ _ rfl rfl F.a0 F.a1 F.b0 F.b1) rfl ?_
    exact ⟨_, _, _, _, rfl, (F.bel (by omega) (by omega) B6).drew, (F.fn (by omega) (by omega) K1).fr, (F.fn (by omega) (by omega) K2).fr, (F.fn (by omega) (by omega) K3).fr, (F.fn (by omega) (by omega) K4).fr⟩

def nilBox : Value := .agg #[.slice none 0 0, .slice none 0 0]
set_option maxRecDepth 100000 in
set_option maxHeartbeats 4000000 in
theorem split_no (w : World) (lo hi : Value) (d k : Nat) (x y : Nat → Int) (a : Int) (h : FR w lo d x) (h' : FR w hi d y) (hk : k < d) (hd3 : d ≤ 3) (sx : Sm (x k)) (sy : Sm (y k)) (sa : Sm a) (h1 : ¬ (x k < a ∧ a < y k)) :
    Calls Yba.prog 40 #[.agg #[lo, hi], .int .i64 k, .float .f64 (fx a)] w fun e w' => e = .returned (.tuple #[nilBox, nilBox, .bool false]) ∧ Below w.heap.size w w' := by
  obtain ⟨bl, cl, rfl, p1, p2, p3⟩ := h
  obtain ⟨bh, ch, rfl, r1, r2, r3⟩ := h'
  have c1 := alloc3_cell (p3 k hk) p2
  have c2 := alloc3_cell (r3 k hk) r2
  have hk0 : (0 : Int) ≤ (k : Int) := by omega
  have hk1 : (k : Int) < (d : Int) := by omega
  have BS := below_alloc3 w
  have HB := Hid.mk BS
  clear BS
  by_cases hx : x k < a
  · have o1 := ord_lt sx sa hx
    have o2 := (ob_lt sa sy).trans (decide_eq_false (fun h => h1 ⟨hx, h⟩))
    clear h1 hx
    go_enter Yba.func40, Yba.ntmps40
    go_wp2_with fail
    refine bodyPost_ret (res_box3 rfl _ _ (w.heap.size + 1) (w.heap.size + 1 + 1) (.slice none 0 0) (.slice none 0 0) (.slice none 0 0) (.slice none 0 0) rfl rfl (by go_simp) (by go_simp) (by go_simp) (by go_simp)) rfl ?_
    exact ⟨rfl, HB.out _ _ _⟩
  · have o1 := (ob_lt sx sa).trans (decide_eq_false hx)
    clear h1 hx
    go_enter Yba.func40, Yba.ntmps40
    go_wp2_with fail
    refine bodyPost_ret (res_box3 rfl _ _ (w.heap.size + 1) (w.heap.size + 1 + 1) (.slice none 0 0) (.slice none 0 0) (.slice none 0 0) (.slice none 0 0) rfl rfl (by go_simp) (by go_simp) (by go_simp) (by go_simp)) rfl ?_
    exact ⟨rfl, HB.out _ _ _⟩
end Go.Proofs.Ybulkdaxu
