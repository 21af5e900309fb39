import Derived.Test.YbulkdaxuSlabL
namespace Go.Proofs.Ybulkdaxu
open Go.RowKit
set_option linter.unusedSimpArgs false
set_option linter.unusedVariables false

theorem ec52 : ∀ args w, (callFunc 52 args).run Yba.prog w = .ok (.enter 52 args) w := enters_of Yba.func52 (by kernel_rfl) rfl
set_option maxRecDepth 100000 in
set_option maxHeartbeats 2000000 in
/-- joinUnmet's closure, across dimension 0: the zone meets [p, q). -/
theorem clo52 (h : Int → Nat) (K : FK h) (w : World) (d kb lb ub : Nat) (l u : Value) (rk a b p q : Int) (hd : 0 < d) (H : CO h w d l u a b) (rp : RG p) (rq : RG q) (hk : kb < w.heap.size) (hl : lb < w.heap.size) (hu : ub < w.heap.size)
    (g0 : w.cell? ⟨kb, 0, none⟩ = some (.int .i64 0)) (g1 : w.cell? ⟨lb, 0, none⟩ = some (.float .f64 (h p))) (g2 : w.cell? ⟨ub, 0, none⟩ = some (.float .f64 (h q))) :
    Calls Yba.prog 52 #[.agg #[.int .i64 rk, l, u, .bool false, .int .i64 0], .pointer (some ⟨kb, 0, none⟩), .pointer (some ⟨lb, 0, none⟩), .pointer (some ⟨ub, 0, none⟩)] w fun r w' => r = .returned (.bool (mt a b p q)) ∧ Below w.heap.size w w' := by
  obtain ⟨A1, A2, A3, A4⟩ := H
  obtain ⟨b1, c1, rfl, x1, y1, z1⟩ := A1
  obtain ⟨b2, c2, rfl, x2, y2, z2⟩ := A2
  obtain ⟨W, hW⟩ : ∃ W, W = w.alloc (.cells #[.int .i64 rk, .slice (some ⟨b1, 0, none⟩) d c1, .slice (some ⟨b2, 0, none⟩) d c2, .bool false, .int .i64 0] 45) := ⟨_, rfl⟩
  have BW : Below w.heap.size w W := by rw [hW]; exact (Below.refl _ _).alloc (Nat.le_refl _) _
  have a1 : W.cell? ⟨w.heap.size, 1, none⟩ = some (.slice (some ⟨b1, 0, none⟩) d c1) := by rw [hW]; go_simp
  have a2 : W.cell? ⟨w.heap.size, 2, none⟩ = some (.slice (some ⟨b2, 0, none⟩) d c2) := by rw [hW]; go_simp
  have e0 := (BW.cell (p := ⟨kb, 0, none⟩) hk).trans g0
  have e1 := (BW.cell (p := ⟨lb, 0, none⟩) hl).trans g1
  have e2 := (BW.cell (p := ⟨ub, 0, none⟩) hu).trans g2
  have e3 : W.cell? ⟨b1, 0, none⟩ = some (.float .f64 (h a)) := (BW.cell (p := ⟨b1, 0, none⟩) y1).trans (z1 0 hd)
  have e4 : W.cell? ⟨b2, 0, none⟩ = some (.float .f64 (h b)) := (BW.cell (p := ⟨b2, 0, none⟩) y2).trans (z2 0 hd)
  have m1 := K.mx A3 rp
  have m2 := K.mn A4 rq
  have o1 := K.lt (u := max a p) (v := min b q) (by unfold RG at *; omega) (by unfold RG at *; omega)
  have EQ : Hid (mt a b p q = decide (max a p < min b q)) := ⟨rfl⟩
  generalize max a p = s at *
  generalize min b q = t at *
  have hd1 : (0 : Int) < (d : Int) := by omega
  have HB := Hid.mk BW
  clear BW z1 z2 g0 g1 g2
  go_enter Yba.func52, Yba.ntmps52
  go_wp2_with fail
  rw [← hW]
  clear hW
  cases hr : decide (s < t) <;> rw [hr] at o1
  · go_quiet (fail)
    go_wp2_with fail
    go_ret
    exact ⟨by rw [EQ.out, hr]; rfl, Below.drewN HB.out _⟩
  · go_quiet (fail)
    go_wp2_with fail
    go_ret
    exact ⟨by rw [EQ.out, hr]; rfl, Below.drewN HB.out _⟩

set_option maxRecDepth 100000 in
set_option maxHeartbeats 2000000 in
/-- walls at fewer than two zones. -/
theorem walls_few (w : World) (l u : Value) (a : Option Addr) (n c : Nat) (hn : n < 2) :
    Calls Yba.prog 31 #[.agg #[l, u], .slice a n c] w fun e w' => e = .returned (.tuple #[.int .i64 0, .slice none 0 0]) ∧ Below w.heap.size w w' := by
  have hn' : (n : Int) < 2 := by omega
  have HB := Hid.mk ((Below.refl w.heap.size w).alloc (Nat.le_refl _) (.cells #[l, u] 27))
  go_enter Yba.func31, Yba.ntmps31
  go_wp2_with fail
  go_ret2
  exact ⟨rfl, HB.out⟩
end Go.Proofs.Ybulkdaxu
