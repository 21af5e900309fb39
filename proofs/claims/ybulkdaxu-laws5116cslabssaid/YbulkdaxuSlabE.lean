import Derived.Test.YbulkdaxuSlabD
namespace Go.Proofs.Ybulkdaxu
open Go.RowKit
set_option linter.unusedSimpArgs false
set_option linter.unusedVariables false

theorem Kb.cel {l : Nat} {A B : World} (h : Kb l A B) {p : Addr} (hp : p.block < A.heap.size) (hn : p.block ≠ l) : B.cell? p = A.cell? p := World.cell?_of_block (w := A) (h.block p.block hp hn)
set_option maxRecDepth 100000 in
theorem load_gap (w : World) (g : Nat) (u0 u1 : Value) (h0 : w.cell? ⟨g, 0, none⟩ = some u0) (h1 : w.cell? ⟨g, 1, none⟩ = some u1) : (loadVar 93 ⟨g, 0, none⟩).run Yba.prog w = .ok (.agg #[u0, u1]) w := by
  go_simp
theorem res_gap {fn : Func} {p : Tmp} (h : fn.results = #[.cell p 93]) (tmps : Array Value) (w : World) (g : Nat) (u0 u1 : Value) (hp : tmps.getD p undef = .pointer (some ⟨g, 0, none⟩)) (h0 : w.cell? ⟨g, 0, none⟩ = some u0) (h1 : w.cell? ⟨g, 1, none⟩ = some u1) : (results fn tmps).run Yba.prog w = .ok (.agg #[u0, u1]) w := by
  have hp' : tmps[p]?.getD undef = .pointer (some ⟨g, 0, none⟩) := by simpa using hp
  simp [results, h, hp', asAddr, load_gap w g u0 u1 h0 h1]
set_option maxRecDepth 100000 in
set_option maxHeartbeats 4000000 in
/-- The Gap is finite. -/
theorem gap_any (h : Int → Nat) (K : FK h) (w : World) (d : Nat) (t1 t2 z1 z2 p1 p2 : Value) (tl th zl zh pl ph : Nat → Int) (hd2 : d ≤ 2)
    (T1 : HR h w t1 d tl) (T2 : HR h w t2 d th) (Z1 : HR h w z1 d zl) (Z2 : HR h w z2 d zh) (P1 : HR h w p1 d pl) (P2 : HR h w p2 d ph)
    (r1 : ∀ k, k < d → R3 (tl k)) (r2 : ∀ k, k < d → R3 (th k)) (r3 : ∀ k, k < d → R3 (zl k)) (r4 : ∀ k, k < d → R3 (zh k)) (r5 : ∀ k, k < d → R3 (pl k)) (r6 : ∀ k, k < d → R3 (ph k)) :
    Calls Yba.prog 36 #[.agg #[t1, t2], .agg #[z1, z2], .agg #[p1, p2]] w fun e w' => ∃ D o : Int, e = .returned (.agg #[.float .f64 (h D), .int .i64 o]) ∧ RG D ∧ Below w.heap.size w w' := by
  obtain ⟨b1, c1, rfl, x1, y1, q1⟩ := T1
  obtain ⟨b2, c2, rfl, x2, y2, q2⟩ := T2
  obtain ⟨b3, c3, rfl, x3, y3, q3⟩ := Z1
  obtain ⟨b4, c4, rfl, x4, y4, q4⟩ := Z2
  obtain ⟨b5, c5, rfl, x5, y5, q5⟩ := P1
  obtain ⟨b6, c6, rfl, x6, y6, q6⟩ := P2
  have k0 := K.c0
  obtain ⟨W, hW⟩ : ∃ W, W = (((((w.alloc (.cells #[.slice (some ⟨b1, 0, none⟩) d c1, .slice (some ⟨b2, 0, none⟩) d c2] 51)).alloc (.cells #[.slice (some ⟨b3, 0, none⟩) d c3, .slice (some ⟨b4, 0, none⟩) d c4] 27)).alloc (.cells #[.slice (some ⟨b5, 0, none⟩) d c5, .slice (some ⟨b6, 0, none⟩) d c6] 27)).alloc (.cells #[.float .f64 0, .int .i64 0] 93)).alloc (.cells #[.float .f64 0, .int .i64 0] 93)) := ⟨_, rfl⟩
  have BW : Below w.heap.size w W := by
    rw [hW]; exact ((below_alloc3 w _ _ _).alloc (by simp; omega) _).alloc (by simp; omega) _
  have sW : W.heap.size = w.heap.size + 1 + 1 + 1 + 1 + 1 := by rw [hW]; simp
  have a0 : W.cell? ⟨w.heap.size, 0, none⟩ = some (.slice (some ⟨b1, 0, none⟩) d c1) := by rw [hW]; go_simp
  have a1 : W.cell? ⟨w.heap.size, 1, none⟩ = some (.slice (some ⟨b2, 0, none⟩) d c2) := by rw [hW]; go_simp
  have a2 : W.cell? ⟨w.heap.size + 1, 0, none⟩ = some (.slice (some ⟨b3, 0, none⟩) d c3) := by rw [hW]; go_simp
  have a3 : W.cell? ⟨w.heap.size + 1, 1, none⟩ = some (.slice (some ⟨b4, 0, none⟩) d c4) := by rw [hW]; go_simp
  have a4 : W.cell? ⟨w.heap.size + 1 + 1, 0, none⟩ = some (.slice (some ⟨b5, 0, none⟩) d c5) := by rw [hW]; go_simp
  have a5 : W.cell? ⟨w.heap.size + 1 + 1, 1, none⟩ = some (.slice (some ⟨b6, 0, none⟩) d c6) := by rw [hW]; go_simp
  have a6 : W.cell? ⟨w.heap.size + 1 + 1 + 1, 0, none⟩ = some (.float .f64 0) := by rw [hW]; go_simp
  have a7 : W.cell? ⟨w.heap.size + 1 + 1 + 1, 1, none⟩ = some (.int .i64 0) := by rw [hW]; go_simp
  have a8 : W.cell? ⟨w.heap.size + 1 + 1 + 1 + 1, 0, none⟩ = some (.float .f64 (h 0)) := by rw [hW, k0]; go_simp
  have a9 : W.cell? ⟨w.heap.size + 1 + 1 + 1 + 1, 1, none⟩ = some (.int .i64 0) := by rw [hW]; go_simp
  have az : ∀ k, W.frozen? ⟨w.heap.size + 1 + 1 + 1 + 1, k, none⟩ = false := fun k => by rw [hW]; go_simp
  have ay : ∀ k, W.frozen? ⟨w.heap.size + 1 + 1 + 1, k, none⟩ = false := fun k => by rw [hW]; go_simp
  go_enter Yba.func36, Yba.ntmps36
  go_wp2_with fail
  rw [← hW]
  have HBW := Hid.mk BW
  have HsW := Hid.mk sW
  clear hW BW sW
  go_loopw [14] (fun v wr => ∃ (k : Nat) (D o : Int), k ≤ d ∧ v = .int .i64 (k : Int) ∧ (-(k * 2 ^ 38 : Int) ≤ D ∧ D ≤ k * 2 ^ 38) ∧ (0 ≤ o ∧ o ≤ k) ∧ Kb (w.heap.size + 1 + 1 + 1 + 1) W wr ∧ wr.cell? ⟨w.heap.size + 1 + 1 + 1 + 1, 0, none⟩ = some (.float .f64 (h D)) ∧ wr.cell? ⟨w.heap.size + 1 + 1 + 1 + 1, 1, none⟩ = some (.int .i64 o) ∧ ∀ k, wr.frozen? ⟨w.heap.size + 1 + 1 + 1 + 1, k, none⟩ = false) (fun v _ => d - (intOf v).toNat)
  case atStart => exact ⟨0, 0, 0, by omega, rfl, ⟨by omega, by omega⟩, ⟨by omega, by omega⟩, Kb.refl _ _, a8, a9, az⟩
  case round =>
    obtain ⟨k, D, o, hk, rfl, hD, ho, hK, g0, g1, gz⟩ := hrel
    have HK := Hid.mk hK
    have s := HsW.out
    have f0 := (hK.cel (p := ⟨w.heap.size, 0, none⟩) (by simp; omega) (by simp; omega)).trans a0
    have f1 := (hK.cel (p := ⟨w.heap.size, 1, none⟩) (by simp; omega) (by simp; omega)).trans a1
    have f2 := (hK.cel (p := ⟨w.heap.size + 1, 0, none⟩) (by simp; omega) (by simp)).trans a2
    have f3 := (hK.cel (p := ⟨w.heap.size + 1, 1, none⟩) (by simp; omega) (by simp)).trans a3
    have f4 := (hK.cel (p := ⟨w.heap.size + 1 + 1, 0, none⟩) (by simp; omega) (by simp)).trans a4
    have f5 := (hK.cel (p := ⟨w.heap.size + 1 + 1, 1, none⟩) (by simp; omega) (by simp)).trans a5
    have f6 := (hK.cel (p := ⟨w.heap.size + 1 + 1 + 1, 0, none⟩) (by simp; omega) (by simp)).trans a6
    have f7 := (hK.cel (p := ⟨w.heap.size + 1 + 1 + 1, 1, none⟩) (by simp; omega) (by simp)).trans a7
    clear hK s
    have hyB := Hid.mk (show Below w.heap.size w wr from HK.out.bel HBW.out (by omega))
    by_cases hkd : k < d
    · have hk' : (k : Int) < (d : Int) := by omega
      have hk0 : (0 : Int) ≤ (k : Int) := by omega
      have e1 := (hyB.out.cell (p := ⟨b1, k, none⟩) y1).trans (q1 k hkd)
      have e2 := (hyB.out.cell (p := ⟨b2, k, none⟩) y2).trans (q2 k hkd)
      have e3 := (hyB.out.cell (p := ⟨b3, k, none⟩) y3).trans (q3 k hkd)
      have e4 := (hyB.out.cell (p := ⟨b4, k, none⟩) y4).trans (q4 k hkd)
      have e5 := (hyB.out.cell (p := ⟨b5, k, none⟩) y5).trans (q5 k hkd)
      have e6 := (hyB.out.cell (p := ⟨b6, k, none⟩) y6).trans (q6 k hkd)
      have CL : ∀ w', Calls Yba.prog 55 #[.float .f64 (h (zl k)), .float .f64 (h (zh k)), .float .f64 (h (pl k)), .float .f64 (h (ph k)), .float .f64 (h (tl k)), .float .f64 (h (th k))] w' fun r w'' => r = .returned (.tuple #[.float .f64 (h (gaV (zl k) (zh k) (pl k) (ph k) (tl k) (th k))), .bool (gaB (zl k) (zh k) (pl k) (ph k))]) ∧ w'' = w' := fun w' => gapac_any h K w' _ _ _ _ _ _ (r3 k hkd) (r4 k hkd) (r5 k hkd) (r6 k hkd) (r1 k hkd) (r2 k hkd)
      have hV := gaV_r (r3 k hkd) (r4 k hkd) (r5 k hkd) (r6 k hkd) (r1 k hkd) (r2 k hkd)
      generalize gaV (zl k) (zh k) (pl k) (ph k) (tl k) (th k) = V at *
      have ad := K.add (u := D) (v := V) (by unfold RG; omega) (by exact hV.rg)
      obtain ⟨hV1, hV2⟩ := hV
      clear q1 q2 q3 q4 q5 q6
      cases hBB : gaB (zl k) (zh k) (pl k) (ph k) <;> rw [hBB] at CL
      · go_wp2_with fail
        go_quiet (first | (go_at_call 55; refine Calls.quiet_of_same (CL _)))
        go_wp2_with fail
        go_roundw
        case rel => exact ⟨k + 1, D, o, by omega, by simp, ⟨by omega, by omega⟩, ⟨by omega, by omega⟩, HK.out.dn _, g0, g1, gz⟩
        case measure => simp only [intOf]; omega
      · go_wp2_with fail
        go_quiet (first | (go_at_call 55; refine Calls.quiet_of_same (CL _)))
        go_wp2_with fail
        go_roundw
        case rel => exact ⟨k + 1, D + V, o + 1, by omega, by simp, ⟨by omega, by omega⟩, ⟨by omega, by omega⟩, ((HK.out.dn _).set 0 _).set 1 _, by go_simp, by go_simp, fun j => by rw [World.frozen?_setCell, World.frozen?_setCell]; exact gz j⟩
        case measure => simp only [intOf]; omega
    · have hk' : ¬ (k : Int) < (d : Int) := by omega
      have fr : ∀ j, wr.frozen? ⟨w.heap.size + 1 + 1 + 1, j, none⟩ = false := fun j => (World.frozen?_of_block (w := W) (a := ⟨w.heap.size + 1 + 1 + 1, j, none⟩) (HK.out.block (w.heap.size + 1 + 1 + 1) (by have := HsW.out; omega) (by omega))).trans (ay j)
      go_wp2_with fail
      refine bodyPost_ret (res_gap (p := 6) rfl _ _ (w.heap.size + 1 + 1 + 1) (.float .f64 (h D)) (.int .i64 o) rfl (by go_simp) (by go_simp)) rfl ?_
      exact ⟨D, ⟨o, rfl⟩, by unfold RG; omega, (hyB.out.setCell (p := ⟨w.heap.size + 1 + 1 + 1, 0, none⟩) (by simp; omega) _).setCell (p := ⟨w.heap.size + 1 + 1 + 1, 1, none⟩) (by simp; omega) _⟩
end Go.Proofs.Ybulkdaxu
