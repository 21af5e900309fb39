import Derived.Test.YbulkdaxuUnfold
namespace Go.Proofs.Ybulkdaxu
open Go.RowKit
set_option linter.unusedSimpArgs false
set_option linter.unusedVariables false

/-- What the walk knows of a slice of integers that came in. -/
def Arr (k : IntKind) (w : World) (a : Option Addr) (len : Nat) (z : Nat → Int) : Prop :=
  len = 0 ∨ ∃ b off, a = some ⟨b, off, none⟩ ∧ b < w.heap.size ∧ ∀ j, j < len → w.cell? ⟨b, off + j, none⟩ = some (.int k (z j))
theorem Arr.below {k : IntKind} {w0 w : World} {a : Option Addr} {len : Nat} {z : Nat → Int} (h : Arr k w0 a len z) (hb : Below w0.heap.size w0 w) : Arr k w a len z := by
  rcases h with h | ⟨b, off, h1, h2, h3⟩
  · exact .inl h
  · exact .inr ⟨b, off, h1, Nat.lt_of_lt_of_le h2 hb.size, fun j hj => (hb.cell (p := ⟨b, off + j, none⟩) h2).trans (h3 j hj)⟩

theorem fx_int (n : Int) (h0 : 0 ≤ n) (h1 : n < 2 ^ 7) : floatOfInt .f64 n = fx (n * 2 ^ 45) := by
  have e : floatOfInt .f64 n = Ieee.double.nearest (decide (n < 0)) n.natAbs 0 := rfl
  rw [e]
  by_cases hz : n = 0
  · subst hz; decide
  · have : decide (n < 0) = decide (n * 2 ^ 45 < 0) := by
      rw [decide_eq_false (by omega), decide_eq_false (by omega)]
    rw [this]
    refine nearest_fx (Ex.of_lt (by omega)) (by omega) ⟨45, 0, by omega, ?_⟩
    rw [Nat.pow_zero, Nat.mul_one]
    omega

/-- The point that zzs5116bpoint makes. -/
def pt (len : Nat) (z : Nat → Int) (k : Nat) : Int := if len = 0 then 0 else (z (k % len) % 16) * 2 ^ 45
theorem pt_bd (len : Nat) (z : Nat → Int) (k : Nat) : 0 ≤ pt len z k ∧ pt len z k ≤ 15 * 2 ^ 45 := by
  unfold pt; split <;> omega

set_option maxRecDepth 100000 in
set_option maxHeartbeats 1000000 in
theorem point_any (w : World) (a : Option Addr) (len cap d : Nat) (z : Nat → Int) (h : Arr .u32 w a len z) (hz : ∀ j, 0 ≤ z j ∧ z j ≤ 4294967295) (hd : d ≤ 3) :
    Calls Yba.prog 6 #[.slice a len cap, .int .i64 d] w fun e w' => ∃ v, e = .returned v ∧ Below w.heap.size w w' ∧ FR w' v d (pt len z) := by
  have m24 := mk24 d (by omega)
  have zz := zf_fn w d
  go_enter Yba.func6, Yba.ntmps6
  go_wp2_with fail
  go_loopw [6] (fun v wr => ∃ k : Nat, k ≤ d ∧ v = .int .i64 (k : Int) ∧ Below w.heap.size w wr ∧ FN w.heap.size wr (.slice (some ⟨w.heap.size, 0, none⟩) d d) d (pre (pt len z) k)) (fun v _ => d - (intOf v).toNat)
  case atStart =>
    refine ⟨0, by omega, rfl, (Below.refl _ _).alloc (Nat.le_refl _) _, ?_⟩
    rw [pre_zero]; exact zz
  case round =>
    obtain ⟨k, hk, rfl, hB, hN⟩ := hrel
    have HN := Hid.mk hN
    obtain ⟨n1, n2, n3⟩ := hN.cells
    clear zz hN
    by_cases hkd : k < d
    · have hk0 : (0 : Int) ≤ (k : Int) := by omega
      have hk1 : (k : Int) < (d : Int) := by omega
      have f6 := n1 k hkd
      by_cases hl : len = 0
      · subst hl
        have e0 : pt 0 z k = 0 := by simp [pt]
        have hu : up (pre (pt 0 z) k) k (pt 0 z k) = pre (pt 0 z) (k + 1) := pre_succ _ _
        have hs : pre (pt 0 z) (k + 1) = pre (pt 0 z) k := by
          rw [← hu]; funext i; unfold up
          split
          · rename_i e; subst e; rw [e0]; simp [pre]
          · rfl
        have HS := Hid.mk hs
        clear hu hs e0
        go_wp2_with fail
        go_roundw
        case rel => exact ⟨k + 1, by omega, by simp, hB, by rw [HS.out]; exact HN.out⟩
        case measure => simp only [intOf]; omega
      · obtain ⟨b, off, rfl, hb, hc⟩ : ∃ b off, a = some ⟨b, off, none⟩ ∧ b < wr.heap.size ∧ ∀ j, j < len → wr.cell? ⟨b, off + j, none⟩ = some (.int .u32 (z j)) := by
          rcases h.below hB with h | h
          · omega
          · exact h
        have hkl : k % len < len := Nat.mod_lt _ (by omega)
        have c1 := hc (k % len) hkl
        have hzb := hz (k % len)
        have hmod : (k : Int) % (len : Int) = ((k % len : Nat) : Int) := by omega
        have hl0 : ¬ (len : Int) = 0 := by omega
        have hlp : (0 : Int) < (len : Int) := by omega
        have hcv := fx_int (z (k % len) % 16) (by omega) (by omega)
        have Hpt : Hid (pt len z k = z (k % len) % 16 * 2 ^ 45) := ⟨by unfold pt; rw [if_neg hl]⟩
        have hi5 : ((k % len : Nat) : Int) < (len : Int) := by omega
        generalize k % len = kk at *
        clear hc
        go_wp2_with fail
        go_roundw
        case rel =>
          have K := HN.out.put hkd (pt len z k)
          rw [pre_succ (pt len z) k] at K
          have e : fx (pt len z k) = fx (z kk % 16 * 2 ^ 45) := by rw [Hpt.out]
          rw [e] at K
          exact ⟨k + 1, by omega, by simp, hB.setCell (p := ⟨w.heap.size, k, none⟩) (Nat.le_refl _) _, K⟩
        case measure => simp only [intOf]; omega
    · have hi1 : ¬ (k : Int) < (d : Int) := by omega
      have HF : Hid (FR wr (.slice (some ⟨w.heap.size, 0, none⟩) d d) d (pt len z)) := ⟨HN.out.fr.cast (fun j hj => by unfold pre; rw [if_pos (by omega)])⟩
      go_wp2_with fail
      go_ret
      exact ⟨_, rfl, hB, HF.out⟩

theorem fx16 : fx (2 ^ 49) = 4625196817309499392 := by decide
theorem fx1 : fx (2 ^ 45) = 4607182418800017408 := by decide

set_option maxRecDepth 100000 in
set_option maxHeartbeats 1000000 in
theorem space_any (w : World) (d : Nat) (hd : d ≤ 3) :
    Calls Yba.prog 7 #[.int .i64 d] w fun e w' => ∃ v1 v2, e = .returned (.agg #[v1, v2]) ∧ Below w.heap.size w w' ∧ FR w' v1 d (fun _ => 0) ∧ FR w' v2 d (fun _ => 2 ^ 49) := by
  have m23 := mk23 d (by omega)
  have z1 := zf_fn (w.alloc (Obj.cells #[Value.slice none 0 0, Value.slice none 0 0] 27)) d
  have z2 := zf_fn ((w.alloc (Obj.cells #[Value.slice none 0 0, Value.slice none 0 0] 27)).alloc (.cells (ZF d).toArray 31)) d
  simp only [World.size_alloc] at z1 z2
  have Z1 := Hid.mk z1
  have Z2 := Hid.mk z2
  clear z1 z2
  go_enter Yba.func7, Yba.ntmps7
  go_wp2_with fail
  go_loopw [5] (fun v wr => ∃ k : Nat, k ≤ d ∧ v = .int .i64 (k : Int) ∧ Below w.heap.size w wr ∧ wr.cell? ⟨w.heap.size, 0, none⟩ = some (.slice none 0 0) ∧ wr.cell? ⟨w.heap.size, 1, none⟩ = some (.slice none 0 0) ∧ (∀ i, wr.frozen? ⟨w.heap.size, i, none⟩ = false) ∧ FN (w.heap.size + 1) wr (.slice (some ⟨w.heap.size + 1, 0, none⟩) d d) d (fun _ => 0) ∧ FN (w.heap.size + 1 + 1) wr (.slice (some ⟨w.heap.size + 1 + 1, 0, none⟩) d d) d (pre (fun _ => 2 ^ 49) k)) (fun v _ => d - (intOf v).toNat)
  case atStart =>
    refine ⟨0, by omega, rfl, (((Below.refl _ _).alloc (Nat.le_refl _) _).alloc (by simp) _).alloc (by simp; omega) _, by go_simp, by go_simp, by intro i; go_simp, ?_, ?_⟩
    · exact Z1.out.below ((Below.refl _ _).alloc (Nat.le_refl _) _)
    · rw [pre_zero]; exact Z2.out
  case round =>
    obtain ⟨k, hk, rfl, hB, c0, c1, cf, hN0, hN⟩ := hrel
    have HN := Hid.mk hN
    have HN0 := Hid.mk hN0
    obtain ⟨n1, n2, n3⟩ := hN.cells
    clear hN hN0
    by_cases hkd : k < d
    · have hk0 : (0 : Int) ≤ (k : Int) := by omega
      have hk1 : (k : Int) < (d : Int) := by omega
      have f6 := n1 k hkd
      go_wp2_with fail
      go_roundw
      case rel =>
        have K := HN.out.put hkd (2 ^ 49)
        rw [pre_succ (fun _ => 2 ^ 49) k, fx16] at K
        refine ⟨k + 1, by omega, by simp, hB.setCell (p := ⟨w.heap.size + 1 + 1, k, none⟩) (by simp; omega) _, ?_, ?_, fun i => by rw [World.frozen?_setCell]; exact cf i, HN0.out.other (p := ⟨w.heap.size + 1 + 1, k, none⟩) (by simp) _, K⟩
        · rw [World.cell?_setCell_other _ _ (a := ⟨w.heap.size + 1 + 1, k, none⟩) (b := ⟨w.heap.size, 0, none⟩) (by intro e; injection e with e; omega)]; exact c0
        · rw [World.cell?_setCell_other _ _ (a := ⟨w.heap.size + 1 + 1, k, none⟩) (b := ⟨w.heap.size, 1, none⟩) (by intro e; injection e with e; omega)]; exact c1
      case measure => simp only [intOf]; omega
    · have hi1 : ¬ (k : Int) < (d : Int) := by omega
      have HF : Hid (FR wr (.slice (some ⟨w.heap.size + 1 + 1, 0, none⟩) d d) d (fun _ => 2 ^ 49)) := ⟨HN.out.fr.cast (fun j hj => by unfold pre; rw [if_pos (by omega)])⟩
      go_wp2_with fail
      generalize h5 : (wr.setCell { block := w.heap.size, off := 0 } (Value.slice (some { block := w.heap.size + 1, off := 0 }) d d)).setCell { block := w.heap.size, off := 1 } (Value.slice (some { block := w.heap.size + 1 + 1, off := 0 }) d d) = w5
      have T5 := set2 h5 c0 c1
      refine bodyPost_ret (res_box rfl _ _ w.heap.size _ _ rfl T5.c0 T5.c1) rfl ?_
      have K5 : KeepF wr w5 := by rw [← h5]; exact ((KeepF.refl _).setCell (by intro u; rw [c0]; simp) _).setCell (by intro u; rw [World.cell?_setCell_other _ _ (a := ⟨w.heap.size, 0, none⟩) (b := ⟨w.heap.size, 1, none⟩) (by simp), c1]; simp) _
      exact ⟨_, _, rfl, T5.bel (Nat.le_refl _) hB, HN0.out.fr.keep K5, HF.out.keep K5⟩

set_option maxRecDepth 100000 in
set_option maxHeartbeats 1000000 in
theorem zone_any (w : World) (zv : Value) (d : Nat) (z : Nat → Int) (h : FR w zv d z) (hz : ∀ k, k < d → 0 ≤ z k ∧ z k ≤ 2 ^ 50) (hd : d ≤ 3) :
    Calls Yba.prog 8 #[zv] w fun e w' => ∃ v1 v2, e = .returned (.agg #[v1, v2]) ∧ Below w.heap.size w w' ∧ FR w' v1 d z ∧ FR w' v2 d (fun k => z k + 2 ^ 45) := by
  obtain ⟨bz, cz, rfl, q1, q2, q3⟩ := h
  have m23 := mk23 d (by omega)
  have z1 := zf_fn (w.alloc (Obj.cells #[Value.slice none 0 0, Value.slice none 0 0] 27)) d
  have z2 := zf_fn ((w.alloc (Obj.cells #[Value.slice none 0 0, Value.slice none 0 0] 27)).alloc (.cells (ZF d).toArray 31)) d
  simp only [World.size_alloc] at z1 z2
  have Z1 := Hid.mk z1
  have Z2 := Hid.mk z2
  clear z1 z2
  go_enter Yba.func8, Yba.ntmps8
  go_wp2_with fail
  go_loopw [5] (fun v wr => ∃ k : Nat, k ≤ d ∧ v = .int .i64 (k : Int) ∧ Below w.heap.size w wr ∧ wr.cell? ⟨w.heap.size, 0, none⟩ = some (.slice none 0 0) ∧ wr.cell? ⟨w.heap.size, 1, none⟩ = some (.slice none 0 0) ∧ (∀ i, wr.frozen? ⟨w.heap.size, i, none⟩ = false) ∧ FN (w.heap.size + 1) wr (.slice (some ⟨w.heap.size + 1, 0, none⟩) d d) d (pre z k) ∧ FN (w.heap.size + 1 + 1) wr (.slice (some ⟨w.heap.size + 1 + 1, 0, none⟩) d d) d (pre (fun k => z k + 2 ^ 45) k)) (fun v _ => d - (intOf v).toNat)
  case atStart =>
    refine ⟨0, by omega, rfl, (((Below.refl _ _).alloc (Nat.le_refl _) _).alloc (by simp) _).alloc (by simp; omega) _, by go_simp, by go_simp, by intro i; go_simp, ?_, ?_⟩
    · rw [pre_zero]; exact Z1.out.below ((Below.refl _ _).alloc (Nat.le_refl _) _)
    · rw [pre_zero]; exact Z2.out
  case round =>
    obtain ⟨k, hk, rfl, hB, c0, c1, cf, hN0, hN⟩ := hrel
    have HN := Hid.mk hN
    have HN0 := Hid.mk hN0
    obtain ⟨n1, n2, n3⟩ := hN.cells
    obtain ⟨m1, m2, m3⟩ := hN0.cells
    clear hN hN0
    by_cases hkd : k < d
    · have hk0 : (0 : Int) ≤ (k : Int) := by omega
      have hk1 : (k : Int) < (d : Int) := by omega
      have f6 := n1 k hkd
      have f7 := m1 k hkd
      have f8 := (hB.cell (p := ⟨bz, k, none⟩) q2).trans (q3 k hkd)
      have hzk := hz k hkd
      have fa := fadd (a := z k) (b := 2 ^ 45) ⟨by omega, by omega⟩ ⟨by decide, by decide⟩ ⟨by omega, by omega⟩ _ rfl
      rw [fx1] at fa
      have ne1 : bz ≠ w.heap.size + 1 := by omega
      have ne2 : ¬ w.heap.size + 1 = bz := by omega
      go_wp2_with fail
      go_roundw
      case rel =>
        have K0 := (HN0.out.put hkd (z k)).other (p := ⟨w.heap.size + 1 + 1, k, none⟩) (by simp) (.float .f64 (fx (z k + 2 ^ 45)))
        have K := (HN.out.other (p := ⟨w.heap.size + 1, k, none⟩) (by simp) (.float .f64 (fx (z k)))).put hkd (z k + 2 ^ 45)
        rw [pre_succ z k] at K0
        rw [pre_succ (fun k => z k + 2 ^ 45) k] at K
        refine ⟨k + 1, by omega, by simp, (hB.setCell (p := ⟨w.heap.size + 1, k, none⟩) (by simp) _).setCell (p := ⟨w.heap.size + 1 + 1, k, none⟩) (by simp; omega) _, ?_, ?_, fun i => by rw [World.frozen?_setCell, World.frozen?_setCell]; exact cf i, K0, K⟩
        · rw [World.cell?_setCell_other _ _ (a := ⟨w.heap.size + 1 + 1, k, none⟩) (b := ⟨w.heap.size, 0, none⟩) (by intro e; injection e with e; omega), World.cell?_setCell_other _ _ (a := ⟨w.heap.size + 1, k, none⟩) (b := ⟨w.heap.size, 0, none⟩) (by intro e; injection e with e; omega)]; exact c0
        · rw [World.cell?_setCell_other _ _ (a := ⟨w.heap.size + 1 + 1, k, none⟩) (b := ⟨w.heap.size, 1, none⟩) (by intro e; injection e with e; omega), World.cell?_setCell_other _ _ (a := ⟨w.heap.size + 1, k, none⟩) (b := ⟨w.heap.size, 1, none⟩) (by intro e; injection e with e; omega)]; exact c1
      case measure => simp only [intOf]; omega
    · have hi1 : ¬ (k : Int) < (d : Int) := by omega
      have HF0 : Hid (FR wr (.slice (some ⟨w.heap.size + 1, 0, none⟩) d d) d z) := ⟨HN0.out.fr.cast (fun j hj => by unfold pre; rw [if_pos (by omega)])⟩
      have HF : Hid (FR wr (.slice (some ⟨w.heap.size + 1 + 1, 0, none⟩) d d) d (fun k => z k + 2 ^ 45)) := ⟨HN.out.fr.cast (fun j hj => by unfold pre; rw [if_pos (by omega)])⟩
      go_wp2_with fail
      generalize h5 : (wr.setCell { block := w.heap.size, off := 0 } (Value.slice (some { block := w.heap.size + 1, off := 0 }) d d)).setCell { block := w.heap.size, off := 1 } (Value.slice (some { block := w.heap.size + 1 + 1, off := 0 }) d d) = w5
      have T5 := set2 h5 c0 c1
      refine bodyPost_ret (res_box rfl _ _ w.heap.size _ _ rfl T5.c0 T5.c1) rfl ?_
      have K5 : KeepF wr w5 := by rw [← h5]; exact ((KeepF.refl _).setCell (by intro u; rw [c0]; simp) _).setCell (by intro u; rw [World.cell?_setCell_other _ _ (a := ⟨w.heap.size, 0, none⟩) (b := ⟨w.heap.size, 1, none⟩) (by simp), c1]; simp) _
      exact ⟨_, _, rfl, T5.bel (Nat.le_refl _) hB, HF0.out.keep K5, HF.out.keep K5⟩
end Go.Proofs.Ybulkdaxu
