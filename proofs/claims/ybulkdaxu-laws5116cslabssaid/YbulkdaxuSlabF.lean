import Derived.Test.YbulkdaxuSlabE
namespace Go.Proofs.Ybulkdaxu
open Go.RowKit
set_option linter.unusedSimpArgs false
set_option linter.unusedVariables false

/-- What Middle hands back. -/
def MID (h : Int → Nat) (c : Int) (w : World) (e : Ending) (w' : World) : Prop := ∃ b : Bool, e = .returned (.tuple #[.float .f64 (h c), .bool b]) ∧ Below w.heap.size w w'
set_option maxRecDepth 100000 in
set_option maxHeartbeats 2000000 in
theorem middle_any (h : Int → Nat) (K : FK h) (w : World) (d k : Nat) (l u : Value) (zl zu : Nat → Int) (c : Int) (hd2 : d ≤ 2) (hk : k < d) (L : HR h w l d zl) (U : HR h w u d zu) (r1 : R3 (zl k)) (r2 : R3 (zu k)) (hc : zu k - zl k = 2 * c) (hc0 : 0 ≤ c) :
    Calls Yba.prog 65 #[.agg #[l, u], .int .i64 k] w (MID h (zl k + c) w) := by
  obtain ⟨b1, c1, rfl, x1, y1, q1⟩ := L
  obtain ⟨b2, c2, rfl, x2, y2, q2⟩ := U
  have s1 := K.sub (u := zu k) (v := zl k) r2.rg r1.rg
  have s2 := K.half (u := zu k - zl k) (c := c) (by unfold RG; unfold R3 at *; omega) hc (by omega)
  have s3 := K.add (u := zl k) (v := c) r1.rg (by unfold RG; unfold R3 at *; omega)
  have o1 := K.lt (u := zl k) (v := zl k + c) r1.rg (by unfold RG; unfold R3 at *; omega)
  have o2 := K.lt (u := zl k + c) (v := zu k) (by unfold RG; unfold R3 at *; omega) r2.rg
  have e1 := q1 k hk
  have e2 := q2 k hk
  have hk0 : (0 : Int) ≤ (k : Int) := by omega
  have hk1 : (k : Int) < (d : Int) := by omega
  have B0 := (Below.refl w.heap.size w).alloc (Nat.le_refl _) (.cells #[.slice (some ⟨b1, 0, none⟩) d c1, .slice (some ⟨b2, 0, none⟩) d c2] 27)
  have f1 := (B0.cell (p := ⟨b1, k, none⟩) y1).trans e1
  have f2 := (B0.cell (p := ⟨b2, k, none⟩) y2).trans e2
  have t0 : (w.alloc (.cells #[.slice (some ⟨b1, 0, none⟩) d c1, .slice (some ⟨b2, 0, none⟩) d c2] 27)).cell? ⟨w.heap.size, 0, none⟩ = some (.slice (some ⟨b1, 0, none⟩) d c1) := by go_simp
  have t1 : (w.alloc (.cells #[.slice (some ⟨b1, 0, none⟩) d c1, .slice (some ⟨b2, 0, none⟩) d c2] 27)).cell? ⟨w.heap.size, 1, none⟩ = some (.slice (some ⟨b2, 0, none⟩) d c2) := by go_simp
  have HB := Hid.mk B0
  clear B0 q1 q2
  have pos : zl k < zl k + c ∨ c = 0 := by omega
  have hlt : 0 < c → zl k + c < zu k := by omega
  have Hc := Hid.mk hc
  clear hc
  go_enter Yba.func65, Yba.ntmps65
  go_wp2_with fail
  generalize (w.alloc (.cells #[.slice (some ⟨b1, 0, none⟩) d c1, .slice (some ⟨b2, 0, none⟩) d c2] 27)) = w1 at *
  by_cases h0 : 0 < c
  · rw [decide_eq_true (show zl k < zl k + c by omega)] at o1
    rw [decide_eq_true (hlt h0)] at o2
    clear hlt pos
    go_quiet (fail)
    go_wp2_with fail
    go_ret2
    exact ⟨true, rfl, Below.drewN HB.out _⟩
  · rw [decide_eq_false (show ¬ zl k < zl k + c by omega)] at o1
    clear hlt pos
    go_quiet (fail)
    go_wp2_with fail
    go_ret2
    exact ⟨false, rfl, Below.drewN HB.out _⟩

set_option maxRecDepth 100000 in
set_option maxHeartbeats 2000000 in
theorem dimsh_any (h : Int → Nat) (w : World) (d : Nat) (l u : Value) (zl : Nat → Int) (L : HR h w l d zl) : Calls Yba.prog 39 #[.agg #[l, u]] w fun e w' => e = .returned (.int .i64 d) ∧ Below w.heap.size w w' := by
  obtain ⟨b1, c1, rfl, x1, y1, q1⟩ := L
  have B0 := (Below.refl w.heap.size w).alloc (Nat.le_refl _) (.cells #[.slice (some ⟨b1, 0, none⟩) d c1, u] 27)
  have HB := Hid.mk B0
  clear B0 q1
  go_enter Yba.func39, Yba.ntmps39
  go_wp2_with fail
  go_ret
  exact ⟨rfl, HB.out⟩

/-- A row of the call's own. -/
def HN (h : Int → Nat) (w : World) (b d : Nat) (z : Nat → Int) : Prop := b < w.heap.size ∧ (∀ k, k < d → w.cell? ⟨b, k, none⟩ = some (.float .f64 (h (z k)))) ∧ ∀ k, w.frozen? ⟨b, k, none⟩ = false
theorem HN.below {h : Int → Nat} {w w' : World} {b d : Nat} {z : Nat → Int} (H : HN h w b d z) (hb : Below w.heap.size w w') : HN h w' b d z :=
  ⟨Nat.lt_of_lt_of_le H.1 hb.size, fun k hk => (hb.cell (p := ⟨b, k, none⟩) H.1).trans (H.2.1 k hk), fun k => (hb.frozen (p := ⟨b, k, none⟩) H.1).trans (H.2.2 k)⟩
theorem HN.put {h : Int → Nat} {w : World} {b d k : Nat} {z : Nat → Int} (H : HN h w b d z) (hk : k < d) (a : Int) : HN h (w.setCell ⟨b, k, none⟩ (.float .f64 (h a))) b d (up z k a) := by
  have c1 := H.2.1 k hk
  refine ⟨by simpa using H.1, fun j hj => ?_, fun j => by rw [World.frozen?_setCell]; exact H.2.2 j⟩
  unfold up
  by_cases e : j = k
  · subst e
    simp only [if_true]
    exact World.cell?_setCell_same' _ _ _ (by rw [c1]; rfl)
  · simp only [if_neg e]
    rw [World.cell?_setCell_other w _ (a := ⟨b, k, none⟩) (b := ⟨b, j, none⟩) (by intro he; cases he; exact e rfl)]
    exact H.2.1 j hj
theorem HN.hr {h : Int → Nat} {w : World} {b d c : Nat} {z : Nat → Int} (H : HN h w b d z) (hc : d ≤ c) : HR h w (.slice (some ⟨b, 0, none⟩) d c) d z := ⟨b, c, rfl, hc, H.1, H.2.1⟩

theorem zf_hn {h : Int → Nat} (K : FK h) (w : World) (n : Nat) : HN h (w.alloc (.cells (ZF n).toArray 31)) w.heap.size n (fun _ => 0) := by
  have hg := heap_alloc_new w (.cells (ZF n).toArray 31)
  refine ⟨by simp, fun k hk => ?_, fun k => ?_⟩
  · have := zf_get n k hk
    simp only [World.cell?, hg, K.c0]
    simpa using this
  · simp only [World.frozen?, hg]
    simp
set_option maxRecDepth 100000 in
set_option maxHeartbeats 4000000 in
theorem centre_any (h : Int → Nat) (K : FK h) (w : World) (d : Nat) (l u : Value) (zl zu cc : Nat → Int) (hd2 : d ≤ 2) (L : HR h w l d zl) (U : HR h w u d zu) (r1 : ∀ k, k < d → R3 (zl k)) (r2 : ∀ k, k < d → R3 (zu k)) (hc : ∀ k, k < d → zu k - zl k = 2 * cc k ∧ 0 ≤ cc k) :
    Calls Yba.prog 53 #[.agg #[l, u]] w fun e w' => ∃ b, e = .returned (.slice (some ⟨b, 0, none⟩) d d) ∧ w.heap.size ≤ b ∧ HN h w' b d (fun k => zl k + cc k) ∧ Below w.heap.size w w' := by
  have m24 := mk24 d (by omega)
  have B0 := (Below.refl w.heap.size w).alloc (Nat.le_refl _) (.cells #[l, u] 27)
  have t0 : (w.alloc (.cells #[l, u] 27)).cell? ⟨w.heap.size, 0, none⟩ = some l := by go_simp
  have t1 : (w.alloc (.cells #[l, u] 27)).cell? ⟨w.heap.size, 1, none⟩ = some u := by go_simp
  have s1 : (w.alloc (.cells #[l, u] 27)).heap.size = w.heap.size + 1 := by simp
  go_enter Yba.func53, Yba.ntmps53
  go_wp2_with fail
  generalize (w.alloc (.cells #[l, u] 27)) = w1 at *
  refine (dimsh_any h w1 d l u zl (L.below B0)).mono ?_
  rintro e w2 ⟨rfl, B1⟩
  have B2 : Below w.heap.size w w2 := B0.trans (B1.mono (by omega))
  have HB2 := Hid.mk B2
  have f0 := (B1.cell (p := ⟨w.heap.size, 0, none⟩) (by simp; omega)).trans t0
  have f1 := (B1.cell (p := ⟨w.heap.size, 1, none⟩) (by simp; omega)).trans t1
  have hs2 : w.heap.size + 1 ≤ w2.heap.size := by have := B1.size; omega
  have HL := Hid.mk (L.below B2)
  have HU := Hid.mk (U.below B2)
  have Z0 := Hid.mk (zf_hn K w2 d)
  have BZ := Hid.mk ((Below.refl w2.heap.size w2).alloc (Nat.le_refl _) (.cells (ZF d).toArray 31))
  have HC := Hid.mk hc
  clear B0 B1 B2 t0 t1 s1 L U hc
  dsimp only
  go_wp2_with fail
  go_loopw [10] (fun v wr => ∃ k : Nat, k ≤ d ∧ v = .int .i64 (k : Int) ∧ Below w2.heap.size w2 wr ∧ HN h wr w2.heap.size d (pre (fun k => zl k + cc k) k)) (fun v _ => d - (intOf v).toNat)
  case atStart =>
    refine ⟨0, by omega, rfl, BZ.out, ?_⟩
    rw [pre_zero]; exact Z0.out
  case round =>
    obtain ⟨k, hk, rfl, hB, hN⟩ := hrel
    have HBr := Hid.mk hB
    have HN0 := Hid.mk hN
    have g0 := (hB.cell (p := ⟨w.heap.size, 0, none⟩) (by simp; omega)).trans f0
    have g1 := (hB.cell (p := ⟨w.heap.size, 1, none⟩) (by simp; omega)).trans f1
    clear hB hN
    by_cases hkd : k < d
    · have hk' : (k : Int) < (d : Int) := by omega
      have hk0 : (0 : Int) ≤ (k : Int) := by omega
      go_wp2_with fail
      refine (middle_any h K wr d k l u zl zu (cc k) hd2 hkd (HL.out.below HBr.out) (HU.out.below HBr.out) (r1 k hkd) (r2 k hkd) (HC.out k hkd).1 (HC.out k hkd).2).mono ?_
      rintro e w3 ⟨b, rfl, B3⟩
      have HB3 := Hid.mk (HBr.out.trans (B3.mono HBr.out.size))
      have hN3 := HN0.out.below B3
      have HN3 := Hid.mk hN3
      have c3 := hN3.2.1 k hkd
      have z3 := hN3.2.2
      clear hN3 B3
      dsimp only
      go_wp2_with fail
      go_roundw
      case rel =>
        have K2 := HN3.out.put hkd (zl k + cc k)
        rw [pre_succ (fun k => zl k + cc k) k] at K2
        exact ⟨k + 1, by omega, by simp, HB3.out.setCell (p := ⟨w2.heap.size, k, none⟩) (Nat.le_refl _) _, K2⟩
      case measure => simp only [intOf]; omega
    · have hk' : ¬ (k : Int) < (d : Int) := by omega
      have HF : Hid (HN h wr w2.heap.size d (fun k => zl k + cc k)) := ⟨⟨HN0.out.1, fun j hj => by have := HN0.out.2.1 j hj; unfold pre at this; rw [if_pos (by omega)] at this; exact this, HN0.out.2.2⟩⟩
      go_wp2_with fail
      go_ret
      exact ⟨w2.heap.size, rfl, by omega, HF.out, HB2.out.trans (HBr.out.mono (by omega))⟩

set_option maxRecDepth 100000 in
set_option maxHeartbeats 4000000 in
theorem mark_any (h : Int → Nat) (K : FK h) (w : World) (d : Nat) (l u : Value) (zl zu cc : Nat → Int) (hd2 : d ≤ 2) (L : HR h w l d zl) (U : HR h w u d zu) (r1 : ∀ k, k < d → R3 (zl k)) (r2 : ∀ k, k < d → R3 (zu k)) (hc : ∀ k, k < d → zu k - zl k = 2 * cc k ∧ 0 < cc k) :
    Calls Yba.prog 33 #[.agg #[l, u]] w fun e w' => ∃ b, e = .returned (.slice (some ⟨b, 0, none⟩) d d) ∧ HN h w' b d (fun k => zl k + cc k) ∧ Below w.heap.size w w' := by
  obtain ⟨b2, c2, rfl, x2, y2, q2⟩ := U
  have B0 := (Below.refl w.heap.size w).alloc (Nat.le_refl _) (.cells #[l, .slice (some ⟨b2, 0, none⟩) d c2] 27)
  have t1 : (w.alloc (.cells #[l, .slice (some ⟨b2, 0, none⟩) d c2] 27)).cell? ⟨w.heap.size, 1, none⟩ = some (.slice (some ⟨b2, 0, none⟩) d c2) := by go_simp
  have s1 : (w.alloc (.cells #[l, .slice (some ⟨b2, 0, none⟩) d c2] 27)).heap.size = w.heap.size + 1 := by simp
  have U' : HR h w (.slice (some ⟨b2, 0, none⟩) d c2) d zu := ⟨b2, c2, rfl, x2, y2, q2⟩
  go_enter Yba.func33, Yba.ntmps33
  go_wp2_with fail
  generalize (w.alloc (.cells #[l, .slice (some ⟨b2, 0, none⟩) d c2] 27)) = w1 at *
  refine (centre_any h K w1 d l _ zl zu cc hd2 (L.below B0) (U'.below B0) r1 r2 (fun k hk => ⟨(hc k hk).1, by have := (hc k hk).2; omega⟩)).mono ?_
  rintro e w2 ⟨b, rfl, hb, hN, B1⟩
  have HB2 := Hid.mk (B0.trans (B1.mono (by omega)))
  have HNN := Hid.mk hN
  have f1 := (B1.cell (p := ⟨w.heap.size, 1, none⟩) (by simp; omega)).trans t1
  have HC := Hid.mk hc
  have hs2 : w.heap.size < w2.heap.size := by have := B1.size; omega
  clear B0 B1 t1 s1 L U' hN hc hb
  dsimp only
  go_wp2_with fail
  go_loopw [9] (fun v wr => ∃ k q : Nat, k ≤ d ∧ v = .int .i64 (k : Int) ∧ Below w2.heap.size w2 wr) (fun v _ => d - (intOf v).toNat)
  case atStart => exact ⟨0, 0, by omega, rfl, Below.refl _ _⟩
  case round =>
    obtain ⟨k, q, hk, rfl, hB⟩ := hrel
    have HBr := Hid.mk hB
    have hN2 := HNN.out.below hB
    have g1 := (hB.cell (p := ⟨w.heap.size, 1, none⟩) (by simp; omega)).trans f1
    clear hB
    by_cases hkd : k < d
    · have hk' : (k : Int) < (d : Int) := by omega
      have hk0 : (0 : Int) ≤ (k : Int) := by omega
      have c1 := hN2.2.1 k hkd
      have e2 := (HB2.out.cell (p := ⟨b2, k, none⟩) y2).trans (q2 k hkd)
      have e3 := (HBr.out.cell (p := ⟨b2, k, none⟩) (by have := HB2.out.size; simp; omega)).trans e2
      have hck := HC.out k hkd
      have ra := r1 k hkd
      have rb := r2 k hkd
      have o1 := K.ge (u := zl k + cc k) (v := zu k) (by unfold RG; unfold R3 at *; omega) rb.rg
      rw [decide_eq_false (show ¬ zu k ≤ zl k + cc k by omega)] at o1
      clear hN2 e2 hck ra rb
      go_wp2_with fail
      go_quiet (fail)
      go_wp2_with fail
      go_roundw
      case rel => exact ⟨k + 1, 0, by omega, by simp, Below.drewN HBr.out _⟩
      case measure => simp only [intOf]; omega
    · have hk' : ¬ (k : Int) < (d : Int) := by omega
      have HF := Hid.mk hN2
      clear hN2
      go_wp2_with fail
      go_ret
      exact ⟨b, rfl, HF.out, HB2.out.trans (HBr.out.mono HB2.out.size)⟩
end Go.Proofs.Ybulkdaxu
