import Derived.Test.YbulkdaxuSlabA
namespace Go.Proofs.Ybulkdaxu
open Go.RowKit
set_option linter.unusedSimpArgs false
set_option linter.unusedVariables false

/-- A row of doubles. -/
def HR (h : Int → Nat) (w : World) (v : Value) (d : Nat) (z : Nat → Int) : Prop :=
  ∃ b c, v = .slice (some ⟨b, 0, none⟩) d c ∧ d ≤ c ∧ b < w.heap.size ∧ ∀ k, k < d → w.cell? ⟨b, k, none⟩ = some (.float .f64 (h (z k)))
theorem HR.below {h : Int → Nat} {w w' : World} {v : Value} {d : Nat} {z : Nat → Int} (H : HR h w v d z) (hb : Below w.heap.size w w') : HR h w' v d z := by
  obtain ⟨b, c, rfl, h1, h2, h3⟩ := H
  exact ⟨b, c, rfl, h1, Nat.lt_of_lt_of_le h2 hb.size, fun k hk => (hb.cell (p := ⟨b, k, none⟩) h2).trans (h3 k hk)⟩
theorem HR.open {h : Int → Nat} {w : World} {b d d' c : Nat} {z : Nat → Int} (H : HR h w (.slice (some ⟨b, 0, none⟩) d' c) d z) : d ≤ c ∧ b < w.heap.size ∧ ∀ k, k < d → w.cell? ⟨b, k, none⟩ = some (.float .f64 (h (z k))) := by
  obtain ⟨b', c', e, h1, h2, h3⟩ := H
  cases e
  exact ⟨h1, h2, h3⟩
def bl (lo : Int) : Nat → Int := fun k => if k = 0 then lo else 0
def bu (hi : Int) : Nat → Int := fun k => if k = 0 then hi else 8
theorem rg_bl {lo : Int} (h : RG lo) (k : Nat) : RG (bl lo k) := by
  unfold bl; split
  · exact h
  · exact ⟨by decide, by decide⟩
theorem rg_bu {hi : Int} (h : RG hi) (k : Nat) : RG (bu hi k) := by
  unfold bu; split
  · exact h
  · exact ⟨by decide, by decide⟩
/-- The corners of a box [lo, hi) of this law. -/
def CO (h : Int → Nat) (w : World) (d : Nat) (l u : Value) (lo hi : Int) : Prop := HR h w l d (bl lo) ∧ HR h w u d (bu hi) ∧ RG lo ∧ RG hi
theorem CO.below {h : Int → Nat} {w w' : World} {d : Nat} {l u : Value} {lo hi : Int} (H : CO h w d l u lo hi) (hb : Below w.heap.size w w') : CO h w' d l u lo hi := ⟨H.1.below hb, H.2.1.below hb, H.2.2⟩

set_option maxHeartbeats 1000000 in
theorem across_lt (h : Int → Nat) (K : FK h) (w : World) (a b c e : Int) (ha : RG a) (hb : RG b) (hc : RG c) (he : RG e) :
    Calls Yba.prog 30 #[.float .f64 (h a), .float .f64 (h b), .float .f64 (h c), .float .f64 (h e)] w fun r w' => r = .returned (.bool (decide (max a c < min b e))) ∧ w' = w := by
  have m1 := K.mx ha hc
  have m2 := K.mn hb he
  have o1 := K.lt (u := max a c) (v := min b e) (by unfold RG at *; omega) (by unfold RG at *; omega)
  generalize max a c = p at *
  generalize min b e = q at *
  generalize decide (p < q) = r at *
  go_enter Yba.func30, Yba.ntmps30
  go_wp2_with fail
  go_ret
  exact ⟨rfl, rfl⟩

/-- Two boxes meet. -/
def mt (a b c e : Int) : Bool := decide (max a c < min b e)
theorem mt_up (k : Nat) (a b c e : Int) (h0 : k ≠ 0) : decide (max (bl a k) (bl c k) < min (bu b k) (bu e k)) = true := by
  unfold bl bu; rw [if_neg h0, if_neg h0, if_neg h0, if_neg h0]; decide
theorem mt_0 (a b c e : Int) : decide (max (bl a 0) (bl c 0) < min (bu b 0) (bu e 0)) = mt a b c e := rfl
set_option maxRecDepth 100000 in
set_option maxHeartbeats 2000000 in
theorem meets_any (h : Int → Nat) (K : FK h) (w : World) (d : Nat) (l1 u1 l2 u2 : Value) (a b c e : Int) (hd : 0 < d) (hd2 : d ≤ 2) (H1 : CO h w d l1 u1 a b) (H2 : CO h w d l2 u2 c e) :
    Calls Yba.prog 19 #[.agg #[l1, u1], .agg #[l2, u2]] w fun r w' => r = .returned (.bool (mt a b c e)) ∧ Below w.heap.size w w' := by
  obtain ⟨A1, A2, A3, A4⟩ := H1
  obtain ⟨C1, C2, C3, C4⟩ := H2
  obtain ⟨b1, c1, rfl, x1, y1, z1⟩ := A1
  obtain ⟨b2, c2, rfl, x2, y2, z2⟩ := A2
  obtain ⟨b3, c3, rfl, x3, y3, z3⟩ := C1
  obtain ⟨b4, c4, rfl, x4, y4, z4⟩ := C2
  have B0 := below_alloc2 w (.cells #[.slice (some ⟨b1, 0, none⟩) d c1, .slice (some ⟨b2, 0, none⟩) d c2] 27) (.cells #[.slice (some ⟨b3, 0, none⟩) d c3, .slice (some ⟨b4, 0, none⟩) d c4] 27)
  have q0 : ((w.alloc (.cells #[.slice (some ⟨b1, 0, none⟩) d c1, .slice (some ⟨b2, 0, none⟩) d c2] 27)).alloc (.cells #[.slice (some ⟨b3, 0, none⟩) d c3, .slice (some ⟨b4, 0, none⟩) d c4] 27)).cell? ⟨w.heap.size, 0, none⟩ = some (.slice (some ⟨b1, 0, none⟩) d c1) := by go_simp
  have q1 : ((w.alloc (.cells #[.slice (some ⟨b1, 0, none⟩) d c1, .slice (some ⟨b2, 0, none⟩) d c2] 27)).alloc (.cells #[.slice (some ⟨b3, 0, none⟩) d c3, .slice (some ⟨b4, 0, none⟩) d c4] 27)).cell? ⟨w.heap.size, 1, none⟩ = some (.slice (some ⟨b2, 0, none⟩) d c2) := by go_simp
  have q2 : ((w.alloc (.cells #[.slice (some ⟨b1, 0, none⟩) d c1, .slice (some ⟨b2, 0, none⟩) d c2] 27)).alloc (.cells #[.slice (some ⟨b3, 0, none⟩) d c3, .slice (some ⟨b4, 0, none⟩) d c4] 27)).cell? ⟨w.heap.size + 1, 0, none⟩ = some (.slice (some ⟨b3, 0, none⟩) d c3) := by go_simp
  have q3 : ((w.alloc (.cells #[.slice (some ⟨b1, 0, none⟩) d c1, .slice (some ⟨b2, 0, none⟩) d c2] 27)).alloc (.cells #[.slice (some ⟨b3, 0, none⟩) d c3, .slice (some ⟨b4, 0, none⟩) d c4] 27)).cell? ⟨w.heap.size + 1, 1, none⟩ = some (.slice (some ⟨b4, 0, none⟩) d c4) := by go_simp
  have S1 : ((w.alloc (.cells #[.slice (some ⟨b1, 0, none⟩) d c1, .slice (some ⟨b2, 0, none⟩) d c2] 27)).alloc (.cells #[.slice (some ⟨b3, 0, none⟩) d c3, .slice (some ⟨b4, 0, none⟩) d c4] 27)).heap.size = w.heap.size + 1 + 1 := by simp
  have HS1 := Hid.mk S1
  clear S1
  go_enter Yba.func19, Yba.ntmps19
  go_wp2_with fail
  generalize ((w.alloc (.cells #[.slice (some ⟨b1, 0, none⟩) d c1, .slice (some ⟨b2, 0, none⟩) d c2] 27)).alloc (.cells #[.slice (some ⟨b3, 0, none⟩) d c3, .slice (some ⟨b4, 0, none⟩) d c4] 27)) = w1 at *
  have HB0 := Hid.mk B0
  clear B0
  go_loopw [9] (fun v wr => ∃ k q : Nat, k ≤ d ∧ v = .int .i64 (k : Int) ∧ (∀ t, t < k → decide (max (bl a t) (bl c t) < min (bu b t) (bu e t)) = true) ∧ Below w1.heap.size w1 wr) (fun v _ => d - (intOf v).toNat)
  case atStart => exact ⟨0, 0, by omega, rfl, fun t ht => by omega, Below.refl _ _⟩
  case round =>
    obtain ⟨k, q, hk, rfl, hall, hBr⟩ := hrel
    have Hall := Hid.mk hall
    have HBr := Hid.mk (HB0.out.trans (hBr.mono HB0.out.size))
    have s1 := HS1.out
    have g0 := (hBr.cell (p := ⟨w.heap.size, 0, none⟩) (by simp; omega)).trans q0
    have g1 := (hBr.cell (p := ⟨w.heap.size, 1, none⟩) (by simp; omega)).trans q1
    have g2 := (hBr.cell (p := ⟨w.heap.size + 1, 0, none⟩) (by simp; omega)).trans q2
    have g3 := (hBr.cell (p := ⟨w.heap.size + 1, 1, none⟩) (by simp; omega)).trans q3
    have HBx := Hid.mk hBr
    clear hall hBr s1
    by_cases hkd : k < d
    · have hk' : (k : Int) < (d : Int) := by omega
      have hk0 : (0 : Int) ≤ (k : Int) := by omega
      have f1 := (HBr.out.cell (p := ⟨b1, k, none⟩) y1).trans (z1 k hkd)
      have f2 := (HBr.out.cell (p := ⟨b2, k, none⟩) y2).trans (z2 k hkd)
      have f3 := (HBr.out.cell (p := ⟨b3, k, none⟩) y3).trans (z3 k hkd)
      have f4 := (HBr.out.cell (p := ⟨b4, k, none⟩) y4).trans (z4 k hkd)
      have CL := fun w' => across_lt h K w' (bl a k) (bu b k) (bl c k) (bu e k) (rg_bl A3 k) (rg_bu A4 k) (rg_bl C3 k) (rg_bu C4 k)
      generalize hr : decide (max (bl a k) (bl c k) < min (bu b k) (bu e k)) = r at *
      have Hr := Hid.mk hr
      clear hr z1 z2 z3 z4
      cases r
      · go_wp2_with fail
        go_quiet (first | (go_at_call 30; refine Calls.quiet_of_same (CL _)))
        go_wp2_with fail
        go_ret
        have k0 : k = 0 := by
          apply Decidable.byContradiction
          intro x
          rw [mt_up k a b c e x] at Hr
          exact Bool.noConfusion Hr.out
        subst k0
        exact ⟨by rw [← mt_0, Hr.out]; rfl, Below.drewN HBr.out _⟩
      · go_wp2_with fail
        go_quiet (first | (go_at_call 30; refine Calls.quiet_of_same (CL _)))
        go_wp2_with fail
        go_roundw
        case rel =>
          refine ⟨k + 1, 0, by omega, by simp, fun t ht => ?_, Below.drewN HBx.out _⟩
          by_cases et : t = k
          · subst et; exact Hr.out
          · exact Hall.out t (by omega)
        case measure => simp only [intOf]; omega
    · have hk' : ¬ (k : Int) < (d : Int) := by omega
      go_wp2_with fail
      go_ret
      exact ⟨by rw [← mt_0, Hall.out 0 (by omega)]; rfl, HBr.out⟩
end Go.Proofs.Ybulkdaxu
