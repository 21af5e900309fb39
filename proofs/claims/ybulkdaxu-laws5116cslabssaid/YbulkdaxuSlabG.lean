import Derived.Test.YbulkdaxuSlabF
namespace Go.Proofs.Ybulkdaxu
open Go.RowKit
set_option linter.unusedSimpArgs false
set_option linter.unusedVariables false

/-- The receiver: the key space's corners. -/
def HD (h : Int → Nat) (w : World) (d hb : Nat) : Prop := hb < w.heap.size ∧ ∃ t1 t2, w.cell? ⟨hb, 0, none⟩ = some t1 ∧ w.cell? ⟨hb, 1, none⟩ = some t2 ∧ HR h w t1 d (bl (-2000000000)) ∧ HR h w t2 d (bu 2000000000)
theorem HD.below {h : Int → Nat} {w w' : World} {d hb : Nat} (H : HD h w d hb) (B : Below w.heap.size w w') : HD h w' d hb := by
  obtain ⟨h0, t1, t2, a, b, c, e⟩ := H
  exact ⟨Nat.lt_of_lt_of_le h0 B.size, t1, t2, (B.cell (p := ⟨hb, 0, none⟩) h0).trans a, (B.cell (p := ⟨hb, 1, none⟩) h0).trans b, c.below B, e.below B⟩
theorem HOP.below {w w' : World} {g : Nat} {D o r f : Value} (H : HOP w g D o r f) (B : Below w.heap.size w w') : HOP w' g D o r f := by
  obtain ⟨h0, a, b, c, e, fz⟩ := H
  exact ⟨Nat.lt_of_lt_of_le h0 B.size, (B.cell (p := ⟨g, 0, none⟩) h0).trans a, (B.cell (p := ⟨g, 1, none⟩) h0).trans b, (B.cell (p := ⟨g, 2, none⟩) h0).trans c, (B.cell (p := ⟨g, 3, none⟩) h0).trans e, fun k => (B.frozen (p := ⟨g, k, none⟩) h0).trans (fz k)⟩
def R2 (v : Int) : Prop := -(2 ^ 22) ≤ v ∧ v ≤ 2 ^ 22
theorem R2.r3 {v : Int} (h : R2 v) : R3 v := ⟨by have := h.1; omega, by have := h.2; omega⟩
theorem r3_bl {v : Int} (h : R3 v) (k : Nat) : R3 (bl v k) := by
  unfold bl; split
  · exact h
  · exact ⟨by decide, by decide⟩
theorem r3_bu {v : Int} (h : R3 v) (k : Nat) : R3 (bu v k) := by
  unfold bu; split
  · exact h
  · exact ⟨by decide, by decide⟩

set_option maxRecDepth 100000 in
set_option maxHeartbeats 4000000 in
theorem near_any (h : Int → Nat) (K : FK h) (w : World) (d hb n : Nat) (l u ws : Value) (lo c : Int) (z : Nat → Zn) (hd : 0 < d) (hd2 : d ≤ 2) (hn : n ≤ 1) (H : HD h w d hb) (G : CO h w d l u lo (lo + 2 * c)) (hc : 0 < c) (g1 : R2 lo) (g2 : R2 (lo + 2 * c))
    (Z : ZW h w d ws n z) (hz : ∀ i, i < n → R2 (z i).lo ∧ R2 (z i).hi ∧ mt (z i).lo (z i).hi lo (lo + 2 * c) = true) :
    Calls Yba.prog 21 #[.pointer (some ⟨hb, 0, none⟩), .agg #[l, u], ws] w fun e w' => e = .returned (.tuple #[.int .i64 (if n = 0 then 0 else (z 0).rk), .bool (decide (0 < n))]) ∧ Below w.heap.size w w' := by
  have B0 := (Below.refl w.heap.size w).alloc (Nat.le_refl _) (.cells #[l, u] 27)
  have t0 : (w.alloc (.cells #[l, u] 27)).cell? ⟨w.heap.size, 0, none⟩ = some l := by go_simp
  have t1 : (w.alloc (.cells #[l, u] 27)).cell? ⟨w.heap.size, 1, none⟩ = some u := by go_simp
  have s1 : (w.alloc (.cells #[l, u] 27)).heap.size = w.heap.size + 1 := by simp
  have rgr : (if n = 0 then (0 : Int) else (z 0).rk) = (if n = 0 then 0 else (z 0).rk) := rfl
  obtain ⟨RK, hRK⟩ : ∃ RK : Int, RK = if n = 0 then 0 else (z 0).rk := ⟨_, rfl⟩
  rw [← hRK]
  go_enter Yba.func21, Yba.ntmps21
  go_wp2_with fail
  generalize (w.alloc (.cells #[l, u] 27)) = w1 at *
  refine (mark_any h K w1 d l u (bl lo) (bu (lo + 2 * c)) (fun k => if k = 0 then c else 4) hd2 (G.1.below B0) (G.2.1.below B0) (fun k _ => r3_bl g1.r3 k) (fun k _ => r3_bu g2.r3 k) (fun k _ => by unfold bl bu; by_cases e : k = 0 <;> simp [e] <;> omega)).mono ?_
  rintro e w2 ⟨pb, rfl, hN, B1⟩
  have HB2 := Hid.mk (B0.trans (B1.mono (by omega)))
  have f0 := (B1.cell (p := ⟨w.heap.size, 0, none⟩) (by simp; omega)).trans t0
  have f1 := (B1.cell (p := ⟨w.heap.size, 1, none⟩) (by simp; omega)).trans t1
  have hs2 : w.heap.size < w2.heap.size := by have := B1.size; omega
  have HP := Hid.mk hN
  have HRK := Hid.mk hRK
  have HH := Hid.mk (H.below HB2.out)
  have HG := Hid.mk (G.below HB2.out)
  have HZ := Hid.mk (Z.below HB2.out)
  clear B0 B1 t0 t1 s1 hN H G Z hRK rgr
  dsimp only
  go_wp2_with fail
  refine (inf_any _).mono ?_
  rintro e w3 ⟨rfl, rfl⟩
  dsimp only
  obtain ⟨W, hW⟩ : ∃ W, W = (w2.alloc (.cells #[.slice (some ⟨pb, 0, none⟩) d d, .slice (some ⟨pb, 0, none⟩) d d] 27)).alloc (.cells #[.float .f64 9218868437227405312, .int .i64 0, .int .i64 0, .bool false] 95) := ⟨_, rfl⟩
  have BW : Below w2.heap.size w2 W := by rw [hW]; exact below_alloc2 _ _ _
  have sW : W.heap.size = w2.heap.size + 1 + 1 := by rw [hW]; simp
  have a0 : W.cell? ⟨w2.heap.size, 0, none⟩ = some (.slice (some ⟨pb, 0, none⟩) d d) := by rw [hW]; go_simp
  have a1 : W.cell? ⟨w2.heap.size, 1, none⟩ = some (.slice (some ⟨pb, 0, none⟩) d d) := by rw [hW]; go_simp
  have a2 : W.cell? ⟨w2.heap.size + 1, 0, none⟩ = some (.float .f64 9218868437227405312) := by rw [hW]; go_simp
  have a3 : W.cell? ⟨w2.heap.size + 1, 1, none⟩ = some (.int .i64 0) := by rw [hW]; go_simp
  have a4 : W.cell? ⟨w2.heap.size + 1, 2, none⟩ = some (.int .i64 0) := by rw [hW]; go_simp
  have a5 : W.cell? ⟨w2.heap.size + 1, 3, none⟩ = some (.bool false) := by rw [hW]; go_simp
  have az : ∀ k, W.frozen? ⟨w2.heap.size + 1, k, none⟩ = false := fun k => by rw [hW]; go_simp
  have hbw2 : hb < w2.heap.size := HH.out.1
  have HBW := Hid.mk BW
  have HsW := Hid.mk sW
  have HBB := Hid.mk (HB2.out.trans (BW.mono HB2.out.size))
  have HHW := Hid.mk (HH.out.below BW)
  have HGW := Hid.mk (HG.out.below BW)
  have HZW := Hid.mk (HZ.out.below BW)
  have HPW := Hid.mk (HP.out.below BW)
  clear BW sW HH HG HZ HP
  rcases HZW.out with ⟨hn0, za, zc, rfl⟩ | ⟨zb, zc, zl, zu, rfl, hzc, hn0, R, C⟩
  · have hn0' := Hid.mk hn0
    subst hn0
    have E : Hid (RK = 0) := ⟨by rw [HRK.out, if_pos rfl]⟩
    go_wp2_with fail
    rw [← hW]
    clear hW
    go_loopw [23] (fun v wr => v = .int .i64 0 ∧ wr = W) (fun _ _ => 0)
    case atStart => exact ⟨rfl, rfl⟩
    case round =>
      obtain ⟨rfl, rfl⟩ := hrel
      go_wp2_with fail
      go_quiet (fail)
      go_wp2_with fail
      go_ret2
      exact ⟨by rw [E.out]; rfl, Below.drewN HBB.out _⟩
  · obtain rfl : n = 1 := by omega
    have E : Hid (RK = (z 0).rk) := ⟨by rw [HRK.out, if_neg (by omega)]⟩
    obtain ⟨q1, q2, q3⟩ := hz 0 (by omega)
    have C0 := Hid.mk (C 0 (by omega))
    obtain ⟨xb, xc, ex, _⟩ := (C 0 (by omega)).1
    obtain ⟨yb, yc, ey, _⟩ := (C 0 (by omega)).2.1
    rw [ex, ey] at C0
    have Ex' := Hid.mk ex
    have Ey' := Hid.mk ey
    have HR5 := Hid.mk R
    clear R C hz ex ey
    go_wp2_with fail
    rw [← hW]
    clear hW
    go_loopw [23] (fun v wr => (v = .int .i64 0 ∧ wr = W) ∨ (v = .int .i64 1 ∧ Below w.heap.size w wr ∧ ∃ D o, HOP wr (w2.heap.size + 1) D o (.int .i64 RK) (.bool true))) (fun v _ => 1 - (intOf v).toNat)
    case atStart => exact .inl ⟨rfl, rfl⟩
    case round =>
      rcases hrel with ⟨rfl, rfl⟩ | ⟨rfl, hB, D, o, hh⟩
      · have p0 := HR5.out.f0 0 (by omega)
        have p1 := HR5.out.f1 0 (by omega)
        have p2 := HR5.out.f2 0 (by omega)
        rw [Ex'.out] at p1
        rw [Ey'.out] at p2
        have p3 := HR5.out.f3 0 (by omega)
        have p4 := HR5.out.f4 0 (by omega)
        obtain ⟨hb0, tt1, tt2, u0, u1, U1, U2⟩ := HHW.out
        obtain ⟨V, hV⟩ : ∃ V, V = wr.alloc (.cells #[.int .i64 (z 0).rk, (.slice (some ⟨xb, 0, none⟩) d xc), (.slice (some ⟨yb, 0, none⟩) d yc), .bool false, .int .i64 0] 45) := ⟨_, rfl⟩
        have BV : Below wr.heap.size wr V := by rw [hV]; exact (Below.refl _ _).alloc (Nat.le_refl _) _
        have sV : V.heap.size = wr.heap.size + 1 := by rw [hV]; simp
        have v0 : V.cell? ⟨wr.heap.size, 0, none⟩ = some (.int .i64 (z 0).rk) := by rw [hV]; go_simp
        have v1 : V.cell? ⟨wr.heap.size, 1, none⟩ = some (.slice (some ⟨xb, 0, none⟩) d xc) := by rw [hV]; go_simp
        have v2 : V.cell? ⟨wr.heap.size, 2, none⟩ = some (.slice (some ⟨yb, 0, none⟩) d yc) := by rw [hV]; go_simp
        have sw := HsW.out
        have f0' := (BV.cell (p := ⟨w.heap.size, 0, none⟩) (by simp; omega)).trans ((HBW.out.cell (p := ⟨w.heap.size, 0, none⟩) (by simp; omega)).trans f0)
        have f1' := (BV.cell (p := ⟨w.heap.size, 1, none⟩) (by simp; omega)).trans ((HBW.out.cell (p := ⟨w.heap.size, 1, none⟩) (by simp; omega)).trans f1)
        have p0' : wr.cell? ⟨zb, 0, none⟩ = some (.int .i64 (z 0).rk) := by simpa using p0
        have p1' : wr.cell? ⟨zb, 1, none⟩ = some (.slice (some ⟨xb, 0, none⟩) d xc) := by simpa using p1
        have p2' : wr.cell? ⟨zb, 2, none⟩ = some (.slice (some ⟨yb, 0, none⟩) d yc) := by simpa using p2
        have p3' : wr.cell? ⟨zb, 3, none⟩ = some (.bool false) := by simpa using p3
        have p4' : wr.cell? ⟨zb, 4, none⟩ = some (.int .i64 0) := by simpa using p4
        clear p0 p1 p2 p3 p4
        have MC := (meets_any h K V d (.slice (some ⟨xb, 0, none⟩) d xc) (.slice (some ⟨yb, 0, none⟩) d yc) l u (z 0).lo (z 0).hi lo (lo + 2 * c) hd hd2 (C0.out.below BV) (HGW.out.below BV))
        rw [q3] at MC
        have f0x := f0'
        have f1x := f1'
        rw [hV] at f0x f1x
        go_wp2_with fail
        rw [← hV]
        clear hV f0x f1x
        refine MC.mono ?_
        rintro e w5 ⟨rfl, B5⟩
        have BB5 := BV.trans (B5.mono BV.size)
        have HB5 := Hid.mk BB5
        have m0 := (B5.cell (p := ⟨wr.heap.size, 0, none⟩) (by simp; omega)).trans v0
        have m1 := (B5.cell (p := ⟨wr.heap.size, 1, none⟩) (by simp; omega)).trans v1
        have m2 := (B5.cell (p := ⟨wr.heap.size, 2, none⟩) (by simp; omega)).trans v2
        have m3 := (BB5.cell (p := ⟨hb, 0, none⟩) hb0).trans u0
        have m4 := (BB5.cell (p := ⟨hb, 1, none⟩) hb0).trans u1
        have m5 := (BB5.cell (p := ⟨w2.heap.size, 0, none⟩) (by simp; omega)).trans a0
        have m6 := (BB5.cell (p := ⟨w2.heap.size, 1, none⟩) (by simp; omega)).trans a1
        have m7 : HOP w5 (w2.heap.size + 1) (.float .f64 9218868437227405312) (.int .i64 0) (.int .i64 0) (.bool false) := ⟨by have := BB5.size; omega, (BB5.cell (p := ⟨w2.heap.size + 1, 0, none⟩) (by simp; omega)).trans a2, (BB5.cell (p := ⟨w2.heap.size + 1, 1, none⟩) (by simp; omega)).trans a3, (BB5.cell (p := ⟨w2.heap.size + 1, 2, none⟩) (by simp; omega)).trans a4, (BB5.cell (p := ⟨w2.heap.size + 1, 3, none⟩) (by simp; omega)).trans a5, fun k => (BB5.frozen (p := ⟨w2.heap.size + 1, k, none⟩) (by simp; omega)).trans (az k)⟩
        have HOP5 := Hid.mk m7
        have HU1 := Hid.mk (U1.below BB5)
        have HU2 := Hid.mk (U2.below BB5)
        have HC5 := Hid.mk (C0.out.below BB5)
        have HP5 := Hid.mk (HPW.out.below BB5)
        have hs5 : wr.heap.size < w5.heap.size := by have := B5.size; omega
        clear MC B5 BB5 BV v0 v1 v2 f0' f1' p0' p1' p2' p3' p4' u0 u1 U1 U2 a0 a1 a2 a3 a4 a5 az m7
        have D5 := (Below.refl w5.heap.size w5).drew
        have GP := gap_any h K w5.drew d tt1 tt2 (.slice (some ⟨xb, 0, none⟩) d xc) (.slice (some ⟨yb, 0, none⟩) d yc) (.slice (some ⟨pb, 0, none⟩) d d) (.slice (some ⟨pb, 0, none⟩) d d) _ _ _ _ _ _ hd2 (HU1.out.below D5) (HU2.out.below D5) (HC5.out.1.below D5) (HC5.out.2.1.below D5) ((HP5.out.hr (Nat.le_refl _)).below D5) ((HP5.out.hr (Nat.le_refl _)).below D5) (fun k _ => r3_bl ⟨by decide, by decide⟩ k) (fun k _ => r3_bu ⟨by decide, by decide⟩ k) (fun k _ => r3_bl q1.r3 k) (fun k _ => r3_bu q2.r3 k) (fun k _ => by unfold R2 at *; unfold R3 bl; by_cases e : k = 0 <;> simp [e] <;> omega) (fun k _ => by unfold R2 at *; unfold R3 bl; by_cases e : k = 0 <;> simp [e] <;> omega)
        have hb5 : hb < w5.heap.size := by have := HB5.out.size; omega
        have sVV := Hid.mk sV
        have HGP := Hid.mk GP
        have hw25 : w2.heap.size < w5.heap.size ∧ w2.heap.size + 1 < wr.heap.size := by omega
        rw [sw] at m0 m1 m2 hs5
        clear GP D5 sw sV
        dsimp only
        go_wp2_with fail
        go_region_held3 (fun y => y.cell? ⟨hb, 0, none⟩ = some tt1 ∧ y.cell? ⟨hb, 1, none⟩ = some tt2 ∧ y.cell? ⟨w2.heap.size + 1 + 1, 0, none⟩ = some (.int .i64 (z 0).rk) ∧ y.cell? ⟨w2.heap.size + 1 + 1, 1, none⟩ = some (.slice (some ⟨xb, 0, none⟩) d xc) ∧ y.cell? ⟨w2.heap.size + 1 + 1, 2, none⟩ = some (.slice (some ⟨yb, 0, none⟩) d yc) ∧ y.cell? ⟨w2.heap.size, 0, none⟩ = some (.slice (some ⟨pb, 0, none⟩) d d) ∧ y.cell? ⟨w2.heap.size, 1, none⟩ = some (.slice (some ⟨pb, 0, none⟩) d d)) (go_keep) (first
          | (go_at_call 36; refine HGP.out.mono ?_; rintro e wb ⟨D, o, rfl, rD, Bb⟩; have j0 : wb.cell? ⟨hb, 0, none⟩ = some tt1 := (Bb.cell (p := ⟨hb, 0, none⟩) (by simp; omega)).trans m3; have j1 : wb.cell? ⟨hb, 1, none⟩ = some tt2 := (Bb.cell (p := ⟨hb, 1, none⟩) (by simp; omega)).trans m4; have j2 : wb.cell? ⟨w2.heap.size + 1 + 1, 0, none⟩ = some (.int .i64 (z 0).rk) := (Bb.cell (p := ⟨w2.heap.size + 1 + 1, 0, none⟩) (by simp; omega)).trans m0; have j3 : wb.cell? ⟨w2.heap.size + 1 + 1, 1, none⟩ = some (.slice (some ⟨xb, 0, none⟩) d xc) := (Bb.cell (p := ⟨w2.heap.size + 1 + 1, 1, none⟩) (by simp; omega)).trans m1; have j4 : wb.cell? ⟨w2.heap.size + 1 + 1, 2, none⟩ = some (.slice (some ⟨yb, 0, none⟩) d yc) := (Bb.cell (p := ⟨w2.heap.size + 1 + 1, 2, none⟩) (by simp; omega)).trans m2; have j5 : wb.cell? ⟨w2.heap.size, 0, none⟩ = some (.slice (some ⟨pb, 0, none⟩) d d) := (Bb.cell (p := ⟨w2.heap.size, 0, none⟩) (by have := HsW.out; simp; omega)).trans m5; have j6 : wb.cell? ⟨w2.heap.size, 1, none⟩ = some (.slice (some ⟨pb, 0, none⟩) d d) := (Bb.cell (p := ⟨w2.heap.size, 1, none⟩) (by have := HsW.out; simp; omega)).trans m6; have HBb := Hid.mk (((Below.refl w5.heap.size w5).drew).trans Bb); have HOPb := Hid.mk (HOP5.out.below HBb.out); have rDD := Hid.mk rD; clear Bb)
          | (go_at_call 35; refine (offer_any h K wb (w2.heap.size + 1) D o (z 0).rk _ _ rDD.out HOPb.out).mono ?_; rintro e wc ⟨rfl, KBc, HOPc⟩; have szb := HBb.out.size; have i0 : wc.cell? ⟨hb, 0, none⟩ = some tt1 := (KBc.cel (p := ⟨hb, 0, none⟩) (by simp; omega) (by simp; omega)).trans j0; have i1 : wc.cell? ⟨hb, 1, none⟩ = some tt2 := (KBc.cel (p := ⟨hb, 1, none⟩) (by simp; omega) (by simp; omega)).trans j1; have i2 : wc.cell? ⟨w2.heap.size + 1 + 1, 0, none⟩ = some (.int .i64 (z 0).rk) := (KBc.cel (p := ⟨w2.heap.size + 1 + 1, 0, none⟩) (by simp; omega) (by simp)).trans j2; have i3 : wc.cell? ⟨w2.heap.size + 1 + 1, 1, none⟩ = some (.slice (some ⟨xb, 0, none⟩) d xc) := (KBc.cel (p := ⟨w2.heap.size + 1 + 1, 1, none⟩) (by simp; omega) (by simp)).trans j3; have i4 : wc.cell? ⟨w2.heap.size + 1 + 1, 2, none⟩ = some (.slice (some ⟨yb, 0, none⟩) d yc) := (KBc.cel (p := ⟨w2.heap.size + 1 + 1, 2, none⟩) (by simp; omega) (by simp)).trans j4; have i5 : wc.cell? ⟨w2.heap.size, 0, none⟩ = some (.slice (some ⟨pb, 0, none⟩) d d) := (KBc.cel (p := ⟨w2.heap.size, 0, none⟩) (by simp; omega) (by simp)).trans j5; have i6 : wc.cell? ⟨w2.heap.size, 1, none⟩ = some (.slice (some ⟨pb, 0, none⟩) d d) := (KBc.cel (p := ⟨w2.heap.size, 1, none⟩) (by simp; omega) (by simp)).trans j6; have HKBc := Hid.mk KBc; have HHOP := Hid.mk HOPc; clear KBc HOPc))
        all_goals (
          have BF : Hid (Below w.heap.size w wc) := ⟨HKBc.out.bel ((HBB.out.trans (HB5.out.mono HBB.out.size)).trans (HBb.out.mono (Nat.le_trans HBB.out.size HB5.out.size))) (by omega)⟩
          go_wp2_with fail
          go_roundw
          case rel => exact .inr ⟨by simp, BF.out, _, _, by rw [E.out]; exact HHOP.out⟩
          case measure => simp only [intOf]; omega)
      · obtain ⟨h0, c0, c1, c2, c3, hfz⟩ := hh
        have HB := Hid.mk hB
        clear hB
        go_wp2_with fail
        go_quiet (fail)
        go_wp2_with fail
        go_ret2
        exact ⟨rfl, Below.drewN HB.out _⟩
end Go.Proofs.Ybulkdaxu
