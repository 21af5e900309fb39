import Derived.Test.YbulkdaxuSlabJ
import Derived.Deep.CutRange
namespace Go.Proofs.Ybulkdaxu
open Go.RowKit
set_option linter.unusedSimpArgs false
set_option linter.unusedVariables false

theorem HN.oth {h : Int → Nat} {w : World} {b d : Nat} {z : Nat → Int} (H : HN h w b d z) {p : Addr} (hp : b ≠ p.block) (u : Value) : HN h (w.setCell p u) b d z := by
  refine ⟨by simpa using H.1, fun k hk => ?_, fun k => by rw [World.frozen?_setCell]; exact H.2.2 k⟩
  rw [World.cell?_of_block (a := ⟨b, k, none⟩) (Below.heap_setCell w p u b hp)]
  exact H.2.1 k hk
set_option maxRecDepth 100000 in
set_option maxHeartbeats 8000000 in
theorem across_any (h : Int → Nat) (K : FK h) (w : World) (d : Nat) (l u : Value) (lo hi x y : Int) (hd : 0 < d) (hd2 : d ≤ 2) (G : CO h w d l u lo hi) (hx : RG x) (hy : RG y) (hxy : x ≤ y) :
    Calls Yba.prog 22 #[.agg #[l, u], .int .i64 0, .float .f64 (h x), .float .f64 (h y)] w fun e w' => ∃ l' u', e = .returned (.agg #[l', u']) ∧ CO h w' d l' u' x y ∧ Below w.heap.size w w' := by
  have m1 := K.mn hx hy
  have m2 := K.mx hx hy
  rw [Int.min_eq_left hxy] at m1
  rw [Int.max_eq_right hxy] at m2
  obtain ⟨G1, G2, G3, G4⟩ := G
  have HG1 := Hid.mk G1
  have HG2 := Hid.mk G2
  obtain ⟨b1, c1, rfl, _, _, _⟩ := G1
  obtain ⟨b2, c2, rfl, _, _, _⟩ := G2
  obtain ⟨W, hW⟩ : ∃ W, W = (w.alloc (.cells #[.slice (some ⟨b1, 0, none⟩) d c1, .slice (some ⟨b2, 0, none⟩) d c2] 27)).alloc (.cells #[.slice none 0 0, .slice none 0 0] 27) := ⟨_, rfl⟩
  have BW : Below w.heap.size w W := by rw [hW]; exact below_alloc2 _ _ _
  have sW : W.heap.size = w.heap.size + 1 + 1 := by rw [hW]; simp
  have a0 : W.cell? ⟨w.heap.size, 0, none⟩ = some (.slice (some ⟨b1, 0, none⟩) d c1) := by rw [hW]; go_simp
  have a1 : W.cell? ⟨w.heap.size, 1, none⟩ = some (.slice (some ⟨b2, 0, none⟩) d c2) := by rw [hW]; go_simp
  have a2 : W.cell? ⟨w.heap.size + 1, 0, none⟩ = some (.slice none 0 0) := by rw [hW]; go_simp
  have a3 : W.cell? ⟨w.heap.size + 1, 1, none⟩ = some (.slice none 0 0) := by rw [hW]; go_simp
  have az : ∀ k, W.frozen? ⟨w.heap.size + 1, k, none⟩ = false := fun k => by rw [hW]; go_simp
  have HsW := Hid.mk sW
  have HBW := Hid.mk BW
  have HRW : Hid (∀ z, Below W.heap.size W z → HR h z (.slice (some ⟨b1, 0, none⟩) d c1) d (bl lo) ∧ HR h z (.slice (some ⟨b2, 0, none⟩) d c2) d (bu hi)) := ⟨fun z hz => ⟨(HG1.out.below HBW.out).below hz, (HG2.out.below HBW.out).below hz⟩⟩
  have nW1 : ¬ W.heap.size = w.heap.size := by omega
  have nW2 : ¬ w.heap.size = W.heap.size := by omega
  clear sW BW
  go_enter Yba.func22, Yba.ntmps22
  go_wp2_with fail
  rw [← hW]
  clear hW
  go_cut [9] from 10 (fun v wx => ∃ (g gl cl gu cu : Nat), v = .pointer (some ⟨g, 0, none⟩) ∧ wx.cell? ⟨g, 0, none⟩ = some (.slice (some ⟨gl, 0, none⟩) d cl) ∧ wx.cell? ⟨g, 1, none⟩ = some (.slice (some ⟨gu, 0, none⟩) d cu) ∧ HN h wx gl d (bl lo) ∧ HN h wx gu d (bu hi) ∧ g ≠ gl ∧ g ≠ gu ∧ gl ≠ gu ∧ W.heap.size ≤ g ∧ W.heap.size ≤ gl ∧ W.heap.size ≤ gu ∧ (∀ k, wx.frozen? ⟨g, k, none⟩ = false) ∧ Below W.heap.size W wx ∧ d ≤ cl ∧ d ≤ cu)
  case first =>
    go_region_held3 (fun z => z.cell? ⟨w.heap.size, 0, none⟩ = some (.slice (some ⟨b1, 0, none⟩) d c1) ∧ z.cell? ⟨w.heap.size, 1, none⟩ = some (.slice (some ⟨b2, 0, none⟩) d c2)) (go_keep) (first
      | (go_at_call_of 37 (Value.slice (some ⟨b1, 0, none⟩) d c1); refine (sclone_h h W.drew (.slice (some ⟨b1, 0, none⟩) d c1) d (bl lo) (HRW.out _ (Below.refl _ _).drew).1 hd hd2).mono ?_; rintro e wa1 ⟨gl, cl, rfl, hcl, hgl, NL, Ba⟩; have BA := Hid.mk ((Below.refl W.heap.size W).drew.trans Ba); have HNL := Hid.mk NL; have nA1 : ¬ wa1.heap.size = w.heap.size := (by have := BA.out.size; have := HsW.out; omega); have nA2 : ¬ w.heap.size = wa1.heap.size := (by have := BA.out.size; have := HsW.out; omega); have k0wa1 : wa1.cell? ⟨w.heap.size, 0, none⟩ = some (.slice (some ⟨b1, 0, none⟩) d c1) := (BA.out.cell (p := ⟨w.heap.size, 0, none⟩) (by have := HsW.out; simp; omega)).trans a0; have k1wa1 : wa1.cell? ⟨w.heap.size, 1, none⟩ = some (.slice (some ⟨b2, 0, none⟩) d c2) := (BA.out.cell (p := ⟨w.heap.size, 1, none⟩) (by have := HsW.out; simp; omega)).trans a1; clear NL Ba)
      | (go_at_call_of 37 (Value.slice (some ⟨b1, 0, none⟩) d c1); refine (sclone_h h (W.alloc (Obj.cells #[Value.slice none 0 0, Value.slice none 0 0] 27)).drew (.slice (some ⟨b1, 0, none⟩) d c1) d (bl lo) (HRW.out _ ((Below.refl W.heap.size W).alloc (Nat.le_refl _) _).drew).1 hd hd2).mono ?_; rintro e wa2 ⟨gl, cl, rfl, hcl, hgl, NL, Ba⟩; have BA := Hid.mk (((Below.refl W.heap.size W).alloc (Nat.le_refl _) (Obj.cells #[Value.slice none 0 0, Value.slice none 0 0] 27)).drew.trans (Ba.mono (by simp))); have HNL := Hid.mk NL; have hxx : W.heap.size < wa2.heap.size := (by have := Ba.size; simp at this; omega); have x0 : wa2.cell? ⟨W.heap.size, 0, none⟩ = some (.slice none 0 0) := (Ba.cell (p := ⟨W.heap.size, 0, none⟩) (by simp)).trans (by go_simp); have x1 : wa2.cell? ⟨W.heap.size, 1, none⟩ = some (.slice none 0 0) := (Ba.cell (p := ⟨W.heap.size, 1, none⟩) (by simp)).trans (by go_simp); have xz : ∀ k, wa2.frozen? ⟨W.heap.size, k, none⟩ = false := (fun k => (Ba.frozen (p := ⟨W.heap.size, k, none⟩) (by simp)).trans (by go_simp)); have k0wa2 : wa2.cell? ⟨w.heap.size, 0, none⟩ = some (.slice (some ⟨b1, 0, none⟩) d c1) := (BA.out.cell (p := ⟨w.heap.size, 0, none⟩) (by have := HsW.out; simp; omega)).trans a0; have k1wa2 : wa2.cell? ⟨w.heap.size, 1, none⟩ = some (.slice (some ⟨b2, 0, none⟩) d c2) := (BA.out.cell (p := ⟨w.heap.size, 1, none⟩) (by have := HsW.out; simp; omega)).trans a1; clear NL Ba)
      | (go_at_call_of 37 (Value.slice (some ⟨b2, 0, none⟩) d c2); refine (sclone_h h wa1 (.slice (some ⟨b2, 0, none⟩) d c2) d (bu hi) (HRW.out _ BA.out).2 hd hd2).mono ?_; rintro e wb1 ⟨gu, cu, rfl, hcu, hgu, NU, Bb⟩; have BB := Hid.mk (BA.out.trans (Bb.mono BA.out.size)); have HNU := Hid.mk NU; have HNL2 := Hid.mk (HNL.out.below Bb); have k0wb1 : wb1.cell? ⟨w.heap.size, 0, none⟩ = some (.slice (some ⟨b1, 0, none⟩) d c1) := (BB.out.cell (p := ⟨w.heap.size, 0, none⟩) (by have := HsW.out; simp; omega)).trans a0; have k1wb1 : wb1.cell? ⟨w.heap.size, 1, none⟩ = some (.slice (some ⟨b2, 0, none⟩) d c2) := (BB.out.cell (p := ⟨w.heap.size, 1, none⟩) (by have := HsW.out; simp; omega)).trans a1; clear NU Bb)
      | (go_at_call_of 37 (Value.slice (some ⟨b2, 0, none⟩) d c2); refine (sclone_h h (wa1.alloc (Obj.cells #[Value.slice none 0 0, Value.slice none 0 0] 27)) (.slice (some ⟨b2, 0, none⟩) d c2) d (bu hi) (HRW.out _ (BA.out.alloc BA.out.size _)).2 hd hd2).mono ?_; rintro e wb2 ⟨gu, cu, rfl, hcu, hgu, NU, Bb⟩; have BB := Hid.mk ((BA.out.alloc BA.out.size (Obj.cells #[Value.slice none 0 0, Value.slice none 0 0] 27)).trans (Bb.mono (by have := BA.out.size; simp; omega))); have HNU := Hid.mk NU; have HNL2 := Hid.mk ((HNL.out.below ((Below.refl _ _).alloc (Nat.le_refl _) (Obj.cells #[Value.slice none 0 0, Value.slice none 0 0] 27))).below Bb); have x0 : wb2.cell? ⟨wa1.heap.size, 0, none⟩ = some (.slice none 0 0) := (Bb.cell (p := ⟨wa1.heap.size, 0, none⟩) (by simp)).trans (by go_simp); have x1 : wb2.cell? ⟨wa1.heap.size, 1, none⟩ = some (.slice none 0 0) := (Bb.cell (p := ⟨wa1.heap.size, 1, none⟩) (by simp)).trans (by go_simp); have xz : ∀ k, wb2.frozen? ⟨wa1.heap.size, k, none⟩ = false := (fun k => (Bb.frozen (p := ⟨wa1.heap.size, k, none⟩) (by simp)).trans (by go_simp)); have k0wb2 : wb2.cell? ⟨w.heap.size, 0, none⟩ = some (.slice (some ⟨b1, 0, none⟩) d c1) := (BB.out.cell (p := ⟨w.heap.size, 0, none⟩) (by have := HsW.out; simp; omega)).trans a0; have k1wb2 : wb2.cell? ⟨w.heap.size, 1, none⟩ = some (.slice (some ⟨b2, 0, none⟩) d c2) := (BB.out.cell (p := ⟨w.heap.size, 1, none⟩) (by have := HsW.out; simp; omega)).trans a1; clear NU Bb)
      | (go_at_call_of 37 (Value.slice (some ⟨b2, 0, none⟩) d c2); refine (sclone_h h wa2 (.slice (some ⟨b2, 0, none⟩) d c2) d (bu hi) (HRW.out _ BA.out).2 hd hd2).mono ?_; rintro e wb3 ⟨gu, cu, rfl, hcu, hgu, NU, Bb⟩; have BB := Hid.mk (BA.out.trans (Bb.mono BA.out.size)); have HNU := Hid.mk NU; have HNL2 := Hid.mk (HNL.out.below Bb); have y0 : wb3.cell? ⟨W.heap.size, 0, none⟩ = some (.slice none 0 0) := (Bb.cell (p := ⟨W.heap.size, 0, none⟩) hxx).trans x0; have y1 : wb3.cell? ⟨W.heap.size, 1, none⟩ = some (.slice none 0 0) := (Bb.cell (p := ⟨W.heap.size, 1, none⟩) hxx).trans x1; have yz : ∀ k, wb3.frozen? ⟨W.heap.size, k, none⟩ = false := (fun k => (Bb.frozen (p := ⟨W.heap.size, k, none⟩) hxx).trans (xz k)); have k0wb3 : wb3.cell? ⟨w.heap.size, 0, none⟩ = some (.slice (some ⟨b1, 0, none⟩) d c1) := (BB.out.cell (p := ⟨w.heap.size, 0, none⟩) (by have := HsW.out; simp; omega)).trans a0; have k1wb3 : wb3.cell? ⟨w.heap.size, 1, none⟩ = some (.slice (some ⟨b2, 0, none⟩) d c2) := (BB.out.cell (p := ⟨w.heap.size, 1, none⟩) (by have := HsW.out; simp; omega)).trans a1; clear NU Bb))
    · have i1 := HNL.out.1
      have i2 := HNL2.out.1
      have i3 := HNU.out.1
      have i4 : W.heap.size ≤ gl := by simpa using hgl
      have i5 := BA.out.size
      have i6 := BB.out.size
      have BV := (Below.refl wb1.heap.size wb1).alloc (Nat.le_refl _) (.cells #[.slice (some ⟨gl, 0, none⟩) d cl, .slice (some ⟨gu, 0, none⟩) d cu] 27)
      go_wp2_with fail
      go_meet
      exact ⟨wb1.heap.size, gl, cl, gu, cu, rfl, by go_simp, by go_simp, HNL2.out.below BV, HNU.out.below BV, by omega, by omega, by omega, by omega, by omega, by omega, fun k => by go_simp, BB.out.alloc i6 _, hcl, hcu⟩
    · have i1 := HNL.out.1
      have i2 := HNL2.out.1
      have i3 := HNU.out.1
      have i4 : W.heap.size ≤ gl := by simpa using hgl
      have i5 := BA.out.size
      have i6 := BB.out.size
      have i7 : wa1.heap.size + 1 ≤ gu := by simpa using hgu
      go_wp2_with fail
      go_meet
      exact ⟨wa1.heap.size, gl, cl, gu, cu, rfl, by go_simp, by go_simp, (HNL2.out.oth (p := ⟨wa1.heap.size, 0, none⟩) (by simp; omega) _).oth (p := ⟨wa1.heap.size, 1, none⟩) (by simp; omega) _, (HNU.out.oth (p := ⟨wa1.heap.size, 0, none⟩) (by simp; omega) _).oth (p := ⟨wa1.heap.size, 1, none⟩) (by simp; omega) _, by omega, by omega, by omega, by omega, by omega, by omega, fun k => by rw [World.frozen?_setCell, World.frozen?_setCell]; exact xz k, (BB.out.setCell (p := ⟨wa1.heap.size, 0, none⟩) (by simp; omega) _).setCell (p := ⟨wa1.heap.size, 1, none⟩) (by simp; omega) _, hcl, hcu⟩
    · have i1 := HNL.out.1
      have i2 := HNL2.out.1
      have i3 := HNU.out.1
      have i4 : W.heap.size + 1 ≤ gl := by simpa using hgl
      have i5 := BA.out.size
      have i6 := BB.out.size
      go_wp2_with fail
      go_meet
      exact ⟨W.heap.size, gl, cl, gu, cu, rfl, by go_simp, by go_simp, (HNL2.out.oth (p := ⟨W.heap.size, 0, none⟩) (by simp; omega) _).oth (p := ⟨W.heap.size, 1, none⟩) (by simp; omega) _, (HNU.out.oth (p := ⟨W.heap.size, 0, none⟩) (by simp; omega) _).oth (p := ⟨W.heap.size, 1, none⟩) (by simp; omega) _, by omega, by omega, by omega, by omega, by omega, by omega, fun k => by rw [World.frozen?_setCell, World.frozen?_setCell]; exact yz k, (BB.out.setCell (p := ⟨W.heap.size, 0, none⟩) (by simp) _).setCell (p := ⟨W.heap.size, 1, none⟩) (by simp) _, hcl, hcu⟩
  case rest =>
    obtain ⟨g, gl, cl, gu, cu, rfl, f0, f1, NL, NU, n1, n2, n3, s1, s2, s3, fz, BX, hcl, hcu⟩ := hcut
    have sw := HsW.out
    have HBX := Hid.mk BX
    have HNL := Hid.mk NL
    have HNU := Hid.mk NU
    have d0 := NL.2.1 0 hd
    have d1 := NU.2.1 0 hd
    have dz := NL.2.2
    have ez := NU.2.2
    have r0 := (BX.cell (p := ⟨w.heap.size + 1, 0, none⟩) (by simp; omega)).trans a2
    have r1 := (BX.cell (p := ⟨w.heap.size + 1, 1, none⟩) (by simp; omega)).trans a3
    have rz : ∀ k, wc.frozen? ⟨w.heap.size + 1, k, none⟩ = false := fun k => (BX.frozen (p := ⟨w.heap.size + 1, k, none⟩) (by simp; omega)).trans (az k)
    have hd1 : (0 : Int) < (d : Int) := by omega
    have p1 : ¬ gl = g := fun e => n1 e.symm
    have p2 : ¬ gu = g := fun e => n2 e.symm
    have p3 : ¬ gu = gl := fun e => n3 e.symm
    have p4 : ¬ w.heap.size + 1 = g := by omega
    have p5 : ¬ g = w.heap.size + 1 := by omega
    have p6 : ¬ w.heap.size + 1 = gl := by omega
    have p7 : ¬ gl = w.heap.size + 1 := by omega
    have p8 : ¬ w.heap.size + 1 = gu := by omega
    have p9 : ¬ gu = w.heap.size + 1 := by omega
    have L1 : Hid (∀ k, k < d → up (bl lo) 0 x k = bl x k) := ⟨fun k _ => by unfold up bl; by_cases e : k = 0 <;> simp [e]⟩
    have L2 : Hid (∀ k, k < d → up (bu hi) 0 y k = bu y k) := ⟨fun k _ => by unfold up bu; by_cases e : k = 0 <;> simp [e]⟩
    have S1 := Hid.mk (show W.heap.size ≤ gl ∧ W.heap.size ≤ gu ∧ W.heap.size = w.heap.size + 1 + 1 by omega)
    clear a0 a1 a2 a3 az BX NL NU sw s1 s2 s3 nW1 nW2 HRW
    go_wp2_with fail
    go_region
    all_goals go_wp2_with fail
    refine bodyPost_ret (res_box (p := 8) rfl _ _ (w.heap.size + 1) (.slice (some ⟨gl, 0, none⟩) d cl) (.slice (some ⟨gu, 0, none⟩) d cu) rfl (by go_simp) (by go_simp)) rfl ?_
    have sS := S1.out
    have QL := (((HNL.out.put hd x).oth (p := ⟨gu, 0, none⟩) (by simpa using n3) (.float .f64 (h y))).oth (p := ⟨w.heap.size + 1, 0, none⟩) (by simpa using p7) (.slice (some ⟨gl, 0, none⟩) d cl)).oth (p := ⟨w.heap.size + 1, 1, none⟩) (by simpa using p7) (.slice (some ⟨gu, 0, none⟩) d cu)
    have QU := (((HNU.out.oth (p := ⟨gl, 0, none⟩) (by simpa using p3) (.float .f64 (h x))).put hd y).oth (p := ⟨w.heap.size + 1, 0, none⟩) (by simpa using p9) (.slice (some ⟨gl, 0, none⟩) d cl)).oth (p := ⟨w.heap.size + 1, 1, none⟩) (by simpa using p9) (.slice (some ⟨gu, 0, none⟩) d cu)
    refine ⟨_, _, rfl, ⟨⟨gl, cl, rfl, hcl, QL.1, fun k hk => ?_⟩, ⟨gu, cu, rfl, hcu, QU.1, fun k hk => ?_⟩, hx, hy⟩, ?_⟩
    · rw [← L1.out k hk]; exact QL.2.1 k hk
    · rw [← L2.out k hk]; exact QU.2.1 k hk
    · have BF := HBW.out.trans (HBX.out.mono HBW.out.size)
      exact ((((BF.setCell (p := ⟨gl, 0, none⟩) (by simp; omega) _).setCell (p := ⟨gu, 0, none⟩) (by simp; omega) _).setCell (p := ⟨w.heap.size + 1, 0, none⟩) (by simp) _).setCell (p := ⟨w.heap.size + 1, 1, none⟩) (by simp) _).drew
end Go.Proofs.Ybulkdaxu
