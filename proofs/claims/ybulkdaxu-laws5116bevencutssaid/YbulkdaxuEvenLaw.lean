import Derived.Test.YbulkdaxuEvenQ
import Derived.Test.YbulkdaxuToward
namespace Go.Proofs.Ybulkdaxu
open Go.RowKit
set_option linter.unusedSimpArgs false
set_option linter.unusedVariables false

theorem FN.drewN {n0 : Nat} {w : World} {v : Value} {d : Nat} {x : Nat → Int} (h : FN n0 w v d x) (k : Nat) : FN n0 (w.drewN k) v d x := h
theorem evT_up {d j : Nat} {z : Nat → Int} {k : Nat} (hk : j % d = k) (h : evA d z j ≤ z k) : (evT d z (j + 1)).el = up (evT d z j).el k (evA d z j) ∧ (evT d z (j + 1)).eh = (evT d z j).eh := by
  subst hk
  unfold evA at h ⊢
  rw [evT_succ, if_pos h]
  exact ⟨rfl, rfl⟩
theorem evT_dn {d j : Nat} {z : Nat → Int} {k : Nat} (hk : j % d = k) (h : ¬ evA d z j ≤ z k) : (evT d z (j + 1)).el = (evT d z j).el ∧ (evT d z (j + 1)).eh = up (evT d z j).eh k (evA d z j) := by
  subst hk
  unfold evA at h ⊢
  rw [evT_succ, if_neg h]
  exact ⟨rfl, rfl⟩
theorem evp_sm {d n J : Nat} {z : Nat → Int} (hn : n ≤ 48) : ∀ i, i < n → Sm (pre (evA d z) J i) := by
  intro i hi
  unfold pre
  split
  · obtain ⟨v, h1, h2, h3, h4, h5⟩ := evA_bd (d := d) (z := z) (j := i) (by omega)
    exact ⟨by omega, by omega⟩
  · exact ⟨by decide, by decide⟩
theorem evp_yes {d n j m : Nat} {z q : Nat → Int} (hn : n ≤ 48) (hj : j < n) (hna : ¬ (evA d z j ≤ z (j % d) ↔ evA d z j ≤ q (j % d))) (hS : StepS d n z (pre (evA d z) (j + 1)) ev0 m) (hA : ∀ i, i < m → Agr d z (pre (evA d z) (j + 1)) q ev0 i) : False := by
  have hmj : m ≤ j := by
    apply Decidable.byContradiction
    intro h
    exact hna ((evp_agr (by omega)).1 (hA j (by omega)))
  rcases hS.2 with h | ⟨_, h⟩
  · omega
  · exact h (evp_ok (by omega) (by omega))
theorem FN.cast {n0 : Nat} {w : World} {v : Value} {d : Nat} {x y : Nat → Int} (h : FN n0 w v d x) (e : ∀ k, k < d → x k = y k) : FN n0 w v d y := by
  obtain ⟨b, c, rfl, h1, h0, h2, h3, h4⟩ := h
  exact ⟨b, c, rfl, h1, h0, h2, fun k hk => by rw [h3 k hk, e k hk], h4⟩


set_option maxRecDepth 100000 in
set_option maxHeartbeats 4000000 in
theorem even_law (w : World) (D C : Int) (hD : 0 ≤ D ∧ D ≤ 255) (hC : 0 ≤ C ∧ C ≤ 255) (a2 a3 : Option Addr) (len2 cap2 len3 cap3 : Nat) (zz qq : Nat → Int) (h2 : Arr .u32 w a2 len2 zz) (h3 : Arr .u32 w a3 len3 qq) (b2 : ∀ j, 0 ≤ zz j ∧ zz j ≤ 4294967295) (b3 : ∀ j, 0 ≤ qq j ∧ qq j ≤ 4294967295) :
    Calls Yba.prog 4 #[.int .u8 D, .int .u8 C, .slice a2 len2 cap2, .slice a3 len3 cap3] w fun e w' => e = .returned (.bool true) ∧ Below w.heap.size w w' := by
  obtain ⟨d, hde, hd0, hd3⟩ : ∃ d : Nat, 1 + D % 3 = (d : Int) ∧ 0 < d ∧ d ≤ 3 := ⟨(1 + D % 3).toNat, by omega, by omega, by omega⟩
  obtain ⟨n, hne, hn⟩ : ∃ n : Nat, C % 49 = (n : Int) ∧ n ≤ 48 := ⟨(C % 49).toNat, by omega, by omega⟩
  have m23 := mk23 d (by omega)
  have m23n := mk23 n (by omega)
  go_enter Yba.func4, Yba.ntmps4
  go_wp2_with fail
  refine (point_any w a2 len2 cap2 d zz h2 b2 hd3).mono ?_
  rintro e w1 ⟨zv, rfl, B1, Z1⟩
  have HZ1 := Hid.mk Z1
  obtain ⟨bz, cz, rfl, x1, x2, x3⟩ := Z1
  clear x1 x2 x3
  dsimp only
  go_wp2_with fail
  refine (point_any w1 a3 len3 cap3 d qq (h3.below B1) b3 hd3).mono ?_
  rintro e w2 ⟨qv, rfl, B2, Q2⟩
  have HQ2 := Hid.mk Q2
  have HZ2 := Hid.mk (HZ1.out.below B2)
  obtain ⟨bq, cq, rfl, x1, x2, x3⟩ := Q2
  clear x1 x2 x3
  dsimp only
  go_wp2_with fail
  refine (space_any w2 d hd3).mono ?_
  rintro e w3 ⟨s1, s2, rfl, B3, S1, S2⟩
  have HS1 := Hid.mk S1
  have HS2 := Hid.mk S2
  have HZ3 := Hid.mk (HZ2.out.below B3)
  have HQ3 := Hid.mk (HQ2.out.below B3)
  obtain ⟨bs1, cs1, rfl, x1, x2, x3⟩ := S1
  clear x1 x2 x3
  obtain ⟨bs2, cs2, rfl, x1, x2, x3⟩ := S2
  clear x1 x2 x3
  have HB3 := Hid.mk ((B1.trans (B2.mono B1.size)).trans (B3.mono (Nat.le_trans B1.size B2.size)))
  have hs3 := HB3.out.size
  clear B1 B2 B3 h2 h3 b2 b3
  dsimp only
  go_wp2_with fail
  have BA : Below w3.heap.size w3 (w3.alloc (Obj.cells #[Value.slice (some ⟨bs1, 0, none⟩) d cs1, Value.slice (some ⟨bs2, 0, none⟩) d cs2] 27)) := (Below.refl _ _).alloc (Nat.le_refl _) _
  refine (zone_any _ _ d (pt len2 zz) (HZ3.out.below BA) (fun k _ => by have := pt_bd len2 zz k; omega) hd3).mono ?_
  rintro e w4 ⟨z1, z2, rfl, B4, T1, T2⟩
  have p0 : w4.cell? ⟨w3.heap.size, 0, none⟩ = some (.slice (some ⟨bs1, 0, none⟩) d cs1) := by rw [B4.cell (p := ⟨w3.heap.size, 0, none⟩) (by simp)]; go_simp
  have p1 : w4.cell? ⟨w3.heap.size, 1, none⟩ = some (.slice (some ⟨bs2, 0, none⟩) d cs2) := by rw [B4.cell (p := ⟨w3.heap.size, 1, none⟩) (by simp)]; go_simp
  have B34 : Below w3.heap.size w3 w4 := BA.trans (B4.mono BA.size)
  have s34 : w3.heap.size + 1 ≤ w4.heap.size := by have := B4.size; simp at this; omega
  have HT1 := Hid.mk T1
  have HT2 := Hid.mk T2
  obtain ⟨bt1, ct1, rfl, x1, x2, x3⟩ := T1
  clear x1 x2 x3
  obtain ⟨bt2, ct2, rfl, x1, x2, x3⟩ := T2
  clear x1 x2 x3
  dsimp only
  go_wp2_with fail
  have B45 : Below w4.heap.size w4 (w4.alloc (Obj.cells #[Value.slice (some ⟨bt1, 0, none⟩) d ct1, Value.slice (some ⟨bt2, 0, none⟩) d ct2] 27)) := (Below.refl _ _).alloc (Nat.le_refl _) _
  have s45 : (w4.alloc (Obj.cells #[Value.slice (some ⟨bt1, 0, none⟩) d ct1, Value.slice (some ⟨bt2, 0, none⟩) d ct2] 27)).heap.size = w4.heap.size + 1 := by simp
  have p2 : (w4.alloc (Obj.cells #[Value.slice (some ⟨bt1, 0, none⟩) d ct1, Value.slice (some ⟨bt2, 0, none⟩) d ct2] 27)).cell? ⟨w4.heap.size, 0, none⟩ = some (.slice (some ⟨bt1, 0, none⟩) d ct1) := by go_simp
  have p3 : (w4.alloc (Obj.cells #[Value.slice (some ⟨bt1, 0, none⟩) d ct1, Value.slice (some ⟨bt2, 0, none⟩) d ct2] 27)).cell? ⟨w4.heap.size, 1, none⟩ = some (.slice (some ⟨bt2, 0, none⟩) d ct2) := by go_simp
  generalize (w4.alloc (Obj.cells #[Value.slice (some ⟨bt1, 0, none⟩) d ct1, Value.slice (some ⟨bt2, 0, none⟩) d ct2] 27)) = w5 at *
  have q0 := (B45.cell (p := ⟨w3.heap.size, 0, none⟩) (by simp; omega)).trans p0
  have q1 := (B45.cell (p := ⟨w3.heap.size, 1, none⟩) (by simp; omega)).trans p1
  have B35 : Below w3.heap.size w3 w5 := B34.trans (B45.mono (by omega))
  have HB5 := Hid.mk (HB3.out.trans (B35.mono hs3))
  have Rz := Hid.mk (HZ3.out.below B35)
  have Rq := Hid.mk (HQ3.out.below B35)
  have R1 := Hid.mk (HS1.out.below B35)
  have R2 := Hid.mk (HS2.out.below B35)
  have R3 := Hid.mk (HT1.out.below B45)
  have R4 := Hid.mk (HT2.out.below B45)
  have E1 := zf_fn w5 d
  have E2 := zf_fn (w5.alloc (.cells (ZF d).toArray 31)) d
  have Eb := below_alloc2 w5 (.cells (ZF d).toArray 31) (.cells (ZF d).toArray 31)
  have E1' := E1.below ((Below.refl _ _).alloc (Nat.le_refl _) (.cells (ZF d).toArray 31))
  rw [World.size_alloc] at E2
  rw [s45] at E2 E1' Eb
  have HE1 := Hid.mk E1'
  have HE2 := Hid.mk E2
  have HEb := Hid.mk Eb
  have Hs45 := Hid.mk s45
  have rzl : bz < w4.heap.size + 1 := by rw [← s45]; exact Rz.out.open.2.1
  have rql : bq < w4.heap.size + 1 := by rw [← s45]; exact Rq.out.open.2.1
  clear E1 E2 E1' Eb B45 s45 B35 p0 p1 BA B4 B34 HZ1 HZ2 HZ3 HQ2 HQ3 HS1 HS2 HT1 HT2
  go_loopw [17] (fun v wr => ∃ k : Nat, k ≤ d ∧ v = .int .i64 (k : Int) ∧ Below (w4.heap.size + 1) w5 wr ∧ wr.heap.size = w4.heap.size + 1 + 1 + 1 ∧ FN (w4.heap.size + 1) wr (.slice (some ⟨w4.heap.size + 1, 0, none⟩) d d) d (fun _ => 0) ∧ FN (w4.heap.size + 1 + 1) wr (.slice (some ⟨w4.heap.size + 1 + 1, 0, none⟩) d d) d (pre (fun _ => 2 ^ 49) k)) (fun v _ => d - (intOf v).toNat)
  case atStart =>
    refine ⟨0, by omega, rfl, HEb.out, by simp [Hs45.out], HE1.out, ?_⟩
    rw [pre_zero]; exact HE2.out
  case round =>
    obtain ⟨k, hk, rfl, hB, hsz, hN0, hN⟩ := hrel
    have HN := Hid.mk hN
    have HN0 := Hid.mk hN0
    obtain ⟨n1, n2, n3⟩ := hN.cells
    have Hsz := Hid.mk hsz
    clear hN hN0 HE1 HE2
    by_cases hkd : k < d
    · have hk0 : (0 : Int) ≤ (k : Int) := by omega
      have hk1 : (k : Int) < (d : Int) := by omega
      have f6 := n1 k hkd
      clear hsz
      go_wp2_with fail
      go_roundw
      case rel =>
        have K := HN.out.put hkd (2 ^ 49)
        rw [pre_succ (fun _ => 2 ^ 49) k, fx16] at K
        exact ⟨k + 1, by omega, by simp, hB.setCell (p := ⟨w4.heap.size + 1 + 1, k, none⟩) (by simp) _, by simpa using Hsz.out, HN0.out.other (p := ⟨w4.heap.size + 1 + 1, k, none⟩) (by simp) _, K⟩
      case measure => simp only [intOf]; omega
    · have hi1 : ¬ (k : Int) < (d : Int) := by omega
      have K0 : FN (w4.heap.size + 1 + 1) wr (.slice (some ⟨w4.heap.size + 1 + 1, 0, none⟩) d d) d (fun _ => 2 ^ 49) := HN.out.cast (fun j hj => by unfold pre; rw [if_pos (by omega)])
      have E3 := zf_fn wr n
      rw [hsz] at E3
      have HE3 := Hid.mk E3
      have BW := (Below.refl wr.heap.size wr).alloc (Nat.le_refl _) (.cells (ZF n).toArray 31)
      have HL := Hid.mk (HN0.out.below BW)
      have HH := Hid.mk (K0.below BW)
      have HBB := Hid.mk (hB.trans (BW.mono (by rw [hsz]; omega)))
      have hptr : wr.heap.size = w4.heap.size + 1 + 1 + 1 := hsz
      clear E3 BW K0 hB n1 n2 n3 HN HN0
      go_wp2_with fail
      clear hptr hsz
      go_loopw [19, 20] (fun dv v wq => ∃ j : Nat, j ≤ n ∧ dv = .bool false ∧ v = .int .i64 (j : Int) ∧ (∀ i, i < j → (evA d (pt len2 zz) i ≤ pt len2 zz (i % d) ↔ evA d (pt len2 zz) i ≤ pt len3 qq (i % d))) ∧ Below (w4.heap.size + 1) w5 wq ∧ FN (w4.heap.size + 1) wq (.slice (some ⟨w4.heap.size + 1, 0, none⟩) d d) d (evT d (pt len2 zz) j).el ∧ FN (w4.heap.size + 1 + 1) wq (.slice (some ⟨w4.heap.size + 1 + 1, 0, none⟩) d d) d (evT d (pt len2 zz) j).eh ∧ FN (w4.heap.size + 1 + 1 + 1) wq (.slice (some ⟨w4.heap.size + 1 + 1 + 1, 0, none⟩) n n) n (pre (evA d (pt len2 zz)) j)) (fun _ v _ => n - (intOf v).toNat)
      case atStart =>
        refine ⟨0, by omega, rfl, rfl, fun i hi => by omega, HBB.out, HL.out, HH.out, ?_⟩
        rw [pre_zero]; exact HE3.out
      case round =>
        obtain ⟨j, hj, rfl, rfl, hag, hB, hNl, hNh, hNa⟩ := hrel
        have Hag := Hid.mk hag
        have HNl := Hid.mk hNl
        have HNh := Hid.mk hNh
        have HNa := Hid.mk hNa
        have HB := Hid.mk hB
        have wrs := hB.size
        clear hag HE3 HL HH HBB
        have c30 := (HB.out.cell (p := ⟨w3.heap.size, 0, none⟩) (by simp; omega)).trans q0
        have c31 := (HB.out.cell (p := ⟨w3.heap.size, 1, none⟩) (by simp; omega)).trans q1
        have c40 := (HB.out.cell (p := ⟨w4.heap.size, 0, none⟩) (by simp)).trans p2
        have c41 := (HB.out.cell (p := ⟨w4.heap.size, 1, none⟩) (by simp)).trans p3
        by_cases hjn : j < n
        · obtain ⟨k, hke, hk⟩ : ∃ k, j % d = k ∧ k < d := ⟨j % d, rfl, Nat.mod_lt _ hd0⟩
          obtain ⟨v, hv0, hv1, hv2, hv3, hv4⟩ := evA_bd (d := d) (z := pt len2 zz) (j := j) (by omega)
          rw [hke] at hv1 hv2 hv3 hv4
          have Hke := Hid.mk hke
          have hmod : (j : Int) % (d : Int) = (k : Int) := by rw [← hke]; omega
          have Hev : Hid (evA d (pt len2 zz) j = (evT d (pt len2 zz) j).mid k) := ⟨by unfold evA; rw [hke]⟩
          have cz := (hB.cell (p := ⟨bz, k, none⟩) rzl).trans (Rz.out.open.2.2 k hk)
          have cq' := (hB.cell (p := ⟨bq, k, none⟩) rql).trans (Rq.out.open.2.2 k hk)
          have cl := hNl.cells.1 k hk
          have ch := hNh.cells.1 k hk
          have ca := hNa.cells.1 j hjn
          have fl := hNl.cells.2.1
          have fh := hNh.cells.2.1
          have fa' := hNa.cells.2.1
          have bz' := pt_bd len2 zz k
          have bq' := pt_bd len3 qq k
          have sml : Sm ((evT d (pt len2 zz) j).el k) := ⟨by omega, by omega⟩
          have smh : Sm ((evT d (pt len2 zz) j).eh k) := ⟨by omega, by omega⟩
          have smm : Sm (evA d (pt len2 zz) j) := ⟨by omega, by omega⟩
          have smz : Sm (pt len2 zz k) := ⟨by omega, by omega⟩
          have smq : Sm (pt len3 qq k) := ⟨by omega, by omega⟩
          have r1 := fadd sml smh ⟨by omega, by omega⟩ _ rfl
          have r2 := fhalf (a := (evT d (pt len2 zz) j).el k + (evT d (pt len2 zz) j).eh k) (c := evA d (pt len2 zz) j) ⟨by omega, by omega⟩ (by omega) (by omega)
          have o1 := ob_ge smz smm
          have o2 := ob_ge smq smm
          have hj0 : (0 : Int) ≤ (j : Int) := by omega
          have hj1 : (j : Int) < (n : Int) := by omega
          have hk0 : (0 : Int) ≤ (k : Int) := by omega
          have hk1 : (k : Int) < (d : Int) := by omega
          have hdz : ¬ (d : Int) = 0 := by omega
          have nz1 : bz ≠ w4.heap.size + 1 + 1 + 1 := by omega
          have nz2 : ¬ w4.heap.size + 1 + 1 + 1 = bz := by omega
          have nq1 : bq ≠ w4.heap.size + 1 + 1 + 1 := by omega
          have nq2 : ¬ w4.heap.size + 1 + 1 + 1 = bq := by omega
          have nl1 : ¬ w4.heap.size + 1 = w4.heap.size + 1 + 1 + 1 := by omega
          have nl2 : ¬ w4.heap.size + 1 + 1 + 1 = w4.heap.size + 1 := by omega
          clear hke hB hNl hNh hNa hv1 hv2 hv3 hv4 bz' bq'
          have nb1 : ¬ w4.heap.size + 1 + 1 + 1 = w3.heap.size := by omega
          have nb2 : ¬ w3.heap.size = w4.heap.size + 1 + 1 + 1 := by omega
          have nb3 : ¬ w4.heap.size + 1 + 1 + 1 = w4.heap.size := by omega
          have nb4 : ¬ w4.heap.size = w4.heap.size + 1 + 1 + 1 := by omega
          by_cases hzm : evA d (pt len2 zz) j ≤ (pt len2 zz) k
          · rw [decide_eq_true hzm] at o1
            by_cases hqm : evA d (pt len2 zz) j ≤ (pt len3 qq) k
            · rw [decide_eq_true hqm] at o2
              go_wp2_with fail
              go_quiet (fail)
              go_wp2_with fail
              go_roundw
              case rel =>
                obtain ⟨u1, u2⟩ := evT_up Hke.out hzm
                have Kl := ((HNl.out.drewN nq).other (p := ⟨w4.heap.size + 1 + 1 + 1, j, none⟩) (by first | omega | (simp; done) | (simp; omega)) (.float .f64 (fx (evA d (pt len2 zz) j)))).put hk (evA d (pt len2 zz) j)
                have Kh := ((HNh.out.drewN nq).other (p := ⟨w4.heap.size + 1 + 1 + 1, j, none⟩) (by first | omega | (simp; done) | (simp; omega)) (.float .f64 (fx (evA d (pt len2 zz) j)))).other (p := ⟨w4.heap.size + 1, k, none⟩) (by first | omega | (simp; done) | (simp; omega)) (.float .f64 (fx (evA d (pt len2 zz) j)))
                have Ka := ((HNa.out.drewN nq).put hjn (evA d (pt len2 zz) j)).other (p := ⟨w4.heap.size + 1, k, none⟩) (by first | omega | (simp; done) | (simp; omega)) (.float .f64 (fx (evA d (pt len2 zz) j)))
                rw [pre_succ (evA d (pt len2 zz)) j] at Ka
                refine ⟨j + 1, by omega, rfl, by simp, fun i hi => ?_, ((Below.drewN HB.out nq).setCell (p := ⟨w4.heap.size + 1 + 1 + 1, j, none⟩) (by first | omega | (simp; done) | (simp; omega)) _).setCell (p := ⟨w4.heap.size + 1, k, none⟩) (by first | omega | (simp; done) | (simp; omega)) _, by rw [u1]; exact Kl, by rw [u2]; exact Kh, Ka⟩
                by_cases e : i = j
                · subst e; rw [Hke.out]; exact ⟨fun _ => hqm, fun _ => hzm⟩
                · exact Hag.out i (by omega)
              case measure => simp only [intOf]; omega
            · rw [decide_eq_false hqm] at o2
              go_wp2_with fail
              go_quiet (fail)
              go_wp2_with fail
              have HNag : Hid (¬ (evA d (pt len2 zz) j ≤ (pt len2 zz) (j % d) ↔ evA d (pt len2 zz) j ≤ (pt len3 qq) (j % d))) := ⟨by rw [Hke.out]; exact fun x => absurd (x.1 hzm) (by omega)⟩
              have Ka := (HNa.out.drewN nq).put hjn (evA d (pt len2 zz) j)
              rw [pre_succ (evA d (pt len2 zz)) j] at Ka
              have BX0 := (Below.drewN HB.out nq).setCell (p := ⟨w4.heap.size + 1 + 1 + 1, j, none⟩) (by first | omega | (simp; done) | (simp; omega)) (.float .f64 (fx (evA d (pt len2 zz) j)))
              generalize ((wr.drewN nq).setCell ⟨w4.heap.size + 1 + 1 + 1, j, none⟩ (.float .f64 (fx (evA d (pt len2 zz) j)))) = wX at *
              have BX : Below w5.heap.size w5 wX := by rw [Hs45.out]; exact BX0
              have ATR := Ka.fr
              have JLE : j + 1 ≤ n := hjn
              refine (toward_any wX d n (pt len2 zz) (pre (evA d (pt len2 zz)) (j + 1)) (pt len3 qq) ev0 _ _ _ _ _ _ (fun k => (pt len2 zz) k + 2 ^ 45) (fun _ => (pt len3 qq)) hd0 hd3 (by omega) (R1.out.below BX) (R2.out.below BX) rfl rfl (R3.out.below BX) (R4.out.below BX) ATR (Rq.out.below BX) (fun k _ => by have := pt_bd len2 zz k; exact ⟨by omega, by omega⟩) (fun k _ => by have := pt_bd len3 qq k; exact ⟨by omega, by omega⟩) (evp_sm hn) (evp_fine hn JLE (pt_lt len2 zz)) (evp_unf hn JLE (pt_lt len2 zz) (pt_lt len3 qq) (pt_mul len3 qq))).mono ?_
              rintro e w6 ⟨B6, (⟨m, hS, hA, rfl⟩ | ⟨m, pv, h1, h2, h3, h4, rfl, h5⟩)⟩
              · exact (evp_yes hn hjn HNag.out hS hA).elim
              · have HB6 := Hid.mk ((HB5.out.trans (BX.mono HB5.out.size)).trans (B6.mono (Nat.le_trans HB5.out.size BX.size)))
                have HP6 := Hid.mk h5
                have HQ6 := Hid.mk ((Rq.out.below BX).below B6)
                obtain ⟨bp, cp, rfl, x1, x2, x3⟩ := h5
                clear x1 x2 x3 h1 h2 h3 h4 B6 BX BX0 Ka ATR JLE cl ch ca fl fh fa' r1 r2 o1 o2 c30 c31 c40 c41 HNag cz cq'
                dsimp only
                go_wp2_with fail
                go_loopw [27] (fun v wq => ∃ i : Nat, i ≤ d ∧ v = .int .i64 (i : Int) ∧ Below w6.heap.size w6 wq) (fun v _ => d - (intOf v).toNat)
                case atStart => exact ⟨0, by omega, rfl, Below.refl _ _⟩
                case round =>
                  obtain ⟨i, hi, rfl, hBq⟩ := hrel
                  by_cases hid : i < d
                  · have g1 := (hBq.cell (p := ⟨bp, i, none⟩) HP6.out.open.2.1).trans (HP6.out.open.2.2 i hid)
                    have g2 := (hBq.cell (p := ⟨bq, i, none⟩) HQ6.out.open.2.1).trans (HQ6.out.open.2.2 i hid)
                    have smi : Sm ((pt len3 qq) i) := by have := pt_bd len3 qq i; exact ⟨by omega, by omega⟩
                    have o3 := (ob_ne smi smi).trans (decide_eq_false (fun h => h rfl))
                    have i0 : (0 : Int) ≤ (i : Int) := by omega
                    have i1 : (i : Int) < (d : Int) := by omega
                    go_wp2_with fail
                    go_quiet (fail)
                    go_wp2_with fail
                    go_roundw
                    case rel => exact ⟨i + 1, by omega, by simp, Below.drewN hBq _⟩
                    case measure => simp only [intOf]; omega
                  · have i1 : ¬ (i : Int) < (d : Int) := by omega
                    go_wp2_with fail
                    go_ret
                    exact ⟨rfl, HB6.out.trans (hBq.mono HB6.out.size)⟩
          · rw [decide_eq_false hzm] at o1
            by_cases hqm : evA d (pt len2 zz) j ≤ (pt len3 qq) k
            · rw [decide_eq_true hqm] at o2
              go_wp2_with fail
              go_quiet (fail)
              go_wp2_with fail
              have HNag : Hid (¬ (evA d (pt len2 zz) j ≤ (pt len2 zz) (j % d) ↔ evA d (pt len2 zz) j ≤ (pt len3 qq) (j % d))) := ⟨by rw [Hke.out]; exact fun x => absurd (x.2 hqm) (by omega)⟩
              have Ka := (HNa.out.drewN nq).put hjn (evA d (pt len2 zz) j)
              rw [pre_succ (evA d (pt len2 zz)) j] at Ka
              have BX0 := (Below.drewN HB.out nq).setCell (p := ⟨w4.heap.size + 1 + 1 + 1, j, none⟩) (by first | omega | (simp; done) | (simp; omega)) (.float .f64 (fx (evA d (pt len2 zz) j)))
              generalize ((wr.drewN nq).setCell ⟨w4.heap.size + 1 + 1 + 1, j, none⟩ (.float .f64 (fx (evA d (pt len2 zz) j)))) = wX at *
              have BX : Below w5.heap.size w5 wX := by rw [Hs45.out]; exact BX0
              have ATR := Ka.fr
              have JLE : j + 1 ≤ n := hjn
              refine (toward_any wX d n (pt len2 zz) (pre (evA d (pt len2 zz)) (j + 1)) (pt len3 qq) ev0 _ _ _ _ _ _ (fun k => (pt len2 zz) k + 2 ^ 45) (fun _ => (pt len3 qq)) hd0 hd3 (by omega) (R1.out.below BX) (R2.out.below BX) rfl rfl (R3.out.below BX) (R4.out.below BX) ATR (Rq.out.below BX) (fun k _ => by have := pt_bd len2 zz k; exact ⟨by omega, by omega⟩) (fun k _ => by have := pt_bd len3 qq k; exact ⟨by omega, by omega⟩) (evp_sm hn) (evp_fine hn JLE (pt_lt len2 zz)) (evp_unf hn JLE (pt_lt len2 zz) (pt_lt len3 qq) (pt_mul len3 qq))).mono ?_
              rintro e w6 ⟨B6, (⟨m, hS, hA, rfl⟩ | ⟨m, pv, h1, h2, h3, h4, rfl, h5⟩)⟩
              · exact (evp_yes hn hjn HNag.out hS hA).elim
              · have HB6 := Hid.mk ((HB5.out.trans (BX.mono HB5.out.size)).trans (B6.mono (Nat.le_trans HB5.out.size BX.size)))
                have HP6 := Hid.mk h5
                have HQ6 := Hid.mk ((Rq.out.below BX).below B6)
                obtain ⟨bp, cp, rfl, x1, x2, x3⟩ := h5
                clear x1 x2 x3 h1 h2 h3 h4 B6 BX BX0 Ka ATR JLE cl ch ca fl fh fa' r1 r2 o1 o2 c30 c31 c40 c41 HNag cz cq'
                dsimp only
                go_wp2_with fail
                go_loopw [27] (fun v wq => ∃ i : Nat, i ≤ d ∧ v = .int .i64 (i : Int) ∧ Below w6.heap.size w6 wq) (fun v _ => d - (intOf v).toNat)
                case atStart => exact ⟨0, by omega, rfl, Below.refl _ _⟩
                case round =>
                  obtain ⟨i, hi, rfl, hBq⟩ := hrel
                  by_cases hid : i < d
                  · have g1 := (hBq.cell (p := ⟨bp, i, none⟩) HP6.out.open.2.1).trans (HP6.out.open.2.2 i hid)
                    have g2 := (hBq.cell (p := ⟨bq, i, none⟩) HQ6.out.open.2.1).trans (HQ6.out.open.2.2 i hid)
                    have smi : Sm ((pt len3 qq) i) := by have := pt_bd len3 qq i; exact ⟨by omega, by omega⟩
                    have o3 := (ob_ne smi smi).trans (decide_eq_false (fun h => h rfl))
                    have i0 : (0 : Int) ≤ (i : Int) := by omega
                    have i1 : (i : Int) < (d : Int) := by omega
                    go_wp2_with fail
                    go_quiet (fail)
                    go_wp2_with fail
                    go_roundw
                    case rel => exact ⟨i + 1, by omega, by simp, Below.drewN hBq _⟩
                    case measure => simp only [intOf]; omega
                  · have i1 : ¬ (i : Int) < (d : Int) := by omega
                    go_wp2_with fail
                    go_ret
                    exact ⟨rfl, HB6.out.trans (hBq.mono HB6.out.size)⟩
            · rw [decide_eq_false hqm] at o2
              go_wp2_with fail
              go_quiet (fail)
              go_wp2_with fail
              go_roundw
              case rel =>
                have hzm' : ¬ evA d (pt len2 zz) j ≤ (pt len2 zz) k := by omega
                obtain ⟨u1, u2⟩ := evT_dn Hke.out hzm'
                have Kl := ((HNl.out.drewN nq).other (p := ⟨w4.heap.size + 1 + 1 + 1, j, none⟩) (by first | omega | (simp; done) | (simp; omega)) (.float .f64 (fx (evA d (pt len2 zz) j)))).other (p := ⟨w4.heap.size + 1 + 1, k, none⟩) (by first | omega | (simp; done) | (simp; omega)) (.float .f64 (fx (evA d (pt len2 zz) j)))
                have Kh := ((HNh.out.drewN nq).other (p := ⟨w4.heap.size + 1 + 1 + 1, j, none⟩) (by first | omega | (simp; done) | (simp; omega)) (.float .f64 (fx (evA d (pt len2 zz) j)))).put hk (evA d (pt len2 zz) j)
                have Ka := ((HNa.out.drewN nq).put hjn (evA d (pt len2 zz) j)).other (p := ⟨w4.heap.size + 1 + 1, k, none⟩) (by first | omega | (simp; done) | (simp; omega)) (.float .f64 (fx (evA d (pt len2 zz) j)))
                rw [pre_succ (evA d (pt len2 zz)) j] at Ka
                refine ⟨j + 1, by omega, rfl, by simp, fun i hi => ?_, ((Below.drewN HB.out nq).setCell (p := ⟨w4.heap.size + 1 + 1 + 1, j, none⟩) (by first | omega | (simp; done) | (simp; omega)) _).setCell (p := ⟨w4.heap.size + 1 + 1, k, none⟩) (by first | omega | (simp; done) | (simp; omega)) _, by rw [u1]; exact Kl, by rw [u2]; exact Kh, Ka⟩
                by_cases e : i = j
                · subst e; rw [Hke.out]; exact ⟨fun x => absurd x hzm', fun x => absurd x (by omega)⟩
                · exact Hag.out i (by omega)
              case measure => simp only [intOf]; omega
        · have hi2 : ¬ (j : Int) < (n : Int) := by omega
          have hnil := fun w => Lib.run_eql_slice_nil (P := Yba.prog) w 24 31 none 0 0 0 0 Yba.underlying24
          go_wp2_with fail
          have BX : Below w5.heap.size w5 wr := by rw [Hs45.out]; exact HB.out
          have ATR := HNa.out.fr
          have JLE : j ≤ n := hj
          refine (toward_any wr d n (pt len2 zz) (pre (evA d (pt len2 zz)) j) (pt len3 qq) ev0 _ _ _ _ _ _ (fun k => (pt len2 zz) k + 2 ^ 45) (fun _ => (pt len3 qq)) hd0 hd3 (by omega) (R1.out.below BX) (R2.out.below BX) rfl rfl (R3.out.below BX) (R4.out.below BX) ATR (Rq.out.below BX) (fun k _ => by have := pt_bd len2 zz k; exact ⟨by omega, by omega⟩) (fun k _ => by have := pt_bd len3 qq k; exact ⟨by omega, by omega⟩) (evp_sm hn) (evp_fine hn JLE (pt_lt len2 zz)) (evp_unf hn JLE (pt_lt len2 zz) (pt_lt len3 qq) (pt_mul len3 qq))).mono ?_
          rintro e w6 ⟨B6, (⟨m, hS, hA, rfl⟩ | ⟨m, pv, h1, h2, h3, h4, rfl, h5⟩)⟩
          · have HB6 := Hid.mk ((HB5.out.trans (BX.mono HB5.out.size)).trans (B6.mono (Nat.le_trans HB5.out.size BX.size)))
            clear B6 BX ATR JLE hS hA
            dsimp only
            go_wp2_with fail
            go_ret
            exact ⟨by simp, HB6.out⟩
          · exact (h4 ((evp_agr (by omega)).2 (Hag.out m (by omega)))).elim
end Go.Proofs.Ybulkdaxu
