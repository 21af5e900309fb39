import Derived.Test.YbulkdaxuStepQ
import Derived.Test.YbulkdaxuToward
import Derived.Deep.CutBlock
import Derived.Deep.CutRange
namespace Go.Proofs.Ybulkdaxu
open Go.RowKit
set_option linter.unusedSimpArgs false
set_option linter.unusedVariables false

set_option maxRecDepth 100000 in
set_option maxHeartbeats 8000000 in
theorem steps_law (w : World) (D C : Int) (hD : 0 ≤ D ∧ D ≤ 255) (hC : 0 ≤ C ∧ C ≤ 255) (a2 a3 a4 : Option Addr) (len2 cap2 len3 cap3 len4 cap4 : Nat) (zz qq rr : Nat → Int) (h2 : Arr .u32 w a2 len2 zz) (h3 : Arr .u32 w a3 len3 qq) (h4 : Arr .u32 w a4 len4 rr) (b2 : ∀ j, 0 ≤ zz j ∧ zz j ≤ 4294967295) (b3 : ∀ j, 0 ≤ qq j ∧ qq j ≤ 4294967295) (b4 : ∀ j, 0 ≤ rr j ∧ rr j ≤ 4294967295) :
    Calls Yba.prog 3 #[.int .u8 D, .int .u8 C, .slice a2 len2 cap2, .slice a3 len3 cap3, .slice a4 len4 cap4] w fun e w' => e = .returned (.bool true) ∧ Below w.heap.size w w' := by
  obtain ⟨d, hde, hd0, hd3⟩ : ∃ d : Nat, 1 + D % 3 = (d : Int) ∧ 0 < d ∧ d ≤ 3 := ⟨(1 + D % 3).toNat, by omega, by omega, by omega⟩
  obtain ⟨n, rfl, hn⟩ : ∃ n : Nat, C = (n : Int) ∧ n ≤ 255 := ⟨C.toNat, by omega, by omega⟩
  have m23 := mk23 d (by omega)
  have m23n := mk23 n (by omega)
  have m30 := mk30 d (by omega)
  go_enter Yba.func3, Yba.ntmps3
  go_wp2_with fail
  refine (point_any w a2 len2 cap2 d zz h2 b2 hd3).mono ?_
  rintro e w1 ⟨zv, rfl, B1, Z1⟩
  have HZ1 := Hid.mk Z1
  obtain ⟨bz, cz, rfl, x1, x2, x3⟩ := Z1
  clear x1 x2 x3
  dsimp only
  go_wp2_with fail
  refine (point_any w1 a3 len3 cap3 d qq (h3.below B1) b3 hd3).mono ?_
  rintro e w2 ⟨qv, rfl, B2, Q2⟩
  have HQ2 := Hid.mk Q2
  have HZ2 := Hid.mk (HZ1.out.below B2)
  obtain ⟨bq, cq, rfl, x1, x2, x3⟩ := Q2
  clear x1 x2 x3
  dsimp only
  go_wp2_with fail
  refine (space_any w2 d hd3).mono ?_
  rintro e w3 ⟨s1, s2, rfl, B3, S1, S2⟩
  have HS1 := Hid.mk S1
  have HS2 := Hid.mk S2
  have HZ3 := Hid.mk (HZ2.out.below B3)
  have HQ3 := Hid.mk (HQ2.out.below B3)
  obtain ⟨bs1, cs1, rfl, x1, x2, x3⟩ := S1
  clear x1 x2 x3
  obtain ⟨bs2, cs2, rfl, x1, x2, x3⟩ := S2
  clear x1 x2 x3
  have HB3 := Hid.mk ((B1.trans (B2.mono B1.size)).trans (B3.mono (Nat.le_trans B1.size B2.size)))
  have hs3 := HB3.out.size
  clear B1 B2 B3 h2 h3 b2 b3
  dsimp only
  go_wp2_with fail
  have BA : Below w3.heap.size w3 (w3.alloc (Obj.cells #[Value.slice (some ⟨bs1, 0, none⟩) d cs1, Value.slice (some ⟨bs2, 0, none⟩) d cs2] 27)) := (Below.refl _ _).alloc (Nat.le_refl _) _
  refine (zone_any _ _ d (pt len2 zz) (HZ3.out.below BA) (fun k _ => by have := pt_bd len2 zz k; omega) hd3).mono ?_
  rintro e w4 ⟨z1, z2, rfl, B4, T1, T2⟩
  have p0 : w4.cell? ⟨w3.heap.size, 0, none⟩ = some (.slice (some ⟨bs1, 0, none⟩) d cs1) := by rw [B4.cell (p := ⟨w3.heap.size, 0, none⟩) (by simp)]; go_simp
  have p1 : w4.cell? ⟨w3.heap.size, 1, none⟩ = some (.slice (some ⟨bs2, 0, none⟩) d cs2) := by rw [B4.cell (p := ⟨w3.heap.size, 1, none⟩) (by simp)]; go_simp
  have B34 : Below w3.heap.size w3 w4 := BA.trans (B4.mono BA.size)
  have s34 : w3.heap.size + 1 ≤ w4.heap.size := by have := B4.size; simp at this; omega
  have HT1 := Hid.mk T1
  have HT2 := Hid.mk T2
  obtain ⟨bt1, ct1, rfl, x1, x2, x3⟩ := T1
  clear x1 x2 x3
  obtain ⟨bt2, ct2, rfl, x1, x2, x3⟩ := T2
  clear x1 x2 x3
  dsimp only
  go_wp2_with fail
  have B45 : Below w4.heap.size w4 (w4.alloc (Obj.cells #[Value.slice (some ⟨bt1, 0, none⟩) d ct1, Value.slice (some ⟨bt2, 0, none⟩) d ct2] 27)) := (Below.refl _ _).alloc (Nat.le_refl _) _
  have s45 : (w4.alloc (Obj.cells #[Value.slice (some ⟨bt1, 0, none⟩) d ct1, Value.slice (some ⟨bt2, 0, none⟩) d ct2] 27)).heap.size = w4.heap.size + 1 := by simp
  have p2 : (w4.alloc (Obj.cells #[Value.slice (some ⟨bt1, 0, none⟩) d ct1, Value.slice (some ⟨bt2, 0, none⟩) d ct2] 27)).cell? ⟨w4.heap.size, 0, none⟩ = some (.slice (some ⟨bt1, 0, none⟩) d ct1) := by go_simp
  have p3 : (w4.alloc (Obj.cells #[Value.slice (some ⟨bt1, 0, none⟩) d ct1, Value.slice (some ⟨bt2, 0, none⟩) d ct2] 27)).cell? ⟨w4.heap.size, 1, none⟩ = some (.slice (some ⟨bt2, 0, none⟩) d ct2) := by go_simp
  generalize (w4.alloc (Obj.cells #[Value.slice (some ⟨bt1, 0, none⟩) d ct1, Value.slice (some ⟨bt2, 0, none⟩) d ct2] 27)) = w5 at *
  have q0 := (B45.cell (p := ⟨w3.heap.size, 0, none⟩) (by simp; omega)).trans p0
  have q1 := (B45.cell (p := ⟨w3.heap.size, 1, none⟩) (by simp; omega)).trans p1
  have B35 : Below w3.heap.size w3 w5 := B34.trans (B45.mono (by omega))
  have HB5 := Hid.mk (HB3.out.trans (B35.mono hs3))
  have Rz := Hid.mk (HZ3.out.below B35)
  have Rq := Hid.mk (HQ3.out.below B35)
  have R1 := Hid.mk (HS1.out.below B35)
  have R2 := Hid.mk (HS2.out.below B35)
  have R3 := Hid.mk (HT1.out.below B45)
  have R4 := Hid.mk (HT2.out.below B45)
  have Ra := Hid.mk (h4.below HB5.out)
  clear h4
  have E1 := (zi_in w5 d).below (below_alloc3 (w5.alloc (.cells (ZI d).toArray 2)) (.cells (ZI d).toArray 2) (.cells (ZF d).toArray 31) (.cells (ZF d).toArray 31))
  have E2 := (zi_in (w5.alloc (.cells (ZI d).toArray 2)) d).below (below_alloc2 _ (.cells (ZF d).toArray 31) (.cells (ZF d).toArray 31))
  have E3 := (zf_fn ((w5.alloc (.cells (ZI d).toArray 2)).alloc (.cells (ZI d).toArray 2)) d).below ((Below.refl _ _).alloc (Nat.le_refl _) (.cells (ZF d).toArray 31))
  have E4 := zf_fn (((w5.alloc (.cells (ZI d).toArray 2)).alloc (.cells (ZI d).toArray 2)).alloc (.cells (ZF d).toArray 31)) d
  have Eb := below_alloc4 w5 (.cells (ZI d).toArray 2) (.cells (ZI d).toArray 2) (.cells (ZF d).toArray 31) (.cells (ZF d).toArray 31)
  simp only [World.size_alloc] at E2 E3 E4
  rw [s45] at E1 E2 E3 E4 Eb
  have HE1 := Hid.mk E1
  have HE2 := Hid.mk E2
  have HE3 := Hid.mk E3
  have HE4 := Hid.mk E4
  have HEb := Hid.mk Eb
  have Hs45 := Hid.mk s45
  have rzl : bz < w4.heap.size + 1 := by rw [← s45]; exact Rz.out.open.2.1
  have rql : bq < w4.heap.size + 1 := by rw [← s45]; exact Rq.out.open.2.1
  clear E1 E2 E3 E4 Eb B45 s45 B35 p0 p1 BA B4 B34 HZ1 HZ2 HZ3 HQ2 HQ3 HS1 HS2 HT1 HT2
  go_loopw [21] (fun v wr => ∃ k : Nat, k ≤ d ∧ v = .int .i64 (k : Int) ∧ Below (w4.heap.size + 1) w5 wr ∧ wr.heap.size = w4.heap.size + 1 + 1 + 1 + 1 + 1 ∧ IN wr (w4.heap.size + 1) d (fun _ => 0) ∧ IN wr (w4.heap.size + 1 + 1) d (pre (fun _ => 16) k) ∧ FN (w4.heap.size + 1 + 1 + 1) wr (.slice (some ⟨w4.heap.size + 1 + 1 + 1, 0, none⟩) d d) d (fun _ => 0) ∧ FN (w4.heap.size + 1 + 1 + 1 + 1) wr (.slice (some ⟨w4.heap.size + 1 + 1 + 1 + 1, 0, none⟩) d d) d (pre (fun _ => 2 ^ 49) k)) (fun v _ => d - (intOf v).toNat)
  case atStart =>
    refine ⟨0, by omega, rfl, HEb.out, by simp [Hs45.out], HE1.out, ?_, HE3.out, ?_⟩
    · rw [pre_zero]; exact HE2.out
    · rw [pre_zero]; exact HE4.out
  case round =>
    obtain ⟨k, hk, rfl, hB, hsz, hN1, hN2, hN3, hN4⟩ := hrel
    have HN1 := Hid.mk hN1
    have HN2 := Hid.mk hN2
    have HN3 := Hid.mk hN3
    have HN4 := Hid.mk hN4
    obtain ⟨n1, n2, n3⟩ := hN4.cells
    obtain ⟨i1, i2, i3⟩ := hN2
    have Hsz := Hid.mk hsz
    clear hN1 hN3 hN4 HE1 HE2 HE3 HE4
    by_cases hkd : k < d
    · have hk0 : (0 : Int) ≤ (k : Int) := by omega
      have hk1 : (k : Int) < (d : Int) := by omega
      have f6 := n1 k hkd
      have f7 := i2 k hkd
      clear hsz
      go_wp2_with fail
      go_roundw
      case rel =>
        have K4 := (HN4.out.other (p := ⟨w4.heap.size + 1 + 1, k, none⟩) (by first | omega | (simp; done) | (simp; omega)) (.int .i64 16)).put hkd (2 ^ 49)
        rw [pre_succ (fun _ => 2 ^ 49) k, fx16] at K4
        have K2 := (HN2.out.put hkd 16).other (p := ⟨w4.heap.size + 1 + 1 + 1 + 1, k, none⟩) (by first | omega | (simp; done) | (simp; omega)) (.float .f64 4625196817309499392)
        rw [pre_succ (fun _ => 16) k] at K2
        exact ⟨k + 1, by omega, by simp, (hB.setCell (p := ⟨w4.heap.size + 1 + 1, k, none⟩) (by first | omega | (simp; done) | (simp; omega)) _).setCell (p := ⟨w4.heap.size + 1 + 1 + 1 + 1, k, none⟩) (by first | omega | (simp; done) | (simp; omega)) _, by simpa using Hsz.out, (HN1.out.other (p := ⟨w4.heap.size + 1 + 1, k, none⟩) (by first | omega | (simp; done) | (simp; omega)) _).other (p := ⟨w4.heap.size + 1 + 1 + 1 + 1, k, none⟩) (by first | omega | (simp; done) | (simp; omega)) _, K2, (HN3.out.other (p := ⟨w4.heap.size + 1 + 1, k, none⟩) (by first | omega | (simp; done) | (simp; omega)) _).other (p := ⟨w4.heap.size + 1 + 1 + 1 + 1, k, none⟩) (by first | omega | (simp; done) | (simp; omega)) _, K4⟩
      case measure => simp only [intOf]; omega
    · have hi1 : ¬ (k : Int) < (d : Int) := by omega
      have K2 : IN wr (w4.heap.size + 1 + 1) d (fun _ => 16) := HN2.out.cast (fun j hj => by unfold pre; rw [if_pos (by omega)])
      have K4 : FN (w4.heap.size + 1 + 1 + 1 + 1) wr (.slice (some ⟨w4.heap.size + 1 + 1 + 1 + 1, 0, none⟩) d d) d (fun _ => 2 ^ 49) := HN4.out.as (fun j hj => by unfold pre; rw [if_pos (by omega)])
      have E5 := zf_fn wr n
      rw [hsz] at E5
      have HE5 := Hid.mk E5
      have BW := (Below.refl wr.heap.size wr).alloc (Nat.le_refl _) (.cells (ZF n).toArray 31)
      have HWL := Hid.mk (HN1.out.below BW)
      have HWH := Hid.mk (K2.below BW)
      have HEL := Hid.mk (HN3.out.below BW)
      have HEH := Hid.mk (K4.below BW)
      have HBB := Hid.mk (hB.trans (BW.mono (by rw [hsz]; omega)))
      have hptr : wr.heap.size = w4.heap.size + 1 + 1 + 1 + 1 + 1 := hsz
      have hzb := pt_lt len2 zz
      have hqb := pt_lt len3 qq
      have Hqm := Hid.mk (pt_mul len3 qq)
      clear E5 BW K2 K4 hB n1 n2 n3 HN1 HN2 HN3 HN4 i1 i2 i3
      go_upto_block 2 with fail
      clear hptr hsz
      generalize pt len2 zz = zf at *
      generalize pt len3 qq = qf at *
      go_cut [23, 24, 25] from 74 to 192 (fun dv lo hi wx => Below (w4.heap.size + 1) w5 wx ∧ Out d n zf qf dv lo hi (.slice (some ⟨w4.heap.size + 1 + 1 + 1 + 1 + 1, 0, none⟩) n n) wx)
      case first =>
        go_wp2_with fail
        go_loopw [23, 24, 25, 26] (fun dv lo hi v wq => ∃ j : Nat, j ≤ n ∧ dv = .bool false ∧ lo = .slice none 0 0 ∧ hi = .slice none 0 0 ∧ v = .int .i64 (j : Int) ∧ (∀ i, i < j → OkI d zf (rI len4 rr) i) ∧ (∀ i, i < j → AgI d zf (rI len4 rr) qf i) ∧ Below (w4.heap.size + 1) w5 wq ∧ IN wq (w4.heap.size + 1) d (itT d zf (rI len4 rr) j).wl ∧ IN wq (w4.heap.size + 1 + 1) d (itT d zf (rI len4 rr) j).wh ∧ FN (w4.heap.size + 1 + 1 + 1) wq (.slice (some ⟨w4.heap.size + 1 + 1 + 1, 0, none⟩) d d) d (itT d zf (rI len4 rr) j).el ∧ FN (w4.heap.size + 1 + 1 + 1 + 1) wq (.slice (some ⟨w4.heap.size + 1 + 1 + 1 + 1, 0, none⟩) d d) d (itT d zf (rI len4 rr) j).eh ∧ FN (w4.heap.size + 1 + 1 + 1 + 1 + 1) wq (.slice (some ⟨w4.heap.size + 1 + 1 + 1 + 1 + 1, 0, none⟩) n n) n (pre (cA d zf (rI len4 rr)) j)) (fun _ _ _ v _ => n - (intOf v).toNat)
        case atStart =>
          refine ⟨0, by omega, rfl, rfl, rfl, rfl, fun i hi => by omega, fun i hi => by omega, HBB.out, HWL.out, HWH.out, HEL.out, HEH.out, ?_⟩
          rw [pre_zero]; exact HE5.out
        case round =>
          obtain ⟨j, hj, rfl, rfl, rfl, rfl, hok, hag, hB, hNl, hNh, hNel, hNeh, hNa⟩ := hrel
          have Hok := Hid.mk hok
          have Hag := Hid.mk hag
          have HWl := Hid.mk hNl
          have HWh := Hid.mk hNh
          have HEl := Hid.mk hNel
          have HEh := Hid.mk hNeh
          have HNa := Hid.mk hNa
          have HB := Hid.mk hB
          have wrs := hB.size
          clear hag HE5 HWL HWH HEL HEH HBB
          by_cases hjn : j < n
          · obtain ⟨k, hke, hk⟩ : ∃ k, j % d = k ∧ k < d := ⟨j % d, rfl, Nat.mod_lt _ hd0⟩
            obtain ⟨hv1, hv2, hv3, v, hv4, hv5, hv6, hv7, hv8⟩ := it_bd (d := d) (z := zf) (r := (rI len4 rr)) (j := j) hok k
            have Hke := Hid.mk hke
            have hmod : (j : Int) % (d : Int) = (k : Int) := by rw [← hke]; omega
            have rb : 0 ≤ rI len4 rr j ∧ rI len4 rr j ≤ 4294967295 := by
              unfold rI; split
              · omega
              · exact b4 _
            have czz := (hB.cell (p := ⟨bz, k, none⟩) rzl).trans (Rz.out.open.2.2 k hk)
            have cqq := (hB.cell (p := ⟨bq, k, none⟩) rql).trans (Rq.out.open.2.2 k hk)
            have cl := hNel.cells.1 k hk
            have ch := hNeh.cells.1 k hk
            have ca := hNa.cells.1 j hjn
            have fl := hNel.cells.2.1
            have fh := hNeh.cells.2.1
            have fa := hNa.cells.2.1
            have iwl := hNl.2.1 k hk
            have iwh := hNh.2.1 k hk
            have fwl := hNl.2.2
            have fwh := hNh.2.2
            have hj0 : (0 : Int) ≤ (j : Int) := by omega
            have hj1 : (j : Int) < (n : Int) := by omega
            have hj9 : (j : Int) ≤ 4294967295 := by omega
            have hk0 : (0 : Int) ≤ (k : Int) := by omega
            have hk1 : (k : Int) < (d : Int) := by omega
            have hdz : ¬ (d : Int) = 0 := by omega
            clear hke hB hNl hNh hNel hNeh hNa hok
            go_upto_if 86 with fail
            go_cut [28] from 74 to 192 (fun rv wx => rv = .int .u32 (rI len4 rr j) ∧ wx = wr)
            case first =>
              have Hrb := Hid.mk b4
              clear rb b4
              rcases Ra.out with h0 | ⟨ba, oa, rfl, hal, hac⟩
              · subst h0
                go_wp2_with fail
                go_meet
                exact ⟨by simp [rI], rfl⟩
              · by_cases h0 : len4 = 0
                · subst h0
                  go_wp2_with fail
                  go_meet
                  exact ⟨by simp [rI], rfl⟩
                · obtain ⟨i, hie, hil⟩ : ∃ i, j % len4 = i ∧ i < len4 := ⟨j % len4, rfl, Nat.mod_lt _ (by omega)⟩
                  have hmod2 : (j : Int) % (len4 : Int) = (i : Int) := by rw [← hie]; omega
                  have hl0 : ¬ (len4 : Int) = 0 := by omega
                  have hl1 : (0 : Int) < (len4 : Int) := by omega
                  have hi0 : (0 : Int) ≤ (i : Int) := by omega
                  have hi1 : (i : Int) < (len4 : Int) := by omega
                  have cc := (HB.out.cell (p := ⟨ba, oa + i, none⟩) (by rw [← Hs45.out]; exact hal)).trans (hac i hil)
                  have Hie := Hid.mk hie
                  clear hie hac
                  go_wp2_with fail
                  go_meet
                  exact ⟨by unfold rI; rw [if_neg h0, Hie.out], rfl⟩
            case rest =>
              obtain ⟨rfl, rfl⟩ := hcut
              have hcw : floatOfInt .f64 ((itT d zf (rI len4 rr) j).wl k) = fx (sc ((itT d zf (rI len4 rr) j).wl k)) := fx_int _ (by omega) (by omega)
              have Hb4 := Hid.mk b4
              clear b4
              by_cases hs : rI len4 rr j % 16 = 15
              · go_wp2_with fail
                go_quiet (fail)
                go_wp2_with fail
                go_meet
                exact ⟨(Below.drewN HB.out nq).setCell (p := ⟨w4.heap.size + 1 + 1 + 1 + 1 + 1, j, none⟩) (by first | omega | (simp; done) | (simp; omega)) _, out_stop Hke.out Hok.out Hag.out ((HNa.out.dn nq).put hjn (sc ((itT d zf (rI len4 rr) j).wl k))).fr⟩
              · by_cases hw : (itT d zf (rI len4 rr) j).wh k - (itT d zf (rI len4 rr) j).wl k < 2
                · go_wp2_with fail
                  go_quiet (fail)
                  go_wp2_with fail
                  go_meet
                  exact ⟨(Below.drewN HB.out nq).setCell (p := ⟨w4.heap.size + 1 + 1 + 1 + 1 + 1, j, none⟩) (by first | omega | (simp; done) | (simp; omega)) _, out_stop Hke.out Hok.out Hag.out ((HNa.out.dn nq).put hjn (sc ((itT d zf (rI len4 rr) j).wl k))).fr⟩
                · have hwd : decide ((itT d zf (rI len4 rr) j).wh k - (itT d zf (rI len4 rr) j).wl k < 2) = false := decide_eq_false hw
                  go_upto_region 29 with fail
                  go_quiet (fail)
                  go_upto_region 29 with fail
                  have hw1 : 0 < (itT d zf (rI len4 rr) j).wh k - (itT d zf (rI len4 rr) j).wl k - 1 := by omega
                  have hw2 : ¬ (itT d zf (rI len4 rr) j).wh k - (itT d zf (rI len4 rr) j).wl k - 1 = 0 := by omega
                  have em1 := Int.emod_nonneg (rI len4 rr j) hw2
                  have em2 := Int.emod_lt_of_pos (rI len4 rr j) hw1
                  have HIA : Hid ((itT d zf (rI len4 rr) j).wl k + 1 + rI len4 rr j % ((itT d zf (rI len4 rr) j).wh k - (itT d zf (rI len4 rr) j).wl k - 1) = (itA d zf (rI len4 rr) j)) := ⟨by rw [← Hke.out]; rfl⟩
                  go_cut [30] from 74 to 192 (fun av wx => av = .int .i64 (itA d zf (rI len4 rr) j) ∧ ∃ k1 k2, wx = (wc.drewN k1).drewN k2)
                  case first =>
                    go_wp2_with fail
                    go_quiet (fail)
                    go_wp2_with fail
                    go_meet
                    refine ⟨?_, _, _, rfl⟩
                    rw [← HIA.out]
                  case rest =>
                    obtain ⟨rfl, k1, k2, rfl⟩ := hcut
                    have HOK : Hid (OkI d zf (rI len4 rr) j) := ⟨okI_of rb.1 (by rw [Hke.out]; omega)⟩
                    have ab : (itT d zf (rI len4 rr) j).wl k < (itA d zf (rI len4 rr) j) ∧ (itA d zf (rI len4 rr) j) < (itT d zf (rI len4 rr) j).wh k := by have := HOK.out; unfold OkI at this; rw [Hke.out] at this; exact this
                    have HOk1 : Hid (∀ i, i ≤ j → OkI d zf (rI len4 rr) i) := ⟨fun i hi => by
                      by_cases e : i = j
                      · subst e; exact HOK.out
                      · exact Hok.out i (by omega)⟩
                    have hcv : floatOfInt .f64 (itA d zf (rI len4 rr) j) = fx (cA d zf (rI len4 rr) j) := fx_int _ (by omega) (by omega)
                    have cab := cA_sm HOk1.out
                    have bz' := hzb k
                    have bq' := hqb k
                    have sml : Sm ((itT d zf (rI len4 rr) j).el k) := ⟨by omega, by omega⟩
                    have smh : Sm ((itT d zf (rI len4 rr) j).eh k) := ⟨by omega, by omega⟩
                    have smm : Sm ((itT d zf (rI len4 rr) j).mid k) := ⟨by omega, by omega⟩
                    have sma : Sm (cA d zf (rI len4 rr) j) := ⟨by omega, by omega⟩
                    have smz : Sm (zf k) := ⟨by omega, by omega⟩
                    have smq : Sm (qf k) := ⟨by omega, by omega⟩
                    have r1 := fadd sml smh ⟨by omega, by omega⟩ _ rfl
                    have r2 := fhalf (a := (itT d zf (rI len4 rr) j).el k + (itT d zf (rI len4 rr) j).eh k) (c := (itT d zf (rI len4 rr) j).mid k) ⟨by omega, by omega⟩ (by omega) (by omega)
                    have o1 := ob_ge smz sma
                    have o2 := ob_ge smq smm
                    have nz1 : bz ≠ w4.heap.size + 1 + 1 + 1 + 1 + 1 := by omega
                    have nz2 : ¬ w4.heap.size + 1 + 1 + 1 + 1 + 1 = bz := by omega
                    have nq1 : bq ≠ w4.heap.size + 1 + 1 + 1 + 1 + 1 := by omega
                    have nq2 : ¬ w4.heap.size + 1 + 1 + 1 + 1 + 1 = bq := by omega
                    have nl1 : ¬ w4.heap.size + 1 + 1 + 1 = w4.heap.size + 1 + 1 + 1 + 1 + 1 := by omega
                    have nl2 : ¬ w4.heap.size + 1 + 1 + 1 + 1 + 1 = w4.heap.size + 1 + 1 + 1 := by omega
                    have nl3 : ¬ w4.heap.size + 1 = w4.heap.size + 1 + 1 + 1 + 1 + 1 := by omega
                    have nl4 : ¬ w4.heap.size + 1 + 1 + 1 + 1 + 1 = w4.heap.size + 1 := by omega
                    have nl5 : ¬ w4.heap.size + 1 + 1 = w4.heap.size + 1 + 1 + 1 + 1 + 1 := by omega
                    have nl6 : ¬ w4.heap.size + 1 + 1 + 1 + 1 + 1 = w4.heap.size + 1 + 1 := by omega
                    have Hab := Hid.mk ab
                    clear HIA em1 em2 hw1 hw2 hwd hw hs hcw rb hv4 hv5 hv6 hv7 hv8 bz' bq' cab
                    by_cases hzm : (cA d zf (rI len4 rr) j) ≤ zf k <;> have HZM := Hid.mk hzm
                    · rw [decide_eq_true hzm] at o1
                      by_cases hqm : (itT d zf (rI len4 rr) j).mid k ≤ qf k <;> have HQM := Hid.mk hqm
                      · rw [decide_eq_true hqm] at o2
                        go_wp2_with fail
                        go_quiet (fail)
                        go_wp2_with fail
                        go_roundw
                        case rel =>
                          obtain ⟨u1, u2, u3, u4⟩ := it_up Hke.out HZM.out
                          have Ka := ((((HNa.out.dn (k1 + k2)).put hjn (cA d zf (rI len4 rr) j)).dn nq).other (p := ⟨w4.heap.size + 1, k, none⟩) (by first | omega | (simp; done) | (simp; omega)) (.int .i64 (itA d zf (rI len4 rr) j))).other (p := ⟨w4.heap.size + 1 + 1 + 1, k, none⟩) (by first | omega | (simp; done) | (simp; omega)) (.float .f64 (fx ((itT d zf (rI len4 rr) j).mid k)))
                          rw [pre_succ (cA d zf (rI len4 rr)) j] at Ka
                          refine ⟨j + 1, by omega, rfl, rfl, rfl, by simp, fun i hi => HOk1.out i (by omega), fun i hi => ?_, ((Below.drewN ((Below.drewN HB.out (k1 + k2)).setCell (p := ⟨w4.heap.size + 1 + 1 + 1 + 1 + 1, j, none⟩) (by first | omega | (simp; done) | (simp; omega)) _) nq).setCell (p := ⟨w4.heap.size + 1, k, none⟩) (by first | omega | (simp; done) | (simp; omega)) _).setCell (p := ⟨w4.heap.size + 1 + 1 + 1, k, none⟩) (by first | omega | (simp; done) | (simp; omega)) _, ?_, ?_, ?_, ?_, Ka⟩
                          · by_cases e : i = j
                            · subst e; unfold AgI; rw [Hke.out]; exact ⟨fun _ => HQM.out, fun _ => HZM.out⟩
                            · exact Hag.out i (by omega)
                          · rw [u1]; exact ((((HWl.out.drewN (k1 + k2)).other (p := ⟨w4.heap.size + 1 + 1 + 1 + 1 + 1, j, none⟩) (by first | omega | (simp; done) | (simp; omega)) _).drewN nq).put hk (itA d zf (rI len4 rr) j)).other (p := ⟨w4.heap.size + 1 + 1 + 1, k, none⟩) (by first | omega | (simp; done) | (simp; omega)) _
                          · rw [u2]; exact ((((HWh.out.drewN (k1 + k2)).other (p := ⟨w4.heap.size + 1 + 1 + 1 + 1 + 1, j, none⟩) (by first | omega | (simp; done) | (simp; omega)) _).drewN nq).other (p := ⟨w4.heap.size + 1, k, none⟩) (by first | omega | (simp; done) | (simp; omega)) _).other (p := ⟨w4.heap.size + 1 + 1 + 1, k, none⟩) (by first | omega | (simp; done) | (simp; omega)) _
                          · rw [u3]; exact ((((HEl.out.dn (k1 + k2)).other (p := ⟨w4.heap.size + 1 + 1 + 1 + 1 + 1, j, none⟩) (by first | omega | (simp; done) | (simp; omega)) _).dn nq).other (p := ⟨w4.heap.size + 1, k, none⟩) (by first | omega | (simp; done) | (simp; omega)) _).put hk ((itT d zf (rI len4 rr) j).mid k)
                          · rw [u4]; exact ((((HEh.out.dn (k1 + k2)).other (p := ⟨w4.heap.size + 1 + 1 + 1 + 1 + 1, j, none⟩) (by first | omega | (simp; done) | (simp; omega)) _).dn nq).other (p := ⟨w4.heap.size + 1, k, none⟩) (by first | omega | (simp; done) | (simp; omega)) _).other (p := ⟨w4.heap.size + 1 + 1 + 1, k, none⟩) (by first | omega | (simp; done) | (simp; omega)) _
                        case measure => simp only [intOf]; omega
                      · rw [decide_eq_false hqm] at o2
                        go_wp2_with fail
                        go_quiet (fail)
                        go_wp2_with fail
                        have WLX := Hid.mk (((HWl.out.drewN (k1 + k2)).other (p := ⟨w4.heap.size + 1 + 1 + 1 + 1 + 1, j, none⟩) (by first | omega | (simp; done) | (simp; omega)) (.float .f64 (fx (cA d zf (rI len4 rr) j)))).drewN nq)
                        have WHX := Hid.mk (((HWh.out.drewN (k1 + k2)).other (p := ⟨w4.heap.size + 1 + 1 + 1 + 1 + 1, j, none⟩) (by first | omega | (simp; done) | (simp; omega)) (.float .f64 (fx (cA d zf (rI len4 rr) j)))).drewN nq)
                        have NAX := Hid.mk ((((HNa.out.dn (k1 + k2)).put hjn (cA d zf (rI len4 rr) j)).dn nq))
                        have BXX := Hid.mk (Below.drewN ((Below.drewN HB.out (k1 + k2)).setCell (p := ⟨w4.heap.size + 1 + 1 + 1 + 1 + 1, j, none⟩) (by first | omega | (simp; done) | (simp; omega)) (.float .f64 (fx (cA d zf (rI len4 rr) j)))) nq)
                        have WB := Hid.mk (it_bd (d := d) (z := zf) (r := (rI len4 rr)) (j := j) Hok.out)
                        rw [pre_succ (cA d zf (rI len4 rr)) j] at NAX
                        generalize (((wc.drewN (k1 + k2)).setCell ⟨w4.heap.size + 1 + 1 + 1 + 1 + 1, j, none⟩ (.float .f64 (fx (cA d zf (rI len4 rr) j)))).drewN nq) = wX at *
                        clear cl ch ca fl fh fa iwl iwh fwl fwh r1 r2 o1 o2 czz cqq
                        refine (floats_any wX _ d _ WLX.out (fun k _ => by have := WB.out k; omega) hd3).mono ?_
                        rintro e w6 ⟨v1, rfl, B6, F1⟩
                        have HF0 := Hid.mk F1
                        obtain ⟨g1, c1, rfl, x1, x0, x2, x3, x4⟩ := F1
                        clear x1 x0 x2 x3 x4
                        dsimp only
                        go_wp2_with fail
                        refine (floats_any w6 _ d _ (WHX.out.below B6) (fun k _ => by have := WB.out k; omega) hd3).mono ?_
                        rintro e w7 ⟨v2, rfl, B7, F2⟩
                        have HF2 := Hid.mk F2
                        have HF1 := Hid.mk (HF0.out.below B7)
                        have HA7 := Hid.mk ((NAX.out.below B6).below B7)
                        have lo1 := HF0.out.lo
                        obtain ⟨g2, c2, rfl, x1, x0, x2, x3, x4⟩ := F2
                        have lo2 := HF2.out.lo
                        clear x1 x0 x2 x3 x4
                        have na7 := NAX.out.cells.2.2
                        have bxs := BXX.out.size
                        rw [Hs45.out] at bxs
                        have BY0 := (BXX.out.trans (B6.mono (by omega))).trans (B7.mono (by omega))
                        have f2 := HF2.out.cells.1 k hk
                        have f3 := HF2.out.cells.2.1
                        have BY := BY0.setCell (p := ⟨g2, k, none⟩) (by first | omega | (simp; done) | (simp; omega)) (.float .f64 (fx (cA d zf (rI len4 rr) j)))
                        have HY := Hid.mk BY
                        clear BY B6 B7 BY0
                        dsimp only
                        go_wp2_with fail
                        go_meet
                        have BY := HY.out
                        exact ⟨BY, out_up Hke.out HZM.out hjn HOk1.out Hag.out (Int.not_le.2 HQM.out) ((HA7.out.other (p := ⟨g2, k, none⟩) (by first | omega | (simp; done) | (simp; omega)) _).fr) ((HF1.out.other (p := ⟨g2, k, none⟩) (by first | omega | (simp; done) | (simp; omega)) _).fr) ((HF2.out.put hk (cA d zf (rI len4 rr) j)).fr)⟩
                    · rw [decide_eq_false hzm] at o1
                      by_cases hqm : (itT d zf (rI len4 rr) j).mid k ≤ qf k <;> have HQM := Hid.mk hqm
                      · rw [decide_eq_true hqm] at o2
                        go_wp2_with fail
                        go_quiet (fail)
                        go_wp2_with fail
                        have WLX := Hid.mk (((HWl.out.drewN (k1 + k2)).other (p := ⟨w4.heap.size + 1 + 1 + 1 + 1 + 1, j, none⟩) (by first | omega | (simp; done) | (simp; omega)) (.float .f64 (fx (cA d zf (rI len4 rr) j)))).drewN nq)
                        have WHX := Hid.mk (((HWh.out.drewN (k1 + k2)).other (p := ⟨w4.heap.size + 1 + 1 + 1 + 1 + 1, j, none⟩) (by first | omega | (simp; done) | (simp; omega)) (.float .f64 (fx (cA d zf (rI len4 rr) j)))).drewN nq)
                        have NAX := Hid.mk ((((HNa.out.dn (k1 + k2)).put hjn (cA d zf (rI len4 rr) j)).dn nq))
                        have BXX := Hid.mk (Below.drewN ((Below.drewN HB.out (k1 + k2)).setCell (p := ⟨w4.heap.size + 1 + 1 + 1 + 1 + 1, j, none⟩) (by first | omega | (simp; done) | (simp; omega)) (.float .f64 (fx (cA d zf (rI len4 rr) j)))) nq)
                        have WB := Hid.mk (it_bd (d := d) (z := zf) (r := (rI len4 rr)) (j := j) Hok.out)
                        rw [pre_succ (cA d zf (rI len4 rr)) j] at NAX
                        generalize (((wc.drewN (k1 + k2)).setCell ⟨w4.heap.size + 1 + 1 + 1 + 1 + 1, j, none⟩ (.float .f64 (fx (cA d zf (rI len4 rr) j)))).drewN nq) = wX at *
                        clear cl ch ca fl fh fa iwl iwh fwl fwh r1 r2 o1 o2 czz cqq
                        refine (floats_any wX _ d _ WLX.out (fun k _ => by have := WB.out k; omega) hd3).mono ?_
                        rintro e w6 ⟨v1, rfl, B6, F1⟩
                        have HF0 := Hid.mk F1
                        obtain ⟨g1, c1, rfl, x1, x0, x2, x3, x4⟩ := F1
                        clear x1 x0 x2 x3 x4
                        dsimp only
                        go_wp2_with fail
                        refine (floats_any w6 _ d _ (WHX.out.below B6) (fun k _ => by have := WB.out k; omega) hd3).mono ?_
                        rintro e w7 ⟨v2, rfl, B7, F2⟩
                        have HF2 := Hid.mk F2
                        have HF1 := Hid.mk (HF0.out.below B7)
                        have HA7 := Hid.mk ((NAX.out.below B6).below B7)
                        have lo1 := HF0.out.lo
                        obtain ⟨g2, c2, rfl, x1, x0, x2, x3, x4⟩ := F2
                        have lo2 := HF2.out.lo
                        clear x1 x0 x2 x3 x4
                        have na7 := NAX.out.cells.2.2
                        have bxs := BXX.out.size
                        rw [Hs45.out] at bxs
                        have BY0 := (BXX.out.trans (B6.mono (by omega))).trans (B7.mono (by omega))
                        have f2 := HF1.out.cells.1 k hk
                        have f3 := HF1.out.cells.2.1
                        have BY := BY0.setCell (p := ⟨g1, k, none⟩) (by first | omega | (simp; done) | (simp; omega)) (.float .f64 (fx (cA d zf (rI len4 rr) j)))
                        have HY := Hid.mk BY
                        clear BY B6 B7 BY0
                        dsimp only
                        go_wp2_with fail
                        go_meet
                        have BY := HY.out
                        exact ⟨BY, out_dn Hke.out (Int.not_le.2 HZM.out) hjn HOk1.out Hag.out HQM.out ((HA7.out.other (p := ⟨g1, k, none⟩) (by first | omega | (simp; done) | (simp; omega)) _).fr) ((HF1.out.put hk (cA d zf (rI len4 rr) j)).fr) ((HF2.out.other (p := ⟨g1, k, none⟩) (by first | omega | (simp; done) | (simp; omega)) _).fr)⟩
                      · rw [decide_eq_false hqm] at o2
                        go_wp2_with fail
                        go_quiet (fail)
                        go_wp2_with fail
                        go_roundw
                        case rel =>
                          obtain ⟨u1, u2, u3, u4⟩ := it_dn Hke.out (Int.not_le.2 HZM.out)
                          have Ka := ((((HNa.out.dn (k1 + k2)).put hjn (cA d zf (rI len4 rr) j)).dn nq).other (p := ⟨w4.heap.size + 1 + 1, k, none⟩) (by first | omega | (simp; done) | (simp; omega)) (.int .i64 (itA d zf (rI len4 rr) j))).other (p := ⟨w4.heap.size + 1 + 1 + 1 + 1, k, none⟩) (by first | omega | (simp; done) | (simp; omega)) (.float .f64 (fx ((itT d zf (rI len4 rr) j).mid k)))
                          rw [pre_succ (cA d zf (rI len4 rr)) j] at Ka
                          refine ⟨j + 1, by omega, rfl, rfl, rfl, by simp, fun i hi => HOk1.out i (by omega), fun i hi => ?_, ((Below.drewN ((Below.drewN HB.out (k1 + k2)).setCell (p := ⟨w4.heap.size + 1 + 1 + 1 + 1 + 1, j, none⟩) (by first | omega | (simp; done) | (simp; omega)) _) nq).setCell (p := ⟨w4.heap.size + 1 + 1, k, none⟩) (by first | omega | (simp; done) | (simp; omega)) _).setCell (p := ⟨w4.heap.size + 1 + 1 + 1 + 1, k, none⟩) (by first | omega | (simp; done) | (simp; omega)) _, ?_, ?_, ?_, ?_, Ka⟩
                          · by_cases e : i = j
                            · subst e; unfold AgI; rw [Hke.out]; exact ⟨fun x => absurd x (Int.not_le.2 HZM.out), fun x => absurd x (Int.not_le.2 HQM.out)⟩
                            · exact Hag.out i (by omega)
                          · rw [u1]; exact ((((HWl.out.drewN (k1 + k2)).other (p := ⟨w4.heap.size + 1 + 1 + 1 + 1 + 1, j, none⟩) (by first | omega | (simp; done) | (simp; omega)) _).drewN nq).other (p := ⟨w4.heap.size + 1 + 1, k, none⟩) (by first | omega | (simp; done) | (simp; omega)) _).other (p := ⟨w4.heap.size + 1 + 1 + 1 + 1, k, none⟩) (by first | omega | (simp; done) | (simp; omega)) _
                          · rw [u2]; exact ((((HWh.out.drewN (k1 + k2)).other (p := ⟨w4.heap.size + 1 + 1 + 1 + 1 + 1, j, none⟩) (by first | omega | (simp; done) | (simp; omega)) _).drewN nq).put hk (itA d zf (rI len4 rr) j)).other (p := ⟨w4.heap.size + 1 + 1 + 1 + 1, k, none⟩) (by first | omega | (simp; done) | (simp; omega)) _
                          · rw [u3]; exact ((((HEl.out.dn (k1 + k2)).other (p := ⟨w4.heap.size + 1 + 1 + 1 + 1 + 1, j, none⟩) (by first | omega | (simp; done) | (simp; omega)) _).dn nq).other (p := ⟨w4.heap.size + 1 + 1, k, none⟩) (by first | omega | (simp; done) | (simp; omega)) _).other (p := ⟨w4.heap.size + 1 + 1 + 1 + 1, k, none⟩) (by first | omega | (simp; done) | (simp; omega)) _
                          · rw [u4]; exact ((((HEh.out.dn (k1 + k2)).other (p := ⟨w4.heap.size + 1 + 1 + 1 + 1 + 1, j, none⟩) (by first | omega | (simp; done) | (simp; omega)) _).dn nq).other (p := ⟨w4.heap.size + 1 + 1, k, none⟩) (by first | omega | (simp; done) | (simp; omega)) _).put hk ((itT d zf (rI len4 rr) j).mid k)
                        case measure => simp only [intOf]; omega
          · have hi2 : ¬ (j : Int) < (n : Int) := by omega
            have HJ : Hid (j = n) := ⟨by omega⟩
            go_wp2_with fail
            go_meet
            refine ⟨HB.out, ?_⟩
            have e := HJ.out
            subst e
            exact out_end Hok.out Hag.out HNa.out.fr
      case rest =>
        obtain ⟨BC, A, hA, hsm, FA, hrest⟩ := hcut
        obtain ⟨sp, hsp⟩ := stP_ex d zf A qf
        have BX : Below w5.heap.size w5 wc := by rw [Hs45.out]; exact BC
        have c30 := (BC.cell (p := ⟨w3.heap.size, 0, none⟩) (by simp; omega)).trans q0
        have c31 := (BC.cell (p := ⟨w3.heap.size, 1, none⟩) (by simp; omega)).trans q1
        have c40 := (BC.cell (p := ⟨w4.heap.size, 0, none⟩) (by simp)).trans p2
        have c41 := (BC.cell (p := ⟨w4.heap.size, 1, none⟩) (by simp)).trans p3
        have TW := Hid.mk (fun l1 l2 p1 p2 (f1 : FR w5 l1 d ev0.wl) (f2 : FR w5 l2 d ev0.wh) (f3 : FR w5 p1 d zf) (f4 : FR w5 p2 d (fun k => zf k + 2 ^ 45)) qv (f6 : FR w5 qv d qf) => toward_any wc d n zf A qf ev0 l1 l2 p1 p2 _ qv (fun k => zf k + 2 ^ 45) sp hd0 hd3 (by omega) (f1.below BX) (f2.below BX) rfl rfl (f3.below BX) (f4.below BX) FA (f6.below BX) (fun k _ => by have := hzb k; exact ⟨by omega, by omega⟩) (fun k _ => by have := hqb k; exact ⟨by omega, by omega⟩) hsm (fun j _ hok => st_fine hzb hA hok) (fun m _ hok hag _ => hsp m (st_unf hzb hqb Hqm.out hA hok hag)))
        have HPU : Hid (∀ m, (∀ i, i ≤ m → Okk d zf A ev0 i) → (∀ i, i < m → Agr d zf A qf ev0 i) → PU d zf A qf m (sp m)) := ⟨fun m hok hag => hsp m (st_unf hzb hqb Hqm.out hA hok hag)⟩
        have HBX := Hid.mk BX
        clear BC BX hA hsm hzb hqb hsp HBB HWL HWH HEL HEH HE5
        rcases hrest with ⟨rfl, hno⟩ | ⟨rfl, j, hyes, hat, FL, FH⟩
        · have hnil := fun w => Lib.run_eql_slice_nil (P := Yba.prog) w 24 31 none 0 0 0 0 Yba.underlying24
          have Hno := Hid.mk hno
          clear hno
          go_wp2_with fail
          refine (TW.out _ _ _ _ R1.out R2.out R3.out R4.out _ Rq.out).mono ?_
          rintro e w6 ⟨B6, (⟨m, hS, hA', rfl⟩ | ⟨m, pv, h1, h2, h3, h4, rfl, h5⟩)⟩
          · have HB6 := Hid.mk ((HB5.out.trans (HBX.out.mono HB5.out.size)).trans (B6.mono (Nat.le_trans HB5.out.size HBX.out.size)))
            clear B6 hS hA'
            dsimp only
            go_wp2_with fail
            go_ret
            exact ⟨by simp, HB6.out⟩
          · exact (Hno.out m h1 h2 h4).elim
        · have Hyes := Hid.mk hyes
          have Hat := Hid.mk hat
          have HFL := Hid.mk FL
          have HFH := Hid.mk FH
          obtain ⟨bl, cl, rfl, x1, x2, x3⟩ := FL
          clear x1 x2 x3
          obtain ⟨bh, ch, rfl, x1, x2, x3⟩ := FH
          clear x1 x2 x3
          clear hyes hat
          go_wp2_with fail
          refine (TW.out _ _ _ _ R1.out R2.out R3.out R4.out _ Rq.out).mono ?_
          rintro e w6 ⟨B6, (⟨m, hS, hA', rfl⟩ | ⟨m, pv, h1, h2, h3, h4, rfl, h5⟩)⟩
          · exact (Hyes.out m hS hA').elim
          · have HB6 := Hid.mk ((HB5.out.trans (HBX.out.mono HB5.out.size)).trans (B6.mono (Nat.le_trans HB5.out.size HBX.out.size)))
            have e := Hat.out m h3 h4
            subst e
            have PB := HPU.out m h2 h3
            have HK : Hid (∀ i, i < d → keptLo d zf A (stt d zf A ev0 m) m i ≤ sp m i ∧ sp m i < keptHi d zf A (stt d zf A ev0 m) m i ∧ 0 ≤ keptLo d zf A (stt d zf A ev0 m) m i ∧ keptHi d zf A (stt d zf A ev0 m) m i ≤ 2 ^ 52) := ⟨fun i hi => by
              have h7 := PB.bd hi
              obtain ⟨u, pr, s, hU, _⟩ := PB
              have h8 := hU.b0 i hi
              exact ⟨h7.1, h7.2, h8.2.2.2.1, h8.2.2.2.2⟩⟩
            have HP6 := Hid.mk h5
            have HL6 := Hid.mk (HFL.out.below B6)
            have HH6 := Hid.mk (HFH.out.below B6)
            obtain ⟨bp, cp, rfl, x1, x2, x3⟩ := h5
            clear x1 x2 x3 h1 h2 h3 h4 B6 c30 c31 c40 c41 PB HFL HFH HPU TW Hyes Hat
            generalize keptLo d zf A (stt d zf A ev0 m) m = kl at *
            generalize keptHi d zf A (stt d zf A ev0 m) m = kh at *
            generalize sp m = pp at *
            dsimp only
            go_wp2_with fail
            go_loopw [36] (fun v wq => ∃ i : Nat, i ≤ d ∧ v = .int .i64 (i : Int) ∧ Below w6.heap.size w6 wq) (fun v _ => d - (intOf v).toNat)
            case atStart => exact ⟨0, by omega, rfl, Below.refl _ _⟩
            case round =>
              obtain ⟨i, hi, rfl, hBq⟩ := hrel
              by_cases hid : i < d
              · have g1 := (hBq.cell (p := ⟨bp, i, none⟩) HP6.out.open.2.1).trans (HP6.out.open.2.2 i hid)
                have g2 := (hBq.cell (p := ⟨bl, i, none⟩) HL6.out.open.2.1).trans (HL6.out.open.2.2 i hid)
                have g3 := (hBq.cell (p := ⟨bh, i, none⟩) HH6.out.open.2.1).trans (HH6.out.open.2.2 i hid)
                obtain ⟨y1, y2, y3, y4⟩ := HK.out i hid
                have o3 := (ob_le (a := kl i) (b := pp i) ⟨by omega, by omega⟩ ⟨by omega, by omega⟩).trans (decide_eq_true y1)
                have o4 := (ob_lt (a := pp i) (b := kh i) ⟨by omega, by omega⟩ ⟨by omega, by omega⟩).trans (decide_eq_true y2)
                have i0 : (0 : Int) ≤ (i : Int) := by omega
                have i1 : (i : Int) < (d : Int) := by omega
                clear y1 y2 y3 y4
                go_wp2_with fail
                go_quiet (fail)
                go_wp2_with fail
                go_roundw
                case rel => exact ⟨i + 1, by omega, by simp, Below.drewN hBq _⟩
                case measure => simp only [intOf]; omega
              · have i1 : ¬ (i : Int) < (d : Int) := by omega
                go_wp2_with fail
                go_ret
                exact ⟨rfl, HB6.out.trans (hBq.mono HB6.out.size)⟩
end Go.Proofs.Ybulkdaxu
