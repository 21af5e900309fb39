import Derived.Test.YbulkdaxuSlabR0
namespace Go.Proofs.Ybulkdaxu
open Go.RowKit
set_option linter.unusedSimpArgs false
set_option linter.unusedVariables false

theorem info4 : (Yba.prog.info? 4).map (fun i => (i.zero, i.size, i.bytes)) = some (some (.bool false), 1, 1) := by kernel_rfl
theorem ix0 (w : World) : (Instr.index 112 (.agg #[.bool true, .bool false]) (.int .i64 0)).run Yba.prog w = .ok (.bool true) w := by
  obtain ⟨i, h1, h2, h3, h4⟩ := info_parts info4
  simp [Instr.index, run_underlying Yba.underlying112, asIntOf, part, sizeOf, typeInfo, h1, h3]
theorem ix1 (w : World) : (Instr.index 112 (.agg #[.bool true, .bool false]) (.int .i64 1)).run Yba.prog w = .ok (.bool false) w := by
  obtain ⟨i, h1, h2, h3, h4⟩ := info_parts info4
  simp [Instr.index, run_underlying Yba.underlying112, asIntOf, part, sizeOf, typeInfo, h1, h3]

set_option maxRecDepth 100000 in
set_option maxHeartbeats 8000000 in
theorem walls_any (h : Int → Nat) (K : FK h) (w : World) (d zb zc n : Nat) (l u : Value) (a b : Int) (s : Nat → Nat) (zl zh L U : Nat → Int) (hd : 0 < d) (hd2 : d ≤ 2) (hn : 2 ≤ n) (hn6 : n ≤ 600) (G : CO h w d l u a b) (Z : BS h w d zb n zl zh) (A : AZ n s zl zh L U)
    (hm : ∀ j, j < n → max (L j) a < min (U j) b) :
    Calls Yba.prog 31 #[.agg #[l, u], .slice (some ⟨zb, 0, none⟩) n zc] w fun e w' => ∃ v at_, e = .returned (.tuple #[.int .i64 0, v]) ∧ w'.ownsRow w.heap.size 31 1 v at_.length (at_.flatMap (f1 h)) ∧ I4 n L U a b n n at_ ∧ Below w.heap.size w w' := by
  obtain ⟨W, hW⟩ : ∃ W, W = w.alloc (.cells #[l, u] 27) := ⟨_, rfl⟩
  have HG := Hid.mk G
  obtain ⟨G1, G2, G3, G4⟩ := G
  obtain ⟨b1, c1, rfl, x1, y1, q1⟩ := G1
  obtain ⟨b2, c2, rfl, x2, y2, q2⟩ := G2
  have BW : Below w.heap.size w W := by rw [hW]; exact (Below.refl _ _).alloc (Nat.le_refl _) _
  have sW : W.heap.size = w.heap.size + 1 := by rw [hW]; simp
  have a0 : W.cell? ⟨w.heap.size, 0, none⟩ = some (.slice (some ⟨b1, 0, none⟩) d c1) := by rw [hW]; go_simp
  have a1 : W.cell? ⟨w.heap.size, 1, none⟩ = some (.slice (some ⟨b2, 0, none⟩) d c2) := by rw [hW]; go_simp
  have e1 : W.cell? ⟨b1, 0, none⟩ = some (.float .f64 (h a)) := (BW.cell (p := ⟨b1, 0, none⟩) y1).trans (q1 0 hd)
  have e2 : W.cell? ⟨b2, 0, none⟩ = some (.float .f64 (h b)) := (BW.cell (p := ⟨b2, 0, none⟩) y2).trans (q2 0 hd)
  have HBW := Hid.mk BW
  have HsW := Hid.mk sW
  have HZ := Hid.mk (Z.below BW)
  have HGW := Hid.mk (HG.out.below BW)
  have He1 := Hid.mk e1
  have He2 := Hid.mk e2
  have HA := Hid.mk A
  have Hm := Hid.mk hm
  have hn2 : ¬ (n : Int) < 2 := by omega
  have hd1 : (0 : Int) < (d : Int) := by omega
  have M := mk23b n hn6
  clear q1 q2 BW sW Z A hm e1 e2 HG
  go_enter Yba.func31, Yba.ntmps31
  go_upto_block 0 with fail
  rw [← hW]
  clear hW
  go_cut [4, 5, 7, 8] from 31 to 42 (fun v4 v5 v7 v8 wx => ∃ s7 : Int, v4 = .int .i64 0 ∧ v5 = .slice none 0 0 ∧ v7 = .int .i64 s7 ∧ (s7 = -1 ∨ s7 = 0) ∧ Below W.heap.size W wx)
  case first =>
    as_aux_lemma =>
      go_wp2_with fail
      go_loopw [31, 4, 5, 7] (fun vk v4 v5 v7 wr => ∃ k : Nat, k ≤ d ∧ vk = .int .i64 (k : Int) ∧ v4 = .int .i64 0 ∧ v5 = .slice none 0 0 ∧ (v7 = .int .i64 (-1) ∨ (v7 = .int .i64 0 ∧ 0 < k)) ∧ Below W.heap.size W wr) (fun vk _ _ _ _ => d - (intOf vk).toNat)
      case atStart => exact ⟨0, Nat.zero_le _, rfl, rfl, rfl, .inl rfl, Below.refl _ _⟩
      case round =>
        as_aux_lemma =>
          obtain ⟨k, hk, rfl, rfl, rfl, hv7, hB⟩ := hrel
          have HB := Hid.mk hB
          have hs := hB.size
          have s := HsW.out
          have g0 := (hB.cell (p := ⟨w.heap.size, 0, none⟩) (by simp; omega)).trans a0
          have g1 := (hB.cell (p := ⟨w.heap.size, 1, none⟩) (by simp; omega)).trans a1
          clear hB s
          by_cases hkd : k < d
          · have hk' : (k : Int) < (d : Int) := by omega
            have RC := reach_any h K wr d zb n zc k _ _ a b zl zh hd2 hkd hn6 (HGW.out.below HB.out) (HZ.out.below HB.out)
            go_wp2_with fail
            refine RC.mono ?_
            rintro e w2 ⟨B, rfl, hB1, B2⟩
            have HF := Hid.mk (HB.out.trans (B2.mono hs))
            have HT := Hid.mk hB1
            clear RC B2 hB1 g0 g1
            dsimp only
            cases B
            · have k0 : k = 0 := by
                rcases Nat.lt_or_ge k 1 with h | h
                · omega
                · exact absurd (HT.out (by omega) (by omega)) (by decide)
              subst k0
              rcases hv7 with rfl | ⟨rfl, h0⟩
              · go_wp2_with fail
                go_roundw
                case rel => exact ⟨1, by omega, by go_num, rfl, rfl, .inr ⟨rfl, by omega⟩, HF.out⟩
                case measure => simp only [intOf]; omega
              · omega
            · go_wp2_with fail
              go_roundw
              case rel => exact ⟨k + 1, by omega, by go_num, rfl, rfl, hv7.elim .inl (fun x => .inr ⟨x.1, by omega⟩), HF.out⟩
              case measure => simp only [intOf]; omega
          · have hk' : ¬ (k : Int) < (d : Int) := by omega
            go_wp2_with fail
            go_meet
            rcases hv7 with rfl | ⟨rfl, _⟩
            · exact ⟨_, rfl, rfl, rfl, .inl rfl, HB.out⟩
            · exact ⟨_, rfl, rfl, rfl, .inr rfl, HB.out⟩
  case rest =>
    as_aux_lemma =>
      obtain ⟨s7, rfl, rfl, rfl, hs7, hB⟩ := hcut
      have hs1 := hB.size
      have sw := HsW.out
      obtain ⟨V, hV⟩ : ∃ V, V = wc.alloc (.cells (ZF (2 * n)).toArray 31) := ⟨_, rfl⟩
      have BV0 : Below wc.heap.size wc V := by rw [hV]; exact (Below.refl _ _).alloc (Nat.le_refl _) _
      have sV : V.heap.size = wc.heap.size + 1 := by rw [hV]; simp
      have HV : HN h V wc.heap.size (2 * n) (fun _ => 0) := by rw [hV]; exact zf_hn K wc (2 * n)
      have BV : Below W.heap.size W V := hB.trans (BV0.mono hs1)
      have g0 := (BV.cell (p := ⟨w.heap.size, 0, none⟩) (by simp; omega)).trans a0
      have g1 := (BV.cell (p := ⟨w.heap.size, 1, none⟩) (by simp; omega)).trans a1
      have HBV := Hid.mk BV
      have HsV := Hid.mk sV
      have HHV := Hid.mk HV
      obtain ⟨E, hE⟩ : ∃ E, E = wc.heap.size := ⟨_, rfl⟩
      have a0' := a0
      have a1' := a1
      rw [hV] at g0 g1
      clear hB a0 a1 BV sV HV BV0
      have hn0 : (0 : Int) ≤ (n : Int) := by omega
      have hnn : (n : Int) ≤ 2 * (n : Int) := by omega
      have e2n : 2 * n - n = n := by omega
      go_upto_region 14 with fail
      rw [← hV] at g0 g1 ⊢
      rw [← hE] at HsV HHV hs1 ⊢
      clear hV hE
      go_quiet (fail)
      go_upto_region 16 with fail
      clear e2n M
      have BQ := Below.drewN (Below.refl V.heap.size V) nq
      have HBQ := Hid.mk (HBV.out.trans (BQ.mono HBV.out.size))
      have HEQ := Hid.mk (HHV.out.below BQ)
      have sQ : (V.drewN nq).heap.size = E + 1 := HsV.out
      have k0 := (BQ.cell (p := ⟨w.heap.size, 0, none⟩) (by have := HsV.out; simp; omega)).trans g0
      have k1 := (BQ.cell (p := ⟨w.heap.size, 1, none⟩) (by have := HsV.out; simp; omega)).trans g1
      clear BQ g0 g1 HHV HBV HsV
      generalize V.drewN nq = V3 at *
      have HsQ := Hid.mk sQ
      clear sQ
      go_wp2_with fail
      go_loopw [55, 4, 5, 12] (fun v55 v4 v5 v12 wr => v55 = .int .i64 0 ∧ v4 = .int .i64 0 ∧ v5 = .slice none 0 0 ∧ v12 = .slice none 0 0 ∧ wr = V3) (fun _ _ _ _ _ => 0)
      case atStart => exact ⟨rfl, rfl, rfl, rfl, rfl⟩
      case round =>
        as_aux_lemma =>
          obtain ⟨rfl, rfl, rfl, rfl, hw⟩ := hrel
          obtain rfl := hw.symm
          clear hw
          go_upto_region 19 with fail
          go_cut [64] from 58 to 64 (fun v wx => v = .bool false ∧ wx = V3)
          case first =>
            as_aux_lemma =>
              rcases hs7 with rfl | rfl
              · go_wp2_with fail
                go_meet
                exact ⟨rfl, rfl⟩
              · go_wp2_with fail
                go_meet
                exact ⟨rfl, rfl⟩
          case rest =>
            as_aux_lemma =>
              obtain ⟨rfl, hw⟩ := hcut
              obtain rfl := hw.symm
              clear hs7 hw
              go_upto_block 4 with fail
              go_cut [14, 15] from 67 to 88 (fun v14 v15 wx => ∃ zz, HN h wx E (2 * n) zz ∧ (∀ j, j < n → zz j = zl j ∧ zz (n + j) = zh j) ∧ Below E V3 wx)
              case first =>
                as_aux_lemma =>
                  go_wp2_with fail
                  go_loopw [67] (fun vk wr => ∃ k : Nat, k ≤ n ∧ vk = .int .i64 (k : Int) ∧ ∃ zz, HN h wr E (2 * n) zz ∧ (∀ j, j < k → zz j = zl j ∧ zz (n + j) = zh j) ∧ Below E V3 wr) (fun vk _ => n - (intOf vk).toNat)
                  case atStart => exact ⟨0, Nat.zero_le _, rfl, _, HEQ.out, fun j hj => by omega, Below.refl _ _⟩
                  case round =>
                    as_aux_lemma =>
                      obtain ⟨k, hk, rfl, zz, hN, hzz, hB⟩ := hrel
                      have HB := Hid.mk hB
                      have HNN := Hid.mk hN
                      have Hzz := Hid.mk hzz
                      have hs := hB.size
                      have sQ := HsQ.out
                      clear hB hN hzz
                      by_cases hkn : k < n
                      · have hk' : (k : Int) < (n : Int) := by omega
                        have hk0 : (0 : Int) ≤ (k : Int) := by omega
                        have BWr : Below W.heap.size W wr := HBQ.out.trans (HB.out.mono hs1)
                        obtain ⟨xb, xc, yb, yc, f0, f1', C⟩ := (HZ.out.below BWr).at hkn
                        obtain ⟨C1, C2, C3, C4⟩ := C
                        obtain ⟨_, xlt, xv⟩ := C1.open
                        obtain ⟨_, ylt, yv⟩ := C2.open
                        have BA := (Below.refl wr.heap.size wr).alloc (Nat.le_refl _) (.cells #[.slice (some ⟨xb, 0, none⟩) d xc, .slice (some ⟨yb, 0, none⟩) d yc] 27)
                        obtain ⟨X, hX⟩ : ∃ X, X = wr.alloc (.cells #[.slice (some ⟨xb, 0, none⟩) d xc, .slice (some ⟨yb, 0, none⟩) d yc] 27) := ⟨_, rfl⟩
                        have t0 : X.cell? ⟨wr.heap.size, 0, none⟩ = some (.slice (some ⟨xb, 0, none⟩) d xc) := by rw [hX]; go_simp
                        have t1 : X.cell? ⟨wr.heap.size, 1, none⟩ = some (.slice (some ⟨yb, 0, none⟩) d yc) := by rw [hX]; go_simp
                        rw [← hX] at BA
                        have v0 : X.cell? ⟨xb, 0, none⟩ = some (.float .f64 (h (zl k))) := (BA.cell (p := ⟨xb, 0, none⟩) xlt).trans (xv 0 hd)
                        have v1 : X.cell? ⟨yb, 0, none⟩ = some (.float .f64 (h (zh k))) := (BA.cell (p := ⟨yb, 0, none⟩) ylt).trans (yv 0 hd)
                        have NX := HNN.out.below BA
                        have d0 := NX.2.1 k (by omega)
                        have d1 := NX.2.1 (n + k) (by omega)
                        have dz := NX.2.2
                        have HNX := Hid.mk NX
                        have nE1 : ¬ E = wr.heap.size := by omega
                        have nE2 : ¬ wr.heap.size = E := by omega
                        have HBA := Hid.mk (HB.out.trans (BA.mono (by omega)))
                        clear BWr C1 C2 xv yv BA NX C3 C4 k0 k1
                        go_upto_block 5 with fail
                        go_cut [67] from 67 to 88 (fun v wx => v = .int .i64 (k : Int) ∧ HN h wx E (2 * n) (up (up zz k (zl k)) (n + k) (zh k)) ∧ Below E V3 wx)
                        case first =>
                          as_aux_lemma =>
                            go_upto_region 23 with fail
                            rw [← hX]
                            clear f0 f1' hX
                            have P1 := Hid.mk ((HNX.out.put (k := k) (by omega) (zl k)).put (k := n + k) (by omega) (zh k))
                            have P2 := Hid.mk ((HBA.out.setCell (p := ⟨E, k, none⟩) (Nat.le_refl _) (.float .f64 (h (zl k)))).setCell (p := ⟨E, n + k, none⟩) (Nat.le_refl _) (.float .f64 (h (zh k))))
                            go_region
                            all_goals (go_wp2_with fail; go_meet)
                            exact ⟨rfl, P1.out.below ((Below.refl _ _).drew), P2.out.drew⟩
                        case rest =>
                          as_aux_lemma =>
                            obtain ⟨rfl, N5, B5⟩ := hcut
                            have HN5 := Hid.mk N5
                            have HB5 := Hid.mk B5
                            have PZ : Hid (∀ j, j < k + 1 → (up (up zz k (zl k)) (n + k) (zh k)) j = zl j ∧ (up (up zz k (zl k)) (n + k) (zh k)) (n + j) = zh j) := ⟨fun j hj => by
                              unfold up
                              by_cases e : j = k
                              · subst e
                                rw [if_neg (by omega), if_pos rfl, if_pos rfl]; exact ⟨rfl, rfl⟩
                              · have := Hzz.out j (by omega)
                                rw [if_neg (by omega), if_neg e, if_neg (by omega), if_neg (by omega)]; exact this⟩
                            clear N5 B5 t0 t1 v0 v1 d0 d1 dz
                            go_wp2_with fail
                            go_roundw
                            case rel => exact ⟨k + 1, by omega, by go_num, _, HN5.out, PZ.out, HB5.out⟩
                            case measure => simp only [intOf]; omega
                      · obtain rfl : k = n := by omega
                        have hk' : ¬ (k : Int) < (k : Int) := by omega
                        go_wp2_with fail
                        go_meet
                        exact ⟨_, HNN.out, Hzz.out, HB.out⟩
              case rest =>
                as_aux_lemma =>
                  obtain ⟨zz, N5, hzz, B5⟩ := hcut
                  have AA := HA.out
                  have RGl : ∀ j, j < n → RG (zl j) ∧ RG (zh j) := fun j hj => by
                    obtain ⟨_, _, _, _, _, _, C⟩ := HZ.out.at hj
                    exact C.2.2
                  have S1 := K.srt wc E 0 (2 * n) n zz (by omega) N5.1 (fun k hk => by rw [(hzz k hk).1]; exact (RGl k hk).1) (fun k hk => by rw [Nat.zero_add]; exact N5.2.1 k (by omega)) N5.2.2 (fun i j hi hj hne => by rw [(hzz i hi).1, (hzz j hj).1]; exact AA.injl hi hj hne)
                  have HN5 := Hid.mk N5
                  have HB5 := Hid.mk B5
                  have Hzz := Hid.mk hzz
                  have HRG := Hid.mk RGl
                  clear N5 hzz B5 AA RGl
                  go_wp2_with fail
                  refine S1.mono ?_
                  rintro e w4 ⟨rfl, y, kb, out, cel, frz, asc, p1, p2⟩
                  have HY : Hid (∀ k, k < n → y k = L k) := ⟨HA.out.srtl asc (fun k hk => by obtain ⟨i, hi, e⟩ := p1 k hk; exact ⟨i, hi, e.trans (Hzz.out i hi).1⟩) (fun i hi => by obtain ⟨k, hk, e⟩ := p2 i hi; exact ⟨k, hk, e.trans (Hzz.out i hi).1⟩)⟩
                  have S2 := K.srt w4 E n n n (fun k => zz (n + k)) (by omega) (Nat.lt_of_lt_of_le HN5.out.1 kb.size) (fun k hk => by show RG (zz (n + k)); rw [(Hzz.out k hk).2]; exact (HRG.out k hk).2) (fun k hk => by rw [out (n + k) (.inr (by omega))]; exact HN5.out.2.1 (n + k) (by omega)) frz (fun i j hi hj hne => by show zz (n + i) ≠ zz (n + j); rw [(Hzz.out i hi).2, (Hzz.out j hj).2]; exact HA.out.injh hi hj hne)
                  have Hcel : Hid (∀ k, k < n → w4.cell? ⟨E, k, none⟩ = some (.float .f64 (h (L k)))) := ⟨fun k hk => by have := cel k hk; rw [Nat.zero_add, HY.out k hk] at this; exact this⟩
                  have Hkb := Hid.mk (HB5.out.trans (kb.below (Nat.le_refl E) (Nat.le_of_lt HN5.out.1)))
                  clear S1 kb out cel frz asc p1 p2 HY
                  dsimp only
                  go_wp2_with fail
                  refine S2.mono ?_
                  rintro e w5 ⟨rfl, y', kb', out', cel', frz', asc', p1', p2'⟩
                  have HY : Hid (∀ k, k < n → y' k = U k) := ⟨HA.out.srtu asc' (fun k hk => by obtain ⟨i, hi, e⟩ := p1' k hk; exact ⟨i, hi, e.trans (Hzz.out i hi).2⟩) (fun i hi => by obtain ⟨k, hk, e⟩ := p2' i hi; exact ⟨k, hk, e.trans (Hzz.out i hi).2⟩)⟩
                  have sE : E < w4.heap.size := by have := HsQ.out; have := Hkb.out.size; omega
                  have HcL : Hid (∀ k, k < n → w5.cell? ⟨E, k, none⟩ = some (.float .f64 (h (L k)))) := ⟨fun k hk => by rw [out' k (.inl hk)]; exact Hcel.out k hk⟩
                  have HcU : Hid (∀ k, k < n → w5.cell? ⟨E, n + k, none⟩ = some (.float .f64 (h (U k)))) := ⟨fun k hk => by have := cel' k hk; rw [HY.out k hk] at this; exact this⟩
                  have B35 := Hkb.out.trans (kb'.below (Nat.le_refl E) (Nat.le_of_lt sE))
                  have s5 : E < w5.heap.size := Nat.lt_of_lt_of_le sE kb'.size
                  have HBW5 := Hid.mk (HBQ.out.trans (B35.mono hs1))
                  clear S2 kb' out' cel' frz' asc' p1' p2' HY Hcel Hkb B35 Hzz HN5 HB5 sE
                  dsimp only
                  obtain ⟨lz, uz, RBz, COz⟩ := HZ.out
                  have HRB := Hid.mk RBz
                  have HCZ := Hid.mk COz
                  have HRU : Hid (∀ k, k < n → RG (L k) ∧ RG (U k)) := ⟨fun k hk => by
                    have h1 := HA.out.s1 k hk
                    have e1 := HA.out.lo _ h1
                    have e2 := HA.out.hi _ h1
                    rw [HA.out.s2 k hk] at e1 e2
                    rw [← e1, ← e2]
                    exact HRG.out _ h1⟩
                  have sE5 := HBW5.out.size
                  have x0 := (HBW5.out.cell (p := ⟨w.heap.size, 0, none⟩) (by simp; omega)).trans a0'
                  have x1' := (HBW5.out.cell (p := ⟨w.heap.size, 1, none⟩) (by simp; omega)).trans a1'
                  have x2' := (HBW5.out.cell (p := ⟨b1, 0, none⟩) (by simp; omega)).trans He1.out
                  have x3' := (HBW5.out.cell (p := ⟨b2, 0, none⟩) (by simp; omega)).trans He2.out
                  have HX0 := Hid.mk x0
                  have HX1 := Hid.mk x1'
                  have HX2 := Hid.mk x2'
                  have HX3 := Hid.mk x3'
                  clear RBz COz x0 x1' x2' x3'
                  go_wp2_with fail
                  go_loopw [5, 12, 16, 17] (fun v5 v12 v16 v17 wr => ∃ (bg en : Nat) (at_ : List Int) (fs : List Nat), v16 = .int .i64 (bg : Int) ∧ v17 = .int .i64 (en : Int) ∧ I4 n L U a b bg en at_ ∧ wr.ownsRow w5.heap.size 31 1 v5 at_.length (at_.flatMap (f1 h)) ∧ wr.ownsRow w5.heap.size 27 2 v12 fs.length (fs.flatMap (f2 lz uz)) ∧ Below w5.heap.size w5 wr) (fun _ _ v16 v17 _ => 2 * n - ((intOf v16).toNat + (intOf v17).toNat))
                  case atStart => exact ⟨0, 0, [], [], rfl, rfl, I4.zero n L U a b, World.ownsRow_nil _ _ _ _, World.ownsRow_nil _ _ _ _, Below.refl _ _⟩
                  case round =>
                    as_aux_lemma =>
                      obtain ⟨bg, en, at_, fs, rfl, rfl, I, hO, hF, hB⟩ := hrel
                      have HI := Hid.mk I
                      have HO := Hid.mk hO
                      have HF := Hid.mk hF
                      have HB := Hid.mk hB
                      have hs := hB.size
                      have ble := I.le
                      have ele : en ≤ n := by rcases I.sh with ⟨e, _⟩ | e <;> omega
                      have hlen := I.len
                      have HcLr : Hid (∀ k, k < n → wr.cell? ⟨E, k, none⟩ = some (.float .f64 (h (L k)))) := ⟨fun k hk => (HB.out.cell (p := ⟨E, k, none⟩) s5).trans (HcL.out k hk)⟩
                      have HcUr : Hid (∀ k, k < n → wr.cell? ⟨E, n + k, none⟩ = some (.float .f64 (h (U k)))) := ⟨fun k hk => (HB.out.cell (p := ⟨E, n + k, none⟩) s5).trans (HcU.out k hk)⟩
                      clear I hO hF hB
                      have hbg0 : (0 : Int) ≤ (bg : Int) := by omega
                      have hen0 : (0 : Int) ≤ (en : Int) := by omega
                      by_cases hc : bg < n ∨ en < n
                      · obtain ⟨F, bg', en', S⟩ := step4 HA.out HI.out hc
                        have HS := Hid.mk S
                        have hen := S.hen
                        have hen' : (en : Int) < (n : Int) := by omega
                        have RF : Hid (RG F) := ⟨by
                          by_cases hq : bg < n ∧ L bg < U en
                          · rw [S.f1 hq.1 hq.2]; exact (HRU.out bg hq.1).1
                          · rw [S.f2 hq]; exact (HRU.out en hen).2⟩
                        have uU := HcUr.out en hen
                        clear S
                        go_upto_region 28 with fail
                        go_cut [100] from 93 to 226 (fun v wx => v = .bool true ∧ wx = wr)
                        case first =>
                          as_aux_lemma =>
                            by_cases hb : (bg : Int) < (n : Int)
                            · go_wp2_with fail
                              go_meet
                              exact ⟨rfl, rfl⟩
                            · go_wp2_with fail
                              go_meet
                              exact ⟨rfl, rfl⟩
                        case rest =>
                          as_aux_lemma =>
                            obtain ⟨rfl, hw⟩ := hcut
                            obtain rfl := hw.symm
                            clear hw hc
                            go_upto_region 30 with fail
                            go_cut [18, 115] from 93 to 226 (fun v18 v wx => v18 = .float .f64 (h (U en)) ∧ v = .bool (decide (bg < n ∧ L bg < U en)) ∧ wx = wr)
                            case first =>
                              as_aux_lemma =>
                                by_cases hb : bg < n
                                · have hb' : (bg : Int) < (n : Int) := by omega
                                  have lL := HcLr.out bg hb
                                  have o1 := K.lt (HRU.out bg hb).1 (HRU.out en hen).2
                                  have eD : Hid (decide (bg < n ∧ L bg < U en) = decide (L bg < U en)) := ⟨by simp [hb]⟩
                                  cases hr : decide (L bg < U en) <;> rw [hr] at o1
                                  · go_wp2_with fail
                                    go_meet
                                    exact ⟨rfl, by rw [eD.out, hr], rfl⟩
                                  · go_wp2_with fail
                                    go_meet
                                    exact ⟨rfl, by rw [eD.out, hr], rfl⟩
                                · have hb' : ¬ (bg : Int) < (n : Int) := by omega
                                  have eD : Hid (decide (bg < n ∧ L bg < U en) = false) := ⟨by simp [hb]⟩
                                  go_wp2_with fail
                                  go_meet
                                  exact ⟨rfl, by rw [eD.out], rfl⟩
                            case rest =>
                              as_aux_lemma =>
                                obtain ⟨rfl, rfl, hw⟩ := hcut
                                obtain rfl := hw.symm
                                clear hw
                                go_upto_if 115 with fail
                                go_cut [18] from 93 to 226 (fun v18 wx => v18 = .float .f64 (h F) ∧ wx = wr)
                                case first =>
                                  as_aux_lemma =>
                                    by_cases hq : bg < n ∧ L bg < U en
                                    · have hb' : (bg : Int) < (n : Int) := by omega
                                      have lL := HcLr.out bg hq.1
                                      have eF := HS.out.f1 hq.1 hq.2
                                      rw [decide_eq_true hq]
                                      rw [← eF] at lL
                                      clear eF
                                      go_wp2_with fail
                                      go_meet
                                      exact ⟨rfl, rfl⟩
                                    · have eF := HS.out.f2 hq
                                      rw [decide_eq_false hq]
                                      rw [← eF] at uU ⊢
                                      clear eF
                                      go_wp2_with fail
                                      go_meet
                                      exact ⟨rfl, rfl⟩
                                case rest =>
                                  as_aux_lemma =>
                                    obtain ⟨rfl, hw⟩ := hcut
                                    obtain rfl := hw.symm
                                    clear hw uU
                                    go_upto_block 8 with fail
                                    go_cut [17] from 93 to 226 (fun v wx => v = .int .i64 (en' : Int) ∧ wx = wr)
                                    case first =>
                                      as_aux_lemma =>
                                        go_wp2_with fail
                                        go_loopw [17] (fun v wx => ∃ e : Nat, en ≤ e ∧ e ≤ en' ∧ v = .int .i64 (e : Int) ∧ wx = wr) (fun v _ => n - (intOf v).toNat)
                                        case atStart => exact ⟨en, Nat.le_refl _, HS.out.e1, rfl, rfl⟩
                                        case round =>
                                          as_aux_lemma =>
                                            obtain ⟨e, he1, he2, rfl, hw⟩ := hrel
                                            obtain rfl := hw.symm
                                            clear hw
                                            have he0 : (0 : Int) ≤ (e : Int) := by omega
                                            have e2n := HS.out.e2
                                            by_cases he : e < en'
                                            · have hen2 : (e : Int) < (n : Int) := by omega
                                              have cc := HcUr.out e (by omega)
                                              have o1 := (K.eq (HRU.out e (by omega)).2 RF.out).trans (decide_eq_true (HS.out.e3 e he1 he))
                                              go_wp2_with fail
                                              go_roundw
                                              case rel => exact ⟨e + 1, by omega, by omega, by go_num, by trivial⟩
                                              case measure => simp only [intOf]; omega
                                            · obtain rfl : e = en' := by omega
                                              by_cases hq : e < n
                                              · have hen2 : (e : Int) < (n : Int) := by omega
                                                have cc := HcUr.out e hq
                                                have o1 := (K.eq (HRU.out e hq).2 RF.out).trans (decide_eq_false (HS.out.e4 hq))
                                                go_wp2_with fail
                                                go_meet
                                                exact ⟨rfl, rfl⟩
                                              · have hen2 : ¬ (e : Int) < (n : Int) := by omega
                                                go_wp2_with fail
                                                go_meet
                                                exact ⟨rfl, rfl⟩
                                    case rest =>
                                      as_aux_lemma =>
                                        obtain ⟨rfl, hw⟩ := hcut
                                        obtain rfl := hw.symm
                                        clear hw
                                        have hcr : ¬ (en' : Int) < (bg : Int) := by have := HS.out.cr; omega
                                        go_upto_block 10 with fail
                                        go_cut [16] from 93 to 226 (fun v wx => v = .int .i64 (bg' : Int) ∧ wx = wr)
                                        case first =>
                                          as_aux_lemma =>
                                            go_wp2_with fail
                                            go_loopw [16] (fun v wx => ∃ e : Nat, bg ≤ e ∧ e ≤ bg' ∧ v = .int .i64 (e : Int) ∧ wx = wr) (fun v _ => n - (intOf v).toNat)
                                            case atStart => exact ⟨bg, Nat.le_refl _, HS.out.b1, rfl, rfl⟩
                                            case round =>
                                              as_aux_lemma =>
                                                obtain ⟨e, he1, he2, rfl, hw⟩ := hrel
                                                obtain rfl := hw.symm
                                                clear hw
                                                have he0 : (0 : Int) ≤ (e : Int) := by omega
                                                have e2n := HS.out.b2
                                                by_cases he : e < bg'
                                                · have hen2 : (e : Int) < (n : Int) := by omega
                                                  have cc := HcLr.out e (by omega)
                                                  have o1 := (K.eq (HRU.out e (by omega)).1 RF.out).trans (decide_eq_true (HS.out.b3 e he1 he))
                                                  go_wp2_with fail
                                                  go_roundw
                                                  case rel => exact ⟨e + 1, by omega, by omega, by go_num, by trivial⟩
                                                  case measure => simp only [intOf]; omega
                                                · obtain rfl : e = bg' := by omega
                                                  by_cases hq : e < n
                                                  · have hen2 : (e : Int) < (n : Int) := by omega
                                                    have cc := HcLr.out e hq
                                                    have o1 := (K.eq (HRU.out e hq).1 RF.out).trans (decide_eq_false (HS.out.b4 hq))
                                                    go_wp2_with fail
                                                    go_meet
                                                    exact ⟨rfl, rfl⟩
                                                  · have hen2 : ¬ (e : Int) < (n : Int) := by omega
                                                    go_wp2_with fail
                                                    go_meet
                                                    exact ⟨rfl, rfl⟩
                                        case rest =>
                                          as_aux_lemma =>
                                            obtain ⟨rfl, hw⟩ := hcut
                                            obtain rfl := hw.symm
                                            clear hw
                                            go_upto_region 37 with fail
                                            go_cut [168] from 93 to 226 (fun v wx => v = .bool (decide ¬ (a < F ∧ F < b)) ∧ wx = wr)
                                            case first =>
                                              as_aux_lemma =>
                                                have x0 := (HB.out.cell (p := ⟨w.heap.size, 0, none⟩) (by simp; omega)).trans HX0.out
                                                have x1' := (HB.out.cell (p := ⟨w.heap.size, 1, none⟩) (by simp; omega)).trans HX1.out
                                                have x2' := (HB.out.cell (p := ⟨b1, 0, none⟩) (by simp; omega)).trans HX2.out
                                                have x3' := (HB.out.cell (p := ⟨b2, 0, none⟩) (by simp; omega)).trans HX3.out
                                                have o1 := K.lt G3 RF.out
                                                have o2 := K.lt RF.out G4
                                                by_cases h1 : a < F
                                                · rw [decide_eq_true h1] at o1
                                                  by_cases h2 : F < b
                                                  · rw [decide_eq_true h2] at o2
                                                    have eD : Hid (decide (¬ (a < F ∧ F < b)) = false) := ⟨by simp [h1, h2]⟩
                                                    go_wp2_with fail
                                                    go_meet
                                                    exact ⟨by rw [eD.out], rfl⟩
                                                  · rw [decide_eq_false h2] at o2
                                                    have eD : Hid (decide (¬ (a < F ∧ F < b)) = true) := ⟨by simp [h2]⟩
                                                    go_wp2_with fail
                                                    go_meet
                                                    exact ⟨by rw [eD.out], rfl⟩
                                                · rw [decide_eq_false h1] at o1
                                                  have eD : Hid (decide (¬ (a < F ∧ F < b)) = true) := ⟨by simp [h1]⟩
                                                  go_wp2_with fail
                                                  go_meet
                                                  exact ⟨by rw [eD.out], rfl⟩
                                            case rest =>
                                              as_aux_lemma =>
                                                obtain ⟨rfl, hw⟩ := hcut
                                                obtain rfl := hw.symm
                                                clear hw hcr
                                                by_cases hin : a < F ∧ F < b
                                                · rw [decide_eq_false (by simp [hin] : ¬ ¬ (a < F ∧ F < b))]
                                                  have hms := HS.out.ms
                                                  have hle := HS.out.b2
                                                  have hle2 := HS.out.e2
                                                  go_wp2_with fail
                                                  go_loopw [5, 170, 12] (fun v5 v170 v12 wx => ∃ fs7 : List Nat, (v170 = .int .i64 0 ∨ (v170 = .int .i64 1 ∧ ∀ i, i < n → zh i ≠ F)) ∧ wx.ownsRow w5.heap.size 31 1 v5 at_.length (at_.flatMap (f1 h)) ∧ wx.ownsRow w5.heap.size 27 2 v12 fs7.length (fs7.flatMap (f2 lz uz)) ∧ Below w5.heap.size w5 wx) (fun _ v170 _ _ => 2 - (intOf v170).toNat)
                                                  case atStart => exact ⟨fs, .inl rfl, HO.out, HF.out, HB.out⟩
                                                  case round =>
                                                    as_aux_lemma =>
                                                      obtain ⟨fs7, ht, ho7, hf7, hb7⟩ := hrel
                                                      have HO7 := Hid.mk ho7
                                                      have HF7 := Hid.mk hf7
                                                      have HB7 := Hid.mk hb7
                                                      clear ho7 hf7 hb7
                                                      have ixx0 := ix0
                                                      have ixx1 := ix1
                                                      rcases ht with rfl | ⟨rfl, hno⟩
                                                      · go_upto_region 41 with fail
                                                        go_cut [12, 170] from 170 to 226 (fun v12 v170 wx => v170 = .int .i64 0 ∧ wx.ownsRow w5.heap.size 27 2 v12 0 [] ∧ wx = wr)
                                                        case first =>
                                                          as_aux_lemma =>
                                                            rcases own_cell (f2 lz uz) 2 (f2_len lz uz) HF7.out with ⟨rfl, _⟩ | ⟨g, gc, rfl, _, _, _, _, _⟩
                                                            · go_wp2_with fail
                                                              go_meet
                                                              exact ⟨rfl, World.ownsRow_nil _ _ _ _, rfl⟩
                                                            · have HC0 := Hid.mk (own_cut0 HF7.out)
                                                              go_wp2_with fail
                                                              go_meet
                                                              exact ⟨rfl, HC0.out, rfl⟩
                                                        case rest =>
                                                          as_aux_lemma =>
                                                            obtain ⟨rfl, hC0, hw⟩ := hcut
                                                            obtain rfl := hw.symm
                                                            have HC0 := Hid.mk hC0
                                                            clear hw hC0
                                                            go_upto_block 14 with fail
                                                            go_cut [12, 23, 170] from 170 to 226 (fun v12 v23 v170 wx => v170 = .int .i64 0 ∧ wx.ownsRow w5.heap.size 27 2 v12 (sl zh F n).length ((sl zh F n).flatMap (f2 lz uz)) ∧ wx.ownsRow w5.heap.size 31 1 u5 at_.length (at_.flatMap (f1 h)) ∧ Below w5.heap.size w5 wx)
                                                            case first =>
                                                              as_aux_lemma =>
                                                                go_wp2_with fail
                                                                go_loopw [12, 177] (fun v12 vk wx => ∃ k : Nat, k ≤ n ∧ vk = .int .i64 (k : Int) ∧ wx.ownsRow w5.heap.size 27 2 v12 (sl zh F k).length ((sl zh F k).flatMap (f2 lz uz)) ∧ wx.ownsRow w5.heap.size 31 1 u5 at_.length (at_.flatMap (f1 h)) ∧ Below w5.heap.size w5 wx) (fun _ vk _ => n - (intOf vk).toNat)
                                                                case atStart => exact ⟨0, Nat.zero_le _, rfl, HC0.out, HO7.out, HB7.out⟩
                                                                case round =>
                                                                  as_aux_lemma =>
                                                                    obtain ⟨k, hk, rfl, hf8, ho8, hb8⟩ := hrel
                                                                    have HF8 := Hid.mk hf8
                                                                    have HO8 := Hid.mk ho8
                                                                    have HB8 := Hid.mk hb8
                                                                    have hs8 := hb8.size
                                                                    clear hf8 ho8 hb8
                                                                    by_cases hkn : k < n
                                                                    · have hk' : (k : Int) < (n : Int) := by omega
                                                                      have hk0 : (0 : Int) ≤ (k : Int) := by omega
                                                                      have BWr : Below W.heap.size W wr := HBW5.out.trans (HB8.out.mono (by omega))
                                                                      have R' := HRB.out.below BWr
                                                                      have C' := (HCZ.out k hkn).below BWr
                                                                      obtain ⟨xb, xc, ex, _⟩ := C'.1
                                                                      obtain ⟨yb, yc, ey, _⟩ := C'.2.1
                                                                      have c0 := R'.f0 k hkn
                                                                      have c1' := R'.f1 k hkn
                                                                      rw [ex] at c0 C'
                                                                      rw [ey] at c1' C'
                                                                      obtain ⟨C1, C2, C3, C4⟩ := C'
                                                                      obtain ⟨_, xlt, xv⟩ := C1.open
                                                                      obtain ⟨_, ylt, yv⟩ := C2.open
                                                                      have BA := (Below.refl wr.heap.size wr).alloc (Nat.le_refl _) (.cells #[.slice (some ⟨xb, 0, none⟩) d xc, .slice (some ⟨yb, 0, none⟩) d yc] 27)
                                                                      have v0 : (wr.alloc (.cells #[.slice (some ⟨xb, 0, none⟩) d xc, .slice (some ⟨yb, 0, none⟩) d yc] 27)).cell? ⟨xb, 0, none⟩ = some (.float .f64 (h (zl k))) := (BA.cell (p := ⟨xb, 0, none⟩) xlt).trans (xv 0 hd)
                                                                      have v1 : (wr.alloc (.cells #[.slice (some ⟨xb, 0, none⟩) d xc, .slice (some ⟨yb, 0, none⟩) d yc] 27)).cell? ⟨yb, 0, none⟩ = some (.float .f64 (h (zh k))) := (BA.cell (p := ⟨yb, 0, none⟩) ylt).trans (yv 0 hd)
                                                                      have o1 := K.eq C4 RF.out
                                                                      have Hex := Hid.mk ex
                                                                      have Hey := Hid.mk ey
                                                                      have HBA := Hid.mk BA
                                                                      clear BWr R' C1 C2 xv yv BA ex ey
                                                                      by_cases hq : zh k = F
                                                                      · rw [decide_eq_true (show (_ : Prop) from hq)] at o1
                                                                        have Hq := Hid.mk hq
                                                                        clear hq
                                                                        obtain ⟨i, hi, hz0, hz1, hz2⟩ := info_parts info27
                                                                        have hsl := sl_len zh F k
                                                                        have HO9 := Hid.mk (HF8.out.alloc (.cells #[.slice (some ⟨xb, 0, none⟩) d xc, .slice (some ⟨yb, 0, none⟩) d yc] 27))
                                                                        go_wp2_with (at_builtin; refine wpList_append_own _ rfl _ _ 86 rfl w5.heap.size 27 i (.agg #[.slice none 0 0, .slice none 0 0]) 2 48 Yba.underlying86 hi hz0 hz1 hz2 rfl (by decide) _ (sl zh F k).length ((sl zh F k).flatMap (f2 lz uz)) rfl (HO9.out.alloc _) ⟨wr.heap.size + 1, 0, none⟩ 1 1 (f2 lz uz k) rfl rfl (by have := news2 (i := k) Hex.out Hey.out (wr.alloc (.cells #[.slice (some ⟨xb, 0, none⟩) d xc, .slice (some ⟨yb, 0, none⟩) d yc] 27)) 27; rwa [World.size_alloc] at this) (f2_one Hex.out Hey.out) (by simp [maxLen]; omega) (by omega) (by simp; omega) ?_)
                                                                        intro v' w9 hown' hgrow _
                                                                        have HO10 := Hid.mk (own_app (f2 lz uz) hown')
                                                                        have HB10 := Hid.mk ((((HB8.out.trans (HBA.out.mono hs8)).alloc (by simp; omega) (.cells #[.slice (some ⟨xb, 0, none⟩) d xc, .slice (some ⟨yb, 0, none⟩) d yc] 27)).grown hgrow (by simp; omega) (fun g hg => (HF8.out.lt g hg).1)))
                                                                        have HA10 := Hid.mk (((HO8.out.alloc (.cells #[.slice (some ⟨xb, 0, none⟩) d xc, .slice (some ⟨yb, 0, none⟩) d yc] 27)).alloc (.cells #[.slice (some ⟨xb, 0, none⟩) d xc, .slice (some ⟨yb, 0, none⟩) d yc] 27)).kept hgrow (own_apart HO8.out HF8.out (by decide)))
                                                                        clear hown' hgrow
                                                                        go_wp2_with fail
                                                                        go_roundw
                                                                        case rel => exact ⟨k + 1, by omega, by go_num, by rw [sl_yes Hq.out]; exact HO10.out, HA10.out, HB10.out⟩
                                                                        case measure => simp only [intOf]; omega
                                                                      · rw [decide_eq_false (show ¬ (_ : Prop) from hq)] at o1
                                                                        have Hq := Hid.mk hq
                                                                        clear hq
                                                                        obtain ⟨ja, jc, rfl⟩ := own_len HF8.out
                                                                        have HFN := Hid.mk (HF8.out.alloc (.cells #[.slice (some ⟨xb, 0, none⟩) d xc, .slice (some ⟨yb, 0, none⟩) d yc] 27))
                                                                        have HON := Hid.mk (HO8.out.alloc (.cells #[.slice (some ⟨xb, 0, none⟩) d xc, .slice (some ⟨yb, 0, none⟩) d yc] 27))
                                                                        have HBN := Hid.mk (HB8.out.trans (HBA.out.mono hs8))
                                                                        go_wp2_with fail
                                                                        go_roundw
                                                                        case rel => exact ⟨k + 1, by omega, by go_num, by rw [sl_no Hq.out]; exact HFN.out, HON.out, HBN.out⟩
                                                                        case measure => simp only [intOf]; omega
                                                                    · obtain rfl : k = n := by omega
                                                                      have hk' : ¬ (k : Int) < (k : Int) := by omega
                                                                      go_wp2_with fail
                                                                      go_meet
                                                                      exact ⟨rfl, HF8.out, HO8.out, HB8.out⟩
                                                            case rest =>
                                                              as_aux_lemma =>
                                                                obtain ⟨rfl, hf8, ho8, hb8⟩ := hcut
                                                                have HF8 := Hid.mk hf8
                                                                have HO8 := Hid.mk ho8
                                                                have HB8 := Hid.mk hb8
                                                                have hs8 := hb8.size
                                                                clear hf8 ho8 hb8
                                                                by_cases hex : ∃ i, i < n ∧ zh i = F
                                                                · obtain ⟨i, hi, he⟩ := hex
                                                                  have e8 := sl_one (key := zh) (f := F) (n := n) (i := i) (fun i j hi hj hne => HA.out.injh hi hj hne) hi he
                                                                  rw [e8] at HF8
                                                                  rcases own_cell (f2 lz uz) 2 (f2_len lz uz) HF8.out with ⟨_, e9⟩ | ⟨g, gc, rfl, hgc, hgb, hgl, hgcell, hgfz⟩
                                                                  · cases e9
                                                                  have BWr : Below W.heap.size W wc := HBW5.out.trans (HB8.out.mono (by omega))
                                                                  have CI := (HCZ.out i hi).below BWr
                                                                  have zlt : zl i < zh i := by have := HA.out.lt _ (HA.out.s1 i hi); rw [← HA.out.lo i hi, ← HA.out.hi i hi] at this; exact this
                                                                  have BS1 := own_bs HF8.out CI
                                                                  have c8 := HGW.out.below BWr
                                                                  have BE := beside_end h K wc d g gc _ _ a b F _ _ hd hd2 RF.out c8 BS1 (by show max a (zl i) ≤ F; omega)
                                                                  have x0 := (HB8.out.cell (p := ⟨w.heap.size, 0, none⟩) (by simp; omega)).trans HX0.out
                                                                  have x1' := (HB8.out.cell (p := ⟨w.heap.size, 1, none⟩) (by simp; omega)).trans HX1.out
                                                                  have HBS1 := Hid.mk BS1
                                                                  have HBE := Hid.mk BE
                                                                  clear BWr CI BS1 c8 BE hgcell hgfz
                                                                  go_wp2_with fail
                                                                  refine HBE.out.mono ?_
                                                                  rintro e w9 ⟨l', u', rfl, C9, B9⟩
                                                                  have HL := held_any h K w9 d g gc l' u' _ _ _ _ hd2 C9 (HBS1.out.below B9) (by show zl i ≤ max a (zl i); omega) (by show F ≤ zh i; omega)
                                                                  have HHL := Hid.mk HL
                                                                  have HB9 := Hid.mk B9
                                                                  clear HL B9 C9 HBE HBS1
                                                                  dsimp only
                                                                  go_wp2_with fail
                                                                  refine HHL.out.mono ?_
                                                                  rintro e w10 ⟨rfl, B10⟩
                                                                  have B8 := HB9.out.trans (B10.mono HB9.out.size)
                                                                  have HB10 := Hid.mk (HB8.out.trans (B8.mono hs8))
                                                                  have HO10 := Hid.mk (own_below HO8.out B8)
                                                                  have HF10 := Hid.mk (own_below HF8.out B8)
                                                                  have hs10 := HB10.out.size
                                                                  clear HHL B10 B8 HB9 x0 x1'
                                                                  dsimp only
                                                                  obtain ⟨ii, hii, hz0, hz1, hz2⟩ := info_parts info31
                                                                  go_wp2_with (at_builtin; refine wpList_append_own _ rfl _ _ 23 rfl w5.heap.size 31 ii (.float .f64 0) 1 8 Yba.underlying23 hii hz0 hz1 hz2 rfl (by decide) _ at_.length (at_.flatMap (f1 h)) rfl (HO10.out.alloc _) ⟨w10.heap.size, 0, none⟩ 1 1 (f1 h F) rfl rfl (news1 _ _ _ _) (f1_one _ _) (by simp [maxLen]; omega) (by omega) (by simp; omega) ?_)
                                                                  intro v' w11 hown' hgrow _
                                                                  have HO11 := Hid.mk (own_app (f1 h) hown')
                                                                  have HF11 := Hid.mk ((HF10.out.alloc (.cells #[.float .f64 (h F)] 31)).kept hgrow (own_apart HF10.out HO10.out (by decide)))
                                                                  have HB11 := Hid.mk ((HB10.out.alloc hs10 (.cells #[.float .f64 (h F)] 31)).grown hgrow (by simp; omega) (fun g hg => (HO10.out.lt g hg).1))
                                                                  clear hown' hgrow
                                                                  go_wp2_with fail
                                                                  go_roundw
                                                                  case rel => exact ⟨bg', en', at_ ++ [F], _, rfl, rfl, HS.out.yes hin, HO11.out, HF11.out, HB11.out⟩
                                                                  case measure => simp only [intOf, Int.toNat_natCast]; omega
                                                                · have hno : ∀ i, i < n → zh i ≠ F := fun i hi he => hex ⟨i, hi, he⟩
                                                                  rw [sl_none hno] at HF8
                                                                  obtain ⟨ja, jc, rfl⟩ := own_len HF8.out
                                                                  have Hno := Hid.mk hno
                                                                  clear hno hex
                                                                  go_wp2_with fail
                                                                  go_roundw
                                                                  case rel => exact ⟨[], .inr ⟨rfl, Hno.out⟩, HO8.out, HF8.out, HB8.out⟩
                                                                  case measure => simp only [intOf]; omega
                                                      · obtain ⟨i, hi, he⟩ : ∃ i, i < n ∧ zl i = F := by
                                                          rcases HS.out.fnd with ⟨i, hi, e⟩ | ⟨_, x⟩
                                                          · exact absurd e (hno i hi)
                                                          · exact x
                                                        clear hno
                                                        go_upto_region 41 with fail
                                                        go_cut [12, 170] from 170 to 226 (fun v12 v170 wx => v170 = .int .i64 1 ∧ wx.ownsRow w5.heap.size 27 2 v12 0 [] ∧ wx = wr)
                                                        case first =>
                                                          as_aux_lemma =>
                                                            rcases own_cell (f2 lz uz) 2 (f2_len lz uz) HF7.out with ⟨rfl, _⟩ | ⟨g, gc, rfl, _, _, _, _, _⟩
                                                            · go_wp2_with fail
                                                              go_meet
                                                              exact ⟨rfl, World.ownsRow_nil _ _ _ _, rfl⟩
                                                            · have HC0 := Hid.mk (own_cut0 HF7.out)
                                                              go_wp2_with fail
                                                              go_meet
                                                              exact ⟨rfl, HC0.out, rfl⟩
                                                        case rest =>
                                                          as_aux_lemma =>
                                                            obtain ⟨rfl, hC0, hw⟩ := hcut
                                                            obtain rfl := hw.symm
                                                            have HC0 := Hid.mk hC0
                                                            clear hw hC0
                                                            go_upto_block 14 with fail
                                                            go_cut [12, 23, 170] from 170 to 226 (fun v12 v23 v170 wx => v170 = .int .i64 1 ∧ wx.ownsRow w5.heap.size 27 2 v12 (sl zl F n).length ((sl zl F n).flatMap (f2 lz uz)) ∧ wx.ownsRow w5.heap.size 31 1 u5 at_.length (at_.flatMap (f1 h)) ∧ Below w5.heap.size w5 wx)
                                                            case first =>
                                                              as_aux_lemma =>
                                                                go_wp2_with fail
                                                                go_loopw [12, 177] (fun v12 vk wx => ∃ k : Nat, k ≤ n ∧ vk = .int .i64 (k : Int) ∧ wx.ownsRow w5.heap.size 27 2 v12 (sl zl F k).length ((sl zl F k).flatMap (f2 lz uz)) ∧ wx.ownsRow w5.heap.size 31 1 u5 at_.length (at_.flatMap (f1 h)) ∧ Below w5.heap.size w5 wx) (fun _ vk _ => n - (intOf vk).toNat)
                                                                case atStart => exact ⟨0, Nat.zero_le _, rfl, HC0.out, HO7.out, HB7.out⟩
                                                                case round =>
                                                                  as_aux_lemma =>
                                                                    obtain ⟨k, hk, rfl, hf8, ho8, hb8⟩ := hrel
                                                                    have HF8 := Hid.mk hf8
                                                                    have HO8 := Hid.mk ho8
                                                                    have HB8 := Hid.mk hb8
                                                                    have hs8 := hb8.size
                                                                    clear hf8 ho8 hb8
                                                                    by_cases hkn : k < n
                                                                    · have hk' : (k : Int) < (n : Int) := by omega
                                                                      have hk0 : (0 : Int) ≤ (k : Int) := by omega
                                                                      have BWr : Below W.heap.size W wr := HBW5.out.trans (HB8.out.mono (by omega))
                                                                      have R' := HRB.out.below BWr
                                                                      have C' := (HCZ.out k hkn).below BWr
                                                                      obtain ⟨xb, xc, ex, _⟩ := C'.1
                                                                      obtain ⟨yb, yc, ey, _⟩ := C'.2.1
                                                                      have c0 := R'.f0 k hkn
                                                                      have c1' := R'.f1 k hkn
                                                                      rw [ex] at c0 C'
                                                                      rw [ey] at c1' C'
                                                                      obtain ⟨C1, C2, C3, C4⟩ := C'
                                                                      obtain ⟨_, xlt, xv⟩ := C1.open
                                                                      obtain ⟨_, ylt, yv⟩ := C2.open
                                                                      have BA := (Below.refl wr.heap.size wr).alloc (Nat.le_refl _) (.cells #[.slice (some ⟨xb, 0, none⟩) d xc, .slice (some ⟨yb, 0, none⟩) d yc] 27)
                                                                      have v0 : (wr.alloc (.cells #[.slice (some ⟨xb, 0, none⟩) d xc, .slice (some ⟨yb, 0, none⟩) d yc] 27)).cell? ⟨xb, 0, none⟩ = some (.float .f64 (h (zl k))) := (BA.cell (p := ⟨xb, 0, none⟩) xlt).trans (xv 0 hd)
                                                                      have v1 : (wr.alloc (.cells #[.slice (some ⟨xb, 0, none⟩) d xc, .slice (some ⟨yb, 0, none⟩) d yc] 27)).cell? ⟨yb, 0, none⟩ = some (.float .f64 (h (zh k))) := (BA.cell (p := ⟨yb, 0, none⟩) ylt).trans (yv 0 hd)
                                                                      have o1 := K.eq C3 RF.out
                                                                      have Hex := Hid.mk ex
                                                                      have Hey := Hid.mk ey
                                                                      have HBA := Hid.mk BA
                                                                      clear BWr R' C1 C2 xv yv BA ex ey
                                                                      by_cases hq : zl k = F
                                                                      · rw [decide_eq_true (show (_ : Prop) from hq)] at o1
                                                                        have Hq := Hid.mk hq
                                                                        clear hq
                                                                        obtain ⟨i, hi, hz0, hz1, hz2⟩ := info_parts info27
                                                                        have hsl := sl_len zl F k
                                                                        have HO9 := Hid.mk (HF8.out.alloc (.cells #[.slice (some ⟨xb, 0, none⟩) d xc, .slice (some ⟨yb, 0, none⟩) d yc] 27))
                                                                        go_wp2_with (at_builtin; refine wpList_append_own _ rfl _ _ 86 rfl w5.heap.size 27 i (.agg #[.slice none 0 0, .slice none 0 0]) 2 48 Yba.underlying86 hi hz0 hz1 hz2 rfl (by decide) _ (sl zl F k).length ((sl zl F k).flatMap (f2 lz uz)) rfl (HO9.out.alloc _) ⟨wr.heap.size + 1, 0, none⟩ 1 1 (f2 lz uz k) rfl rfl (by have := news2 (i := k) Hex.out Hey.out (wr.alloc (.cells #[.slice (some ⟨xb, 0, none⟩) d xc, .slice (some ⟨yb, 0, none⟩) d yc] 27)) 27; rwa [World.size_alloc] at this) (f2_one Hex.out Hey.out) (by simp [maxLen]; omega) (by omega) (by simp; omega) ?_)
                                                                        intro v' w9 hown' hgrow _
                                                                        have HO10 := Hid.mk (own_app (f2 lz uz) hown')
                                                                        have HB10 := Hid.mk ((((HB8.out.trans (HBA.out.mono hs8)).alloc (by simp; omega) (.cells #[.slice (some ⟨xb, 0, none⟩) d xc, .slice (some ⟨yb, 0, none⟩) d yc] 27)).grown hgrow (by simp; omega) (fun g hg => (HF8.out.lt g hg).1)))
                                                                        have HA10 := Hid.mk (((HO8.out.alloc (.cells #[.slice (some ⟨xb, 0, none⟩) d xc, .slice (some ⟨yb, 0, none⟩) d yc] 27)).alloc (.cells #[.slice (some ⟨xb, 0, none⟩) d xc, .slice (some ⟨yb, 0, none⟩) d yc] 27)).kept hgrow (own_apart HO8.out HF8.out (by decide)))
                                                                        clear hown' hgrow
                                                                        go_wp2_with fail
                                                                        go_roundw
                                                                        case rel => exact ⟨k + 1, by omega, by go_num, by rw [sl_yes Hq.out]; exact HO10.out, HA10.out, HB10.out⟩
                                                                        case measure => simp only [intOf]; omega
                                                                      · rw [decide_eq_false (show ¬ (_ : Prop) from hq)] at o1
                                                                        have Hq := Hid.mk hq
                                                                        clear hq
                                                                        obtain ⟨ja, jc, rfl⟩ := own_len HF8.out
                                                                        have HFN := Hid.mk (HF8.out.alloc (.cells #[.slice (some ⟨xb, 0, none⟩) d xc, .slice (some ⟨yb, 0, none⟩) d yc] 27))
                                                                        have HON := Hid.mk (HO8.out.alloc (.cells #[.slice (some ⟨xb, 0, none⟩) d xc, .slice (some ⟨yb, 0, none⟩) d yc] 27))
                                                                        have HBN := Hid.mk (HB8.out.trans (HBA.out.mono hs8))
                                                                        go_wp2_with fail
                                                                        go_roundw
                                                                        case rel => exact ⟨k + 1, by omega, by go_num, by rw [sl_no Hq.out]; exact HFN.out, HON.out, HBN.out⟩
                                                                        case measure => simp only [intOf]; omega
                                                                    · obtain rfl : k = n := by omega
                                                                      have hk' : ¬ (k : Int) < (k : Int) := by omega
                                                                      go_wp2_with fail
                                                                      go_meet
                                                                      exact ⟨rfl, HF8.out, HO8.out, HB8.out⟩
                                                            case rest =>
                                                              as_aux_lemma =>
                                                                obtain ⟨rfl, hf8, ho8, hb8⟩ := hcut
                                                                have HF8 := Hid.mk hf8
                                                                have HO8 := Hid.mk ho8
                                                                have HB8 := Hid.mk hb8
                                                                have hs8 := hb8.size
                                                                clear hf8 ho8 hb8
                                                                have e8 := sl_one (key := zl) (f := F) (n := n) (i := i) (fun i j hi hj hne => HA.out.injl hi hj hne) hi he
                                                                rw [e8] at HF8
                                                                rcases own_cell (f2 lz uz) 2 (f2_len lz uz) HF8.out with ⟨_, e9⟩ | ⟨g, gc, rfl, hgc, hgb, hgl, hgcell, hgfz⟩
                                                                · cases e9
                                                                have BWr : Below W.heap.size W wc := HBW5.out.trans (HB8.out.mono (by omega))
                                                                have CI := (HCZ.out i hi).below BWr
                                                                have zlt : zl i < zh i := by have := HA.out.lt _ (HA.out.s1 i hi); rw [← HA.out.lo i hi, ← HA.out.hi i hi] at this; exact this
                                                                have BS1 := own_bs HF8.out CI
                                                                have c8 := HGW.out.below BWr
                                                                have BE := beside_beg h K wc d g gc _ _ a b F _ _ hd hd2 RF.out c8 BS1 (by show F ≤ min b (zh i); omega)
                                                                have x0 := (HB8.out.cell (p := ⟨w.heap.size, 0, none⟩) (by simp; omega)).trans HX0.out
                                                                have x1' := (HB8.out.cell (p := ⟨w.heap.size, 1, none⟩) (by simp; omega)).trans HX1.out
                                                                have HBS1 := Hid.mk BS1
                                                                have HBE := Hid.mk BE
                                                                clear BWr CI BS1 c8 BE hgcell hgfz
                                                                go_wp2_with fail
                                                                refine HBE.out.mono ?_
                                                                rintro e w9 ⟨l', u', rfl, C9, B9⟩
                                                                have HL := held_any h K w9 d g gc l' u' _ _ _ _ hd2 C9 (HBS1.out.below B9) (by show zl i ≤ F; omega) (by show min b (zh i) ≤ zh i; omega)
                                                                have HHL := Hid.mk HL
                                                                have HB9 := Hid.mk B9
                                                                clear HL B9 C9 HBE HBS1
                                                                dsimp only
                                                                go_wp2_with fail
                                                                refine HHL.out.mono ?_
                                                                rintro e w10 ⟨rfl, B10⟩
                                                                have B8 := HB9.out.trans (B10.mono HB9.out.size)
                                                                have HB10 := Hid.mk (HB8.out.trans (B8.mono hs8))
                                                                have HO10 := Hid.mk (own_below HO8.out B8)
                                                                have HF10 := Hid.mk (own_below HF8.out B8)
                                                                have hs10 := HB10.out.size
                                                                clear HHL B10 B8 HB9 x0 x1'
                                                                dsimp only
                                                                obtain ⟨ii, hii, hz0, hz1, hz2⟩ := info_parts info31
                                                                go_wp2_with (at_builtin; refine wpList_append_own _ rfl _ _ 23 rfl w5.heap.size 31 ii (.float .f64 0) 1 8 Yba.underlying23 hii hz0 hz1 hz2 rfl (by decide) _ at_.length (at_.flatMap (f1 h)) rfl (HO10.out.alloc _) ⟨w10.heap.size, 0, none⟩ 1 1 (f1 h F) rfl rfl (news1 _ _ _ _) (f1_one _ _) (by simp [maxLen]; omega) (by omega) (by simp; omega) ?_)
                                                                intro v' w11 hown' hgrow _
                                                                have HO11 := Hid.mk (own_app (f1 h) hown')
                                                                have HF11 := Hid.mk ((HF10.out.alloc (.cells #[.float .f64 (h F)] 31)).kept hgrow (own_apart HF10.out HO10.out (by decide)))
                                                                have HB11 := Hid.mk ((HB10.out.alloc hs10 (.cells #[.float .f64 (h F)] 31)).grown hgrow (by simp; omega) (fun g hg => (HO10.out.lt g hg).1))
                                                                clear hown' hgrow
                                                                go_wp2_with fail
                                                                go_roundw
                                                                case rel => exact ⟨bg', en', at_ ++ [F], _, rfl, rfl, HS.out.yes hin, HO11.out, HF11.out, HB11.out⟩
                                                                case measure => simp only [intOf, Int.toNat_natCast]; omega
                                                · rw [decide_eq_true hin]
                                                  obtain ⟨ja, jc, rfl⟩ := own_len HO.out
                                                  obtain ⟨fa, fc, rfl⟩ := own_len HF.out
                                                  have hms := HS.out.ms
                                                  have hle := HS.out.b2
                                                  have hle2 := HS.out.e2
                                                  go_wp2_with fail
                                                  go_roundw
                                                  case rel => exact ⟨bg', en', at_, fs, rfl, rfl, HS.out.no hin, HO.out, HF.out, HB.out⟩
                                                  case measure => simp only [intOf, Int.toNat_natCast]; omega
                      · obtain rfl : n = bg := by omega
                        obtain rfl : n = en := by omega
                        have hcx : ¬ (n : Int) < (n : Int) := by omega
                        obtain ⟨ja, jc, rfl⟩ := own_len HO.out
                        have hpos := HI.out.some HA.out Hm.out hn
                        have hp0 : (0 : Int) < (at_.length : Int) := by omega
                        have HFIN := Hid.mk ((HBW.out.trans (HBW5.out.mono HBW.out.size)).trans (HB.out.mono (by omega)))
                        have HOF := Hid.mk (HO.out.mono (show w.heap.size ≤ w5.heap.size by omega))
                        go_wp2_with fail
                        go_ret2
                        exact ⟨_, rfl, at_, HOF.out, HI.out, HFIN.out⟩
end Go.Proofs.Ybulkdaxu
