/-
  schedulable on one cut: it answers whether the chain is in order and the times fit.
-/
import Derived.Test.YbulkdasyOneQ
namespace Go.Proofs.Ybulkdasy
open Go.RowKit
set_option linter.unusedSimpArgs false
set_option linter.unusedVariables false
set_option maxRecDepth 100000 in
set_option maxHeartbeats 16000000 in
theorem sched_one {w0 w : World} {S : Sto} {n i : Nat} {fen call ret proc rank : Nat → Int} {cv rv : Value} {rcp : Nat → Value} (hrcp : rcp i = rv) (ws : List Nat) (hG : Good w0 w S) (hV : VA S { ps0 n fen call ret proc rank with rcp := rcp, cutV := cv, cut := natI [i] }) (hn : n ≤ 300) (hi : i < n) (hws : ∀ u, u ∈ ws → u < n) (hwl : ws.length ≤ 300)
    (hf : ∀ k, fen k = 2 ∨ fen k = 0) (hp : ∀ k, ∃ q : Nat, q < 3 ∧ proc k = (q : Int)) (hr : Row S 23 rv (ints (natI ws)))
    (hinj : ∀ u v, u < n → v < n → proc u = proc v → rank u = rank v → u = v) (hcall : ∀ u, call u < never) :
    Calls Yba.prog 9 #[.pointer (some ⟨S.loc 0, 0, none⟩)] w fun en w' => ∃ b : Bool, en = .returned (.bool b) ∧ (b = true ↔ InOrder proc rank (seen proc i ws) ∧ relOf fen call i < ret i ∧ ∀ u, u ∈ seen proc i ws → call u < ret i) ∧ ∃ S' p', Good w0 w' S' ∧ VA S' p' ∧ (∃ a c, p'.holdV = .slice a 0 c) ∧ S'.loc 0 = S.loc 0 ∧ p'.n = n ∧ p'.rank = rank := by
  have Hinj : Hid (∀ u v, u < n → v < n → proc u = proc v → rank u = rank v → u = v) := hinj
  have Hcall : Hid (∀ u, call u < never) := hcall
  clear hinj hcall
  have G0 := hG.new 27 [.pointer (some ⟨S.loc 0, 0, none⟩)] 25
  have V0 := hV.off (Off.put S 27 w.heap.size [.pointer (some ⟨S.loc 0, 0, none⟩)] 25) (by omega)
  have R0 : Row (S.put 27 w.heap.size [.pointer (some ⟨S.loc 0, 0, none⟩)] 25) 23 rv (ints (natI ws)) := hr.off (Off.put S 27 w.heap.size [.pointer (some ⟨S.loc 0, 0, none⟩)] 25) (by omega)
  have e0 : (S.put 27 w.heap.size [.pointer (some ⟨S.loc 0, 0, none⟩)] 25).loc 0 = S.loc 0 := by simp [Sto.put]
  have l27 : (S.put 27 w.heap.size [.pointer (some ⟨S.loc 0, 0, none⟩)] 25).loc 27 = w.heap.size := by simp [Sto.put]
  have d27 : (S.put 27 w.heap.size [.pointer (some ⟨S.loc 0, 0, none⟩)] 25).dom 27 := by simp [Sto.put]
  have b27 : (S.put 27 w.heap.size [.pointer (some ⟨S.loc 0, 0, none⟩)] 25).cells 27 = [.pointer (some ⟨S.loc 0, 0, none⟩)] := by simp [Sto.put]
  generalize S.put 27 w.heap.size [.pointer (some ⟨S.loc 0, 0, none⟩)] 25 = S0 at G0 V0 e0 l27 d27 b27 R0
  have hl0 := hG.lt (hV.dom 0 (by omega))
  clear hG hV hr
  rw [← e0] at G0 b27 ⊢
  have hcR := V0.cut
  dsimp only at hcR
  obtain ⟨cc, hcv, _⟩ := hcR.ncell G0 (k := 0) (u := i) rfl
  have c28 := G0.cell 0 28 (V0.dom 0 (by omega)) V0.r.cut
  dsimp only at c28
  rw [hcv] at c28
  have HG0 : Hid (Good w0 _ S0) := G0
  have HV0 : Hid (VA S0 _) := V0
  have HR0 : Hid (Row S0 23 rv _) := R0
  have Hcv : Hid (cv = _) := hcv
  have Hl27 : Hid (S0.loc 27 = w.heap.size) := l27
  have Hb27 : Hid (S0.cells 27 = _) := b27
  have Hrcp : Hid (rcp i = rv) := hrcp
  clear G0 V0 hcv hcR l27 b27 e0 R0 hrcp
  go_enter Yba.func9, Yba.ntmps9
  go_wp2_with fail
  refine (clear_any HG0.out HV0.out rfl rfl).mono ?_
  rintro e w1 ⟨rfl, S1, G1, V1, F1⟩
  have D1 := V1.dom
  have c28b := G1.cell 0 28 (D1 0 (by omega)) V1.r.cut
  have c44 := G1.cell 0 44 (D1 0 (by omega)) V1.r.stm
  have f1 : ∀ k, w1.frozen? ⟨S1.loc 0, k, none⟩ = false := fun k => G1.free 0 k (D1 0 (by omega))
  have cb := G1.cell 27 0 ((F1.keep 27 (by omega)).1.2 d27) (v := .pointer (some ⟨S0.loc 0, 0, none⟩)) (by rw [(F1.keep 27 (by omega)).2.2.1, Hb27.out]; rfl)
  dsimp only [ps0] at c28b c44
  have nb : S1.loc 0 ≠ S1.loc 27 := G1.ne (D1 0 (by omega)) ((F1.keep 27 (by omega)).1.2 d27) (by omega)
  rw [F1.loc 0 (by omega)] at c28b c44 f1 nb
  rw [(F1.keep 27 (by omega)).2.1, Hl27.out] at cb nb
  rw [Hcv.out] at c28b
  have HG1 : Hid (Good w0 w1 S1) := G1
  have HV1 : Hid (VA S1 _) := V1
  have HF1 : Hid (Fix S0 S1) := F1
  clear G1 V1 F1 c28
  go_wp2_with fail
  go_loopw [53] (fun x wr => ∃ (k : Nat) (T : Sto) (p : PS), k ≤ 1 ∧ x = .int .i64 k ∧ Good w0 wr T ∧ Fix S0 T ∧ VA T p ∧ QB n i fen call ret proc rank rv cv p ∧
      (k = 0 → p.st = 1 ∧ p.ev = [] ∧ p.hold = [] ∧ (∀ u, p.held u = 0) ∧ (∀ q, p.hb q = []) ∧ (∀ e, p.aftV e = .slice none 0 0)) ∧
      (k = 1 → ∃ ev hl hs, QG n i call ret (relOf fen call i) (seen proc i ws) ev (chain (seen proc i ws ++ [n + i])) p ∧ QH n proc (seen proc i ws) hl hs p)) (fun x _ => 2 - (intOf x).toNat)
  case atStart =>
    have G2 := HG1.out.setCell 0 44 (D1 0 (by omega)) (.int .i64 1)
    rw [HF1.out.loc 0 (by omega)] at G2
    have V2 := HV1.out.setStm 1
    refine ⟨0, _, _, by omega, rfl, G2, HF1.out.trans (Fix.set _ 0 _ _ (by omega)), V2, ?_, ?_, ?_⟩
    · constructor <;> first | rfl | exact Hrcp.out
    · intro _; exact ⟨rfl, rfl, rfl, fun _ => rfl, fun _ => rfl, fun _ => rfl⟩
    · intro h; omega
  case round =>
    obtain ⟨k, T, p, hk, rfl, hT, hF, V, Q, hk0, hk1⟩ := hrel
    have D := V.dom
    have dT27 := (hF.keep 27 (by omega)).1.2 d27
    have cb := hT.cell 27 0 dT27 (v := .pointer (some ⟨S0.loc 0, 0, none⟩)) (by rw [(hF.keep 27 (by omega)).2.2.1, Hb27.out]; rfl)
    rw [(hF.keep 27 (by omega)).2.1, Hl27.out] at cb
    have nb : T.loc 0 ≠ T.loc 27 := hT.ne (D 0 (by omega)) dT27 (by omega)
    rw [hF.loc 0 (by omega), (hF.keep 27 (by omega)).2.1, Hl27.out] at nb
    have c55 := hT.cell 0 55 (D 0 (by omega)) V.r.prc
    have c0 := hT.cell 0 0 (D 0 (by omega)) V.r.ops
    simp only [sl] at c55 c0
    rw [hF.loc 0 (by omega), Q.qn] at c55 c0
    have hcR := V.cut
    rw [Q.qcut] at hcR
    have HT : Hid (Good w0 wr T) := hT
    have HV : Hid (VA T p) := V
    have HF : Hid (Fix S0 T) := hF
    have HQ : Hid (QB n i fen call ret proc rank rv cv p) := Q
    have HK0 : Hid (k = 0 → _) := hk0
    have HK1 : Hid (k = 1 → _) := hk1
    clear hT V hF Q c28b c44 f1 hk0 hk1
    have hk3 : k = 0 ∨ k = 1 := by omega
    rcases hk3 with rfl | rfl
    · as_aux_lemma =>
        obtain ⟨_, _, c16⟩ := hcR.ncell HT.out (k := 0) (u := i) rfl
        rw [(HF.out.keep 16 (by omega)).2.1] at c16
        have cp := HT.out.cell 2 i (D 2 (by omega)) (HV.out.proc.at (k := i) (by rw [HQ.out.qn]; omega))
        obtain ⟨o6, o8, o9, _⟩ := HV.out.ops.2 i (by rw [HQ.out.qn]; omega)
        have e6 := HT.out.cell 1 _ (D 1 (by omega)) o6
        have e8 := HT.out.cell 1 _ (D 1 (by omega)) o8
        have e9 := HT.out.cell 1 _ (D 1 (by omega)) o9
        rw [HQ.out.qproc] at cp
        rw [HQ.out.qfen] at e6
        rw [HQ.out.qcall] at e8
        rw [HQ.out.qret] at e9
        have hii : (i : Int) < (n : Int) := by omega
        clear o6 o8 o9 hcR
        have HP : Hid (p.st = 1 ∧ p.ev = [] ∧ p.hold = [] ∧ (∀ u, p.held u = 0) ∧ (∀ q, p.hb q = []) ∧ (∀ e, p.aftV e = .slice none 0 0)) := HK0.out rfl
        clear HK0 HK1
        go_wp2_with fail
        go_quiet (fail)
        go_upto_if 83 with fail
        go_cut [9] from 54 to 273 (fun s wx => s = .int .i64 (relOf fen call i) ∧ ∃ kd, wx = wr.drewN kd)
        case first =>
          rcases hf i with hfi | hfi
          · have hro : relOf fen call i = call i := by simp [relOf, hfi]
            have hbt : (bits BinOp.and IntKind.u8 (fen i) 2 != 0) = true := by rw [hfi]; rfl
            have Hro : Hid (relOf fen call i = _) := hro
            clear hro
            go_wp2_with fail
            go_meet
            exact ⟨by rw [Hro.out], _, rfl⟩
          · have hro : relOf fen call i = -1 := by simp [relOf, hfi]
            have hbt : (bits BinOp.and IntKind.u8 (fen i) 2 != 0) = false := by rw [hfi]; rfl
            have Hro : Hid (relOf fen call i = _) := hro
            clear hro
            go_wp2_with fail
            go_meet
            exact ⟨by rw [Hro.out], _, rfl⟩
        case rest =>
          obtain ⟨rfl, kd, rfl⟩ := hcut
          go_wp2_with fail
          refine (add_at (HT.out.drewN _) HV.out (by rw [HQ.out.qn]; exact hn) _ (HF.out.loc 0 (by omega)) _ (n + i) (by omega) (by rw [HQ.out.qn]; omega) (by rw [HP.out.2.1]; simp) (HP.out.2.2.2.2.2 _) _ _).mono ?_
          rintro e w2 ⟨rfl, T2, v2, G2, F2, V2⟩
          have F3 := HF.out.trans F2
          have dT27' := (F3.keep 27 (by omega)).1.2 d27
          have cb2 := G2.cell 27 0 dT27' (v := .pointer (some ⟨S0.loc 0, 0, none⟩)) (by rw [(F3.keep 27 (by omega)).2.2.1, Hb27.out]; rfl)
          rw [(F3.keep 27 (by omega)).2.1, Hl27.out] at cb2
          clear c16 cp e6 e8 e9 cb c55 c0
          have HG2 : Hid (Good w0 w2 T2) := G2
          have HV2 : Hid (VA T2 _) := V2
          have HF3 : Hid (Fix S0 T2) := F3
          clear G2 V2 F2 F3
          go_wp2_with fail
          go_quiet (fail)
          go_wp2_with fail
          refine (receipt_at (HG2.out.drewN _) HV2.out (by dsimp only; rw [HQ.out.qn]; exact hn) _ (HF3.out.loc 0 (by omega)) i (by dsimp only; rw [HQ.out.qn]; omega)).mono ?_
          rintro e w3 ⟨rfl, nq3, rfl⟩
          have D2 := HV2.out.dom
          have x44 := HG2.out.cell 0 44 (D2 0 (by omega)) HV2.out.r.stm
          have y0 : ∀ k, w2.frozen? ⟨T2.loc 0, k, none⟩ = false := fun k => HG2.out.free 0 k (D2 0 (by omega))
          obtain ⟨_, r1, r2⟩ := HV2.out.rcp.2 i (by dsimp only; rw [HQ.out.qn]; omega)
          have x71 := HG2.out.cell 7 _ (D2 7 (by omega)) r1
          have x72 := HG2.out.cell 7 _ (D2 7 (by omega)) r2
          have n7 : T2.loc 0 ≠ T2.loc 7 := HG2.out.ne (D2 0 (by omega)) (D2 7 (by omega)) (by omega)
          dsimp only at x44 x71 x72
          rw [HF3.out.loc 0 (by omega)] at x44 y0 n7
          rw [HP.out.1] at x44
          rw [HQ.out.qrcp] at x71
          obtain ⟨ra, rcap, hrv⟩ := HR0.out.nform
          rw [hrv] at x71
          have Hrv : Hid (rv = _) := hrv
          clear r1 r2 hrv
          go_wp2_with fail
          go_loopw [163, 11] (fun x l wl => ∃ (k : Nat) (U : Sto) (q : PS) (ev : List Nat) (hl : Nat → List Nat) (hs : List Nat), k ≤ ws.length ∧ x = .int .i64 k ∧ l = .int .i64 (lastI (seen proc i (ws.take k))) ∧ Good w0 wl U ∧ Fix S0 U ∧ U.loc 7 = T2.loc 7 ∧ VA U q ∧ QB n i fen call ret proc rank rv cv q ∧ q.st = 2 ∧ QG n i call ret (relOf fen call i) (seen proc i (ws.take k)) ev (chain (seen proc i (ws.take k))) q ∧ QH n proc (seen proc i (ws.take k)) hl hs q) (fun x _ _ => ws.length - (intOf x).toNat)
          case atStart =>
            refine ⟨0, T2.set 0 44 (.int .i64 2), _, [n + i], fun _ => [], [], by omega, rfl, rfl, ?_, HF3.out.trans (Fix.set _ 0 _ _ (by omega)), rfl, HV2.out.setStm 2, HQ.out.addCut _ _ _ _ _ _ _ _, rfl, QG.start HP.out.2.1 HP.out.2.2.2.2.2 _ _, QH.start HP.out.2.2.1 HP.out.2.2.2.1 HP.out.2.2.2.2.1 _ _ _ _ _ _ _ _⟩
            rw [← HF3.out.loc 0 (by omega)]
            exact (HG2.out.drewN _).setCell 0 44 (D2 0 (by omega)) _
          case round =>
            obtain ⟨k, U, q, ev, hl, hs, hk, rfl, rfl, hU, hFU, h7, VU, QU, hst, hg, hh⟩ := hrel
            have DU := VU.dom
            have dU27 := (hFU.keep 27 (by omega)).1.2 d27
            have cbU := hU.cell 27 0 dU27 (v := .pointer (some ⟨S0.loc 0, 0, none⟩)) (by rw [(hFU.keep 27 (by omega)).2.2.1, Hb27.out]; rfl)
            rw [(hFU.keep 27 (by omega)).2.1, Hl27.out] at cbU
            have hvl : (seen proc i (ws.take k)).length ≤ 300 := by have := seen_len proc i (ws.take k); rw [List.length_take] at this; omega
            have HU : Hid (Good w0 wr U) := hU
            have HVU : Hid (VA U q) := VU
            have HFU : Hid (Fix S0 U) := hFU
            have HQU : Hid (QB n i fen call ret proc rank rv cv q) := QU
            have Hst : Hid (q.st = 2) := hst
            have Hg : Hid (QG n i call ret _ _ ev _ q) := hg
            have Hh : Hid (QH n proc _ hl hs q) := hh
            have H7 : Hid (U.loc 7 = T2.loc 7) := h7
            clear hU VU hFU QU hst hg hh h7 x44 y0 x71 x72 cb2
            by_cases hlt : k < ws.length
            · obtain ⟨u, hu⟩ : ∃ u, ws[k]? = some u := ⟨ws[k], List.getElem?_eq_getElem hlt⟩
              have hun : u < n := hws u (List.mem_of_getElem? hu)
              have RU := HR0.out.keep HFU.out (by omega)
              obtain ⟨cap, hc1, c23⟩ := RU.ncell HU.out hu
              have hinj := Hrv.out.symm.trans hc1
              injection hinj with hra hle hcap
              subst hra hcap
              have c40 := HU.out.cell 0 40 (DU 0 (by omega)) HVU.out.r.inw
              have c44 := HU.out.cell 0 44 (DU 0 (by omega)) HVU.out.r.stm
              have c55 := HU.out.cell 0 55 (DU 0 (by omega)) HVU.out.r.prc
              have c8 := HU.out.cell 8 u (DU 8 (by omega)) (HVU.out.inw.at (k := u) (by rw [HQU.out.qn]; omega))
              have c2 := HU.out.cell 2 u (DU 2 (by omega)) (HVU.out.proc.at (k := u) (by rw [HQU.out.qn]; omega))
              have f8 : ∀ k, wr.frozen? ⟨U.loc 8, k, none⟩ = false := fun k => HU.out.free 8 k (DU 8 (by omega))
              have n8 : U.loc 0 ≠ U.loc 8 := HU.out.ne (DU 0 (by omega)) (DU 8 (by omega)) (by omega)
              have n28 : U.loc 2 ≠ U.loc 8 := HU.out.ne (DU 2 (by omega)) (DU 8 (by omega)) (by omega)
              have n278 : U.loc 27 ≠ U.loc 8 := HU.out.ne dU27 (DU 8 (by omega)) (by omega)
              simp only [sl] at c40 c55
              rw [HFU.out.loc 0 (by omega)] at c40 c44 c55 n8
              rw [(HFU.out.keep 27 (by omega)).2.1, Hl27.out] at n278
              rw [HQU.out.qn] at c40 c55
              rw [HQU.out.qproc] at c2
              rw [Hst.out] at c44
              have hki : (k : Int) < (ws.length : Int) := by omega
              have hui : (u : Int) < (n : Int) := by omega
              have G1 := HU.out.setCell 8 u (DU 8 (by omega)) (.int .i64 2)
              have V1 := HVU.out.setInw (e := u) (by rw [HQU.out.qn]; exact hun) 2
              have HG1 : Hid (Good w0 _ _) := G1
              have HV1 : Hid (VA _ _) := V1
              clear G1 V1 hc1 RU hle
              by_cases hpu : proc u = proc i
              · have hpb : (proc u == proc i) = true := by simp [hpu]
                have Hpu : Hid (proc u = proc i) := hpu
                clear hpu
                go_wp2_with fail
                go_region
                go_wp2_with fail
                go_roundw
                case rel =>
                  refine ⟨k + 1, _, _, ev, hl, hs, by omega, congrArg (Value.int .i64) (by omega), by rw [seen_same hu Hpu.out], HG1.out.drew, HFU.out.trans (Fix.set _ 8 _ _ (by omega)), H7.out, HV1.out, HQU.out.inw _, Hst.out, ?_, ?_⟩
                  · rw [seen_same hu Hpu.out]; exact Hg.out.inw _
                  · rw [seen_same hu Hpu.out]; exact Hh.out.inw _
                case measure => simp only [intOf]; omega
              · have hpb : (proc u == proc i) = false := by simp [hpu]
                have Hpu : Hid (proc u ≠ proc i) := hpu
                clear hpu
                go_wp2_with fail
                go_region
                go_wp2_with fail
                refine (hold_step HG1.out.drew HV1.out hn _ (HFU.out.loc 0 (by omega)) (HQU.out.inw _) 2 Hst.out (Hg.out.inw _) (Hh.out.inw _) u hun (hp u) (by omega)).mono ?_
                rintro e w5 ⟨rfl, U5, q5, ev5, hl5, hs5, G5, F5, V5, Q5, st5, g5, h5⟩
                have F6 := (HFU.out.trans (Fix.set _ 8 _ _ (by omega))).trans F5
                have HG5 : Hid (Good w0 w5 U5) := G5
                have HV5 : Hid (VA U5 q5) := V5
                have HF6 : Hid (Fix S0 U5) := F6
                have HQ5 : Hid (QB n i fen call ret proc rank rv cv q5) := Q5
                have Hst5 : Hid (q5.st = 2) := st5
                have Hg5 : Hid (QG n i call ret _ _ ev5 _ q5) := g5
                have Hh5 : Hid (QH n proc _ hl5 hs5 q5) := h5
                have H75 : Hid (U5.loc 7 = T2.loc 7) := (F6.loc 7 (by omega)).trans (HF3.out.loc 7 (by omega)).symm
                clear G5 V5 F6 F5 Q5 st5 g5 h5 c40 c44 c55 c8 c2 f8 n8 n28 n278 cbU
                by_cases hv : seen proc i (ws.take k) = []
                · as_aux_lemma =>
                    have hlast : lastI (seen proc i (ws.take k)) = -1 := by rw [hv]; rfl
                    have Hv : Hid (seen proc i (ws.take k) = []) := hv
                    clear hv
                    go_wp2_with fail
                    go_roundw
                    case rel =>
                      refine ⟨k + 1, U5, q5, ev5, hl5, hs5, by omega, congrArg (Value.int .i64) (by omega), by rw [seen_new hu Hpu.out, lastI_snoc], HG5.out, HF6.out, H75.out, HV5.out, HQ5.out, Hst5.out, ?_, ?_⟩
                      · rw [seen_new hu Hpu.out]
                        have := Hg5.out
                        rw [Hv.out] at this ⊢
                        exact this
                      · rw [seen_new hu Hpu.out]; exact Hh5.out
                    case measure => simp only [intOf]; omega
                · as_aux_lemma =>
                    obtain ⟨l, a, hla⟩ := snoc_of hv
                    have hlast : lastI (seen proc i (ws.take k)) = (a : Int) := by rw [hla, lastI_snoc]
                    have Hla : Hid (seen proc i (ws.take k) = l ++ [a]) := hla
                    have han : a < n := hws a (List.mem_of_mem_take (seen_mem (by rw [hla]; simp)))
                    have ha0 : (0 : Int) ≤ (a : Int) := by omega
                    clear hv hla
                    go_wp2_with fail
                    have hae : a ∈ ev5 := (Hg5.out.gmem a).2 (.inr (by rw [Hla.out]; simp))
                    have hue : u ∈ ev5 := (Hg5.out.gmem u).2 (.inr (by simp))
                    refine (require_at HG5.out HV5.out (by rw [HQ5.out.qn]; exact hn) _ (HF6.out.loc 0 (by omega)) _ _ a u rfl rfl (by rw [HQ5.out.qn]; omega) (by rw [HQ5.out.qn]; omega) (by rw [Hg5.out.gaft a hae, natI_len]; have := outs_len (chain (seen proc i (ws.take k))) a; have := chain_len (seen proc i (ws.take k)); omega) (by rw [Hg5.out.gwt u hue]; have := ins_len (chain (seen proc i (ws.take k))) u; have := chain_len (seen proc i (ws.take k)); omega)).mono ?_
                    rintro e w6 ⟨rfl, U6, v6, G6, F7, V6⟩
                    go_wp2_with fail
                    go_roundw
                    case rel =>
                      refine ⟨k + 1, U6, _, ev5, hl5, hs5, by omega, congrArg (Value.int .i64) (by omega), by rw [seen_new hu Hpu.out, lastI_snoc], G6, HF6.out.trans F7, (F7.loc 7 (by omega)).trans H75.out, V6, HQ5.out.req _ _ _, Hst5.out, ?_, ?_⟩
                      · have h1 := Hg5.out.req a u hae hue v6
                        rw [seen_new hu Hpu.out]
                        rw [Hla.out] at h1 ⊢
                        rw [chain_snoc]
                        exact h1
                      · rw [seen_new hu Hpu.out]; exact Hh5.out.req _ _ _
                    case measure => simp only [intOf]; omega
            · have hki : ¬ (k : Int) < (ws.length : Int) := by omega
              have hke : k = ws.length := by omega
              have htk : seen proc i (ws.take k) = seen proc i ws := by rw [hke, List.take_length]
              clear hke
              obtain ⟨_, r1, r2⟩ := HVU.out.rcp.2 i (by rw [HQU.out.qn]; omega)
              have x72 := HU.out.cell 7 _ (DU 7 (by omega)) r2
              rw [H7.out] at x72
              clear r1 r2
              rw [htk] at Hg Hh hvl
              by_cases hv : seen proc i ws = []
              · as_aux_lemma =>
                  have hlast : lastI (seen proc i (ws.take k)) = -1 := by rw [htk, hv]; rfl
                  have Hv : Hid (seen proc i ws = []) := hv
                  clear hv htk
                  go_wp2_with fail
                  go_roundw
                  case rel =>
                    refine ⟨1, U, q, by omega, rfl, HU.out, HFU.out, HVU.out, HQU.out, fun h => by omega, fun _ => ⟨ev, hl, hs, ?_, Hh.out⟩⟩
                    have := Hg.out
                    rw [Hv.out] at this ⊢
                    exact this
                  case measure => simp [intOf]
              · as_aux_lemma =>
                  obtain ⟨l, a, hla⟩ := snoc_of hv
                  have hlast : lastI (seen proc i (ws.take k)) = (a : Int) := by rw [htk, hla, lastI_snoc]
                  have Hla : Hid (seen proc i ws = l ++ [a]) := hla
                  have han : a < n := hws a (seen_mem (by rw [hla]; simp))
                  have ha0 : (0 : Int) ≤ (a : Int) := by omega
                  clear hv hla htk
                  go_wp2_with fail
                  have hae : a ∈ ev := (Hg.out.gmem a).2 (.inr (by rw [Hla.out]; simp))
                  have hue : n + i ∈ ev := (Hg.out.gmem _).2 (.inl rfl)
                  refine (require_at HU.out HVU.out (by rw [HQU.out.qn]; exact hn) _ (HFU.out.loc 0 (by omega)) _ _ a (n + i) rfl (by omega) (by rw [HQU.out.qn]; omega) (by rw [HQU.out.qn]; omega) (by rw [Hg.out.gaft a hae, natI_len]; have := outs_len (chain (seen proc i ws)) a; have := chain_len (seen proc i ws); omega) (by rw [Hg.out.gwt _ hue]; have := ins_len (chain (seen proc i ws)) (n + i); have := chain_len (seen proc i ws); omega)).mono ?_
                  rintro e w6 ⟨rfl, U6, v6, G6, F7, V6⟩
                  have D6 := V6.dom
                  obtain ⟨_, r1, r2⟩ := V6.rcp.2 i (by dsimp only; rw [HQU.out.qn]; omega)
                  have x72b := G6.cell 7 _ (D6 7 (by omega)) r2
                  rw [F7.loc 7 (by omega), H7.out] at x72b
                  clear r1 r2 x72
                  have HG6 : Hid (Good w0 w6 U6) := G6
                  have HV6 : Hid (VA U6 _) := V6
                  clear G6 V6
                  go_wp2_with fail
                  go_roundw
                  case rel =>
                    refine ⟨1, U6, _, by omega, rfl, HG6.out, HFU.out.trans F7, HV6.out, HQU.out.req _ _ _, fun h => by omega, fun _ => ⟨ev, hl, hs, ?_, Hh.out.req _ _ _⟩⟩
                    have h1 := Hg.out.req a (n + i) hae hue v6
                    rw [Hla.out] at h1 ⊢
                    rw [chain_snoc]
                    exact h1
                  case measure => simp [intOf]
    · as_aux_lemma =>
        have HW := HK1.out rfl
        obtain ⟨ev, hl, hs, hg, hh⟩ := HW
        have hRh := HV.out.hold
        rw [hh.hhold] at hRh
        have c43 := HT.out.cell 0 43 (D 0 (by omega)) HV.out.r.hold
        obtain ⟨ha, hcap, hhv⟩ := hRh.nform
        rw [HF.out.loc 0 (by omega)] at c43
        rw [hhv] at c43
        have Hhv : Hid (p.holdV = _) := hhv
        have Hg : Hid (QG n i call ret _ _ ev _ p) := hg
        have Hh : Hid (QH n proc _ hl hs p) := hh
        have hvl : (seen proc i ws).length ≤ 300 := by have := seen_len proc i ws; omega
        have hsl : hs.length ≤ 300 := by have := hh.hslen; omega
        clear c55 c0 hcR HK0 HK1 hg hh hhv hRh
        go_wp2_with fail
        go_loopw [280] (fun x wl => ∃ (j : Nat) (U : Sto) (q : PS) (Y : Nat → List Nat), j ≤ hs.length ∧ x = .int .i64 j ∧ Good w0 wl U ∧ Fix S0 U ∧ VA U q ∧ QB n i fen call ret proc rank rv cv q ∧ QG n i call ret (relOf fen call i) (seen proc i ws) ev (edges (chain (seen proc i ws ++ [n + i])) hs Y j) q ∧ (edges (chain (seen proc i ws ++ [n + i])) hs Y j).length ≤ 301 + 300 * j ∧ q.holdV = p.holdV ∧ q.hold = natI hs ∧ (∀ r, r ∉ hs.take j → q.hb r = natI (hl r)) ∧ (∀ r, r ∈ hs.take j → (Y r).Perm (hl r) ∧ ∀ a b, a < b → b < (Y r).length → rank ((Y r).getD a 0) ≤ rank ((Y r).getD b 0))) (fun x _ => hs.length - (intOf x).toNat)
        case atStart =>
          refine ⟨0, T, p, fun _ => [], by omega, rfl, HT.out, HF.out, HV.out, HQ.out, by simpa [edges] using Hg.out, ?_, rfl, Hh.out.hhold, fun r _ => Hh.out.hb r, fun r hr => by simp at hr⟩
          have h1 := chain_len (seen proc i ws ++ [n + i])
          simp [edges]
          simp at h1
          omega
        case round =>
          obtain ⟨j, U, q, Y, hj, rfl, hU, hFU, VU, QU, hg, hEl, hqV, hqh, hb0, hb1⟩ := hrel
          have DU := VU.dom
          have dU27 := (hFU.keep 27 (by omega)).1.2 d27
          have cells27 := (hFU.keep 27 (by omega)).2.2.1.trans Hb27.out
          have loc27 := (hFU.keep 27 (by omega)).2.1.trans Hl27.out
          have cbU := hU.cell 27 0 dU27 (v := .pointer (some ⟨S0.loc 0, 0, none⟩)) (by rw [cells27]; rfl)
          rw [loc27] at cbU
          have RU := VU.hold
          rw [hqV, hqh] at RU
          have HU : Hid (Good w0 wr U) := hU
          have HVU : Hid (VA U q) := VU
          have HFU : Hid (Fix S0 U) := hFU
          have HQU : Hid (QB n i fen call ret proc rank rv cv q) := QU
          have Hg : Hid (QG n i call ret _ _ ev _ q) := hg
          have HqV : Hid (q.holdV = p.holdV) := hqV
          have Hqh : Hid (q.hold = natI hs) := hqh
          have Hb0 : Hid (∀ r, r ∉ hs.take j → q.hb r = natI (hl r)) := hb0
          have Hb1 : Hid (∀ r, r ∈ hs.take j → (Y r).Perm (hl r) ∧ ∀ a b, a < b → b < (Y r).length → rank ((Y r).getD a 0) ≤ rank ((Y r).getD b 0)) := hb1
          have Hc27 : Hid (U.cells 27 = _) := cells27
          have Hlc27 : Hid (U.loc 27 = _) := loc27
          clear hU VU hFU QU hg hqV hqh hb0 hb1 cells27 loc27 c43 cb
          by_cases hlt : j < hs.length
          · obtain ⟨r, hr⟩ : ∃ r, hs[j]? = some r := ⟨hs[j], List.getElem?_eq_getElem hlt⟩
            have hrs : r ∈ hs := List.mem_of_getElem? hr
            have hlne := (Hh.out.hsmem r).1 hrs
            obtain ⟨u0, hu0⟩ := List.exists_mem_of_ne_nil _ hlne
            have hr3 : r < 3 := by
              obtain ⟨z, hz, hz2⟩ := hp u0
              have := ((Hh.out.hmem r u0).1 hu0).2
              rw [hz2] at this; omega
            have hlt0 : ∀ u, u ∈ hl r → u < n := fun u hu => hws u (seen_mem ((Hh.out.hmem r u).1 hu).1)
            have hll : (hl r).length ≤ 300 := by have := Hh.out.hlen r; omega
            obtain ⟨cap, hc1, c19⟩ := RU.ncell HU.out hr
            have hinj := Hhv.out.symm.trans hc1
            injection hinj with hra hle hcp
            subst hra hcp
            have hni := not_mem_take hr Hh.out.hsnd
            obtain ⟨scap, hs1, hsort⟩ := sort_at HU.out HVU.out (n - 1) (by rw [HQU.out.qn]; omega) (by rw [HQU.out.qn]; exact hn) r hr3 (hl r) (Hb0.out r hni) hlne (fun u hu => by rw [HQU.out.qn]; exact hlt0 u hu) (by omega) dU27 (S0.loc 0) w.heap.size (HFU.out.loc 0 (by omega)) Hlc27.out Hc27.out
            have c42 := HU.out.cell 0 42 (DU 0 (by omega)) HVU.out.r.hby
            have c10 := HU.out.cell 10 r (DU 10 (by omega)) (HVU.out.hbv r hr3)
            simp only [sl] at c42
            rw [HFU.out.loc 0 (by omega)] at c42
            rw [hs1] at c10
            have hji : (j : Int) < (hs.length : Int) := by omega
            have hri : (r : Int) < 3 := by omega
            have Hs1 : Hid (q.hbV r = _) := hs1
            have Hsort : Hid (Calls _ _ _ _ _) := hsort
            clear hs1 hsort hc1 hle RU
            go_wp2_with fail
            refine Hsort.out.mono ?_
            rintro e w5 ⟨rfl, U5, ys, G5, F5, l5, V5, hperm, hsorted⟩
            have hyl : ys.length = (hl r).length := hperm.length_eq
            have hyn : 0 < ys.length := by rw [hyl]; exact List.length_pos_iff.2 hlne
            rw [HQU.out.qrank] at hsorted
            have HG5 : Hid (Good w0 w5 U5) := G5
            have HV5 : Hid (VA U5 _) := V5
            have HF5 : Hid (Fix S0 U5) := HFU.out.trans F5
            have Hperm : Hid (ys.Perm (hl r)) := hperm
            have Hsorted : Hid (∀ a b, a < b → b < ys.length → rank (ys.getD a 0) ≤ rank (ys.getD b 0)) := hsorted
            clear G5 V5 F5 hperm hsorted c42 c10 c19 cbU l5
            go_wp2_with fail
            go_loopw [19] (fun x wl => ∃ (m : Nat) (U6 : Sto) (q6 : PS), m + 1 ≤ ys.length ∧ x = .int .i64 ((m : Int) + 1) ∧ Good w0 wl U6 ∧ Fix S0 U6 ∧ VA U6 q6 ∧ QB n i fen call ret proc rank rv cv q6 ∧ QG n i call ret (relOf fen call i) (seen proc i ws) ev (edges (chain (seen proc i ws ++ [n + i])) hs Y j ++ chain (ys.take (m + 1))) q6 ∧ q6.holdV = p.holdV ∧ q6.hold = natI hs ∧ q6.hbV = q.hbV ∧ q6.hb = updL q.hb r (natI ys)) (fun x _ => ys.length - (intOf x).toNat)
            case atStart =>
              refine ⟨0, U5, _, by omega, rfl, HG5.out, HF5.out, HV5.out, HQU.out.hb1 _, ?_, HqV.out, Hqh.out, rfl, rfl⟩
              have h1 : chain (ys.take (0 + 1)) = [] := by
                unfold chain
                have : (ys.take (0 + 1)).length - 1 = 0 := by rw [List.length_take]; omega
                rw [this]; rfl
              rw [h1, List.append_nil]
              exact Hg.out.hb1 _
            case round =>
              obtain ⟨m, U6, q6, hm, rfl, G6, F6, V6, Q6, g6, hqV6, hqh6, hbV6, hb6⟩ := hrel
              have D6 := V6.dom
              have R6 := V6.hbr r hr3
              rw [hbV6, hb6] at R6
              simp only [updL, if_pos] at R6
              have HG6 : Hid (Good w0 wr U6) := G6
              have HV6 : Hid (VA U6 q6) := V6
              have HF6 : Hid (Fix S0 U6) := F6
              have HQ6 : Hid (QB n i fen call ret proc rank rv cv q6) := Q6
              have Hg6 : Hid (QG n i call ret _ _ ev _ q6) := g6
              have HqV6 : Hid (q6.holdV = p.holdV) := hqV6
              have Hqh6 : Hid (q6.hold = natI hs) := hqh6
              have HbV6 : Hid (q6.hbV = q.hbV) := hbV6
              have Hb6 : Hid (q6.hb = _) := hb6
              have HR6 : Hid (Row U6 (20 + r) (q.hbV r) (ints (natI ys))) := R6
              have HEl : Hid ((edges (chain (seen proc i ws ++ [n + i])) hs Y j).length ≤ 301 + 300 * j) := hEl
              clear G6 V6 F6 Q6 g6 hqV6 hqh6 hbV6 hb6 R6
              by_cases hmt : m + 1 < ys.length
              · have ka : ys[m]? = some (ys.getD m 0) := by rw [List.getElem?_eq_getElem (by omega)]; simp [show m < ys.length by omega]
                have kc : ys[m + 1]? = some (ys.getD (m + 1) 0) := by rw [List.getElem?_eq_getElem (by omega)]; simp [hmt]
                obtain ⟨_, ca⟩ := HR6.out.at_b HG6.out Hs1.out ka
                obtain ⟨_, cc'⟩ := HR6.out.at_b HG6.out Hs1.out kc
                have kam : ys.getD m 0 ∈ hl r := Hperm.out.mem_iff.1 (getD_mem (by omega))
                have kcm : ys.getD (m + 1) 0 ∈ hl r := Hperm.out.mem_iff.1 (getD_mem hmt)
                have han := hlt0 _ kam
                have hcn := hlt0 _ kcm
                have hae : ys.getD m 0 ∈ ev := (Hg6.out.gmem _).2 (.inr ((Hh.out.hmem r _).1 kam).1)
                have hce : ys.getD (m + 1) 0 ∈ ev := (Hg6.out.gmem _).2 (.inr ((Hh.out.hmem r _).1 kcm).1)
                have Hnx : Hid (chain (ys.take (m + 2)) = chain (ys.take (m + 1)) ++ [(ys.getD m 0, ys.getD (m + 1) 0)]) := chain_take ys m hmt
                have Hka : Hid (ys[m]? = some (ys.getD m 0)) := ka
                have Hkc : Hid (ys[m + 1]? = some (ys.getD (m + 1) 0)) := kc
                clear ka kc
                generalize ys.getD m 0 = a at ca kam han hae Hnx Hka
                generalize ys.getD (m + 1) 0 = c at cc' kcm hcn hce Hnx Hkc
                have h0m : (0 : Int) ≤ (m : Int) := by omega
                have h0m1 : (0 : Int) ≤ (m : Int) + 1 := by omega
                have hml : (m : Int) < ((hl r).length : Int) := by omega
                have hbd : ∀ e, e ∈ ev → (q6.aft e).length ≤ 1000000 ∧ -1000000 ≤ q6.wt e ∧ q6.wt e ≤ 1000000 := by
                  intro e he
                  have h1 := outs_len (edges (chain (seen proc i ws ++ [n + i])) hs Y j ++ chain (ys.take (m + 1))) e
                  have h2 := ins_len (edges (chain (seen proc i ws ++ [n + i])) hs Y j ++ chain (ys.take (m + 1))) e
                  have h3 := chain_len (ys.take (m + 1))
                  have h4 := HEl.out
                  rw [List.length_append] at h1 h2
                  rw [List.length_take] at h3
                  rw [Hg6.out.gaft e he, Hg6.out.gwt e he, natI_len]
                  omega
                have hm1 : ((m : Int) + 1) < ((hl r).length : Int) := by omega
                have hw1 : IntKind.i64.wrap ((m : Int) + 1 - 1) = (m : Int) := by rw [IntKind.wrap_i64]; omega
                have hwm : IntKind.i64.wrap (m : Int) = (m : Int) := by rw [IntKind.wrap_i64]; omega
                have Hbd : Hid (∀ e, e ∈ ev → (q6.aft e).length ≤ 1000000 ∧ -1000000 ≤ q6.wt e ∧ q6.wt e ≤ 1000000) := hbd
                clear hbd
                go_wp2_with fail
                go_region_held3 (fun x => x.cell? ⟨U.loc (20 + r), m, none⟩ = some (.int .i64 (a : Int)) ∧ x.cell? ⟨U.loc (20 + r), m + 1, none⟩ = some (.int .i64 (c : Int))) (go_keep) (first | (go_at_call 18; refine (require_at (HG6.out.drewN _) HV6.out (by rw [HQ6.out.qn]; exact hn) _ (HF6.out.loc 0 (by omega)) _ _ a c rfl rfl (by rw [HQ6.out.qn]; omega) (by rw [HQ6.out.qn]; omega) (Hbd.out a hae).1 (Hbd.out c hce).2).mono ?_; rintro e w7 ⟨rfl, U7, v7, G7, F7, V7⟩; have R7 := V7.hbr r hr3; dsimp only at R7; rw [HbV6.out, Hb6.out] at R7; simp only [updL, if_pos] at R7; obtain ⟨_, z1⟩ := R7.at_b G7 Hs1.out Hka.out; obtain ⟨_, z2⟩ := R7.at_b G7 Hs1.out Hkc.out; have HG7 : Hid (Good w0 w7 U7) := G7; have HV7 : Hid (VA U7 _) := V7; have HF7 : Hid (Fix U6 U7) := F7; clear G7 V7 F7 R7))
                go_wp2_with fail
                go_roundw
                case rel =>
                  refine ⟨m + 1, U7, _, by omega, congrArg (Value.int .i64) (by omega), HG7.out, HF6.out.trans HF7.out, HV7.out, HQ6.out.req _ _ _, ?_, HqV6.out, Hqh6.out, HbV6.out, Hb6.out⟩
                  have h1 := Hg6.out.req a c hae hce v7
                  rw [Hnx.out, ← List.append_assoc]
                  exact h1
                case measure => simp only [intOf]; omega
              · have hm1 : ¬ ((m : Int) + 1) < ((hl r).length : Int) := by omega
                have hke : m + 1 = ys.length := by omega
                have c42 := HG6.out.cell 0 42 (D6 0 (by omega)) HV6.out.r.hby
                have c10 := HG6.out.cell 10 r (D6 10 (by omega)) (HV6.out.hbv r hr3)
                have f10 : ∀ k, wr.frozen? ⟨U6.loc 10, k, none⟩ = false := fun k => HG6.out.free 10 k (D6 10 (by omega))
                have cb6 := HG6.out.cell 27 0 ((HF6.out.keep 27 (by omega)).1.2 d27) (v := .pointer (some ⟨S0.loc 0, 0, none⟩)) (by rw [(HF6.out.keep 27 (by omega)).2.2.1, Hb27.out]; rfl)
                rw [(HF6.out.keep 27 (by omega)).2.1, Hl27.out] at cb6
                have n10 : U6.loc 0 ≠ U6.loc 10 := HG6.out.ne (D6 0 (by omega)) (D6 10 (by omega)) (by omega)
                simp only [sl] at c42
                rw [HF6.out.loc 0 (by omega)] at c42 n10
                have R8 := HR6.out
                rw [Hs1.out] at R8
                have R9 := R8.cut0
                have G8 := HG6.out.setCell 10 r (D6 10 (by omega)) (.slice (some ⟨U.loc (20 + r), 0, none⟩) 0 scap)
                have V8 := HV6.out.setHb (e := r) hr3 (Off.refl (20 + r) U6) (xs := []) R9
                have HG8 : Hid (Good w0 _ _) := G8
                have HV8 : Hid (VA _ _) := V8
                clear G8 V8 R8 R9
                go_wp2_with fail
                go_region
                go_wp2_with fail
                go_roundw
                case rel =>
                  (repeat apply Exists.intro)
                  refine ⟨⟨j + 1, _, _, updN Y r ys, by omega, congrArg (Value.int .i64) (by omega), HG8.out.drew, HF6.out.trans (Fix.set _ 10 _ _ (by omega)), HV8.out, HQ6.out.hbs _ _, ?_, ?_, HqV6.out, Hqh6.out, ?_, ?_⟩, rfl⟩
                  · rw [edges_succ hr Hh.out.hsnd]
                    have h1 := Hg6.out.hbs (updV q6.hbV r (.slice (some ⟨U.loc (20 + r), 0, none⟩) 0 scap)) (updL q6.hb r [])
                    rw [hke, List.take_length] at h1
                    exact h1
                  · rw [edges_succ hr Hh.out.hsnd, List.length_append]
                    have h1 := chain_len ys
                    have h2 := HEl.out
                    omega
                  · intro s hs'
                    have h1 : s ∉ hs.take j := fun z => hs' ((mem_take_succ hr).2 (.inl z))
                    have h2 : s ≠ r := fun z => hs' ((mem_take_succ hr).2 (.inr z))
                    show updL q6.hb r [] s = _
                    rw [Hb6.out]
                    simp only [updL, if_neg h2]
                    exact Hb0.out s h1
                  · intro s hs'
                    unfold updN
                    by_cases h2 : s = r
                    · subst h2
                      rw [if_pos rfl]
                      exact ⟨Hperm.out, Hsorted.out⟩
                    · rw [if_neg h2]
                      exact Hb1.out s (((mem_take_succ hr).1 hs').resolve_right h2)
                case measure =>
                  show hs.length - (intOf (.int .i64 ((j : Int) + 1))).toNat < hs.length - (intOf (.int .i64 (j : Int))).toNat
                  simp only [intOf]; omega
          · have hji : ¬ (j : Int) < (hs.length : Int) := by omega
            have Hje : Hid (j = hs.length) := by show j = hs.length; omega
            rw [Hhv.out] at RU
            have R9 := RU.cut0
            have c43 := HU.out.cell 0 43 (DU 0 (by omega)) HVU.out.r.hold
            rw [HFU.out.loc 0 (by omega), HqV.out, Hhv.out] at c43
            have f0 : ∀ k, wr.frozen? ⟨U.loc 0, k, none⟩ = false := fun k => HU.out.free 0 k (DU 0 (by omega))
            rw [HFU.out.loc 0 (by omega)] at f0
            have nb : U.loc 0 ≠ U.loc 27 := HU.out.ne (DU 0 (by omega)) dU27 (by omega)
            rw [HFU.out.loc 0 (by omega), Hlc27.out] at nb
            have G9 := HU.out.setCell 0 43 (DU 0 (by omega)) (.slice ha 0 hcap)
            rw [HFU.out.loc 0 (by omega)] at G9
            have V9 := HVU.out.setHold (Off.refl 19 U) (xs := []) R9
            have HG9 : Hid (Good w0 _ _) := G9
            have HV9 : Hid (VA _ _) := V9
            clear G9 V9 R9 RU
            go_wp2_with fail
            go_region
            go_wp2_with fail
            have hwf : WF ev (outs (edges (chain (seen proc i ws ++ [n + i])) hs Y j)) := ⟨Hg.out.gnd, fun e _ f hf => (Hg.out.gE _ (mem_outs.1 hf)).2⟩
            have hwu : ∀ f, f ∈ ev → q.wt f = (unp ev [] (outs (edges (chain (seen proc i ws ++ [n + i])) hs Y j)) f : Int) := fun f hf => by rw [Hg.out.gwt f hf, unp_outs ev Hg.out.gnd _ (fun x hx => (Hg.out.gE x hx).1)]
            have hevl : ev.length ≤ 1000 := by have := Hg.out.glen; omega
            refine (feasible_at (HG9.out.drew) HV9.out (by dsimp only; rw [HQU.out.qn]; exact hn) _ (HFU.out.loc 0 (by omega)) ev (outs (edges (chain (seen proc i ws ++ [n + i])) hs Y j)) (List.ne_nil_of_mem ((Hg.out.gmem (n + i)).2 (.inl rfl))) Hg.out.gev Hg.out.gaft HQU.out.qordV HQU.out.qord ?_ hwf hwu ?_ hevl ?_).mono ?_
            · intro e he
              dsimp only
              rw [HQU.out.qn]
              rcases (Hg.out.gmem e).1 he with h | h
              · omega
              · have := hws e (seen_mem h); omega
            · intro f hf
              dsimp only
              rw [Hg.out.gwt f hf]
              have h2 := ins_len (edges (chain (seen proc i ws ++ [n + i])) hs Y j) f
              omega
            · intro e he
              have h2 := outs_len (edges (chain (seen proc i ws ++ [n + i])) hs Y j) e
              omega
            rintro e w6 ⟨rfl, T6, v6, o6, r6, t6, G6, F6, V6⟩
            go_wp2_with fail
            go_ret
            refine ⟨_, rfl, ?_, T6, _, G6, V6, ⟨ha, hcap, rfl⟩, ?_, HQU.out.qn, HQU.out.qrank⟩
            · refine one_plain (hl := hl) (Y := Y) (fun u hu => hws u (seen_mem hu)) Hg.out.gnd Hg.out.gmem ?_ Hg.out.gE (fun r hr => Hb1.out r (by rw [Hje.out, List.take_length]; exact hr)) Hh.out.hnd Hh.out.hmem Hh.out.hsmem hp Hinj.out Hg.out.gwt Hg.out.grel Hg.out.gdl Hcall.out
              unfold edges
              rw [Hje.out, List.take_length]
            · exact (F6.loc 0 (by omega)).trans (HFU.out.loc 0 (by omega))
end Go.Proofs.Ybulkdasy
