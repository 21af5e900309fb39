import Derived.Test.YbulkdaxuSortE
namespace Go.Proofs.Ybulkdaxu
open Go.RowKit
set_option linter.unusedSimpArgs false
set_option linter.unusedVariables false

theorem ss_go [Inhabited FE] {d : Array FE} {b i : Nat} (h : i < b) (hl : ltF d[i]! d[i - 1]! = false) : Sort.scanSorted ltF d b i = Sort.scanSorted ltF d b (i + 1) := by
  conv => lhs; rw [Sort.scanSorted]
  rw [if_pos (by simp [h, hl])]
theorem ss_end [Inhabited FE] {d : Array FE} {b i : Nat} (h : ¬ i < b ∨ ltF d[i]! d[i - 1]! = true) : Sort.scanSorted ltF d b i = i := by
  rw [Sort.scanSorted]
  rcases h with h | h
  · rw [if_neg (by simp [h])]
  · rw [if_neg (by simp [h])]
theorem shd_go [Inhabited FE] {j : Nat} {d : Array FE} (hl : ltF d[j + 1]! d[j]! = true) : Sort.shiftDown ltF (j + 1) d = Sort.shiftDown ltF j (Sort.swp d (j + 1) j) := by
  rw [Sort.shiftDown, hl]; rfl
theorem shd_end [Inhabited FE] {j : Nat} {d : Array FE} (hl : ltF d[j + 1]! d[j]! = false) : Sort.shiftDown ltF (j + 1) d = d := by
  rw [Sort.shiftDown, hl]; rfl
theorem shu_go [Inhabited FE] {b j : Nat} {d : Array FE} (h : j < b) (hl : ltF d[j]! d[j - 1]! = true) : Sort.shiftUp ltF b j d = Sort.shiftUp ltF b (j + 1) (Sort.swp d j (j - 1)) := by
  conv => lhs; rw [Sort.shiftUp]
  rw [if_pos h, hl]; rfl
theorem shu_end [Inhabited FE] {b j : Nat} {d : Array FE} (h : ¬ j < b ∨ ltF d[j]! d[j - 1]! = false) : Sort.shiftUp ltF b j d = d := by
  rw [Sort.shiftUp]
  rcases h with h | h
  · rw [if_neg h]
  · rw [h]; split <;> rfl
/-- What the part-wise insertion sort hands back. -/
def PinsPost [Inhabited FE] (blk off a b : Nat) (w : World) (d : Array FE) (e : Ending) (w' : World) : Prop := e = .returned (.bool (Sort.partialInsertionSort ltF d a b).2) ∧ SR blk off w w' (Sort.partialInsertionSort ltF d a b).1
theorem PinsPost.mk' [Inhabited FE] {blk off a b : Nat} {w w' : World} {d dk : Array FE} {r : Bool} (h : Sort.partialInsertionSort ltF d a b = (dk, r)) (hS : SR blk off w w' dk) : PinsPost blk off a b w d (.returned (.bool r)) w' := by
  unfold PinsPost; rw [h]; exact ⟨rfl, hS⟩

set_option maxRecDepth 100000 in
set_option maxHeartbeats 8000000 in
theorem pins_any [Inhabited FE] (w : World) (blk off cap a b m : Nat) (d : Array FE) (hm : d.size = m) (h6 : m ≤ 600) (H : SR blk off w w d) (hab : a < b) (hb : b ≤ m) :
    Calls Yba.prog 72 #[.slice (some ⟨blk, off, none⟩) m cap, .int .i64 a, .int .i64 b] w (PinsPost blk off a b w d) := by
  have HH := Hid.mk H
  clear H
  go_enter Yba.func72, Yba.ntmps72
  go_wp2_with fail
  go_loopw [7, 8] (fun vi vs wr => ∃ (i s : Nat) (dk : Array FE), vi = .int .i64 i ∧ vs = .int .i64 s ∧ s ≤ 5 ∧ a < i ∧ i ≤ b ∧ dk.size = m ∧ SR blk off w wr dk ∧ Sort.partialIns ltF a b (5 - s) i dk = Sort.partialInsertionSort ltF d a b) (fun _ vs _ => 5 - (intOf vs).toNat)
  case atStart => exact ⟨a + 1, 0, d, by simp, rfl, by omega, by omega, by omega, hm, HH.out, rfl⟩
  case round =>
    obtain ⟨i, s, dk, rfl, rfl, hs5, hai, hib, hsk, hS, hO⟩ := hrel
    have HS := Hid.mk hS
    have HO := Hid.mk hO
    have Hsk := Hid.mk hsk
    clear hS hO hsk
    by_cases hs : s < 5
    · have hs' : (s : Int) < 5 := by omega
      obtain ⟨F, L, hF, hL, LC⟩ := row_open dk
      have HF := Hid.mk hF
      have HL := Hid.mk hL
      clear hF hL
      go_upto_block 2 with fail
      go_cut [7] from 13 to 132 (fun v wx => ∃ k : Nat, v = .int .i64 k ∧ i ≤ k ∧ k ≤ b ∧ Sort.scanSorted ltF dk b i = k ∧ SR blk off w wx dk)
      case first =>
        go_wp2_with fail
        go_loopw [7] (fun v wx => ∃ k : Nat, v = .int .i64 k ∧ i ≤ k ∧ k ≤ b ∧ Sort.scanSorted ltF dk b i = Sort.scanSorted ltF dk b k ∧ SR blk off w wx dk) (fun v _ => b + 1 - (intOf v).toNat)
        case atStart => exact ⟨i, rfl, Nat.le_refl _, hib, rfl, HS.out⟩
        case round =>
          obtain ⟨k, rfl, h1, h2, h3, hS1⟩ := hrel
          have hcw := hS1.fc HF.out Hsk.out
          have HS1 := Hid.mk hS1
          have H3 := Hid.mk h3
          clear hS1 h3
          by_cases hkb : k < b
          · have hkb' : (k : Int) < (b : Int) := by omega
            have hd : decide ((k : Int) < (b : Int)) = true := decide_eq_true hkb'
            have z1 : (0 : Int) ≤ (k : Int) := by omega
            have z2 : (k : Int) < (m : Int) := by omega
            cases hl : L k (k - 1)
            · go_wp2_with fail
              go_quiet (first | (go_at_call 73; refine Calls.quiet_of_same (LC _ _ _)))
              go_wp2_with fail
              go_roundw
              case rel => exact ⟨k + 1, by simp, by omega, by omega, by rw [H3.out, ss_go hkb (by rw [HL.out]; exact hl)], HS1.out.drewN nq⟩
              case measure => simp only [intOf]; omega
            · go_wp2_with fail
              go_quiet (first | (go_at_call 73; refine Calls.quiet_of_same (LC _ _ _)))
              go_wp2_with fail
              go_meet
              exact ⟨k, rfl, h1, h2, by rw [H3.out, ss_end (.inr (by rw [HL.out]; exact hl))], HS1.out.drewN nq⟩
          · have hkb' : ¬ (k : Int) < (b : Int) := by omega
            have hd : decide ((k : Int) < (b : Int)) = false := decide_eq_false hkb'
            go_wp2_with fail
            go_quiet (first | (go_at_call 73; refine Calls.quiet_of_same (LC _ _ _)))
            go_wp2_with fail
            go_meet
            exact ⟨k, rfl, h1, h2, by rw [H3.out, ss_end (.inl hkb)], HS1.out.drewN nq⟩
      case rest =>
        obtain ⟨k, rfl, hik, hkb, hK, hS1⟩ := hcut
        replace HS := Hid.mk hS1
        have STEP : Hid (Sort.partialInsertionSort ltF d a b = if k = b then (dk, true) else if b - a < 50 then (dk, false) else
            Sort.partialIns ltF a b (4 - s) k (if b - k ≥ 2 then Sort.shiftUp ltF b (k + 1) (if k - a ≥ 2 then Sort.shiftDown ltF (k - 1) (Sort.swp dk k (k - 1)) else Sort.swp dk k (k - 1)) else (if k - a ≥ 2 then Sort.shiftDown ltF (k - 1) (Sort.swp dk k (k - 1)) else Sort.swp dk k (k - 1)))) := ⟨by
          rw [← HO.out, show 5 - s = (4 - s) + 1 by omega, ← hK]; rfl⟩
        clear hS1 hK HO
        by_cases hkeq : k = b
        · have hk' : (k : Int) = (b : Int) := by omega
          have STEP2 := Hid.mk (STEP.out.trans (if_pos hkeq))
          subst hkeq
          clear STEP
          go_wp2_with fail
          go_ret
          exact PinsPost.mk' STEP2.out HS.out
        · have hk' : ¬ (k : Int) = (b : Int) := by omega
          have STEP2 := Hid.mk (STEP.out.trans (if_neg hkeq))
          clear STEP
          by_cases h50 : b - a < 50
          · have h50' : (b : Int) - (a : Int) < 50 := by omega
            have STEP3 := Hid.mk (STEP2.out.trans (if_pos h50))
            clear STEP2
            go_wp2_with fail
            go_ret
            exact PinsPost.mk' STEP3.out HS.out
          · have h50' : ¬ (b : Int) - (a : Int) < 50 := by omega
            have STEP3 := Hid.mk (STEP2.out.trans (if_neg h50))
            clear STEP2
            obtain ⟨k1, hk1⟩ : ∃ k1 : Nat, k1 = k - 1 := ⟨_, rfl⟩
            have ek1 : (k : Int) - 1 = (k1 : Int) := by omega
            have Hk1 := Hid.mk hk1
            have hkl : k1 < k ∧ k < b := by omega
            rw [← hk1] at STEP3
            clear hk1
            have hne2 : ¬ k1 = k := by omega
            have hne3 : ¬ k = k1 := by omega
            have hcw := HS.out.fc HF.out Hsk.out
            have hfw := HS.out.ff (m := m)
            have ci := hcw k (by omega)
            have cj := hcw k1 (by omega)
            have fi := hfw k (by omega)
            have fj := hfw k1 (by omega)
            have zz1 : (0 : Int) ≤ (k : Int) := by omega
            have zz2 : (k : Int) < (m : Int) := by omega
            have zz3 : (0 : Int) ≤ (k1 : Int) := by omega
            have zz4 : (k1 : Int) < (m : Int) := by omega
            clear hcw hfw
            go_upto_region 11 with fail
            go_region
            have HS2 := Hid.mk (HS.out.swap1 (i := k) (j := k1) (by rw [Hsk.out]; omega) (by rw [Hsk.out]; omega) (HF.out _) (HF.out _))
            have Hsk2 : Hid ((Sort.swp dk k k1).size = m) := ⟨by rw [Sort.swp_size]; exact Hsk.out⟩
            clear ci cj fi fj HS HF HL LC Hsk
            go_upto_if 61 with fail
            generalize World.drew _ = wq at *
            generalize Sort.swp dk k k1 = d1 at *
            go_cut [9] from 13 to 132 (fun _ wx => ∃ dq, SR blk off w wx dq ∧ dq.size = m ∧ (if k - a ≥ 2 then Sort.shiftDown ltF k1 d1 else d1) = dq)
            case first =>
              by_cases hk2 : k - a ≥ 2
              · have hk2' : (k : Int) - (a : Int) ≥ 2 := by omega
                have IFP : Hid ((if k - a ≥ 2 then Sort.shiftDown ltF k1 d1 else d1) = Sort.shiftDown ltF k1 d1) := ⟨if_pos hk2⟩
                clear STEP3
                go_wp2_with fail
                go_loopw [9] (fun v wx => ∃ (j : Nat) (dj : Array FE), v = .int .i64 j ∧ j ≤ k1 ∧ dj.size = m ∧ SR blk off w wx dj ∧ Sort.shiftDown ltF j dj = Sort.shiftDown ltF k1 d1) (fun v _ => (intOf v).toNat)
                case atStart => exact ⟨k1, d1, rfl, Nat.le_refl _, Hsk2.out, HS2.out, rfl⟩
                case round =>
                  obtain ⟨j, dj, rfl, hj1, hsj, hS3, hO3⟩ := hrel
                  have HO3 := Hid.mk hO3
                  have Hsk := Hid.mk hsj
                  have HS := Hid.mk hS3
                  clear hO3 hsj hS3
                  cases j with
                  | zero =>
                    have z0 : ¬ ((0 : Nat) : Int) ≥ 1 := by omega
                    go_wp2_with fail
                    go_meet
                    exact ⟨dj, HS.out, Hsk.out, by rw [IFP.out, ← HO3.out]; rfl⟩
                  | succ j =>
                    have z0 : ((j + 1 : Nat) : Int) ≥ 1 := by omega
                    obtain ⟨j1, hj⟩ : ∃ j1 : Nat, j1 = j + 1 := ⟨_, rfl⟩
                    have ej : (j1 : Int) - 1 = (j : Int) := by omega
                    rw [← hj] at z0 hj1 ⊢
                    have Hj := Hid.mk hj
                    have hjl : j < j1 ∧ j1 < m := by omega
                    clear hj
                    obtain ⟨F, L, hF, hL, LC⟩ := row_open dj
                    have HF := Hid.mk hF
                    have HL := Hid.mk hL
                    clear hF hL
                    have hcw := HS.out.fc HF.out Hsk.out
                    have z1 : (0 : Int) ≤ (j1 : Int) := by omega
                    have z2 : (j1 : Int) < (m : Int) := by omega
                    have z3 : (0 : Int) ≤ (j : Int) := by omega
                    have z4 : (j : Int) < (m : Int) := by omega
                    cases hl : L j1 j
                    · go_wp2_with fail
                      go_quiet (first | (go_at_call 73; refine Calls.quiet_of_same (LC _ _ _)))
                      go_wp2_with fail
                      go_meet
                      exact ⟨dj, HS.out.drewN nq, Hsk.out, by rw [IFP.out, ← HO3.out, shd_end (by rw [← Hj.out, HL.out]; exact hl)]⟩
                    · go_wp2_with fail
                      go_quiet (first | (go_at_call 73; refine Calls.quiet_of_same (LC _ _ _)))
                      replace HS := Hid.mk (HS.out.drewN nq)
                      clear hcw
                      generalize World.drewN _ nq = wy at *
                      have hne2 : ¬ j = j1 := by omega
                      have hne3 : ¬ j1 = j := by omega
                      have hcw := HS.out.fc HF.out Hsk.out
                      have hfw := HS.out.ff (m := m)
                      have ci := hcw j1 (by omega)
                      have cj := hcw j (by omega)
                      have fi := hfw j1 (by omega)
                      have fj := hfw j (by omega)
                      have zz1 : (0 : Int) ≤ (j1 : Int) := by omega
                      have zz2 : (j1 : Int) < (m : Int) := by omega
                      have zz3 : (0 : Int) ≤ (j : Int) := by omega
                      have zz4 : (j : Int) < (m : Int) := by omega
                      clear hcw hfw
                      go_wp2_with fail
                      go_region
                      all_goals go_wp2_with fail
                      go_roundw
                      case rel => exact ⟨j, Sort.swp dj j1 j, rfl, by omega, by rw [Sort.swp_size]; exact Hsk.out, HS.out.swap1 (by rw [Hsk.out]; omega) (by rw [Hsk.out]; omega) (HF.out _) (HF.out _), by rw [← HO3.out, shd_go (by rw [← Hj.out, HL.out]; exact hl), Hj.out]⟩
                      case measure => simp only [intOf]; omega
              · have hk2' : ¬ (k : Int) - (a : Int) ≥ 2 := by omega
                have IFP : Hid ((if k - a ≥ 2 then Sort.shiftDown ltF k1 d1 else d1) = d1) := ⟨if_neg hk2⟩
                go_wp2_with fail
                go_meet
                exact ⟨d1, HS2.out, Hsk2.out, IFP.out⟩
            case rest =>
              obtain ⟨d2, hS2, hsk2, hd2⟩ := hcut
              rw [hd2] at STEP3
              replace HS2 := Hid.mk hS2
              replace Hsk2 := Hid.mk hsk2
              clear hS2 hsk2 hd2
              have FIN : Hid (∀ dq, (if b - k ≥ 2 then Sort.shiftUp ltF b (k + 1) d2 else d2) = dq → Sort.partialIns ltF a b (5 - (s + 1)) k dq = Sort.partialInsertionSort ltF d a b) := ⟨fun dq e => by rw [STEP3.out, e, show 5 - (s + 1) = 4 - s by omega]⟩
              by_cases hk2 : b - k ≥ 2
              · have hk2' : (b : Int) - (k : Int) ≥ 2 := by omega
                have IFP : Hid ((if b - k ≥ 2 then Sort.shiftUp ltF b (k + 1) d2 else d2) = Sort.shiftUp ltF b (k + 1) d2) := ⟨if_pos hk2⟩
                clear STEP3
                go_wp2_with fail
                go_loopw [10] (fun v wx => ∃ (j : Nat) (dj : Array FE), v = .int .i64 j ∧ k < j ∧ j ≤ b ∧ dj.size = m ∧ SR blk off w wx dj ∧ Sort.shiftUp ltF b j dj = Sort.shiftUp ltF b (k + 1) d2) (fun v _ => b + 1 - (intOf v).toNat)
                case atStart => exact ⟨k + 1, d2, by simp, by omega, by omega, Hsk2.out, HS2.out, rfl⟩
                case round =>
                  obtain ⟨j, dj, rfl, hj1, hjb, hsj, hS3, hO3⟩ := hrel
                  have HO3 := Hid.mk hO3
                  have Hsk := Hid.mk hsj
                  have HS := Hid.mk hS3
                  clear hO3 hsj hS3
                  by_cases hlt : j < b
                  · have hlt' : (j : Int) < (b : Int) := by omega
                    obtain ⟨j1, hj⟩ : ∃ j1 : Nat, j1 = j - 1 := ⟨_, rfl⟩
                    have ej : (j : Int) - 1 = (j1 : Int) := by omega
                    have Hj := Hid.mk hj
                    have hjl : j1 < j ∧ j < m := by omega
                    clear hj
                    obtain ⟨F, L, hF, hL, LC⟩ := row_open dj
                    have HF := Hid.mk hF
                    have HL := Hid.mk hL
                    clear hF hL
                    have hcw := HS.out.fc HF.out Hsk.out
                    have z1 : (0 : Int) ≤ (j1 : Int) := by omega
                    have z2 : (j1 : Int) < (m : Int) := by omega
                    have z3 : (0 : Int) ≤ (j : Int) := by omega
                    have z4 : (j : Int) < (m : Int) := by omega
                    cases hl : L j j1
                    · go_wp2_with fail
                      go_quiet (first | (go_at_call 73; refine Calls.quiet_of_same (LC _ _ _)))
                      go_wp2_with fail
                      go_roundw
                      case rel => exact ⟨k, s + 1, dj, rfl, by simp, by omega, by omega, by omega, Hsk.out, HS.out.drewN nq, FIN.out _ (by rw [IFP.out, ← HO3.out, shu_end (.inr (by rw [← Hj.out, HL.out]; exact hl))])⟩
                      case measure => simp only [intOf]; omega
                    · go_wp2_with fail
                      go_quiet (first | (go_at_call 73; refine Calls.quiet_of_same (LC _ _ _)))
                      replace HS := Hid.mk (HS.out.drewN nq)
                      clear hcw
                      generalize World.drewN _ nq = wy at *
                      have hne2 : ¬ j = j1 := by omega
                      have hne3 : ¬ j1 = j := by omega
                      have hcw := HS.out.fc HF.out Hsk.out
                      have hfw := HS.out.ff (m := m)
                      have ci := hcw j (by omega)
                      have cj := hcw j1 (by omega)
                      have fi := hfw j (by omega)
                      have fj := hfw j1 (by omega)
                      have zz1 : (0 : Int) ≤ (j : Int) := by omega
                      have zz2 : (j : Int) < (m : Int) := by omega
                      have zz3 : (0 : Int) ≤ (j1 : Int) := by omega
                      have zz4 : (j1 : Int) < (m : Int) := by omega
                      clear hcw hfw
                      go_wp2_with fail
                      go_region
                      all_goals go_wp2_with fail
                      go_roundw
                      case rel => exact ⟨j + 1, Sort.swp dj j j1, by simp, by omega, by omega, by rw [Sort.swp_size]; exact Hsk.out, HS.out.swap1 (by rw [Hsk.out]; omega) (by rw [Hsk.out]; omega) (HF.out _) (HF.out _), by rw [← HO3.out, shu_go hlt (by rw [← Hj.out, HL.out]; exact hl), Hj.out]⟩
                      case measure => simp only [intOf]; omega
                  · have hlt' : ¬ (j : Int) < (b : Int) := by omega
                    go_wp2_with fail
                    go_roundw
                    case rel => exact ⟨k, s + 1, dj, rfl, by simp, by omega, by omega, by omega, Hsk.out, HS.out, FIN.out _ (by rw [IFP.out, ← HO3.out, shu_end (.inl hlt)])⟩
                    case measure => simp only [intOf]; omega
              · have hk2' : ¬ (b : Int) - (k : Int) ≥ 2 := by omega
                have IFP : Hid ((if b - k ≥ 2 then Sort.shiftUp ltF b (k + 1) d2 else d2) = d2) := ⟨if_neg hk2⟩
                go_wp2_with fail
                go_roundw
                case rel => exact ⟨k, s + 1, d2, rfl, by simp, by omega, by omega, by omega, Hsk2.out, HS2.out, FIN.out _ IFP.out⟩
                case measure => simp only [intOf]; omega
    · have hs' : ¬ (s : Int) < 5 := by omega
      have e5 : Hid (Sort.partialInsertionSort ltF d a b = (dk, false)) := ⟨by rw [← HO.out, show 5 - s = 0 by omega]; rfl⟩
      go_wp2_with fail
      go_ret
      exact PinsPost.mk' e5.out HS.out
end Go.Proofs.Ybulkdaxu
