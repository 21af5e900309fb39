import Derived.Test.YbulkdaxuSortB
namespace Go.Proofs.Ybulkdaxu
open Go.RowKit
set_option linter.unusedSimpArgs false
set_option linter.unusedVariables false

theorem rev_go [Inhabited FE] {i j : Nat} {d : Array FE} (h : i < j) : Sort.reverseLoop i j d = Sort.reverseLoop (i + 1) (j - 1) (Sort.swp d i j) := by
  conv => lhs; rw [Sort.reverseLoop]
  rw [if_pos h]
theorem rev_end [Inhabited FE] {i j : Nat} {d : Array FE} (h : ¬ i < j) : Sort.reverseLoop i j d = d := by rw [Sort.reverseLoop, if_neg h]

set_option maxRecDepth 100000 in
set_option maxHeartbeats 2000000 in
theorem rev_any [Inhabited FE] (w : World) (blk off cap a b m : Nat) (d : Array FE) (hm : d.size = m) (h6 : m ≤ 600) (H : SR blk off w w d) (hab : a < b) (hb : b ≤ m) :
    Calls Yba.prog 71 #[.slice (some ⟨blk, off, none⟩) m cap, .int .i64 a, .int .i64 b] w fun e w' => e = .returned (.tuple #[]) ∧ SR blk off w w' (Sort.reverseRange d a b) := by
  have HH := Hid.mk H
  clear H
  go_enter Yba.func71, Yba.ntmps71
  go_wp2_with fail
  go_loopw [6, 7] (fun vi vj wr => ∃ (i j : Nat) (dk : Array FE), vi = .int .i64 i ∧ vj = .int .i64 j ∧ i ≤ j + 2 ∧ i ≤ m + 2 ∧ j < b ∧ dk.size = m ∧ SR blk off w wr dk ∧ Sort.reverseLoop i j dk = Sort.reverseRange d a b) (fun vi vj _ => (intOf vj - intOf vi).toNat)
  case atStart => exact ⟨a, b - 1, d, rfl, by congr 1; omega, by omega, by omega, by omega, hm, HH.out, rfl⟩
  case round =>
    obtain ⟨i, j, dk, rfl, rfl, hij, him, hjb, hsk, hS, hO⟩ := hrel
    obtain ⟨F, L, hF, hL, LC⟩ := row_open dk
    have hcw := hS.fc hF hsk
    have hfw := hS.ff (m := m)
    have HF := Hid.mk hF
    have HO := Hid.mk hO
    have HS := Hid.mk hS
    have Hsk := Hid.mk hsk
    clear hO hS hsk hF hL LC
    by_cases hlt : i < j
    · have hlt' : (i : Int) < (j : Int) := by omega
      have ci := hcw i (by omega)
      have cj := hcw j (by omega)
      have fi := hfw i (by omega)
      have fj := hfw j (by omega)
      have i0 : (0 : Int) ≤ (i : Int) := by omega
      have j0 : (0 : Int) ≤ (j : Int) := by omega
      have i1 : (i : Int) < (m : Int) := by omega
      have j1 : (j : Int) < (m : Int) := by omega
      clear hcw hfw
      go_wp2_with fail
      go_region
      all_goals go_wp2_with fail
      go_roundw
      case rel =>
        refine ⟨i + 1, j - 1, Sort.swp dk i j, by simp, by congr 1; omega, by omega, by omega, by omega, by rw [Sort.swp_size]; exact Hsk.out, ?_, ?_⟩
        · exact HS.out.swap1 (by rw [Hsk.out]; omega) (by rw [Hsk.out]; omega) (HF.out _) (HF.out _)
        · rw [← HO.out, rev_go hlt]
      case measure => simp only [intOf]; omega
    · have hlt' : ¬ (i : Int) < (j : Int) := by omega
      go_wp2_with fail
      go_end0
      exact ⟨rfl, by rw [← HO.out, rev_end hlt]; exact HS.out⟩

theorem sd_end [Inhabited FE] {hi first root : Nat} {d : Array FE} (h : hi ≤ 2 * root + 1) : Sort.siftDown ltF hi first root d = d := by rw [Sort.siftDown, dif_pos h]
/-- One round, at the child c that is chosen. -/
theorem sd_step [Inhabited FE] {hi first root c : Nat} {d : Array FE} (h : ¬ hi ≤ 2 * root + 1)
    (hc : (c = 2 * root + 2 ∧ c < hi ∧ ltF d[first + (2 * root + 1)]! d[first + (2 * root + 1) + 1]! = true) ∨ (c = 2 * root + 1 ∧ (2 * root + 2 < hi → ltF d[first + (2 * root + 1)]! d[first + (2 * root + 1) + 1]! = false))) :
    Sort.siftDown ltF hi first root d = if ltF d[first + root]! d[first + c]! then Sort.siftDown ltF hi first c (Sort.swp d (first + root) (first + c)) else d := by
  conv => lhs; rw [Sort.siftDown]
  rw [dif_neg h]
  rcases hc with ⟨rfl, h1, h2⟩ | ⟨rfl, h1⟩
  · rw [if_pos (by simp only [h2, Bool.and_true, decide_eq_true_eq]; omega)]
    cases ltF d[first + root]! d[first + (2 * root + 2)]!
    · rfl
    · simp only [Bool.not_true, Bool.false_eq_true, if_false, if_true]
      rw [dif_pos (by omega)]
  · have hn : ¬ ((decide (2 * root + 1 + 1 < hi) && ltF d[first + (2 * root + 1)]! d[first + (2 * root + 1) + 1]!) = true) := by
      intro x
      simp only [Bool.and_eq_true, decide_eq_true_eq] at x
      rw [h1 (by omega)] at x
      exact Bool.false_ne_true x.2
    rw [if_neg hn]
    cases ltF d[first + root]! d[first + (2 * root + 1)]! <;> rfl

set_option maxRecDepth 100000 in
set_option maxHeartbeats 4000000 in
theorem sift_any [Inhabited FE] (w : World) (blk off cap lo hi first m : Nat) (d : Array FE) (hm : d.size = m) (h6 : m ≤ 600) (H : SR blk off w w d) (hlo : lo ≤ hi) (hb : first + hi ≤ m) :
    Calls Yba.prog 79 #[.slice (some ⟨blk, off, none⟩) m cap, .int .i64 lo, .int .i64 hi, .int .i64 first] w fun e w' => e = .returned (.tuple #[]) ∧ SR blk off w w' (Sort.siftDown ltF hi first lo d) := by
  have HH := Hid.mk H
  clear H
  go_enter Yba.func79, Yba.ntmps79
  go_wp2_with fail
  go_loopw [8] (fun vi wr => ∃ (root : Nat) (dk : Array FE), vi = .int .i64 root ∧ root ≤ hi ∧ dk.size = m ∧ SR blk off w wr dk ∧ Sort.siftDown ltF hi first root dk = Sort.siftDown ltF hi first lo d) (fun vi _ => hi - (intOf vi).toNat)
  case atStart => exact ⟨lo, d, rfl, hlo, hm, HH.out, rfl⟩
  case round =>
    obtain ⟨root, dk, rfl, hrh, hsk, hS, hO⟩ := hrel
    obtain ⟨F, L, hF, hL, LC⟩ := row_open dk
    have hcw := hS.fc hF hsk
    have hfw := hS.ff (m := m)
    have HF := Hid.mk hF
    have HL := Hid.mk hL
    have HO := Hid.mk hO
    have HS := Hid.mk hS
    have Hsk := Hid.mk hsk
    clear hO hS hsk hF hL
    obtain ⟨c, hc⟩ : ∃ c : Nat, c = 2 * root + 1 := ⟨_, rfl⟩
    obtain ⟨c2, hc2⟩ : ∃ c2 : Nat, c2 = 2 * root + 2 := ⟨_, rfl⟩
    obtain ⟨pr, hpr⟩ : ∃ p : Nat, p = first + root := ⟨_, rfl⟩
    obtain ⟨pc, hpc⟩ : ∃ p : Nat, p = first + c := ⟨_, rfl⟩
    obtain ⟨pc2, hpc2⟩ : ∃ p : Nat, p = first + c2 := ⟨_, rfl⟩
    have e1 : 2 * (root : Int) + 1 = (c : Int) := by omega
    have e2 : (c : Int) + 1 = (c2 : Int) := by omega
    have e3 : (first : Int) + (root : Int) = (pr : Int) := by omega
    have e4 : (first : Int) + (c : Int) = (pc : Int) := by omega
    have e6 : (pc : Int) + 1 = (pc2 : Int) := by omega
    by_cases hend : hi ≤ 2 * root + 1
    · have hend' : (c : Int) ≥ (hi : Int) := by omega
      clear hc hc2 hpr hpc hpc2
      go_wp2_with fail
      go_end0
      exact ⟨rfl, by rw [← HO.out, sd_end hend]; exact HS.out⟩
    · have hend' : ¬ (c : Int) ≥ (hi : Int) := by omega
      obtain ⟨B, hB⟩ : ∃ B : Bool, B = (decide (c2 < hi) && L pc pc2) := ⟨_, rfl⟩
      obtain ⟨cc, hcc⟩ : ∃ cc : Nat, cc = if B then c2 else c := ⟨_, rfl⟩
      obtain ⟨pp, hpp⟩ : ∃ p : Nat, p = first + cc := ⟨_, rfl⟩
      have hcb : root < cc ∧ cc < hi := by
        rw [hcc]
        cases hBB : B
        · rw [if_neg (by decide)]; omega
        · rw [hBB] at hB
          have := hB.symm
          simp only [Bool.and_eq_true, decide_eq_true_eq] at this
          rw [if_pos rfl]; omega
      have STEP : Hid (Sort.siftDown ltF hi first root dk = if L pr pp then Sort.siftDown ltF hi first cc (Sort.swp dk pr pp) else dk) := ⟨by
        have hl : ltF dk[first + (2 * root + 1)]! dk[first + (2 * root + 1) + 1]! = L pc pc2 := by
          rw [HL.out, show first + (2 * root + 1) = pc by omega, show pc + 1 = pc2 by omega]
        rw [sd_step (c := cc) hend, ← hpr, ← hpp]
        · rw [HL.out]
        · rw [hl, hcc]
          cases hBB : B
          · rw [hBB] at hB
            refine .inr ⟨by rw [if_neg (by decide)]; exact hc, fun x => ?_⟩
            have := hB.symm
            rw [decide_eq_true (show c2 < hi by omega), Bool.true_and] at this
            exact this
          · rw [hBB] at hB
            have := hB.symm
            simp only [Bool.and_eq_true, decide_eq_true_eq] at this
            refine .inl ⟨by rw [if_pos rfl]; exact hc2, by rw [if_pos rfl]; omega, this.2⟩⟩
      have e5 : (first : Int) + (cc : Int) = (pp : Int) := by omega
      have z1 : (0 : Int) ≤ (pr : Int) := by omega
      have z2 : (0 : Int) ≤ (pc : Int) := by omega
      have z3 : (0 : Int) ≤ (pc2 : Int) := by omega
      have z4 : (pr : Int) < (m : Int) := by omega
      have z5 : (pc : Int) < (m : Int) := by omega
      have z7 : (pp : Int) < (m : Int) := by omega
      have z8 : (0 : Int) ≤ (pp : Int) := by omega
      have z9 : c2 < hi → (pc2 : Int) < (m : Int) := by omega
      obtain ⟨cr1, cr2⟩ := hcb
      have HB := Hid.mk hB
      have Hcc := Hid.mk hcc
      clear hc hc2 hpr hpc hpc2 hB hcc hpp
      go_upto_region 3 with fail
      go_cut [36] from 11 to 75 (fun bv wx => ∃ k, bv = .bool B ∧ wx = wr.drewN k)
      case first =>
        by_cases c1 : c2 < hi
        · have c1' : (c2 : Int) < (hi : Int) := by omega
          have c1d : decide ((c2 : Int) < (hi : Int)) = true := decide_eq_true c1'
          have z6 := z9 c1
          have HB2 : Hid (B = L pc pc2) := ⟨by rw [HB.out, decide_eq_true c1, Bool.true_and]⟩
          go_wp2_with fail
          go_quiet (first | (go_at_call 73; refine Calls.quiet_of_same (LC _ _ _)))
          go_wp2_with fail
          go_meet
          exact ⟨_, by rw [HB2.out], rfl⟩
        · have c1' : ¬ (c2 : Int) < (hi : Int) := by omega
          have c1d : decide ((c2 : Int) < (hi : Int)) = false := decide_eq_false c1'
          have HB2 : Hid (B = false) := ⟨by rw [HB.out, decide_eq_false c1, Bool.false_and]⟩
          go_wp2_with fail
          go_quiet (first | (go_at_call 73; refine Calls.quiet_of_same (LC _ _ _)))
          go_wp2_with fail
          go_meet
          exact ⟨_, by rw [HB2.out], rfl⟩
      case rest =>
        obtain ⟨k, rfl, rfl⟩ := hcut
        replace HS := Hid.mk (HS.out.drewN k)
        clear hcw hfw
        have hcw := HS.out.fc HF.out Hsk.out
        have hfw := HS.out.ff (m := m)
        generalize World.drewN _ k = wr at *
        go_upto_if 36 with fail
        go_cut [9] from 11 to 75 (fun cv wx => cv = .int .i64 cc ∧ wx = wr)
        case first =>
          have Hc2 := Hid.mk Hcc.out
          cases hBB : B
          · have e : cc = c := by rw [Hcc.out, hBB]; rfl
            have E := Hid.mk e
            clear e
            go_wp2_with fail
            go_meet
            exact ⟨by rw [E.out], rfl⟩
          · have e : cc = c2 := by rw [Hcc.out, hBB]; rfl
            have E := Hid.mk e
            clear e
            go_wp2_with fail
            go_meet
            exact ⟨by rw [E.out], rfl⟩
        case rest =>
          obtain ⟨rfl, rfl⟩ := hcut
          go_wp2_with fail
          cases l2' : L pr pp
          · go_quiet (first | (go_at_call 73; refine Calls.quiet_of_same (LC _ _ _)))
            go_wp2_with fail
            refine bodyPost_ret (results_none rfl _ _ _) rfl ?_
            exact ⟨rfl, by rw [← HO.out, STEP.out, l2', if_neg (by decide)]; exact HS.out.drewN nq⟩
          · go_quiet (first | (go_at_call 73; refine Calls.quiet_of_same (LC _ _ _)))
            replace HS := Hid.mk (HS.out.drewN nq)
            clear hcw hfw
            have hcw := HS.out.fc HF.out Hsk.out
            have hfw := HS.out.ff (m := m)
            generalize World.drewN _ nq = wr at *
            have ci := hcw pr (by omega)
            have cj := hcw pp (by omega)
            have fi := hfw pr (by omega)
            have fj := hfw pp (by omega)
            clear hcw hfw
            go_wp2_with fail
            go_region
            all_goals go_wp2_with fail
            go_roundw
            case rel =>
              refine ⟨cc, Sort.swp dk pr pp, rfl, by omega, by rw [Sort.swp_size]; exact Hsk.out, ?_, ?_⟩
              · exact HS.out.swap1 (by rw [Hsk.out]; omega) (by rw [Hsk.out]; omega) (HF.out _) (HF.out _)
              · rw [← HO.out, STEP.out, if_pos l2']
            case measure => simp only [intOf]; omega

end Go.Proofs.Ybulkdaxu
