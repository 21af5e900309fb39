import Derived.Test.YbulkdaxuSortD
import Derived.Deep.CutBlock
import Derived.Deep.CutRange
namespace Go.Proofs.Ybulkdaxu
open Go.RowKit
set_option linter.unusedSimpArgs false
set_option linter.unusedVariables false

/-- What the partition has settled. -/
def PI [Inhabited FE] (a b i j : Nat) (d : Array FE) : Prop := (∀ t, a < t → t < i → ltF d[t]! d[a]! = true) ∧ (∀ t, j < t → t < b → ltF d[t]! d[a]! = false)
theorem PI.swap [Inhabited FE] {a b i j : Nat} {d : Array FE} (h : PI a b i j d) (ha : a < i) (hij : i < j) (hj : j < b) (hb : b ≤ d.size) (h1 : ltF d[i]! d[a]! = false) (h2 : ltF d[j]! d[a]! = true) : PI a b (i + 1) (j - 1) (Sort.swp d i j) := by
  have e : (Sort.swp d i j)[a]! = d[a]! := Sort.swp_other d i j a (by omega) (by omega)
  refine ⟨fun t x y => ?_, fun t x y => ?_⟩
  · rw [e]
    by_cases et : t = i
    · subst et; rw [Sort.swp_left d t j (by omega) (by omega)]; exact h2
    · rw [Sort.swp_other d i j t et (by omega)]; exact h.1 t x (by omega)
  · rw [e]
    by_cases et : t = j
    · subst et; rw [Sort.swp_right d i t (by omega)]; exact h1
    · rw [Sort.swp_other d i j t (by omega) et]; exact h.2 t (by omega) y
/-- What the partition hands back. -/
def PartPost [Inhabited FE] (blk off a b : Nat) (w : World) (d : Array FE) (e : Ending) (w' : World) : Prop :=
  ∃ (j : Nat) (r : Bool) (d' : Array FE), e = .returned (.tuple #[.int .i64 j, .bool r]) ∧ SR blk off w w' d' ∧ Sort.PermIn a b d d' ∧ a ≤ j ∧ j < b ∧ (∀ t, a ≤ t → t < j → ltF d'[t]! d'[j]! = true) ∧ (∀ t, j < t → t < b → ltF d'[t]! d'[j]! = false)
theorem PI.fin [Inhabited FE] {blk off a b i j : Nat} {w w' : World} {d0 d : Array FE} {r : Bool} (h : PI a b i j d) (hij : j < i) (haj : a ≤ j) (hjb : j < b) (hb : b ≤ d.size) (hp : Sort.PermIn a b d0 d) (hS : SR blk off w w' (Sort.swp d j a)) : PartPost blk off a b w d0 (.returned (.tuple #[.int .i64 j, .bool r])) w' := by
  refine ⟨j, r, _, rfl, hS, Sort.permIn_trans _ _ _ _ _ hp (Sort.swp_permIn d a b j a (by omega) (by omega) (by omega) (by omega) (by omega)), haj, hjb, ?_⟩
  have ej : (Sort.swp d j a)[j]! = d[a]! := by
    by_cases e : j = a
    · subst e; exact Sort.swp_right d j j (by omega)
    · exact Sort.swp_left d j a (by omega) e
  rw [ej]
  refine ⟨fun t x y => ?_, fun t x y => ?_⟩
  · by_cases et : t = a
    · subst et; rw [Sort.swp_right d j t (by omega)]; exact h.1 j (by omega) hij
    · rw [Sort.swp_other d j a t (by omega) et]; exact h.1 t (by omega) (by omega)
  · rw [Sort.swp_other d j a t (by omega) (by omega)]; exact h.2 t x y

set_option maxRecDepth 100000 in
set_option maxHeartbeats 8000000 in
theorem ptn_any [Inhabited FE] (w : World) (blk off cap a b pivot m : Nat) (d : Array FE) (hm : d.size = m) (h6 : m ≤ 600) (H : SR blk off w w d) (hap : a ≤ pivot) (hpb : pivot < b) (hb : b ≤ m) :
    Calls Yba.prog 75 #[.slice (some ⟨blk, off, none⟩) m cap, .int .i64 a, .int .i64 b, .int .i64 pivot] w (PartPost blk off a b w d) := by
  have HH := Hid.mk H
  clear H
  have za1 : (0 : Int) ≤ (a : Int) := by omega
  have za2 : (a : Int) < (m : Int) := by omega
  obtain ⟨b1, hb1⟩ : ∃ b1 : Nat, b1 = b - 1 := ⟨_, rfl⟩
  have eb1 : (b : Int) - 1 = (b1 : Int) := by omega
  have hb1a : a ≤ b1 ∧ b1 < b := by omega
  have Hb1 := Hid.mk hb1
  clear hb1
  go_enter Yba.func75, Yba.ntmps75
  go_upto_region 1 with fail
  go_cut [] from 12 to 25 (fun wx => SR blk off w wx (Sort.swp d a pivot))
  case first =>
    obtain ⟨F, L, hF, hL, LC⟩ := row_open d
    have HF := Hid.mk hF
    have Hsk := Hid.mk hm
    have HS := HH
    clear hF hL LC
    have hcw := HS.out.fc HF.out Hsk.out
    have hfw := HS.out.ff (m := m)
    have ci := hcw a (by omega)
    have cj := hcw pivot (by omega)
    have fi := hfw a (by omega)
    have fj := hfw pivot (by omega)
    have zz1 : (0 : Int) ≤ (a : Int) := by omega
    have zz2 : (a : Int) < (m : Int) := by omega
    have zz3 : (0 : Int) ≤ (pivot : Int) := by omega
    have zz4 : (pivot : Int) < (m : Int) := by omega
    clear hcw hfw

    by_cases hne : a = pivot
    · subst hne
      go_wp2_with fail
      go_region
      all_goals go_wp2_with fail
      go_meet
      exact HS.out.swap1 (by rw [Hsk.out]; omega) (by rw [Hsk.out]; omega) (HF.out _) (HF.out _)
    · have hne2 : ¬ pivot = a := fun x => hne x.symm
      go_wp2_with fail
      go_region
      all_goals go_wp2_with fail
      go_meet
      exact HS.out.swap1 (by rw [Hsk.out]; omega) (by rw [Hsk.out]; omega) (HF.out _) (HF.out _)

  case rest =>
    have HP := Hid.mk (Sort.swp_permIn d a b a pivot (Nat.le_refl _) (by omega) hap hpb (by omega))
    have Hsk : Hid ((Sort.swp d a pivot).size = m) := ⟨by rw [Sort.swp_size]; exact hm⟩
    have HS := Hid.mk hcut
    clear hcut
    generalize Sort.swp d a pivot = dk at *
    obtain ⟨F, L, hF, hL, LC⟩ := row_open dk
    have HF := Hid.mk hF
    have HL := Hid.mk hL
    clear hF hL
    obtain ⟨a1, ha1⟩ : ∃ a1 : Nat, a1 = a + 1 := ⟨_, rfl⟩
    have ea1 : (a : Int) + 1 = (a1 : Int) := by omega
    have Ha1 : a < a1 ∧ a1 ≤ b1 + 1 ∧ a1 ≤ a + 1 := by omega
    clear ha1
    go_upto_block 0 with fail
    go_cut [10] from 30 to 45 (fun v wx => ∃ i1 : Nat, v = .int .i64 i1 ∧ a1 ≤ i1 ∧ i1 ≤ b1 + 1 ∧ (∀ t, a1 ≤ t → t < i1 → L t a = true) ∧ (i1 ≤ b1 → L i1 a = false) ∧ SR blk off w wx dk)
    case first =>
      go_wp2_with fail
      go_loopw [10] (fun v wx => ∃ i1 : Nat, v = .int .i64 i1 ∧ a1 ≤ i1 ∧ i1 ≤ b1 + 1 ∧ (∀ t, a1 ≤ t → t < i1 → L t a = true) ∧ SR blk off w wx dk) (fun v _ => b1 + 1 - (intOf v).toNat)
      case atStart => exact ⟨a1, rfl, Nat.le_refl _, by omega, fun t x y => by omega, HS.out⟩
      case round =>
        obtain ⟨i1, rfl, h1, h2, h3, hS1⟩ := hrel
        have hcw := hS1.fc HF.out Hsk.out
        have HS1 := Hid.mk hS1
        have H3 := Hid.mk h3
        clear hS1 h3
        have z1 : (0 : Int) ≤ (i1 : Int) := by omega
        by_cases hij : i1 ≤ b1
        · have hij' : (i1 : Int) ≤ (b1 : Int) := by omega
          have hd : decide ((i1 : Int) ≤ (b1 : Int)) = true := decide_eq_true hij'
          have z2 : (i1 : Int) < (m : Int) := by omega
          cases hl : L i1 a
          · go_wp2_with fail
            go_quiet (first | (go_at_call 73; refine Calls.quiet_of_same (LC _ _ _)))
            go_wp2_with fail
            go_meet
            exact ⟨i1, rfl, h1, h2, H3.out, fun _ => hl, HS1.out.drewN nq⟩
          · go_wp2_with fail
            go_quiet (first | (go_at_call 73; refine Calls.quiet_of_same (LC _ _ _)))
            go_wp2_with fail
            go_roundw
            case rel =>
              exact ⟨i1 + 1, by simp, by omega, by omega, fun t x y => by
                by_cases e : t = i1
                · subst e; exact hl
                · exact H3.out t x (by omega), HS1.out.drewN nq⟩
            case measure => simp only [intOf]; omega
        · have hij' : ¬ (i1 : Int) ≤ (b1 : Int) := by omega
          have hd : decide ((i1 : Int) ≤ (b1 : Int)) = false := decide_eq_false hij'
          go_wp2_with fail
          go_quiet (first | (go_at_call 73; refine Calls.quiet_of_same (LC _ _ _)))
          go_wp2_with fail
          go_meet
          exact ⟨i1, rfl, h1, h2, H3.out, fun x => absurd x hij, HS1.out.drewN nq⟩
    case rest =>
      obtain ⟨i1, rfl, h1i1, h2i1, h3, h4, hS1⟩ := hcut
      have H3i1 := Hid.mk h3
      have H4i1 := Hid.mk h4
      replace HS := Hid.mk hS1
      clear hS1 h3 h4
      go_upto_block 2 with fail
      go_cut [11] from 46 to 62 (fun v wx => ∃ j1 : Nat, v = .int .i64 j1 ∧ j1 ≤ b1 ∧ i1 ≤ j1 + 1 ∧ (∀ t, j1 < t → t ≤ b1 → L t a = false) ∧ (i1 ≤ j1 → L j1 a = true) ∧ SR blk off w wx dk)
      case first =>
        go_wp2_with fail
        go_loopw [11] (fun v wx => ∃ j1 : Nat, v = .int .i64 j1 ∧ j1 ≤ b1 ∧ i1 ≤ j1 + 1 ∧ (∀ t, j1 < t → t ≤ b1 → L t a = false) ∧ SR blk off w wx dk) (fun v _ => (intOf v).toNat)
        case atStart => exact ⟨b1, rfl, Nat.le_refl _, by omega, fun t x y => by omega, HS.out⟩
        case round =>
          obtain ⟨j1, rfl, h1, h2, h3, hS1⟩ := hrel
          have hcw := hS1.fc HF.out Hsk.out
          have HS1 := Hid.mk hS1
          have H3 := Hid.mk h3
          clear hS1 h3
          have z1 : (0 : Int) ≤ (j1 : Int) := by omega
          by_cases hij : i1 ≤ j1
          · have hij' : (i1 : Int) ≤ (j1 : Int) := by omega
            have hd : decide ((i1 : Int) ≤ (j1 : Int)) = true := decide_eq_true hij'
            have z2 : (j1 : Int) < (m : Int) := by omega
            cases hl : L j1 a
            · go_wp2_with fail
              go_quiet (first | (go_at_call 73; refine Calls.quiet_of_same (LC _ _ _)))
              go_wp2_with fail
              go_roundw
              case rel =>
                exact ⟨j1 - 1, by congr 1; omega, by omega, by omega, fun t x y => by
                  by_cases e : t = j1
                  · subst e; exact hl
                  · exact H3.out t (by omega) y, HS1.out.drewN nq⟩
              case measure => simp only [intOf]; omega
            · go_wp2_with fail
              go_quiet (first | (go_at_call 73; refine Calls.quiet_of_same (LC _ _ _)))
              go_wp2_with fail
              go_meet
              exact ⟨j1, rfl, h1, h2, H3.out, fun _ => hl, HS1.out.drewN nq⟩
          · have hij' : ¬ (i1 : Int) ≤ (j1 : Int) := by omega
            have hd : decide ((i1 : Int) ≤ (j1 : Int)) = false := decide_eq_false hij'
            go_wp2_with fail
            go_quiet (first | (go_at_call 73; refine Calls.quiet_of_same (LC _ _ _)))
            go_wp2_with fail
            go_meet
            exact ⟨j1, rfl, h1, h2, H3.out, fun x => absurd x hij, HS1.out.drewN nq⟩
      case rest =>
        obtain ⟨j1, rfl, h1j1, h2j1, h3, h4, hS1⟩ := hcut
        have H3j1 := Hid.mk h3
        have H4j1 := Hid.mk h4
        replace HS := Hid.mk hS1
        clear hS1 h3 h4
        have HPI : Hid (PI a b i1 j1 dk) := ⟨⟨fun t x y => by rw [HL.out]; exact H3i1.out t (by omega) y, fun t x y => by rw [HL.out]; exact H3j1.out t x (by have := Hb1.out; omega)⟩⟩
        by_cases hij : i1 ≤ j1
        · have hij' : ¬ (i1 : Int) > (j1 : Int) := by omega
          have l1 := H4i1.out (by omega)
          have l2 := H4j1.out hij
          have hlt : i1 < j1 := by
            rcases Nat.lt_or_ge i1 j1 with x | x
            · exact x
            · have e : i1 = j1 := by omega
              rw [e] at l1; rw [l1] at l2; cases l2
          have HPI2 : Hid (PI a b (i1 + 1) (j1 - 1) (Sort.swp dk i1 j1)) := ⟨HPI.out.swap (by omega) hlt (by omega) (by rw [Hsk.out]; omega) (by rw [HL.out]; exact l1) (by rw [HL.out]; exact l2)⟩
          have HP2 := Hid.mk (Sort.permIn_trans _ _ _ _ _ HP.out (Sort.swp_permIn dk a b i1 j1 (by omega) (by omega) (by omega) (by omega) (by rw [Hsk.out]; omega)))
          have hne2 : ¬ j1 = i1 := by omega
          have hne3 : ¬ i1 = j1 := by omega
          have hcw := HS.out.fc HF.out Hsk.out
          have hfw := HS.out.ff (m := m)
          have ci := hcw i1 (by omega)
          have cj := hcw j1 (by omega)
          have fi := hfw i1 (by omega)
          have fj := hfw j1 (by omega)
          have zz1 : (0 : Int) ≤ (i1 : Int) := by omega
          have zz2 : (i1 : Int) < (m : Int) := by omega
          have zz3 : (0 : Int) ≤ (j1 : Int) := by omega
          have zz4 : (j1 : Int) < (m : Int) := by omega
          clear hcw hfw

          clear l1 l2
          go_wp2_with fail
          go_region
          all_goals go_wp2_with fail
          have HS2 := Hid.mk (HS.out.swap1 (i := i1) (j := j1) (by rw [Hsk.out]; omega) (by rw [Hsk.out]; omega) (HF.out _) (HF.out _))
          have Hsk2 : Hid ((Sort.swp dk i1 j1).size = m) := ⟨by rw [Sort.swp_size]; exact Hsk.out⟩
          clear ci cj fi fj HS HF HL LC H3i1 H3j1 H4i1 H4j1 HPI HP
          generalize World.drew _ = wq at *
          generalize Sort.swp dk i1 j1 = dq at *
          go_loopw [10, 11] (fun vi vj wr => ∃ (i j : Nat) (dk : Array FE), vi = .int .i64 i ∧ vj = .int .i64 j ∧ a < i ∧ i ≤ j + 1 ∧ j < b ∧ dk.size = m ∧ SR blk off w wr dk ∧ Sort.PermIn a b d dk ∧ PI a b i j dk) (fun vi vj _ => (intOf vj + 1 - intOf vi).toNat)
          case atStart => exact ⟨i1 + 1, j1 - 1, dq, by simp, by congr 1; omega, by omega, by omega, by omega, Hsk2.out, HS2.out, HP2.out, HPI2.out⟩
          case round =>
            obtain ⟨i, j, dk, rfl, rfl, hai, hij0, hjb, hsk, hS, hP, hPI⟩ := hrel
            have HP := Hid.mk hP
            have Hsk := Hid.mk hsk
            have HS := Hid.mk hS
            have HPI0 := Hid.mk hPI
            clear hP hsk hS hPI HS2 HP2 HPI2 Hsk2
            obtain ⟨F, L, hF, hL, LC⟩ := row_open dk
            have HF := Hid.mk hF
            have HL := Hid.mk hL
            clear hF hL
            go_upto_block 6 with fail
            go_cut [10] from 99 to 152 (fun v wx => ∃ i1 : Nat, v = .int .i64 i1 ∧ i ≤ i1 ∧ i1 ≤ j + 1 ∧ (∀ t, i ≤ t → t < i1 → L t a = true) ∧ (i1 ≤ j → L i1 a = false) ∧ SR blk off w wx dk)
            case first =>
              go_wp2_with fail
              go_loopw [10] (fun v wx => ∃ i1 : Nat, v = .int .i64 i1 ∧ i ≤ i1 ∧ i1 ≤ j + 1 ∧ (∀ t, i ≤ t → t < i1 → L t a = true) ∧ SR blk off w wx dk) (fun v _ => j + 1 - (intOf v).toNat)
              case atStart => exact ⟨i, rfl, Nat.le_refl _, by omega, fun t x y => by omega, HS.out⟩
              case round =>
                obtain ⟨i1, rfl, h1, h2, h3, hS1⟩ := hrel
                have hcw := hS1.fc HF.out Hsk.out
                have HS1 := Hid.mk hS1
                have H3 := Hid.mk h3
                clear hS1 h3
                have z1 : (0 : Int) ≤ (i1 : Int) := by omega
                by_cases hij : i1 ≤ j
                · have hij' : (i1 : Int) ≤ (j : Int) := by omega
                  have hd : decide ((i1 : Int) ≤ (j : Int)) = true := decide_eq_true hij'
                  have z2 : (i1 : Int) < (m : Int) := by omega
                  cases hl : L i1 a
                  · go_wp2_with fail
                    go_quiet (first | (go_at_call 73; refine Calls.quiet_of_same (LC _ _ _)))
                    go_wp2_with fail
                    go_meet
                    exact ⟨i1, rfl, h1, h2, H3.out, fun _ => hl, HS1.out.drewN nq⟩
                  · go_wp2_with fail
                    go_quiet (first | (go_at_call 73; refine Calls.quiet_of_same (LC _ _ _)))
                    go_wp2_with fail
                    go_roundw
                    case rel =>
                      exact ⟨i1 + 1, by simp, by omega, by omega, fun t x y => by
                        by_cases e : t = i1
                        · subst e; exact hl
                        · exact H3.out t x (by omega), HS1.out.drewN nq⟩
                    case measure => simp only [intOf]; omega
                · have hij' : ¬ (i1 : Int) ≤ (j : Int) := by omega
                  have hd : decide ((i1 : Int) ≤ (j : Int)) = false := decide_eq_false hij'
                  go_wp2_with fail
                  go_quiet (first | (go_at_call 73; refine Calls.quiet_of_same (LC _ _ _)))
                  go_wp2_with fail
                  go_meet
                  exact ⟨i1, rfl, h1, h2, H3.out, fun x => absurd x hij, HS1.out.drewN nq⟩
            case rest =>
              obtain ⟨i1, rfl, h1i1, h2i1, h3, h4, hS1⟩ := hcut
              have H3i1 := Hid.mk h3
              have H4i1 := Hid.mk h4
              replace HS := Hid.mk hS1
              clear hS1 h3 h4
              go_upto_block 8 with fail
              go_cut [11] from 99 to 152 (fun v wx => ∃ j1 : Nat, v = .int .i64 j1 ∧ j1 ≤ j ∧ i1 ≤ j1 + 1 ∧ (∀ t, j1 < t → t ≤ j → L t a = false) ∧ (i1 ≤ j1 → L j1 a = true) ∧ SR blk off w wx dk)
              case first =>
                go_wp2_with fail
                go_loopw [11] (fun v wx => ∃ j1 : Nat, v = .int .i64 j1 ∧ j1 ≤ j ∧ i1 ≤ j1 + 1 ∧ (∀ t, j1 < t → t ≤ j → L t a = false) ∧ SR blk off w wx dk) (fun v _ => (intOf v).toNat)
                case atStart => exact ⟨j, rfl, Nat.le_refl _, by omega, fun t x y => by omega, HS.out⟩
                case round =>
                  obtain ⟨j1, rfl, h1, h2, h3, hS1⟩ := hrel
                  have hcw := hS1.fc HF.out Hsk.out
                  have HS1 := Hid.mk hS1
                  have H3 := Hid.mk h3
                  clear hS1 h3
                  have z1 : (0 : Int) ≤ (j1 : Int) := by omega
                  by_cases hij : i1 ≤ j1
                  · have hij' : (i1 : Int) ≤ (j1 : Int) := by omega
                    have hd : decide ((i1 : Int) ≤ (j1 : Int)) = true := decide_eq_true hij'
                    have z2 : (j1 : Int) < (m : Int) := by omega
                    cases hl : L j1 a
                    · go_wp2_with fail
                      go_quiet (first | (go_at_call 73; refine Calls.quiet_of_same (LC _ _ _)))
                      go_wp2_with fail
                      go_roundw
                      case rel =>
                        exact ⟨j1 - 1, by congr 1; omega, by omega, by omega, fun t x y => by
                          by_cases e : t = j1
                          · subst e; exact hl
                          · exact H3.out t (by omega) y, HS1.out.drewN nq⟩
                      case measure => simp only [intOf]; omega
                    · go_wp2_with fail
                      go_quiet (first | (go_at_call 73; refine Calls.quiet_of_same (LC _ _ _)))
                      go_wp2_with fail
                      go_meet
                      exact ⟨j1, rfl, h1, h2, H3.out, fun _ => hl, HS1.out.drewN nq⟩
                  · have hij' : ¬ (i1 : Int) ≤ (j1 : Int) := by omega
                    have hd : decide ((i1 : Int) ≤ (j1 : Int)) = false := decide_eq_false hij'
                    go_wp2_with fail
                    go_quiet (first | (go_at_call 73; refine Calls.quiet_of_same (LC _ _ _)))
                    go_wp2_with fail
                    go_meet
                    exact ⟨j1, rfl, h1, h2, H3.out, fun x => absurd x hij, HS1.out.drewN nq⟩
              case rest =>
                obtain ⟨j1, rfl, h1j1, h2j1, h3, h4, hS1⟩ := hcut
                have H3j1 := Hid.mk h3
                have H4j1 := Hid.mk h4
                replace HS := Hid.mk hS1
                clear hS1 h3 h4
                have HPI : Hid (PI a b i1 j1 dk) := ⟨⟨fun t x y => by
                  by_cases e : t < i
                  · exact HPI0.out.1 t x e
                  · rw [HL.out]; exact H3i1.out t (by omega) y, fun t x y => by
                  by_cases e : j < t
                  · exact HPI0.out.2 t e y
                  · rw [HL.out]; exact H3j1.out t x (by omega)⟩⟩
                by_cases hij : i1 ≤ j1
                · have hij' : ¬ (i1 : Int) > (j1 : Int) := by omega
                  have l1 := H4i1.out (by omega)
                  have l2 := H4j1.out hij
                  have hlt : i1 < j1 := by
                    rcases Nat.lt_or_ge i1 j1 with x | x
                    · exact x
                    · have e : i1 = j1 := by omega
                      rw [e] at l1; rw [l1] at l2; cases l2
                  have HPI2 : Hid (PI a b (i1 + 1) (j1 - 1) (Sort.swp dk i1 j1)) := ⟨HPI.out.swap (by omega) hlt (by omega) (by rw [Hsk.out]; omega) (by rw [HL.out]; exact l1) (by rw [HL.out]; exact l2)⟩
                  have HP2 := Hid.mk (Sort.permIn_trans _ _ _ _ _ HP.out (Sort.swp_permIn dk a b i1 j1 (by omega) (by omega) (by omega) (by omega) (by rw [Hsk.out]; omega)))
                  have hne2 : ¬ j1 = i1 := by omega
                  have hne3 : ¬ i1 = j1 := by omega
                  have hcw := HS.out.fc HF.out Hsk.out
                  have hfw := HS.out.ff (m := m)
                  have ci := hcw i1 (by omega)
                  have cj := hcw j1 (by omega)
                  have fi := hfw i1 (by omega)
                  have fj := hfw j1 (by omega)
                  have zz1 : (0 : Int) ≤ (i1 : Int) := by omega
                  have zz2 : (i1 : Int) < (m : Int) := by omega
                  have zz3 : (0 : Int) ≤ (j1 : Int) := by omega
                  have zz4 : (j1 : Int) < (m : Int) := by omega
                  clear hcw hfw

                  clear l1 l2
                  go_wp2_with fail
                  go_region
                  all_goals go_wp2_with fail
                  go_roundw
                  case rel => exact ⟨i1 + 1, j1 - 1, Sort.swp dk i1 j1, by simp, by congr 1; omega, by omega, by omega, by omega, by rw [Sort.swp_size]; exact Hsk.out, HS.out.swap1 (by rw [Hsk.out]; omega) (by rw [Hsk.out]; omega) (HF.out _) (HF.out _), HP2.out, HPI2.out⟩
                  case measure => simp only [intOf]; omega
                · have hij' : (i1 : Int) > (j1 : Int) := by omega
                  have hcw := HS.out.fc HF.out Hsk.out
                  have hfw := HS.out.ff (m := m)
                  have ci := hcw j1 (by omega)
                  have cj := hcw a (by omega)
                  have fi := hfw j1 (by omega)
                  have fj := hfw a (by omega)
                  have zz1 : (0 : Int) ≤ (j1 : Int) := by omega
                  have zz2 : (j1 : Int) < (m : Int) := by omega
                  have zz3 : (0 : Int) ≤ (a : Int) := by omega
                  have zz4 : (a : Int) < (m : Int) := by omega
                  clear hcw hfw

                  by_cases hne : j1 = a
                  · subst hne
                    go_wp2_with fail
                    go_region
                    all_goals go_wp2_with fail
                    go_ret2
                    exact HPI.out.fin (by omega) (by omega) (by omega) (by rw [Hsk.out]; omega) HP.out (HS.out.swap1 (by rw [Hsk.out]; omega) (by rw [Hsk.out]; omega) (HF.out _) (HF.out _))
                  · have hne2 : ¬ a = j1 := fun x => hne x.symm
                    go_wp2_with fail
                    go_region
                    all_goals go_wp2_with fail
                    go_ret2
                    exact HPI.out.fin (by omega) (by omega) (by omega) (by rw [Hsk.out]; omega) HP.out (HS.out.swap1 (by rw [Hsk.out]; omega) (by rw [Hsk.out]; omega) (HF.out _) (HF.out _))
        · have hij' : (i1 : Int) > (j1 : Int) := by omega
          have hcw := HS.out.fc HF.out Hsk.out
          have hfw := HS.out.ff (m := m)
          have ci := hcw j1 (by omega)
          have cj := hcw a (by omega)
          have fi := hfw j1 (by omega)
          have fj := hfw a (by omega)
          have zz1 : (0 : Int) ≤ (j1 : Int) := by omega
          have zz2 : (j1 : Int) < (m : Int) := by omega
          have zz3 : (0 : Int) ≤ (a : Int) := by omega
          have zz4 : (a : Int) < (m : Int) := by omega
          clear hcw hfw

          by_cases hne : j1 = a
          · subst hne
            go_wp2_with fail
            go_region
            all_goals go_wp2_with fail
            go_ret2
            exact HPI.out.fin (by omega) (by omega) (by omega) (by rw [Hsk.out]; omega) HP.out (HS.out.swap1 (by rw [Hsk.out]; omega) (by rw [Hsk.out]; omega) (HF.out _) (HF.out _))
          · have hne2 : ¬ a = j1 := fun x => hne x.symm
            go_wp2_with fail
            go_region
            all_goals go_wp2_with fail
            go_ret2
            exact HPI.out.fin (by omega) (by omega) (by omega) (by rw [Hsk.out]; omega) HP.out (HS.out.swap1 (by rw [Hsk.out]; omega) (by rw [Hsk.out]; omega) (HF.out _) (HF.out _))

end Go.Proofs.Ybulkdaxu
