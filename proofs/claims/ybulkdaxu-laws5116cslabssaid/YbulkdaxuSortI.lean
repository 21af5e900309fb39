import Derived.Test.YbulkdaxuSortH
import Derived.Lib.ItoaNum
namespace Go.Proofs.Ybulkdaxu
open Go.RowKit
set_option linter.unusedSimpArgs false
set_option linter.unusedVariables false

theorem lt_t {x y : FE} : ltF x y = true ↔ x.1 < y.1 := by simp [ltF]
theorem lt_f {x y : FE} : ltF x y = false ↔ y.1 ≤ x.1 := by simp [ltF]
/-- No two are alike. -/
def Dis [Inhabited FE] (d : Array FE) : Prop := ∀ i j, i < d.size → j < d.size → i ≠ j → (d[i]!).1 ≠ (d[j]!).1
theorem dis_perm [Inhabited FE] {a b : Nat} {d d' : Array FE} (p : Sort.PermIn a b d d') (hb : b ≤ d.size) (h : Dis d) : Dis d' := by
  have p2 := Sort.permIn_mono d d' a b 0 d.size (Nat.zero_le _) hb (Nat.le_refl _) p
  have hs := p.1
  obtain ⟨_, _, p3⟩ := p2
  have e1 : d.extract 0 d.size = d := Array.extract_size
  have e2 : d'.extract 0 d.size = d' := by rw [← hs]; exact Array.extract_size
  rw [e1, e2] at p3
  have hp : d.toList.Pairwise (fun x y => x.1 ≠ y.1) := by
    rw [List.pairwise_iff_getElem]
    intro i j hi hj hij
    have := h i j (by simpa using hi) (by simpa using hj) (by omega)
    rw [getElem!_pos d i (by simpa using hi), getElem!_pos d j (by simpa using hj)] at this
    simpa using this
  have hp' : d'.toList.Pairwise (fun x y => x.1 ≠ y.1) := (p3.pairwise_iff (fun {x y} h e => h e.symm)).2 hp
  rw [List.pairwise_iff_getElem] at hp'
  intro i j hi hj hij
  rw [getElem!_pos d' i hi, getElem!_pos d' j hj]
  rcases Nat.lt_or_gt_of_ne hij with x | x
  · have := hp' i j (by simpa using hi) (by simpa using hj) x
    simpa using this
  · have := hp' j i (by simpa using hj) (by simpa using hi) x
    intro e
    exact this (by simpa using e.symm)

/-- What lies outside [a, b) is settled. -/
def SO [Inhabited FE] (a0 b0 a b : Nat) (d : Array FE) : Prop := ∀ i j, a0 ≤ i → i < j → j < b0 → (i < a ∨ b ≤ j) → (d[i]!).1 ≤ (d[j]!).1
/-- Nothing in [a, b) is less than what lies ahead of it. -/
def BL [Inhabited FE] (a b : Nat) (d : Array FE) : Prop := 0 < a → ∀ i, a ≤ i → i < b → (d[a - 1]!).1 ≤ (d[i]!).1
/-- Sorted on [a, b). -/
def SS [Inhabited FE] (a b : Nat) (d : Array FE) : Prop := ∀ i j, a ≤ i → i < j → j < b → (d[i]!).1 ≤ (d[j]!).1
theorem ss_of [Inhabited FE] {a b : Nat} {d : Array FE} (h : Sort.SortedIn ltF a b d) : SS a b d := fun i j h1 h2 h3 => lt_f.1 (h i j h1 h2 h3)
theorem bl_below [Inhabited FE] {a b : Nat} {d : Array FE} (h : BL a b d) : Sort.Below ltF a b d := by
  rcases Nat.eq_zero_or_pos a with e | e
  · exact .inl e
  · exact .inr fun i h1 h2 => lt_f.2 (h e i h1 h2)
theorem bl_perm [Inhabited FE] {a b : Nat} {d d' : Array FE} (h : BL a b d) (p : Sort.PermIn a b d d') (hb : b ≤ d.size) : BL a b d' := by
  intro ha i h1 h2
  rw [p.2.1 (a - 1) (by omega)]
  exact Sort.permIn_all d d' a b (fun x => (d[a - 1]!).1 ≤ x.1) hb p (h ha) i h1 h2
theorem so_perm [Inhabited FE] {a0 b0 a b : Nat} {d d' : Array FE} (h : SO a0 b0 a b d) (p : Sort.PermIn a b d d') (ha : a0 ≤ a) (hb0 : b ≤ b0) (hb : b ≤ d.size) : SO a0 b0 a b d' := by
  intro i j h1 h2 h3 h4
  by_cases hi : a ≤ i ∧ i < b
  · have hj : b ≤ j := by omega
    rw [p.2.1 j (by omega)]
    exact Sort.permIn_all d d' a b (fun x => x.1 ≤ (d[j]!).1) hb p (fun t t1 t2 => h t j (by omega) (by omega) h3 (.inr hj)) i hi.1 hi.2
  · rw [p.2.1 i (by omega)]
    by_cases hj : a ≤ j ∧ j < b
    · exact Sort.permIn_all d d' a b (fun x => (d[i]!).1 ≤ x.1) hb p (fun t t1 t2 => h i t h1 (by omega) (by omega) (by omega)) j hj.1 hj.2
    · rw [p.2.1 j (by omega)]; exact h i j h1 h2 h3 h4
theorem so_fin [Inhabited FE] {a0 b0 a b : Nat} {d : Array FE} (h : SO a0 b0 a b d) (s : SS a b d) : SS a0 b0 d := by
  intro i j h1 h2 h3
  by_cases hi : i < a ∨ b ≤ j
  · exact h i j h1 h2 h3 hi
  · exact s i j (by omega) h2 (by omega)
/-- Behind the recursion on the left part. -/
theorem so_left [Inhabited FE] {a0 b0 a b mid : Nat} {d d' : Array FE} (h : SO a0 b0 a b d) (hl : ∀ t, a ≤ t → t < mid → ltF d[t]! d[mid]! = true) (hr : ∀ t, mid < t → t < b → ltF d[t]! d[mid]! = false) (p : Sort.PermIn a mid d d') (s : SS a mid d')
    (ha : a0 ≤ a) (hm1 : a ≤ mid) (hm2 : mid < b) (hb0 : b ≤ b0) (hb : b ≤ d.size) : SO a0 b0 (mid + 1) b d' ∧ BL (mid + 1) b d' := by
  have em : d'[mid]! = d[mid]! := p.2.1 mid (by omega)
  have el : ∀ t, a ≤ t → t < mid → (d'[t]!).1 < (d[mid]!).1 := Sort.permIn_all d d' a mid (fun x => x.1 < (d[mid]!).1) (by omega) p (fun t t1 t2 => lt_t.1 (hl t t1 t2))
  have er : ∀ t, mid < t → t < b → (d[mid]!).1 ≤ (d'[t]!).1 := fun t t1 t2 => by rw [p.2.1 t (by omega)]; exact lt_f.1 (hr t t1 t2)
  have h' : SO a0 b0 a b d' := so_perm h (Sort.permIn_mono d d' a mid a b (Nat.le_refl _) (by omega) hb p) ha hb0 hb
  refine ⟨fun i j h1 h2 h3 h4 => ?_, fun _ i h1 h2 => ?_⟩
  · by_cases hi : i < a ∨ b ≤ j
    · exact h' i j h1 h2 h3 hi
    · by_cases e : i = mid
      · subst e; rw [em]; exact er j h2 (by omega)
      · have x1 := el i (by omega) (by omega)
        by_cases e2 : j < mid
        · exact s i j (by omega) h2 e2
        · by_cases e3 : j = mid
          · subst e3; rw [em]; omega
          · have x2 := er j (by omega) (by omega); omega
  · rw [Nat.add_sub_cancel, em]; exact er i (by omega) h2
/-- Behind the recursion on the right part. -/
theorem so_right [Inhabited FE] {a0 b0 a b mid : Nat} {d d' : Array FE} (h : SO a0 b0 a b d) (hB : BL a b d) (hl : ∀ t, a ≤ t → t < mid → ltF d[t]! d[mid]! = true) (hr : ∀ t, mid < t → t < b → ltF d[t]! d[mid]! = false) (p : Sort.PermIn (mid + 1) b d d') (s : SS (mid + 1) b d')
    (ha : a0 ≤ a) (hm1 : a ≤ mid) (hm2 : mid < b) (hb0 : b ≤ b0) (hb : b ≤ d.size) : SO a0 b0 a mid d' ∧ BL a mid d' := by
  have em : d'[mid]! = d[mid]! := p.2.1 mid (by omega)
  have el : ∀ t, a ≤ t → t < mid → (d'[t]!).1 < (d[mid]!).1 := fun t t1 t2 => by rw [p.2.1 t (by omega)]; exact lt_t.1 (hl t t1 t2)
  have er : ∀ t, mid + 1 ≤ t → t < b → (d[mid]!).1 ≤ (d'[t]!).1 := Sort.permIn_all d d' (mid + 1) b (fun x => (d[mid]!).1 ≤ x.1) hb p (fun t t1 t2 => lt_f.1 (hr t (by omega) t2))
  have h' : SO a0 b0 a b d' := so_perm h (Sort.permIn_mono d d' (mid + 1) b a b (by omega) (Nat.le_refl _) hb p) ha hb0 hb
  refine ⟨fun i j h1 h2 h3 h4 => ?_, fun h0 i h1 h2 => ?_⟩
  · by_cases hi : i < a ∨ b ≤ j
    · exact h' i j h1 h2 h3 hi
    · by_cases e : j = mid
      · subst e; rw [em]; have := el i (by omega) (by omega); omega
      · have x1 := er j (by omega) (by omega)
        by_cases e2 : mid < i
        · exact s i j (by omega) h2 (by omega)
        · by_cases e3 : i = mid
          · subst e3; rw [em]; omega
          · have x2 := el i (by omega) (by omega); omega
  · rw [p.2.1 (a - 1) (by omega), p.2.1 i (by omega)]; exact hB h0 i h1 (by omega)
theorem bl_left [Inhabited FE] {a b mid : Nat} {d : Array FE} (h : BL a b d) (hm : mid ≤ b) : BL a mid d := fun h0 i h1 h2 => h h0 i h1 (by omega)
theorem bl_right [Inhabited FE] {b mid : Nat} {d : Array FE} (hr : ∀ t, mid < t → t < b → ltF d[t]! d[mid]! = false) : BL (mid + 1) b d := fun _ i h1 h2 => by
  rw [Nat.add_sub_cancel]; exact lt_f.1 (hr i (by omega) h2)

/-- What the sort hands back. -/
def PdqPost [Inhabited FE] (blk off a b : Nat) (w : World) (d : Array FE) (e : Ending) (w' : World) : Prop := e = .returned (.tuple #[]) ∧ ∃ d', SR blk off w w' d' ∧ Sort.PermIn a b d d' ∧ SS a b d'
/-- The loop's state. -/
def PL [Inhabited FE] (blk off a b m : Nat) (w : World) (d : Array FE) (va vb vl v8 v9 : Value) (wr : World) : Prop := ∃ (a' b' l' : Nat) (x y : Bool) (dk : Array FE),
  va = .int .i64 a' ∧ vb = .int .i64 b' ∧ vl = .int .i64 l' ∧ v8 = .bool x ∧ v9 = .bool y ∧ a ≤ a' ∧ a' ≤ b' ∧ b' ≤ b ∧ l' ≤ 64 ∧ dk.size = m ∧ SR blk off w wr dk ∧ Sort.PermIn a b d dk ∧ SO a b a' b' dk ∧ BL a' b' dk
theorem pdq_fin [Inhabited FE] {blk off a b a' b' : Nat} {w w' : World} {d dk d2 : Array FE} (hS : SR blk off w w' d2) (hP : Sort.PermIn a b d dk) (p : Sort.PermIn a' b' dk d2) (s : SS a' b' d2) (hO : SO a b a' b' dk) (ha : a ≤ a') (hb' : b' ≤ b) (hb : b ≤ d.size) : PdqPost blk off a b w d (.returned (.tuple #[])) w' := by
  have hs := hP.1
  exact ⟨rfl, d2, hS, Sort.permIn_trans _ _ _ _ _ hP (Sort.permIn_mono dk d2 a' b' a b ha hb' (by omega) p), so_fin (so_perm hO p ha hb' (by omega)) s⟩

set_option maxRecDepth 100000 in
set_option maxHeartbeats 8000000 in
theorem pdq_any [Inhabited FE] (N : Nat) : ∀ (w : World) (blk off cap a b lim m : Nat) (d : Array FE), b - a < N → d.size = m → m ≤ 600 → SR blk off w w d → a ≤ b → b ≤ m → lim ≤ 64 → BL a b d → Dis d →
    Calls Yba.prog 59 #[.slice (some ⟨blk, off, none⟩) m cap, .int .i64 a, .int .i64 b, .int .i64 lim] w (PdqPost blk off a b w d) := by
  induction N with
  | zero => intro w blk off cap a b lim m d h; omega
  | succ N ih =>
    intro w blk off cap a b lim m d hN hm h6 H hab hb hlim hBL hDis
    have HH := Hid.mk H
    have HBL := Hid.mk hBL
    have HD := Hid.mk hDis
    have IH := Hid.mk ih
    clear H hBL hDis ih
    go_enter Yba.func59, Yba.ntmps59
    go_wp2_with fail
    go_loopw [1, 2, 3, 8, 9] (PL blk off a b m w d) (fun va vb _ _ _ _ => (intOf vb - intOf va).toNat)
    case atStart => exact ⟨a, b, lim, true, true, d, rfl, rfl, rfl, rfl, rfl, Nat.le_refl _, hab, Nat.le_refl _, hlim, hm, HH.out, Sort.permIn_refl _ _ _, fun i j h1 h2 h3 h4 => by omega, HBL.out⟩
    case round =>
      obtain ⟨a', b', l', x, y, dk, rfl, rfl, rfl, rfl, rfl, haa, hab', hbb, hl', hsk, hS, hP, hO, hB⟩ := hrel
      have HS := Hid.mk hS
      have HP := Hid.mk hP
      have HO := Hid.mk hO
      have HB := Hid.mk hB
      have Hsk := Hid.mk hsk
      clear hS hP hO hB hsk
      by_cases h12 : b' - a' ≤ 12
      · have h12' : (b' : Int) - (a' : Int) ≤ 12 := by omega
        go_wp2_with fail
        refine (ins_any wr blk off cap a' b' m dk Hsk.out h6 HS.out.self hab' (by omega)).mono ?_
        rintro e w2 ⟨rfl, S2⟩
        have PS := Sort.insertionSort_holds swoF dk a' b' hab' (by rw [Hsk.out]; omega)
        have FIN := Hid.mk (pdq_fin (HS.out.trans S2 PS.1.1) HP.out PS.1 (ss_of PS.2) HO.out haa hbb (by omega))
        clear S2 PS
        dsimp only
        go_wp2_with fail
        refine bodyPost_ret (results_none rfl _ _ _) rfl ?_
        exact FIN.out
      · have h12' : ¬ (b' : Int) - (a' : Int) ≤ 12 := by omega
        by_cases hl0 : l' = 0
        · have hl0' : (l' : Int) = 0 := by omega
          go_wp2_with fail
          refine (heap_any wr blk off cap a' b' m dk Hsk.out h6 HS.out.self (by omega) (by omega)).mono ?_
          rintro e w2 ⟨rfl, S2⟩
          have PS := Sort.heapSort_holds swoF dk a' b' hab' (by rw [Hsk.out]; omega)
          have FIN := Hid.mk (pdq_fin (HS.out.trans S2 PS.1.1) HP.out PS.1 (ss_of PS.2) HO.out haa hbb (by omega))
          clear S2 PS
          dsimp only
          go_wp2_with fail
          refine bodyPost_ret (results_none rfl _ _ _) rfl ?_
          exact FIN.out
        · have hl0' : ¬ (l' : Int) = 0 := by omega
          go_upto_if 35 with fail
          go_cut [3] from 19 to 133 (fun vl wx => ∃ (l2 : Nat) (d2 : Array FE), vl = .int .i64 l2 ∧ l2 ≤ 64 ∧ SR blk off w wx d2 ∧ d2.size = m ∧ Sort.PermIn a' b' dk d2)
          case first =>
            cases x
            · go_wp2_with fail
              refine (break_any wr blk off cap a' b' m dk Hsk.out h6 HS.out.self (by omega) (by omega)).mono ?_
              rintro e w2 ⟨d2, rfl, S2, P2⟩
              have HS2 := Hid.mk (HS.out.trans S2 P2.1)
              have HP2 := Hid.mk P2
              clear S2 P2
              dsimp only
              go_wp2_with fail
              go_meet
              exact ⟨l' - 1, d2, by congr 1; omega, by omega, HS2.out, HP2.out.1.trans Hsk.out, HP2.out⟩
            · go_wp2_with fail
              go_meet
              exact ⟨l', dk, rfl, hl', HS.out, Hsk.out, Sort.permIn_refl _ _ _⟩
          case rest =>
            obtain ⟨l2, d2, rfl, hl2, hS2, hs2, hP2⟩ := hcut
            have HS2 := Hid.mk hS2
            have Hs2 := Hid.mk hs2
            have HP2 := Hid.mk hP2
            clear hS2 hs2 hP2
            go_wp2_with fail
            refine (pivot_any wc blk off cap a' b' m d2 Hs2.out h6 HS2.out.self (by omega) (by omega)).mono ?_
            rintro e w3 ⟨p, h, rfl, hp1, hp2, hh, S3⟩
            have HS3 := Hid.mk (HS2.out.trans S3 rfl)
            clear S3
            dsimp only
            go_upto_if 50 with fail
            go_cut [11, 12] from 19 to 133 (fun vp vh wx => ∃ (p3 h3 : Nat) (d3 : Array FE), vp = .int .i64 p3 ∧ vh = .int .i64 h3 ∧ a' ≤ p3 ∧ p3 < b' ∧ h3 ≤ 2 ∧ SR blk off w wx d3 ∧ d3.size = m ∧ Sort.PermIn a' b' dk d3)
            case first =>
              by_cases hh2 : h = 2
              · subst hh2
                go_wp2_with fail
                refine (rev_any w3 blk off cap a' b' m d2 Hs2.out h6 HS3.out.self (by omega) (by omega)).mono ?_
                rintro e w4 ⟨rfl, S4⟩
                have P4 := Sort.reverseRange_holds d2 a' b' hab' (by rw [Hs2.out]; omega)
                have HS4 := Hid.mk (HS3.out.trans S4 P4.1)
                have HP4 := Hid.mk (Sort.permIn_trans _ _ _ _ _ HP2.out P4)
                have Hs4 := Hid.mk (P4.1.trans Hs2.out)
                clear S4 P4
                dsimp only
                go_wp2_with fail
                go_meet
                exact ⟨b' - 1 - (p - a'), 1, _, by congr 1; omega, rfl, by omega, by omega, by omega, HS4.out, Hs4.out, HP4.out⟩
              · have hh2' : ¬ (h : Int) = 2 := by omega
                go_wp2_with fail
                go_meet
                exact ⟨p, h, d2, rfl, rfl, hp1, hp2, hh, HS3.out, Hs2.out, HP2.out⟩
            case rest =>
              obtain ⟨p3, h3, d3, rfl, rfl, hq1, hq2, hh3, hS4, hs4, hP4⟩ := hcut
              have HS4 := Hid.mk hS4
              have Hs4 := Hid.mk hs4
              have HP4 := Hid.mk hP4
              clear hS4 hs4 hP4
              obtain ⟨B, hB3⟩ : ∃ B : Bool, B = (x && y && decide (h3 = 1)) := ⟨_, rfl⟩
              have HB3 := Hid.mk hB3
              clear hB3
              go_upto_region 15 with fail
              go_cut [68] from 19 to 133 (fun v wx => v = .bool B ∧ SR blk off w wx d3)
              case first =>
                by_cases hh1 : h3 = 1
                · subst hh1
                  cases x <;> cases y
                  all_goals go_wp2_with fail
                  all_goals go_meet
                  all_goals exact ⟨by rw [HB3.out]; rfl, HS4.out⟩
                · have hh1' : ¬ (h3 : Int) = 1 := by omega
                  have HB4 : Hid (B = false) := ⟨by rw [HB3.out, decide_eq_false hh1, Bool.and_false]⟩
                  cases x <;> cases y
                  all_goals go_wp2_with fail
                  all_goals go_meet
                  all_goals exact ⟨by first | (rw [HB4.out]; done) | (rw [HB4.out]; simp [hh1']), HS4.out⟩
              case rest =>
                obtain ⟨rfl, hS5⟩ := hcut
                have HS5 := Hid.mk hS5
                clear hS5
                go_upto_if 68 with fail
                go_cut [] from 19 to 133 (fun wx => ∃ d4 : Array FE, SR blk off w wx d4 ∧ d4.size = m ∧ Sort.PermIn a' b' dk d4)
                case first =>
                  cases B
                  · go_wp2_with fail
                    go_meet
                    exact ⟨d3, HS5.out, Hs4.out, HP4.out⟩
                  · go_wp2_with fail
                    refine (pins_any _ blk off cap a' b' m d3 Hs4.out h6 HS5.out.self (by omega) (by omega)).mono ?_
                    rintro e w5 ⟨rfl, S5⟩
                    have PS := Sort.partialInsertionSort_holds swoF d3 a' b' (by omega) (by rw [Hs4.out]; omega) (bl_below (bl_perm HB.out HP4.out (by rw [Hsk.out]; omega)))
                    have HP5 := Hid.mk (Sort.permIn_trans _ _ _ _ _ HP4.out PS.1)
                    have HS6 := Hid.mk (HS5.out.trans S5 PS.1.1)
                    have Hs6 := Hid.mk (PS.1.1.trans Hs4.out)
                    have HSo := Hid.mk PS.2
                    clear S5 PS
                    generalize Sort.partialInsertionSort ltF d3 a' b' = pr at *
                    obtain ⟨d4, r⟩ := pr
                    dsimp only at *
                    cases r
                    · go_wp2_with fail
                      go_meet
                      exact ⟨d4, HS6.out, Hs6.out, HP5.out⟩
                    · have FIN := Hid.mk (pdq_fin HS6.out HP.out HP5.out (ss_of (HSo.out rfl)) HO.out haa hbb (by omega))
                      go_wp2_with fail
                      refine bodyPost_ret (results_none rfl _ _ _) rfl ?_
                      exact FIN.out
                case rest =>
                  obtain ⟨d4, hS6, hs6, hP6⟩ := hcut
                  have HS6 := Hid.mk hS6
                  have Hs6 := Hid.mk hs6
                  have HP6 := Hid.mk hP6
                  have HB6 := Hid.mk (bl_perm HB.out hP6 (by rw [Hsk.out]; omega))
                  have HO6 := Hid.mk (so_perm HO.out hP6 haa hbb (by rw [Hsk.out]; omega))
                  have HPd := Hid.mk (Sort.permIn_trans _ _ _ _ _ HP.out (Sort.permIn_mono dk d4 a' b' a b haa hbb (by rw [Hsk.out]; omega) hP6))
                  clear hS6 hs6 hP6
                  have HD6 := Hid.mk (dis_perm HPd.out (by omega) HD.out)
                  go_upto_region 17 with fail
                  go_cut [87] from 19 to 133 (fun v wx => v = .bool false ∧ SR blk off w wx d4)
                  case first =>
                    obtain ⟨F, L, hF, hL, LC⟩ := row_open d4
                    have hcw := HS6.out.fc hF Hs6.out
                    by_cases ha0 : 0 < a'
                    · have ha0' : (a' : Int) > 0 := by omega
                      have had : decide ((a' : Int) > 0) = true := decide_eq_true ha0'
                      have had2 : decide ((0 : Int) < (a' : Int)) = true := decide_eq_true ha0'
                      have hl : L (a' - 1) p3 = true := by
                        rw [← hL, lt_t]
                        have x1 := HB6.out ha0 p3 hq1 hq2
                        have x2 := HD6.out (a' - 1) p3 (by rw [Hs6.out]; omega) (by rw [Hs6.out]; omega) (by omega)
                        omega
                      have z1 : (0 : Int) ≤ (p3 : Int) := by omega
                      have z2 : (p3 : Int) < (m : Int) := by omega
                      clear hF hL
                      go_wp2_with fail
                      go_quiet (first | (go_at_call 73; refine Calls.quiet_of_same (LC _ _ _)))
                      go_wp2_with fail
                      go_meet
                      exact ⟨rfl, HS6.out.drewN nq⟩
                    · have ha0' : ¬ (a' : Int) > 0 := by omega
                      have had : decide ((a' : Int) > 0) = false := decide_eq_false ha0'
                      have had2 : decide ((0 : Int) < (a' : Int)) = false := decide_eq_false ha0'
                      clear hF hL
                      go_wp2_with fail
                      go_quiet (first | (go_at_call 73; refine Calls.quiet_of_same (LC _ _ _)))
                      go_wp2_with fail
                      go_meet
                      exact ⟨rfl, HS6.out.drewN nq⟩
                  case rest =>
                    obtain ⟨rfl, hS7⟩ := hcut
                    have HS7 := Hid.mk hS7
                    clear hS7
                    go_wp2_with fail
                    refine (ptn_any _ blk off cap a' b' p3 m d4 Hs6.out h6 HS7.out.self hq1 hq2 (by omega)).mono ?_
                    rintro e w8 ⟨mid, r, d5, rfl, S8, P8, hm1, hm2, pl, pr⟩
                    have HS8 := Hid.mk (HS7.out.trans S8 P8.1)
                    have Hs8 := Hid.mk (P8.1.trans Hs6.out)
                    have HB8 := Hid.mk (bl_perm HB6.out P8 (by rw [Hs6.out]; omega))
                    have HO8 := Hid.mk (so_perm HO6.out P8 haa hbb (by rw [Hs6.out]; omega))
                    have HPe := Hid.mk (Sort.permIn_trans _ _ _ _ _ HPd.out (Sort.permIn_mono d4 d5 a' b' a b haa hbb (by rw [Hs6.out]; omega) P8))
                    have HD8 := Hid.mk (dis_perm P8 (by rw [Hs6.out]; omega) HD6.out)
                    have Hpl := Hid.mk pl
                    have Hpr := Hid.mk pr
                    clear S8 P8 pl pr
                    dsimp only
                    by_cases hlr : mid - a' < b' - mid
                    · have hlr' : (mid : Int) - (a' : Int) < (b' : Int) - (mid : Int) := by omega
                      go_wp2_with fail
                      refine (IH.out w8 blk off cap a' mid l2 m d5 (by omega) Hs8.out h6 HS8.out.self hm1 (by omega) hl2 (bl_left HB8.out (by omega)) HD8.out).mono ?_
                      rintro e w9 ⟨rfl, d6, S9, P9, ss9⟩
                      have HS9 := Hid.mk (HS8.out.trans S9 P9.1)
                      have NEW := Hid.mk (so_left HO8.out Hpl.out Hpr.out P9 ss9 haa hm1 hm2 hbb (by rw [Hs8.out]; omega))
                      have HPf := Hid.mk (Sort.permIn_trans _ _ _ _ _ HPe.out (Sort.permIn_mono d5 d6 a' mid a b haa (by omega) (by rw [Hs8.out]; omega) P9))
                      have Hs9 := Hid.mk (P9.1.trans Hs8.out)
                      clear S9 P9 ss9
                      dsimp only
                      go_wp2_with fail
                      go_roundw
                      case rel => exact ⟨mid + 1, b', l2, _, r, d6, by simp, rfl, rfl, rfl, rfl, by omega, by omega, hbb, hl2, Hs9.out, HS9.out, HPf.out, NEW.out.1, NEW.out.2⟩
                      case measure => simp only [intOf]; omega
                    · have hlr' : ¬ (mid : Int) - (a' : Int) < (b' : Int) - (mid : Int) := by omega
                      obtain ⟨mid1, hmid1⟩ : ∃ mid1 : Nat, mid1 = mid + 1 := ⟨_, rfl⟩
                      have em1 : (mid : Int) + 1 = (mid1 : Int) := by omega
                      have hmb : mid1 ≤ b' ∧ b' - mid1 < N := by omega
                      have Hm1 := Hid.mk hmid1
                      clear hmid1
                      go_wp2_with fail
                      refine (IH.out w8 blk off cap mid1 b' l2 m d5 hmb.2 Hs8.out h6 HS8.out.self hmb.1 (by omega) hl2 (by rw [Hm1.out]; exact bl_right Hpr.out) HD8.out).mono ?_
                      rintro e w9 ⟨rfl, d6, S9, P9, ss9⟩
                      rw [Hm1.out] at P9 ss9
                      have HS9 := Hid.mk (HS8.out.trans S9 P9.1)
                      have NEW := Hid.mk (so_right HO8.out HB8.out Hpl.out Hpr.out P9 ss9 haa hm1 hm2 hbb (by rw [Hs8.out]; omega))
                      have HPf := Hid.mk (Sort.permIn_trans _ _ _ _ _ HPe.out (Sort.permIn_mono d5 d6 (mid + 1) b' a b (by omega) hbb (by rw [Hs8.out]; omega) P9))
                      have Hs9 := Hid.mk (P9.1.trans Hs8.out)
                      clear S9 P9 ss9
                      dsimp only
                      go_wp2_with fail
                      go_roundw
                      case rel => exact ⟨a', mid, l2, _, r, d6, rfl, rfl, rfl, rfl, rfl, haa, hm1, by omega, hl2, Hs9.out, HS9.out, HPf.out, NEW.out.1, NEW.out.2⟩
                      case measure => simp only [intOf]; omega

set_option maxRecDepth 100000 in
set_option maxHeartbeats 2000000 in
theorem sortf_any [Inhabited FE] (w : World) (blk off cap m : Nat) (d : Array FE) (hm : d.size = m) (h6 : m ≤ 600) (H : SR blk off w w d) (hD : Dis d) :
    Calls Yba.prog 49 #[.slice (some ⟨blk, off, none⟩) m cap] w (PdqPost blk off 0 m w d) := by
  have HH := Hid.mk H
  have HD := Hid.mk hD
  have BL0 := Any.bits_Len Yba.bitsLen (m : Int)
  clear H hD
  go_enter Yba.func49, Yba.ntmps49
  go_wp2_with fail
  refine (BL0 w (by omega) (by omega)).mono ?_
  rintro e w1 ⟨rfl, rfl⟩
  dsimp only
  have hlen : Lib.bitLen (m : Int).toNat ≤ 64 := by
    rw [Int.toNat_natCast]
    rcases Nat.eq_zero_or_pos m with e | e
    · subst e; exact Nat.le_trans (Nat.le_of_eq (Lib.bitLenAux_zero 64)) (by omega)
    · have hb := Lib.bitLenAux_bounds 64 m (by omega) (by omega)
      have h2 : 2 ^ (Lib.bitLen m - 1) ≤ m := hb.2.1
      apply Decidable.byContradiction
      intro hx
      have : 2 ^ 64 ≤ 2 ^ (Lib.bitLen m - 1) := Nat.pow_le_pow_right (by omega) (by omega)
      omega
  generalize Lib.bitLen (m : Int).toNat = lim at *
  go_wp2_with fail
  refine (pdq_any (m + 1) w1 blk off cap 0 m lim m d (by omega) hm h6 HH.out (Nat.zero_le _) (Nat.le_refl _) hlen (fun h => by omega) HD.out).mono ?_
  rintro e w2 ⟨rfl, R⟩
  have HR := Hid.mk R
  clear R
  dsimp only
  go_wp2_with fail
  go_end0
  exact ⟨rfl, HR.out⟩
end Go.Proofs.Ybulkdaxu
