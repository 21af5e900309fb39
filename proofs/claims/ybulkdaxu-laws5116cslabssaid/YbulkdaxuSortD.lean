import Derived.Test.YbulkdaxuSortC
namespace Go.Proofs.Ybulkdaxu
open Go.RowKit
set_option linter.unusedSimpArgs false
set_option linter.unusedVariables false

theorem sd_size [Inhabited FE] {hi first : Nat} : ∀ (n root : Nat) (d : Array FE), hi - root ≤ n → (Sort.siftDown ltF hi first root d).size = d.size := by
  intro n
  induction n with
  | zero => intro root d h; rw [sd_end (by omega)]
  | succ n ih =>
    intro root d h
    by_cases he : hi ≤ 2 * root + 1
    · rw [sd_end he]
    · by_cases hc : 2 * root + 2 < hi ∧ ltF d[first + (2 * root + 1)]! d[first + (2 * root + 1) + 1]! = true
      · rw [sd_step (c := 2 * root + 2) he (.inl ⟨rfl, hc.1, hc.2⟩)]
        split
        · rw [ih _ _ (by omega), Sort.swp_size]
        · rfl
      · rw [sd_step (c := 2 * root + 1) he (.inr ⟨rfl, fun x => by
          cases hl : ltF d[first + (2 * root + 1)]! d[first + (2 * root + 1) + 1]!
          · rfl
          · exact absurd ⟨x, hl⟩ hc⟩)]
        split
        · rw [ih _ _ (by omega), Sort.swp_size]
        · rfl
theorem sift_size [Inhabited FE] {hi first root : Nat} {d : Array FE} : (Sort.siftDown ltF hi first root d).size = d.size := sd_size _ root d (Nat.le_refl _)

set_option maxRecDepth 100000 in
set_option maxHeartbeats 4000000 in
theorem heap_any [Inhabited FE] (w : World) (blk off cap a b m : Nat) (d : Array FE) (hm : d.size = m) (h6 : m ≤ 600) (H : SR blk off w w d) (hab : a < b) (hb : b ≤ m) :
    Calls Yba.prog 68 #[.slice (some ⟨blk, off, none⟩) m cap, .int .i64 a, .int .i64 b] w fun e w' => e = .returned (.tuple #[]) ∧ SR blk off w w' (Sort.heapSort ltF d a b) := by
  have HH := Hid.mk H
  clear H
  obtain ⟨hi, hhi⟩ : ∃ hi : Nat, hi = b - a := ⟨_, rfl⟩
  have e1 : (b : Int) - (a : Int) = (hi : Int) := by omega
  have hi1 : 0 < hi := by omega
  have hia : a + hi ≤ m := by omega
  have HS0 : Hid (Sort.heapSort ltF d a b = Sort.heapPop ltF a hi (Sort.heapBuild ltF hi a ((hi - 1) / 2 + 1) d)) := ⟨by rw [hhi]; rfl⟩
  clear hhi
  go_enter Yba.func68, Yba.ntmps68
  go_wp2_with fail
  go_loopw [9] (fun vi wr => ∃ (k : Nat) (dk : Array FE), vi = .int .i64 ((k : Int) - 1) ∧ k ≤ hi ∧ dk.size = m ∧ SR blk off w wr dk ∧ Sort.heapBuild ltF hi a k dk = Sort.heapBuild ltF hi a ((hi - 1) / 2 + 1) d) (fun vi _ => (intOf vi + 1).toNat)
  case atStart => exact ⟨(hi - 1) / 2 + 1, d, by congr 1; omega, by omega, hm, HH.out, rfl⟩
  case round =>
    obtain ⟨k, dk, rfl, hk, hsk, hS, hO⟩ := hrel
    have HO := Hid.mk hO
    have HS := Hid.mk hS
    have Hsk := Hid.mk hsk
    clear hO hS hsk
    cases k with
    | succ k =>
      have e2 : ((k + 1 : Nat) : Int) - 1 = (k : Int) := by omega
      have e3 : (k : Int) ≥ 0 := by omega
      go_wp2_with fail
      refine (sift_any wr blk off cap k hi a m dk Hsk.out h6 HS.out.self (by omega) hia).mono ?_
      rintro e w1 ⟨rfl, S1⟩
      have HS1 := Hid.mk (HS.out.trans S1 sift_size)
      clear S1
      dsimp only
      go_wp2_with fail
      go_roundw
      case rel => exact ⟨k, _, by simp, by omega, by rw [sift_size]; exact Hsk.out, HS1.out, by rw [← HO.out]; rfl⟩
      case measure => simp only [intOf]; omega
    | zero =>
      have e3 : ¬ ((0 : Nat) : Int) - 1 ≥ 0 := by omega
      go_wp2_with fail
      go_loopw [10] (fun vi wr => ∃ (k : Nat) (dk : Array FE), vi = .int .i64 ((k : Int) - 1) ∧ k ≤ hi ∧ dk.size = m ∧ SR blk off w wr dk ∧ Sort.heapPop ltF a k dk = Sort.heapSort ltF d a b) (fun vi _ => (intOf vi + 1).toNat)
      case atStart => exact ⟨hi, dk, rfl, Nat.le_refl _, Hsk.out, HS.out, by rw [HS0.out, ← HO.out]; rfl⟩
      case round =>
        obtain ⟨k, dk, rfl, hk, hsk, hS, hO⟩ := hrel
        have HO := Hid.mk hO
        have HS := Hid.mk hS
        have Hsk := Hid.mk hsk
        clear hO hS hsk
        cases k with
        | succ k =>
          have e2 : ((k + 1 : Nat) : Int) - 1 = (k : Int) := by omega
          have e4 : (k : Int) ≥ 0 := by omega
          obtain ⟨pk, hpk⟩ : ∃ pk : Nat, pk = a + k := ⟨_, rfl⟩
          have e5 : (a : Int) + (k : Int) = (pk : Int) := by omega
          obtain ⟨F, L, hF, hL, LC⟩ := row_open dk
          have hcw := HS.out.fc hF Hsk.out
          have hfw := HS.out.ff (m := m)
          have ci := hcw a (by omega)
          have cj := hcw pk (by omega)
          have fi := hfw a (by omega)
          have fj := hfw pk (by omega)
          have z1 : (0 : Int) ≤ (a : Int) := by omega
          have z2 : (a : Int) < (m : Int) := by omega
          have z3 : (0 : Int) ≤ (pk : Int) := by omega
          have z4 : (pk : Int) < (m : Int) := by omega
          have HF := Hid.mk hF
          have Hpk := Hid.mk hpk
          clear hcw hfw hF hL LC hpk
          by_cases hka : pk = a
          · obtain rfl : k = 0 := by have := Hpk.out; omega
            clear e5 cj fj z3 z4 e2 e4 hka Hpk
            have e2 : ((0 + 1 : Nat) : Int) - 1 = 0 := by omega
            go_wp2_with fail
            go_region
            all_goals go_wp2_with fail
            have S1 := HS.out.swap1 (i := a) (j := a) (by rw [Hsk.out]; omega) (by rw [Hsk.out]; omega) (HF.out _) (HF.out _)
            have HS1 := Hid.mk S1
            clear ci fi
            generalize World.drew _ = wq at *
            refine (sift_any wq blk off cap 0 0 a m _ (by rw [Sort.swp_size]; exact Hsk.out) h6 HS1.out.self (by omega) (by omega)).mono ?_
            rintro e w1 ⟨rfl, S1⟩
            have HS2 := Hid.mk (HS1.out.trans S1 sift_size)
            clear S1
            dsimp only
            go_wp2_with fail
            go_roundw
            case rel => exact ⟨0, _, by simp, by omega, by rw [sift_size, Sort.swp_size]; exact Hsk.out, HS2.out, by rw [← HO.out]; rfl⟩
            case measure => simp only [intOf]; omega
          · have n1 : ¬ a = pk := fun h => hka h.symm
            have n2 : a < pk := by omega
            go_wp2_with fail
            go_region
            all_goals go_wp2_with fail
            have S1 := HS.out.swap1 (i := a) (j := pk) (by rw [Hsk.out]; omega) (by rw [Hsk.out]; omega) (HF.out _) (HF.out _)
            have HS1 := Hid.mk S1
            clear ci cj fi fj
            generalize World.drew _ = wq at *
            refine (sift_any wq blk off cap 0 k a m _ (by rw [Sort.swp_size]; exact Hsk.out) h6 HS1.out.self (by omega) (by omega)).mono ?_
            rintro e w1 ⟨rfl, S1⟩
            have HS2 := Hid.mk (HS1.out.trans S1 sift_size)
            clear S1
            dsimp only
            go_wp2_with fail
            go_roundw
            case rel => exact ⟨k, _, by simp, by omega, by rw [sift_size, Sort.swp_size]; exact Hsk.out, HS2.out, by rw [← HO.out, Hpk.out]; rfl⟩
            case measure => simp only [intOf]; omega
        | zero =>
          have e3 : ¬ ((0 : Nat) : Int) - 1 ≥ 0 := by omega
          go_wp2_with fail
          go_end0
          exact ⟨rfl, by rw [← HO.out]; exact HS.out⟩
end Go.Proofs.Ybulkdaxu
