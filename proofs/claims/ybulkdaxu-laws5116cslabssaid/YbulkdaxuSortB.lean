import Derived.Test.YbulkdaxuSortA
namespace Go.Proofs.Ybulkdaxu
open Go.RowKit
set_option linter.unusedSimpArgs false
set_option linter.unusedVariables false

/-! slices.insertionSortOrdered at float64 computes the plain insertion sort. -/
theorem ins_in [Inhabited FE] {a j : Nat} {d : Array FE} (hj : a < j) (hl : ltF d[j]! d[j - 1]! = true) : Sort.insInner ltF a j d = Sort.insInner ltF a (j - 1) (Sort.swp d j (j - 1)) := by
  cases j with
  | zero => omega
  | succ k => rw [Sort.insInner]; simp only [Nat.add_sub_cancel] at *; simp [hj, hl]
theorem ins_halt [Inhabited FE] {a j : Nat} {d : Array FE} (h : ¬ a < j ∨ ltF d[j]! d[j - 1]! = false) : Sort.insInner ltF a j d = d := by
  cases j with
  | zero => rw [Sort.insInner]
  | succ k =>
    rw [Sort.insInner]; simp only [Nat.add_sub_cancel] at h
    rcases h with h | h
    · rw [if_neg (by simp; omega)]
    · rw [if_neg (by simp [h])]

theorem ins_out [Inhabited FE] {a b i : Nat} {d : Array FE} (h : i < b) : Sort.insOuter ltF a b i d = Sort.insOuter ltF a b (i + 1) (Sort.insInner ltF a i d) := by
  conv => lhs; rw [Sort.insOuter]
  rw [if_pos h]
theorem ins_end [Inhabited FE] {a b i : Nat} {d : Array FE} (h : ¬ i < b) : Sort.insOuter ltF a b i d = d := by
  rw [Sort.insOuter, if_neg h]

set_option maxRecDepth 100000 in
set_option maxHeartbeats 2000000 in
theorem ins_any [Inhabited FE] (w : World) (blk off cap a b m : Nat) (d : Array FE) (hm : d.size = m) (h6 : m ≤ 600) (H : SR blk off w w d) (hab : a ≤ b) (hb : b ≤ m) :
    Calls Yba.prog 67 #[.slice (some ⟨blk, off, none⟩) m cap, .int .i64 a, .int .i64 b] w fun e w' => e = .returned (.tuple #[]) ∧ SR blk off w w' (Sort.insertionSort ltF d a b) := by
  have HH := Hid.mk H
  clear H
  go_enter Yba.func67, Yba.ntmps67
  go_wp2_with fail
  go_loopw [6] (fun vi wr => ∃ (i : Nat) (dk : Array FE), vi = .int .i64 i ∧ a < i ∧ i ≤ b + 1 ∧ dk.size = m ∧ SR blk off w wr dk ∧ Sort.insOuter ltF a b i dk = Sort.insertionSort ltF d a b) (fun vi _ => b + 1 - (intOf vi).toNat)
  case atStart => exact ⟨a + 1, d, by simp, by omega, by omega, hm, HH.out, rfl⟩
  case round =>
    obtain ⟨i, dk, rfl, hai, hib, hsk, hS, hO⟩ := hrel
    have HO := Hid.mk hO
    have HS := Hid.mk hS
    have Hsk := Hid.mk hsk
    clear hO hS hsk
    by_cases hlt : i < b
    · have hlt' : (i : Int) < (b : Int) := by omega
      go_wp2_with fail
      go_loopw [7] (fun vj wr2 => ∃ (j : Nat) (dj : Array FE), vj = .int .i64 j ∧ j ≤ i ∧ dj.size = m ∧ SR blk off w wr2 dj ∧ Sort.insInner ltF a j dj = Sort.insInner ltF a i dk) (fun vj _ => (intOf vj).toNat)
      case atStart => exact ⟨i, dk, rfl, Nat.le_refl _, Hsk.out, HS.out, rfl⟩
      case round =>
        obtain ⟨j, dj, rfl, hji, hsj, hS2, hI⟩ := hrel
        obtain ⟨F, L, hF, hL, LC⟩ := row_open dj
        have hcw := hS2.fc hF hsj
        have hfw := hS2.ff (m := m)
        have HF := Hid.mk hF
        have HL := Hid.mk hL
        have HS2 := Hid.mk hS2
        have HI := Hid.mk hI
        have Hsj := Hid.mk hsj
        have OUT : Hid ((¬ a < j ∨ ltF dj[j]! dj[j - 1]! = false) → Sort.insOuter ltF a b (i + 1) dj = Sort.insertionSort ltF d a b) := ⟨fun hs => by
          rw [← HO.out, ins_out hlt, ← HI.out, ins_halt hs]⟩
        clear hF hL hS2 hI hsj
        by_cases hja : a < j
        · have ja' : (a : Int) < (j : Int) := by omega
          cases hl : L j (j - 1)
          · go_wp2_with fail
            go_quiet (first | (go_at_call 73; refine Calls.quiet_of_same (LC _ _ _)))
            go_wp2_with fail
            go_roundw
            case rel => exact ⟨i + 1, dj, by simp, by omega, by omega, Hsj.out, HS2.out.drewN _, OUT.out (.inr (by rw [HL.out]; exact hl))⟩
            case measure => simp only [intOf]; omega
          · go_wp2_with fail
            go_quiet (first | (go_at_call 73; refine Calls.quiet_of_same (LC _ _ _)))
            go_wp2_with fail
            go_region
            all_goals go_wp2_with fail
            go_roundw
            case rel =>
              refine ⟨j - 1, Sort.swp dj j (j - 1), by congr 1; omega, by omega, by rw [Sort.swp_size]; exact Hsj.out, ?_, ?_⟩
              · exact HS2.out.swapN (by rw [Hsj.out]; omega) (by rw [Hsj.out]; omega) (HF.out _) (HF.out _) (nq + 1)
              · rw [← HI.out, ins_in hja (by rw [HL.out]; exact hl)]
            case measure => simp only [intOf]; omega
        · have ja' : ¬ (a : Int) < (j : Int) := by omega
          have hdec : decide ((a : Int) < (j : Int)) = false := decide_eq_false ja'
          go_wp2_with fail
          go_quiet (first | (go_at_call 73; refine Calls.quiet_of_same (LC _ _ _)))
          go_wp2_with fail
          go_roundw
          case rel => exact ⟨i + 1, dj, by simp, by omega, by omega, Hsj.out, HS2.out.drewN _, OUT.out (.inl hja)⟩
          case measure => simp only [intOf]; omega
    · have hlt' : ¬ (i : Int) < (b : Int) := by omega
      go_wp2_with fail
      go_end0
      exact ⟨rfl, by rw [← HO.out, ins_end hlt]; exact HS.out⟩
end Go.Proofs.Ybulkdaxu
