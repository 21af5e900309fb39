import Derived.Test.YbulkdaxuSlabQ
namespace Go.Proofs.Ybulkdaxu
open Go.RowKit
set_option linter.unusedSimpArgs false
set_option linter.unusedVariables false

/-- The offered zones that meet [a, b), by their places. -/
def flt (n : Nat) (z : Nat → Zn) (a b : Int) : List Nat := (List.range n).filter (fun i => mt (z i).lo (z i).hi a b)
theorem flt_zero (z : Nat → Zn) (a b : Int) : flt 0 z a b = [] := rfl
theorem flt_yes {n : Nat} {z : Nat → Zn} {a b : Int} (h : mt (z n).lo (z n).hi a b = true) : flt (n + 1) z a b = flt n z a b ++ [n] := by
  unfold flt; rw [List.range_succ, List.filter_append]; simp [h]
theorem flt_no {n : Nat} {z : Nat → Zn} {a b : Int} (h : mt (z n).lo (z n).hi a b = false) : flt (n + 1) z a b = flt n z a b := by
  unfold flt; rw [List.range_succ, List.filter_append]; simp [h]
theorem flt_len (n : Nat) (z : Nat → Zn) (a b : Int) : (flt n z a b).length ≤ n := by
  have := List.length_filter_le (fun i => mt (z i).lo (z i).hi a b) (List.range n)
  simpa [flt] using this
theorem flt_mem {n : Nat} {z : Nat → Zn} {a b : Int} {i : Nat} (h : i ∈ flt n z a b) : i < n ∧ mt (z i).lo (z i).hi a b = true := by
  unfold flt at h
  rw [List.mem_filter, List.mem_range] at h
  exact h
theorem flt_at {n : Nat} {z : Nat → Zn} {a b : Int} {i : Nat} (h : i < (flt n z a b).length) : (flt n z a b).getD i 0 < n ∧ mt (z ((flt n z a b).getD i 0)).lo (z ((flt n z a b).getD i 0)).hi a b = true := by
  have e : (flt n z a b).getD i 0 = (flt n z a b)[i] := by simp [List.getD_eq_getElem?_getD, h]
  rw [e]
  exact flt_mem (List.getElem_mem h)
theorem flt_all {n : Nat} {z : Nat → Zn} {a b : Int} (h : ∀ i, i < n → mt (z i).lo (z i).hi a b = true) : flt n z a b = List.range n := by
  unfold flt; rw [List.filter_eq_self]; intro i hi; exact h i (List.mem_range.1 hi)
theorem rg_getD {n i : Nat} (h : i < n) : (List.range n).getD i 0 = i := by simp [List.getD_eq_getElem?_getD, h]

/-- The edges of the stretches. -/
def Ej (m : Nat) (a b : Int) (L : Nat → Int) (j : Nat) : Int := if j = 0 then a else if j < m then L j else b

theorem mt_sub {m : Nat} {s : Nat → Nat} {zl zh L U : Nat → Int} {a b : Int} (A : AZ m s zl zh L U) (hm : ∀ j, j < m → max (L j) a < min (U j) b) {i j : Nat} (hi : i < m) (hj : j < m) : mt (zl i) (zh i) (Ej m a b L j) (Ej m a b L (j + 1)) = decide (s i = j) := by
  unfold mt
  rw [A.lo i hi, A.hi i hi]
  have h1 := A.s1 i hi
  generalize s i = k at *
  have e2 : Ej m a b L (j + 1) = if j + 1 < m then L (j + 1) else b := by simp [Ej]
  rw [e2]
  have q := hm k h1
  have q0 := A.lt k h1
  rcases Nat.lt_trichotomy k j with h | h | h
  · rw [decide_eq_false (by omega : ¬ k = j), decide_eq_false_iff_not]
    have e1 : Ej m a b L j = L j := by unfold Ej; rw [if_neg (by omega), if_pos hj]
    rw [e1]
    have := A.nx k j h hj
    omega
  · subst h
    rw [decide_eq_true rfl, decide_eq_true_iff]
    have e1 : Ej m a b L k = a ∨ Ej m a b L k = L k := by unfold Ej; by_cases k0 : k = 0 <;> simp [k0, h1]
    by_cases hk : k + 1 < m
    · rw [if_pos hk]
      have := A.nx k (k + 1) (by omega) hk
      rcases e1 with e | e <;> rw [e] <;> omega
    · rw [if_neg hk]
      rcases e1 with e | e <;> rw [e] <;> omega
  · rw [decide_eq_false (by omega : ¬ k = j), decide_eq_false_iff_not, if_pos (by omega)]
    rcases Nat.eq_or_lt_of_le (Nat.succ_le_of_lt h) with e | e
    · have e' : j + 1 = k := e
      rw [e']; omega
    · have := A.la (i := j + 1) (j := k) e h1
      omega
theorem flt_sub {m : Nat} {s : Nat → Nat} {z : Nat → Zn} {L U : Nat → Int} {a b : Int} (A : AZ m s (fun i => (z i).lo) (fun i => (z i).hi) L U) (hm : ∀ j, j < m → max (L j) a < min (U j) b) {j : Nat} (hj : j < m) : flt m z (Ej m a b L j) (Ej m a b L (j + 1)) = [s j] := by
  have e : flt m z (Ej m a b L j) (Ej m a b L (j + 1)) = sl (fun i => (s i : Int)) (j : Int) m := by
    unfold flt sl
    apply List.filter_congr
    intro i hi
    have := mt_sub A hm (List.mem_range.1 hi) hj
    rw [this]
    by_cases h : s i = j
    · rw [decide_eq_true h, decide_eq_true (show (s i : Int) = j by rw [h])]
    · rw [decide_eq_false h, decide_eq_false (show ¬ (s i : Int) = j by omega)]
  rw [e]
  refine sl_one ?_ (A.s1 j hj) (by rw [A.s2 j hj])
  intro i k hi hk hne he
  have he' : s i = s k := by omega
  exact hne (by rw [← A.s2 i hi, he', A.s2 k hk])
theorem ej_lt {m : Nat} {s : Nat → Nat} {zl zh L U : Nat → Int} {a b : Int} (A : AZ m s zl zh L U) (hm : ∀ j, j < m → max (L j) a < min (U j) b) (hab : a < b) {j : Nat} (hj : j < m) : a ≤ Ej m a b L j ∧ Ej m a b L j < Ej m a b L (j + 1) ∧ Ej m a b L (j + 1) ≤ b := by
  have q0 := hm 0 (by omega)
  have q1 := hm j hj
  have q2 := A.lt j hj
  have e2 : Ej m a b L (j + 1) = if j + 1 < m then L (j + 1) else b := by simp [Ej]
  have e1 : Ej m a b L j = if j = 0 then a else L j := by unfold Ej; by_cases k0 : j = 0 <;> simp [k0]; intro x; omega
  rw [e1, e2]
  have q4 : 0 < j → U 0 ≤ L j := fun h => A.nx 0 j h hj
  by_cases h1 : j + 1 < m
  · have q3 := A.nx j (j + 1) (by omega) h1
    have q5 := hm (j + 1) h1
    rw [if_pos h1]
    by_cases h0 : j = 0
    · subst h0; rw [if_pos rfl]; omega
    · rw [if_neg h0]; have := q4 (by omega); omega
  · rw [if_neg h1]
    by_cases h0 : j = 0
    · subst h0; rw [if_pos rfl]; omega
    · rw [if_neg h0]; have := q4 (by omega); omega
theorem ends_ej {m : Nat} {a b : Int} {L : Nat → Int} (hm : 0 < m) : ends m L b = (List.range m).map (fun j => Ej m a b L (j + 1)) := by
  obtain ⟨k, rfl⟩ : ∃ k, m = k + 1 := ⟨m - 1, by omega⟩
  rw [List.range_succ, List.map_append]
  unfold ends
  simp only [Nat.add_sub_cancel, List.map_cons, List.map_nil]
  congr 1
  · apply List.map_congr_left
    intro j hj
    have := List.mem_range.1 hj
    simp [Ej, this]
  · simp [Ej]
end Go.Proofs.Ybulkdaxu
