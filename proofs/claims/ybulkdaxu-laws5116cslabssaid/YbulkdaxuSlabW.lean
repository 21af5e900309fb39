import Derived.Test.YbulkdaxuSlabV
namespace Go.Proofs.Ybulkdaxu
open Go.RowKit
set_option linter.unusedSimpArgs false
set_option linter.unusedVariables false

/-- The order in which zones are offered. -/
def oO (rev : Bool) (n t : Nat) : Nat := if rev then n - 1 - t else t
theorem oO_lt {rev : Bool} {n t : Nat} (h : t < n) : oO rev n t < n := by unfold oO; split <;> omega
theorem oO_two {rev : Bool} {n t : Nat} (h : t < n) : oO rev n (oO rev n t) = t := by unfold oO; cases rev <;> simp; omega
theorem gdn (l : List Nat) (i : Nat) (h : i < l.length) : l.getD i 0 = l[i] := by simp [List.getD_eq_getElem?_getD, h]
theorem rng_rev (n : Nat) : (List.range n).map (oO true n) = (List.range n).reverse := by
  apply List.ext_getElem
  · simp
  · intro i h1 h2
    simp at h1
    simp [oO]
theorem fo_map (rev : Bool) (n : Nat) (p : Nat → Bool) : ((List.range n).filter (fun t => p (oO rev n t))).map (oO rev n) = if rev then ((List.range n).filter p).reverse else (List.range n).filter p := by
  have e : ((List.range n).filter (fun t => p (oO rev n t))).map (oO rev n) = ((List.range n).map (oO rev n)).filter p := by
    rw [List.filter_map]; rfl
  rw [e]
  cases rev
  · have : (List.range n).map (oO false n) = List.range n := by
      have : oO false n = id := by funext t; rfl
      rw [this, List.map_id]
    rw [this]; rfl
  · rw [rng_rev, List.filter_reverse]; rfl
theorem fo_len (rev : Bool) (n : Nat) (p : Nat → Bool) : ((List.range n).filter (fun t => p (oO rev n t))).length = ((List.range n).filter p).length := by
  have := congrArg List.length (fo_map rev n p)
  rw [List.length_map] at this
  rw [this]
  cases rev <;> simp
theorem fo_get (rev : Bool) (n : Nat) (p : Nat → Bool) (i : Nat) (hi : i < ((List.range n).filter p).length) : oO rev n (((List.range n).filter (fun t => p (oO rev n t))).getD i 0) = ((List.range n).filter p).getD (oO rev ((List.range n).filter p).length i) 0 := by
  have hl := fo_len rev n p
  have hm := fo_map rev n p
  rw [gdn _ _ (by omega), gdn _ _ (oO_lt hi)]
  have h1 : (((List.range n).filter (fun t => p (oO rev n t))).map (oO rev n))[i]'(by rw [List.length_map]; omega) = oO rev n (((List.range n).filter (fun t => p (oO rev n t)))[i]'(by omega)) := by simp
  rw [← h1]
  cases rev
  · simp only [hm]; rfl
  · simp only [hm]
    simp [oO]
theorem flr_asc (n : Nat) (p : Nat → Bool) : ((List.range n).filter p).Pairwise (· < ·) := List.Pairwise.sublist List.filter_sublist List.pairwise_lt_range
theorem flr_mem {n : Nat} {p : Nat → Bool} {j : Nat} (hj : j < ((List.range n).filter p).length) : ((List.range n).filter p).getD j 0 < n ∧ p (((List.range n).filter p).getD j 0) = true := by
  rw [gdn _ _ hj]
  have := List.getElem_mem hj
  rw [List.mem_filter, List.mem_range] at this
  exact this
theorem flr_lt {n : Nat} {p : Nat → Bool} {i j : Nat} (hij : i < j) (hj : j < ((List.range n).filter p).length) : ((List.range n).filter p).getD i 0 < ((List.range n).filter p).getD j 0 := by
  rw [gdn _ _ hj, gdn _ _ (by omega)]
  exact List.pairwise_iff_getElem.1 (flr_asc n p) i j (by omega) hj hij
theorem az_law (rev : Bool) (n : Nat) (p : Nat → Bool) (Lz Uz : Nat → Int) (h1 : ∀ i, i < n → Lz i < Uz i) (h2 : ∀ i j, i < j → j < n → Uz i ≤ Lz j) :
    AZ ((List.range n).filter p).length (oO rev ((List.range n).filter p).length) (fun i => Lz (oO rev n (((List.range n).filter (fun t => p (oO rev n t))).getD i 0))) (fun i => Uz (oO rev n (((List.range n).filter (fun t => p (oO rev n t))).getD i 0))) (fun j => Lz (((List.range n).filter p).getD j 0)) (fun j => Uz (((List.range n).filter p).getD j 0)) := by
  refine ⟨fun i hi => oO_lt hi, fun i hi => oO_two hi, fun i hi => ?_, fun i hi => ?_, fun i hi => h1 _ (flr_mem hi).1, fun i j hij hj => h2 _ _ (flr_lt hij hj) (flr_mem hj).1⟩
  · show Lz _ = Lz _
    rw [fo_get rev n p i hi]
  · show Uz _ = Uz _
    rw [fo_get rev n p i hi]
end Go.Proofs.Ybulkdaxu
