import Derived.Test.YbulkdaxuSlabP
namespace Go.Proofs.Ybulkdaxu
open Go.RowKit
set_option linter.unusedSimpArgs false
set_option linter.unusedVariables false

/-- The ends that joinUnmet leaves: the lower faces of all zones but the first, then b. -/
def ends (n : Nat) (L : Nat → Int) (b : Int) : List Int := (List.range (n - 1)).map (fun j => L (j + 1)) ++ [b]
theorem ends_len (n : Nat) (L : Nat → Int) (b : Int) (hn : 0 < n) : (ends n L b).length = n := by simp [ends]; omega
def ac (L : Nat → Int) (c : Nat) (p : Int) : List Int := if c = 0 then [] else ends c L p

theorem met_iff {n : Nat} {s : Nat → Nat} {z : Nat → Zn} {L U : Nat → Int} (A : AZ n s (fun i => (z i).lo) (fun i => (z i).hi) L U) (p t : Int) : met n z p t = true ↔ ∃ j, j < n ∧ max (L j) p < min (U j) t := by
  unfold met anyB
  rw [List.any_eq_true]
  constructor
  · rintro ⟨i, hi, h⟩
    have hi' := List.mem_range.1 hi
    refine ⟨s i, A.s1 i hi', ?_⟩
    have e1 := A.lo i hi'
    have e2 := A.hi i hi'
    simp only [mt, decide_eq_true_iff] at h
    rw [e1, e2] at h
    exact h
  · rintro ⟨j, hj, h⟩
    refine ⟨s j, List.mem_range.2 (A.s1 j hj), ?_⟩
    have e1 := A.lo _ (A.s1 j hj)
    have e2 := A.hi _ (A.s1 j hj)
    simp only [A.s2 j hj] at e1 e2
    simp only [mt, decide_eq_true_iff, e1, e2]
    exact h

theorem ju_go {n : Nat} {s : Nat → Nat} {z : Nat → Zn} {L U : Nat → Int} {a b : Int} (A : AZ n s (fun i => (z i).lo) (fun i => (z i).hi) L U) (hm : ∀ j, j < n → max (L j) a < min (U j) b) (hn : 0 < n) :
    ∀ (ts : List Int) (p : Int) (c : Nat), a ≤ p → p ≤ b → ts.Pairwise (· < ·) → (∀ x ∈ ts, p < x ∧ x ≤ b ∧ (x = b ∨ ∃ j, j < n ∧ (x = L j ∨ x = U j))) → (∀ x, p < x → x < b → (∃ j, j < n ∧ (x = L j ∨ x = U j)) → x ∈ ts) → (p = b ∨ b ∈ ts) →
      (p = a ∨ p = b ∨ ∃ j, j < n ∧ (p = L j ∨ p = U j)) → c ≤ n → (∀ j, j < c → L j < p ∧ a < p) → (∀ j, c ≤ j → j < n → p ≤ max (L j) a) → ju (met n z) p ts (ac L c p) = ends n L b := by
  intro ts
  induction ts with
  | nil =>
    intro p c h1 h2 _ _ _ h6 _ h8 h9 h10
    obtain rfl : p = b := by rcases h6 with h | h
                             · exact h
                             · cases h
    have : c = n := by
      rcases Nat.lt_or_ge c n with h | h
      · have q1 := h10 c (Nat.le_refl _) h
        have q2 := hm c h
        omega
      · omega
    subst this
    simp [ju, ac]; omega
  | cons t ts ih =>
    intro p c h1 h2 h3 h4 h5 h6 h7 h8 h9 h10
    have ht := h4 t (by simp)
    have h3' := List.pairwise_cons.1 h3
    have hface : ∀ x, p < x → x < b → (∃ j, j < n ∧ (x = L j ∨ x = U j)) → t ≤ x := by
      intro x q1 q2 q3
      rcases List.mem_cons.1 (h5 x q1 q2 q3) with rfl | h
      · exact Int.le_refl _
      · have := h3'.1 x h; omega
    have n4 : ∀ x ∈ ts, t < x ∧ x ≤ b ∧ (x = b ∨ ∃ j, j < n ∧ (x = L j ∨ x = U j)) := fun x hx => ⟨h3'.1 x hx, (h4 x (by simp [hx])).2⟩
    have n5 : ∀ x, t < x → x < b → (∃ j, j < n ∧ (x = L j ∨ x = U j)) → x ∈ ts := by
      intro x q1 q2 q3
      rcases List.mem_cons.1 (h5 x (by omega) q2 q3) with rfl | h
      · omega
      · exact h
    have n6 : t = b ∨ b ∈ ts := by
      rcases h6 with e | h
      · omega
      · rcases List.mem_cons.1 h with e | e
        · exact .inl e.symm
        · exact .inr e
    have n7 : t = a ∨ t = b ∨ ∃ j, j < n ∧ (t = L j ∨ t = U j) := .inr ht.2.2
    cases hmt : met n z p t
    · have hno : ∀ j, j < n → ¬ max (L j) p < min (U j) t := fun j hj h => by
        have := (met_iff A p t).2 ⟨j, hj, h⟩
        rw [hmt] at this; cases this
      have IH := ih t c (by omega) ht.2.1 h3'.2 n4 n5 n6 n7 h8 (fun j hj => by have := h9 j hj; omega) (fun j q1 q2 => by
        have r1 := h10 j q1 q2
        have r2 := hno j q2
        have r3 := hm j q2
        rcases Int.lt_or_le (max (L j) a) t with h | h
        · exfalso
          rcases Int.lt_or_le p (L j) with h' | h'
          · have := hface (L j) h' (by omega) ⟨j, q2, .inl rfl⟩
            omega
          · omega
        · exact h)
      rw [← IH]
      by_cases hc : c = 0
      · subst hc; simp [ju, hmt, ac]
      · have : ac L c p ≠ [] := by simp [ac, hc, ends]
        simp [ju, hmt, ac, hc, ends]
    · obtain ⟨j, hj, hjm⟩ := (met_iff A p t).1 hmt
      have hjc : j = c := by
        rcases Nat.lt_trichotomy j c with h | h | h
        · exfalso
          have q1 := h9 j h
          rcases h7 with e | e | ⟨i, hi, e⟩
          · omega
          · omega
          · have qj := A.lt j hj
            have qi := A.lt i hi
            rcases Nat.lt_trichotomy i j with hij | hij | hij
            · have := A.nx i j hij hj; omega
            · subst hij; omega
            · have := A.nx j i hij hi; omega
        · exact h
        · exfalso
          have q1 := h10 c (Nat.le_refl _) (by omega)
          have q2 := hm c (by omega)
          have q3 := A.nx c j h hj
          have := hface (U c) (by omega) (by omega) ⟨c, by omega, .inr rfl⟩
          omega
      subst hjc
      have hU : t ≤ U j := by
        rcases Int.lt_or_le (U j) t with h | h
        · exact hface (U j) (by omega) (by omega) ⟨j, hj, .inr rfl⟩
        · exact h
      have IH := ih t (j + 1) (by omega) ht.2.1 h3'.2 n4 n5 n6 n7 (by omega) (fun i hi => by
        rcases Nat.lt_or_ge i j with h | h
        · have := h9 i h; omega
        · obtain rfl : i = j := by omega
          omega) (fun i q1 q2 => by have := A.nx j i (by omega) q2; omega)
      rw [← IH]
      have e1 : ac L j p ++ [t] = ac L (j + 1) t := by
        by_cases hc : j = 0
        · subst hc; simp [ac, ends]
        · have q0 := h9 0 (by omega)
          have q1 := h10 j (Nat.le_refl _) hj
          have e : p = L j := by
            rcases Int.lt_or_le p (L j) with h | h
            · have := hface (L j) h (by omega) ⟨j, hj, .inl rfl⟩; omega
            · omega
          obtain ⟨k, rfl⟩ : ∃ k, j = k + 1 := ⟨j - 1, by omega⟩
          simp [ac, ends, List.range_succ, e]
      rw [← e1]
      simp [ju, hmt]

/-- joinUnmet over all faces inside [a, b). -/
theorem ju_law {n : Nat} {s : Nat → Nat} {z : Nat → Zn} {L U : Nat → Int} {a b : Int} {at_ : List Int} (A : AZ n s (fun i => (z i).lo) (fun i => (z i).hi) L U) (hm : ∀ j, j < n → max (L j) a < min (U j) b) (hn : 0 < n) (hab : a < b) (I : I4 n L U a b n n at_) :
    ju (met n z) a (at_ ++ [b]) [] = ends n L b := by
  have M := I.mem
  have h0 : ac L 0 a = [] := rfl
  rw [← h0]
  refine ju_go A hm hn (at_ ++ [b]) a 0 (Int.le_refl _) (by omega) ?_ ?_ ?_ (.inr (by simp)) (.inl rfl) (Nat.zero_le _) (fun j hj => by omega) (fun j _ _ => by omega)
  · rw [List.pairwise_append]
    exact ⟨I.asc, List.pairwise_singleton _ _, fun x hx y hy => by rw [List.mem_singleton.1 hy]; exact ((M x).1 hx).2.1⟩
  · intro x hx
    rcases List.mem_append.1 hx with h | h
    · obtain ⟨q1, q2, ⟨j, hj, e⟩ | ⟨j, hj, e⟩⟩ := (M x).1 h
      · exact ⟨q1, by omega, .inr ⟨j, hj, .inl e⟩⟩
      · exact ⟨q1, by omega, .inr ⟨j, hj, .inr e⟩⟩
    · rw [List.mem_singleton.1 h]; exact ⟨hab, Int.le_refl _, .inl rfl⟩
  · intro x q1 q2 ⟨j, hj, e⟩
    refine List.mem_append.2 (.inl ((M x).2 ⟨q1, q2, ?_⟩))
    rcases e with e | e
    · exact .inl ⟨j, hj, e⟩
    · exact .inr ⟨j, hj, e⟩
/-- With two zones that meet [a, b) there is a face inside. -/
theorem I4.some {n : Nat} {s : Nat → Nat} {zl zh L U : Nat → Int} {a b : Int} {at_ : List Int} (A : AZ n s zl zh L U) (hm : ∀ j, j < n → max (L j) a < min (U j) b) (hn : 2 ≤ n) (I : I4 n L U a b n n at_) : 0 < at_.length := by
  have q1 := hm 0 (by omega)
  have q2 := hm 1 (by omega)
  have q3 := A.nx 0 1 (by omega) (by omega)
  have : U 0 ∈ at_ := (I.mem _).2 ⟨by omega, by omega, .inr ⟨0, by omega, rfl⟩⟩
  exact List.length_pos_of_mem this
theorem gd (l : List Int) (i : Nat) (h : i < l.length) : l.getD i 0 = l[i] := by simp [List.getD_eq_getElem?_getD, h]
/-- The ends of the faces inside, and b, ascend from a. -/
theorem I4.up {n : Nat} {L U : Nat → Int} {a b : Int} {bg en : Nat} {at_ : List Int} (hab : a < b) (I : I4 n L U a b bg en at_) : (∀ i, i < (at_ ++ [b]).length → a < (at_ ++ [b]).getD i 0 ∧ (at_ ++ [b]).getD i 0 ≤ b) ∧ (∀ i, i + 1 < (at_ ++ [b]).length → (at_ ++ [b]).getD i 0 ≤ (at_ ++ [b]).getD (i + 1) 0) := by
  have P : (at_ ++ [b]).Pairwise (· < ·) := by
    rw [List.pairwise_append]
    exact ⟨I.asc, List.pairwise_singleton _ _, fun x hx y hy => by rw [List.mem_singleton.1 hy]; exact ((I.mem x).1 hx).2.1⟩
  refine ⟨fun i hi => ?_, fun i hi => ?_⟩
  · have : (at_ ++ [b])[i] ∈ at_ ++ [b] := List.getElem_mem hi
    rw [gd _ _ hi]
    rcases List.mem_append.1 this with h | h
    · have := (I.mem _).1 h; omega
    · rw [List.mem_singleton.1 h]; omega
  · rw [gd _ _ hi, gd _ _ (show i < (at_ ++ [b]).length by omega)]
    exact Int.le_of_lt (List.pairwise_iff_getElem.1 P i (i + 1) (by omega) hi (by omega))
end Go.Proofs.Ybulkdaxu
