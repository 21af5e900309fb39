import Derived.Test.YbulkdaxuSlabM
namespace Go.Proofs.Ybulkdaxu
open Go.RowKit
set_option linter.unusedSimpArgs false
set_option linter.unusedVariables false

section
theorem fm_len {α : Type} (f : α → List Value) (k : Nat) (hf : ∀ x, (f x).length = k) (xs : List α) : (xs.flatMap f).length = xs.length * k := by
  induction xs with
  | nil => simp
  | cons x xs ih => rw [List.flatMap_cons, List.length_append, ih, hf, List.length_cons, Nat.succ_mul]; omega
theorem fm_get {α : Type} (f : α → List Value) (k : Nat) (hf : ∀ x, (f x).length = k) (xs : List α) : ∀ (i : Nat) (x : α) (j : Nat) (u : Value), xs[i]? = some x → (f x)[j]? = some u → (xs.flatMap f)[i * k + j]? = some u := by
  induction xs with
  | nil => intro i x j u h; simp at h
  | cons y ys ih =>
    intro i x j u h hu
    have hj : j < k := by rw [← hf x]; exact (List.getElem?_eq_some_iff.mp hu).1
    rw [List.flatMap_cons]
    cases i with
    | zero =>
      simp at h
      subst h
      rw [List.getElem?_append_left (by rw [hf]; omega)]
      simpa using hu
    | succ i =>
      simp at h
      rw [List.getElem?_append_right (by rw [hf, Nat.succ_mul]; omega), hf, show (i + 1) * k + j - k = i * k + j by rw [Nat.succ_mul]; omega]
      exact ih i x j u h hu
end
theorem add_h (g m : Nat) : ((⟨g, 0, none⟩ : Addr).add m) = ⟨g, m, none⟩ := by unfold Addr.add; split <;> simp_all
theorem own_below {w w' : World} {base e k n : Nat} {v : Value} {xs : List Value} (H : w.ownsRow base e k v n xs) (B : Below w.heap.size w w') : w'.ownsRow base e k v n xs := by
  refine ⟨H.1, ?_⟩
  rcases H.2 with h | ⟨g, c, cur, h1, h2, h3, h4⟩
  · exact .inl h
  · refine .inr ⟨g, c, cur, h1, h2, ?_, h4⟩
    rw [B.block g ?_]
    · exact h3
    · rcases Nat.lt_or_ge g w.heap.size with h | h
      · exact h
      · rw [Array.getElem?_eq_none h] at h3; cases h3
/-- What an owned row lets be read. -/
theorem own_cell {α : Type} (f : α → List Value) (k : Nat) (hf : ∀ x, (f x).length = k) {w : World} {base e : Nat} {v : Value} {xs : List α} (H : w.ownsRow base e k v xs.length (xs.flatMap f)) :
    (v = .slice none 0 0 ∧ xs = []) ∨ ∃ g c, v = .slice (some ⟨g, 0, none⟩) xs.length c ∧ xs.length ≤ c ∧ base ≤ g ∧ g < w.heap.size ∧ (∀ i x j u, xs[i]? = some x → (f x)[j]? = some u → w.cell? ⟨g, i * k + j, none⟩ = some u) ∧ ∀ j, w.frozen? ⟨g, j, none⟩ = false := by
  rcases H.2 with ⟨h, hn⟩ | ⟨g, c, cur, h1, h2, h3, h4, _, _, _⟩
  · exact .inl ⟨h, List.eq_nil_of_length_eq_zero hn⟩
  · refine .inr ⟨g, c, h1, h4, h2, ?_, fun i x j u hx hu => ?_, fun j => by simp [World.frozen?, h3]⟩
    · rcases Nat.lt_or_ge g w.heap.size with h | h
      · exact h
      · rw [Array.getElem?_eq_none h] at h3; cases h3
    · have := H.cells (g := g) (by rw [h1]; rfl) (i * k + j) u (fm_get f k hf xs i x j u hx hu)
      rwa [add_h] at this
theorem own_put {α : Type} (f : α → List Value) (k : Nat) (hf : ∀ x, (f x).length = k) {w : World} {base e g c n : Nat} {ys : List α} {x x' : α} {u u' : Value} {r : List Value} (hx : f x = u :: r) (hx' : f x' = u' :: r)
    (H : w.ownsRow base e k (.slice (some ⟨g, 0, none⟩) n c) (ys ++ [x]).length ((ys ++ [x]).flatMap f)) : (w.setCell ⟨g, ys.length * k, none⟩ u').ownsRow base e k (.slice (some ⟨g, 0, none⟩) n c) (ys ++ [x']).length ((ys ++ [x']).flatMap f) := by
  obtain ⟨H1, H2⟩ := H
  refine ⟨by rw [fm_len f k hf], ?_⟩
  rcases H2 with ⟨h, _⟩ | ⟨g', c', cur, h1, h2, h3, h4, h5, h6, h7⟩
  · cases h
  · cases h1
    refine .inr ⟨g, c, cur.setIfInBounds (ys.length * k) u', by simp, h2, ?_, by simpa using h4, h5, by simpa using h6, ?_⟩
    · simp [World.setCell, Array.getElem?_modify, h3]
    · have e1 : (ys ++ [x']).length * k = (ys ++ [x]).length * k := by simp
      have e2 : (ys ++ [x']).flatMap f = ((ys ++ [x]).flatMap f).set (ys.length * k) u' := by
        have e3 : (ys.flatMap f).length = ys.length * k := fm_len f k hf ys
        simp only [List.flatMap_append, List.flatMap_cons, List.flatMap_nil, List.append_nil, hx, hx']
        rw [List.set_append_right _ _ (by omega), e3]
        simp
      rw [e1, e2, ← h7, Array.toList_setIfInBounds, List.take_set]
end Go.Proofs.Ybulkdaxu
