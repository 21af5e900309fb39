import Derived.Test.YbulkdaxuSlabO
namespace Go.Proofs.Ybulkdaxu
open Go.RowKit
set_option linter.unusedSimpArgs false
set_option linter.unusedVariables false

/-- Zones laid out disjoint and ascending (L, U), and the order in which they are offered. -/
structure AZ (n : Nat) (s : Nat → Nat) (zl zh L U : Nat → Int) : Prop where
  s1 : ∀ i, i < n → s i < n
  s2 : ∀ i, i < n → s (s i) = i
  lo : ∀ i, i < n → zl i = L (s i)
  hi : ∀ i, i < n → zh i = U (s i)
  lt : ∀ i, i < n → L i < U i
  nx : ∀ i j, i < j → j < n → U i ≤ L j

theorem uniq {n : Nat} {x y : Nat → Int} (hx : ∀ i j, i < j → j < n → x i < x j) (hy : ∀ i j, i < j → j < n → y i < y j) (h1 : ∀ k, k < n → ∃ i, i < n ∧ y k = x i) (h2 : ∀ i, i < n → ∃ k, k < n ∧ y k = x i) : ∀ k, k < n → y k = x k := by
  intro k
  induction k using Nat.strongRecOn with
  | ind k ih =>
    intro hk
    obtain ⟨i, hi, e1⟩ := h1 k hk
    obtain ⟨j, hj, e2⟩ := h2 k hk
    have hik : k ≤ i := by
      rcases Nat.lt_or_ge i k with h | h
      · have := ih i h hi
        have := hy i k h hk
        omega
      · exact h
    have hjk : k ≤ j := by
      rcases Nat.lt_or_ge j k with h | h
      · have := ih j h hj
        have := hx j k h hk
        omega
      · exact h
    have q1 : x k ≤ x i := by
      rcases Nat.eq_or_lt_of_le hik with h | h
      · rw [h]; exact Int.le_refl _
      · have := hx k i h hi; omega
    have q2 : y k ≤ y j := by
      rcases Nat.eq_or_lt_of_le hjk with h | h
      · rw [h]; exact Int.le_refl _
      · have := hy k j h hj; omega
    omega

section
theorem AZ.la {n : Nat} {s : Nat → Nat} {zl zh L U : Nat → Int} (A : AZ n s zl zh L U) {i j : Nat} (h : i < j) (hj : j < n) : L i < L j := by have := A.lt i (by omega); have := A.nx i j h hj; omega
theorem AZ.ua {n : Nat} {s : Nat → Nat} {zl zh L U : Nat → Int} (A : AZ n s zl zh L U) {i j : Nat} (h : i < j) (hj : j < n) : U i < U j := by have := A.lt j hj; have := A.nx i j h hj; omega
theorem AZ.srtl {n : Nat} {s : Nat → Nat} {zl zh L U : Nat → Int} (A : AZ n s zl zh L U) {y : Nat → Int} (hy : ∀ i j, i < j → j < n → y i < y j) (h1 : ∀ k, k < n → ∃ i, i < n ∧ y k = zl i) (h2 : ∀ i, i < n → ∃ k, k < n ∧ y k = zl i) : ∀ k, k < n → y k = L k :=
  uniq (fun i j h hj => A.la h hj) hy (fun k hk => by obtain ⟨i, hi, e⟩ := h1 k hk; exact ⟨s i, A.s1 i hi, by rw [e, A.lo i hi]⟩)
    (fun i hi => by obtain ⟨k, hk, e⟩ := h2 (s i) (A.s1 i hi); exact ⟨k, hk, by rw [e, A.lo _ (A.s1 i hi), A.s2 i hi]⟩)
theorem AZ.srtu {n : Nat} {s : Nat → Nat} {zl zh L U : Nat → Int} (A : AZ n s zl zh L U) {y : Nat → Int} (hy : ∀ i j, i < j → j < n → y i < y j) (h1 : ∀ k, k < n → ∃ i, i < n ∧ y k = zh i) (h2 : ∀ i, i < n → ∃ k, k < n ∧ y k = zh i) : ∀ k, k < n → y k = U k :=
  uniq (fun i j h hj => A.ua h hj) hy (fun k hk => by obtain ⟨i, hi, e⟩ := h1 k hk; exact ⟨s i, A.s1 i hi, by rw [e, A.hi i hi]⟩)
    (fun i hi => by obtain ⟨k, hk, e⟩ := h2 (s i) (A.s1 i hi); exact ⟨k, hk, by rw [e, A.hi _ (A.s1 i hi), A.s2 i hi]⟩)
theorem AZ.injl {n : Nat} {s : Nat → Nat} {zl zh L U : Nat → Int} (A : AZ n s zl zh L U) {i j : Nat} (hi : i < n) (hj : j < n) (hne : i ≠ j) : zl i ≠ zl j := by
  rw [A.lo i hi, A.lo j hj]
  have h1 := A.s1 i hi
  have h2 := A.s1 j hj
  rcases Nat.lt_trichotomy (s i) (s j) with h | h | h
  · have := A.la h h2; omega
  · exact absurd (by rw [← A.s2 i hi, h, A.s2 j hj]) hne
  · have := A.la h h1; omega
theorem AZ.injh {n : Nat} {s : Nat → Nat} {zl zh L U : Nat → Int} (A : AZ n s zl zh L U) {i j : Nat} (hi : i < n) (hj : j < n) (hne : i ≠ j) : zh i ≠ zh j := by
  rw [A.hi i hi, A.hi j hj]
  have h1 := A.s1 i hi
  have h2 := A.s1 j hj
  rcases Nat.lt_trichotomy (s i) (s j) with h | h | h
  · have := A.ua h h2; omega
  · exact absurd (by rw [← A.s2 i hi, h, A.s2 j hj]) hne
  · have := A.ua h h1; omega
end

/-- The zones of which the key is f. -/
def sl (key : Nat → Int) (f : Int) (k : Nat) : List Nat := (List.range k).filter (fun i => decide (key i = f))
theorem sl_zero (key : Nat → Int) (f : Int) : sl key f 0 = [] := rfl
theorem sl_yes {key : Nat → Int} {f : Int} {k : Nat} (h : key k = f) : sl key f (k + 1) = sl key f k ++ [k] := by
  unfold sl; rw [List.range_succ, List.filter_append]; simp [h]
theorem sl_no {key : Nat → Int} {f : Int} {k : Nat} (h : ¬ key k = f) : sl key f (k + 1) = sl key f k := by
  unfold sl; rw [List.range_succ, List.filter_append]; simp [h]
theorem sl_none {key : Nat → Int} {f : Int} {n : Nat} (h : ∀ i, i < n → key i ≠ f) : sl key f n = [] := by
  unfold sl; rw [List.filter_eq_nil_iff]; intro i hi; simp [h i (List.mem_range.1 hi)]
theorem sl_one {key : Nat → Int} {f : Int} {n i : Nat} (inj : ∀ i j, i < n → j < n → i ≠ j → key i ≠ key j) (hi : i < n) (h : key i = f) : sl key f n = [i] := by
  have nd : (sl key f n).Nodup := List.Nodup.sublist List.filter_sublist List.nodup_range
  have me : ∀ j, j ∈ sl key f n ↔ j = i := by
    intro j
    unfold sl
    rw [List.mem_filter, List.mem_range, decide_eq_true_iff]
    constructor
    · rintro ⟨h1, h2⟩
      by_cases e : j = i
      · exact e
      · exact absurd (h2.trans h.symm) (inj j i h1 hi e)
    · rintro rfl; exact ⟨hi, h⟩
  match hl : sl key f n, nd, me with
  | [], _, me => exact absurd ((me i).2 rfl) (by simp)
  | [x], _, me => rw [(me x).1 (by simp)]
  | x :: y :: r, nd, me =>
    have e1 := (me x).1 (by simp)
    have e2 := (me y).1 (by simp)
    rw [e1, e2] at nd
    simp at nd
theorem sl_len (key : Nat → Int) (f : Int) (k : Nat) : (sl key f k).length ≤ k := by
  have := List.length_filter_le (fun i => decide (key i = f)) (List.range k)
  simpa [sl] using this

/-- The sweep over the faces. -/
structure I4 (n : Nat) (L U : Nat → Int) (a b : Int) (bg en : Nat) (at_ : List Int) : Prop where
  le : bg ≤ n
  sh : (en = bg ∧ (0 < bg → bg < n → U (bg - 1) < L bg)) ∨ bg = en + 1
  asc : at_.Pairwise (· < ·)
  mem : ∀ x, x ∈ at_ ↔ a < x ∧ x < b ∧ ((∃ j, j < bg ∧ x = L j) ∨ ∃ j, j < en ∧ x = U j)
  len : at_.length ≤ bg + en

theorem I4.zero (n : Nat) (L U : Nat → Int) (a b : Int) : I4 n L U a b 0 0 [] :=
  ⟨Nat.zero_le _, .inl ⟨rfl, fun h => absurd h (by omega)⟩, List.Pairwise.nil, fun x => by simp, by simp⟩

structure S4 (n : Nat) (zl zh L U : Nat → Int) (a b : Int) (bg en : Nat) (at_ : List Int) (F : Int) (bg' en' : Nat) : Prop where
  hen : en < n
  f1 : bg < n → L bg < U en → F = L bg
  f2 : ¬ (bg < n ∧ L bg < U en) → F = U en
  e1 : en ≤ en'
  e2 : en' ≤ n
  e3 : ∀ j, en ≤ j → j < en' → U j = F
  e4 : en' < n → U en' ≠ F
  b1 : bg ≤ bg'
  b2 : bg' ≤ n
  b3 : ∀ j, bg ≤ j → j < bg' → L j = F
  b4 : bg' < n → L bg' ≠ F
  cr : bg ≤ en'
  ms : bg + en < bg' + en'
  yes : a < F ∧ F < b → I4 n L U a b bg' en' (at_ ++ [F])
  no : ¬ (a < F ∧ F < b) → I4 n L U a b bg' en' at_
  fnd : (∃ i, i < n ∧ zh i = F) ∨ ((∀ i, i < n → zh i ≠ F) ∧ ∃ i, i < n ∧ zl i = F)

theorem step4 {n : Nat} {s : Nat → Nat} {zl zh L U : Nat → Int} (A : AZ n s zl zh L U) {a b : Int} {bg en : Nat} {at_ : List Int} (I : I4 n L U a b bg en at_) (hen : bg < n ∨ en < n) : ∃ F bg' en', S4 n zl zh L U a b bg en at_ F bg' en' := by
  have Ile := I.le
  rcases I.sh with ⟨he, hp⟩ | he
  · subst he
    have hn : en < n := by omega
    have l1 := A.lt en hn
    have hst : ∀ j, j < en → U j < L en := by
      intro j hj
      have h0 := hp (by omega) hn
      rcases Nat.lt_or_ge j (en - 1) with h | h
      · have := A.ua (i := j) (j := en - 1) h (by omega); omega
      · obtain rfl : j = en - 1 := by omega
        exact h0
    have hall : ∀ x, x ∈ at_ → x < L en := by
      intro x hx
      rcases ((I.mem x).1 hx).2.2 with ⟨j, hj, rfl⟩ | ⟨j, hj, rfl⟩
      · exact A.la hj hn
      · exact hst j hj
    have hne : ∀ j, j < n → U j ≠ L en := by
      intro j hj
      rcases Nat.lt_trichotomy j en with h | h | h
      · have := hst j h; omega
      · subst h; omega
      · have := A.ua h hj; omega
    refine ⟨L en, en + 1, en, hn, fun _ _ => rfl, fun h => absurd ⟨hn, l1⟩ h, Nat.le_refl _, by omega, fun j h1 h2 => by omega, fun _ => by omega, by omega, by omega, ?_, ?_, Nat.le_refl _, by omega, ?_, ?_, .inr ⟨?_, s en, A.s1 en hn, ?_⟩⟩
    · intro j h1 h2
      obtain rfl : j = en := by omega
      rfl
    · intro h; have := A.la (i := en) (j := en + 1) (by omega) h; omega
    · intro hin
      refine ⟨by omega, .inr rfl, ?_, ?_, ?_⟩
      · rw [List.pairwise_append]
        exact ⟨I.asc, List.pairwise_singleton _ _, fun x hx y hy => by rw [List.mem_singleton.1 hy]; exact hall x hx⟩
      · intro x
        rw [List.mem_append, List.mem_singleton, I.mem x]
        constructor
        · rintro (⟨q1, q2, ⟨j, hj, e⟩ | q3⟩ | rfl)
          · exact ⟨q1, q2, .inl ⟨j, by omega, e⟩⟩
          · exact ⟨q1, q2, .inr q3⟩
          · exact ⟨hin.1, hin.2, .inl ⟨en, by omega, rfl⟩⟩
        · rintro ⟨q1, q2, ⟨j, hj, e⟩ | q3⟩
          · rcases Nat.lt_or_ge j en with h | h
            · exact .inl ⟨q1, q2, .inl ⟨j, h, e⟩⟩
            · obtain rfl : j = en := by omega
              exact .inr e
          · exact .inl ⟨q1, q2, .inr q3⟩
      · have := I.len; simp; omega
    · intro hin
      refine ⟨by omega, .inr rfl, I.asc, ?_, by have := I.len; omega⟩
      intro x
      rw [I.mem x]
      constructor
      · rintro ⟨q1, q2, ⟨j, hj, e⟩ | q3⟩
        · exact ⟨q1, q2, .inl ⟨j, by omega, e⟩⟩
        · exact ⟨q1, q2, .inr q3⟩
      · rintro ⟨q1, q2, ⟨j, hj, e⟩ | q3⟩
        · rcases Nat.lt_or_ge j en with h | h
          · exact ⟨q1, q2, .inl ⟨j, h, e⟩⟩
          · obtain rfl : j = en := by omega
            exact absurd ⟨by omega, by omega⟩ hin
        · exact ⟨q1, q2, .inr q3⟩
    · intro i hi; rw [A.hi i hi]; exact hne _ (A.s1 i hi)
    · rw [A.lo _ (A.s1 en hn), A.s2 en hn]
  · subst he
    have hn : en < n := by omega
    have l1 := A.lt en hn
    have hall : ∀ x, x ∈ at_ → x < U en := by
      intro x hx
      rcases ((I.mem x).1 hx).2.2 with ⟨j, hj, rfl⟩ | ⟨j, hj, rfl⟩
      · rcases Nat.lt_or_ge j en with h | h
        · have := A.la h hn; omega
        · obtain rfl : j = en := by omega
          exact l1
      · exact A.ua hj hn
    have hf : ∃ i, i < n ∧ zh i = U en := ⟨s en, A.s1 en hn, by rw [A.hi _ (A.s1 en hn), A.s2 en hn]⟩
    have ne1 : en + 1 < n → U (en + 1) ≠ U en := fun h => by have := A.ua (i := en) (j := en + 1) (by omega) h; omega
    have g0 : ∀ j, en ≤ j → j < en + 1 → U j = U en := fun j h1 h2 => by
      obtain rfl : j = en := by omega
      rfl
    have q0 : en + 1 < n → L (en + 1) < U en → U en = L (en + 1) := fun h1 h2 => by have := A.nx en (en + 1) (by omega) h1; omega
    by_cases ht : en + 1 < n ∧ L (en + 1) = U en
    · refine ⟨U en, en + 1 + 1, en + 1, hn, q0, fun _ => rfl, by omega, by omega, g0, ne1, by omega, by omega, ?_, ?_, by omega, by omega, ?_, ?_, .inl hf⟩
      · intro j h1 h2
        obtain rfl : j = en + 1 := by omega
        exact ht.2
      · intro h; have := A.la (i := en + 1) (j := en + 1 + 1) (by omega) h; omega
      · intro hin
        refine ⟨by omega, .inr rfl, ?_, ?_, ?_⟩
        · rw [List.pairwise_append]
          exact ⟨I.asc, List.pairwise_singleton _ _, fun x hx y hy => by rw [List.mem_singleton.1 hy]; exact hall x hx⟩
        · intro x
          rw [List.mem_append, List.mem_singleton, I.mem x]
          constructor
          · rintro (⟨q1, q2, ⟨j, hj, e⟩ | ⟨j, hj, e⟩⟩ | rfl)
            · exact ⟨q1, q2, .inl ⟨j, by omega, e⟩⟩
            · exact ⟨q1, q2, .inr ⟨j, by omega, e⟩⟩
            · exact ⟨hin.1, hin.2, .inr ⟨en, by omega, rfl⟩⟩
          · rintro ⟨q1, q2, ⟨j, hj, e⟩ | ⟨j, hj, e⟩⟩
            · rcases Nat.lt_or_ge j (en + 1) with h | h
              · exact .inl ⟨q1, q2, .inl ⟨j, h, e⟩⟩
              · obtain rfl : j = en + 1 := by omega
                exact .inr (e.trans ht.2)
            · rcases Nat.lt_or_ge j en with h | h
              · exact .inl ⟨q1, q2, .inr ⟨j, h, e⟩⟩
              · obtain rfl : j = en := by omega
                exact .inr e
        · have := I.len; simp; omega
      · intro hin
        refine ⟨by omega, .inr rfl, I.asc, ?_, by have := I.len; omega⟩
        intro x
        rw [I.mem x]
        constructor
        · rintro ⟨q1, q2, ⟨j, hj, e⟩ | ⟨j, hj, e⟩⟩
          · exact ⟨q1, q2, .inl ⟨j, by omega, e⟩⟩
          · exact ⟨q1, q2, .inr ⟨j, by omega, e⟩⟩
        · rintro ⟨q1, q2, ⟨j, hj, e⟩ | ⟨j, hj, e⟩⟩
          · rcases Nat.lt_or_ge j (en + 1) with h | h
            · exact ⟨q1, q2, .inl ⟨j, h, e⟩⟩
            · obtain rfl : j = en + 1 := by omega
              exact absurd ⟨by omega, by omega⟩ hin
          · rcases Nat.lt_or_ge j en with h | h
            · exact ⟨q1, q2, .inr ⟨j, h, e⟩⟩
            · obtain rfl : j = en := by omega
              exact absurd ⟨by omega, by omega⟩ hin
    · refine ⟨U en, en + 1, en + 1, hn, q0, fun _ => rfl, by omega, by omega, g0, ne1, by omega, by omega, fun j h1 h2 => by omega, fun h e => ht ⟨h, e⟩, by omega, by omega, ?_, ?_, .inl hf⟩
      · intro hin
        refine ⟨by omega, .inl ⟨rfl, fun _ h => ?_⟩, ?_, ?_, ?_⟩
        · have h1 := A.nx en (en + 1) (by omega) h
          have h2 : ¬ L (en + 1) = U en := fun e => ht ⟨h, e⟩
          show U (en + 1 - 1) < L (en + 1)
          rw [Nat.add_sub_cancel]; omega
        · rw [List.pairwise_append]
          exact ⟨I.asc, List.pairwise_singleton _ _, fun x hx y hy => by rw [List.mem_singleton.1 hy]; exact hall x hx⟩
        · intro x
          rw [List.mem_append, List.mem_singleton, I.mem x]
          constructor
          · rintro (⟨q1, q2, ⟨j, hj, e⟩ | ⟨j, hj, e⟩⟩ | rfl)
            · exact ⟨q1, q2, .inl ⟨j, by omega, e⟩⟩
            · exact ⟨q1, q2, .inr ⟨j, by omega, e⟩⟩
            · exact ⟨hin.1, hin.2, .inr ⟨en, by omega, rfl⟩⟩
          · rintro ⟨q1, q2, ⟨j, hj, e⟩ | ⟨j, hj, e⟩⟩
            · exact .inl ⟨q1, q2, .inl ⟨j, hj, e⟩⟩
            · rcases Nat.lt_or_ge j en with h | h
              · exact .inl ⟨q1, q2, .inr ⟨j, h, e⟩⟩
              · obtain rfl : j = en := by omega
                exact .inr e
        · have := I.len; simp; omega
      · intro hin
        refine ⟨by omega, .inl ⟨rfl, fun _ h => ?_⟩, I.asc, ?_, by have := I.len; omega⟩
        · have h1 := A.nx en (en + 1) (by omega) h
          have h2 : ¬ L (en + 1) = U en := fun e => ht ⟨h, e⟩
          show U (en + 1 - 1) < L (en + 1)
          rw [Nat.add_sub_cancel]; omega
        intro x
        rw [I.mem x]
        constructor
        · rintro ⟨q1, q2, ⟨j, hj, e⟩ | ⟨j, hj, e⟩⟩
          · exact ⟨q1, q2, .inl ⟨j, by omega, e⟩⟩
          · exact ⟨q1, q2, .inr ⟨j, by omega, e⟩⟩
        · rintro ⟨q1, q2, ⟨j, hj, e⟩ | ⟨j, hj, e⟩⟩
          · exact ⟨q1, q2, .inl ⟨j, hj, e⟩⟩
          · rcases Nat.lt_or_ge j en with h | h
            · exact ⟨q1, q2, .inr ⟨j, h, e⟩⟩
            · obtain rfl : j = en := by omega
              exact absurd ⟨by omega, by omega⟩ hin
end Go.Proofs.Ybulkdaxu
