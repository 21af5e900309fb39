import Derived.Test.YbulkdaxuEvenP
namespace Go.Proofs.Ybulkdaxu
set_option linter.unusedSimpArgs false
set_option linter.unusedVariables false

/-- The zone has integer bounds, and every cut so far took at least one off its width. -/
structure ItI (s : St) (e : Nat → Nat) : Prop where
  ev : ∃ j, EvI s j e
  it : ∀ k, ∃ a b : Int, s.wl k = a * 2 ^ 45 ∧ s.wh k = b * 2 ^ 45 ∧ 0 ≤ a ∧ a < b ∧ b ≤ 16 ∧ b - a + 33 ≤ (e k : Int)

theorem ItI.split {s : St} {e : Nat → Nat} (h : ItI s e) (k : Nat) : ∃ v, e k = v + 1 ∧ s.mid k = s.el k + 2 ^ v ∧ s.eh k = s.el k + 2 * 2 ^ v ∧ (0 : Int) < 2 ^ v := by
  obtain ⟨a, b, h1, h2, h3, h4, h5, h6⟩ := h.it k
  obtain ⟨j, hj⟩ := h.ev
  obtain ⟨v, hv⟩ : ∃ v, e k = v + 1 := ⟨e k - 1, by omega⟩
  have hw := hj.w k
  rw [hv] at hw
  have hp : (2 : Int) ^ (v + 1) = 2 * 2 ^ v := by rw [Int.pow_succ]; omega
  exact ⟨v, hv, mid_of hw, by rw [hw, hp], ipow_pos v⟩

theorem ItI.next {d : Nat} {z A : Nat → Int} {j : Nat} {s : St} {e : Nat → Nat} (h : ItI s e) (hA : ∃ c : Int, A j = c * 2 ^ 45) (h1 : s.wl (j % d) < A j) (h2 : A j < s.wh (j % d)) : ∃ e', ItI (nxt d z A j s) e' := by
  obtain ⟨v, hv, hm, hw, hpos⟩ := h.split (j % d)
  obtain ⟨i, hi⟩ := h.ev
  obtain ⟨c, hc⟩ := hA
  refine ⟨upE e (j % d) v, ?_⟩
  obtain ⟨a, b, w1, w2, w3, w4, w5, w6⟩ := h.it (j % d)
  unfold nxt
  split
  · refine ⟨⟨_, hi.above hv hm hw _ _⟩, fun k => ?_⟩
    show ∃ a b : Int, up s.wl (j % d) (A j) k = a * 2 ^ 45 ∧ s.wh k = b * 2 ^ 45 ∧ 0 ≤ a ∧ a < b ∧ b ≤ 16 ∧ b - a + 33 ≤ (upE e (j % d) v k : Int)
    unfold up upE
    by_cases e : k = j % d
    · rw [if_pos e, if_pos e, e]
      exact ⟨c, b, hc, w2, by omega, by omega, by omega, by omega⟩
    · rw [if_neg e, if_neg e]; exact h.it k
  · refine ⟨⟨_, hi.under hv hm hw _ _⟩, fun k => ?_⟩
    show ∃ a b : Int, s.wl k = a * 2 ^ 45 ∧ up s.wh (j % d) (A j) k = b * 2 ^ 45 ∧ 0 ≤ a ∧ a < b ∧ b ≤ 16 ∧ b - a + 33 ≤ (upE e (j % d) v k : Int)
    unfold up upE
    by_cases e : k = j % d
    · rw [if_pos e, if_pos e, e]
      exact ⟨a, c, w1, hc, by omega, by omega, by omega, by omega⟩
    · rw [if_neg e, if_neg e]; exact h.it k

theorem st_zin {d : Nat} {z A : Nat → Int} (hz : ∀ k, 0 ≤ z k ∧ z k < 2 ^ 49) : ∀ j k, (stt d z A ev0 j).wl k ≤ z k ∧ z k < (stt d z A ev0 j).wh k := by
  intro j
  induction j with
  | zero => exact fun k => hz k
  | succ j ih =>
    intro k
    show (nxt d z A j (stt d z A ev0 j)).wl k ≤ z k ∧ z k < (nxt d z A j (stt d z A ev0 j)).wh k
    have := ih k
    unfold nxt
    split
    · rename_i h
      refine ⟨?_, this.2⟩
      show up _ _ _ k ≤ z k
      unfold up; split
      · rename_i e; subst e; exact h
      · exact this.1
    · rename_i h
      refine ⟨this.1, ?_⟩
      show z k < up _ _ _ k
      unfold up; split
      · rename_i e; subst e; omega
      · exact this.2
theorem st_qin {d : Nat} {z A q : Nat → Int} (hq : ∀ k, 0 ≤ q k ∧ q k < 2 ^ 49) : ∀ j, (∀ i, i < j → Agr d z A q ev0 i) → ∀ k, (stt d z A ev0 j).el k ≤ q k ∧ q k < (stt d z A ev0 j).eh k := by
  intro j
  induction j with
  | zero => exact fun _ k => hq k
  | succ j ih =>
    intro hag k
    show (nxt d z A j (stt d z A ev0 j)).el k ≤ q k ∧ q k < (nxt d z A j (stt d z A ev0 j)).eh k
    have h1 := ih (fun i hi => hag i (by omega)) k
    have h2 := hag j (by omega)
    unfold Agr at h2
    unfold nxt
    split
    · rename_i h
      refine ⟨?_, h1.2⟩
      show up _ _ _ k ≤ q k
      unfold up; split
      · rename_i e; subst e; exact h2.1 h
      · exact h1.1
    · rename_i h
      have h3 : ¬ (stt d z A ev0 j).mid (j % d) ≤ q (j % d) := fun x => h (h2.2 x)
      refine ⟨h1.1, ?_⟩
      show q k < up _ _ _ k
      unfold up; split
      · rename_i e; subst e; omega
      · exact h1.2

theorem st_inv {d : Nat} {z A : Nat → Int} (hA : ∀ i, ∃ c : Int, A i = c * 2 ^ 45) : ∀ j, (∀ i, i < j → Okk d z A ev0 i) → ∃ e, ItI (stt d z A ev0 j) e := by
  intro j
  induction j with
  | zero =>
    intro _
    refine ⟨fun _ => 49, ⟨0, fun k => by show (2 : Int) ^ 49 = 0 + 2 ^ 49; omega, fun _ => Nat.le_refl _, fun _ => by omega, fun _ => Int.le_refl _, fun _ => Int.le_refl _, fun _ => ⟨0, by show (0 : Int) = 0 * _; rw [Int.zero_mul]⟩⟩, fun k => ⟨0, 16, ?_, ?_, by omega, by omega, by omega, by omega⟩⟩
    · show (0 : Int) = 0 * 2 ^ 45; omega
    · show (2 : Int) ^ 49 = 16 * 2 ^ 45; omega
  | succ j ih =>
    intro hok
    obtain ⟨e, h⟩ := ih (fun i hi => hok i (by omega))
    have := hok j (by omega)
    exact h.next (hA j) this.1 this.2

theorem st_fine {d : Nat} {z A : Nat → Int} (hz : ∀ k, 0 ≤ z k ∧ z k < 2 ^ 49) (hA : ∀ i, ∃ c : Int, A i = c * 2 ^ 45) {j : Nat} (hok : ∀ i, i < j → Okk d z A ev0 i) : Fine d z (stt d z A ev0 j) j := by
  obtain ⟨e, h⟩ := st_inv hA j hok
  obtain ⟨v, hv, hm, hw, hpos⟩ := h.split (j % d)
  obtain ⟨i, hi⟩ := h.ev
  refine ⟨fun k _ => ?_, fun k _ => ?_, fun k _ => st_zin hz j k, fun k _ => ?_, by rw [hm]; omega, by rw [hm, hw]; omega⟩
  · obtain ⟨a, b, h1, h2, h3, h4, h5, h6⟩ := h.it k
    rw [h1]; exact ⟨by omega, by omega⟩
  · obtain ⟨a, b, h1, h2, h3, h4, h5, h6⟩ := h.it k
    rw [h2]; exact ⟨by omega, by omega⟩
  · have := hi.lo k; have := hi.hi k; have := hi.w k; have := ipow_pos (e k)
    exact ⟨by omega, by omega, by omega⟩

/-- p is the unfolded point at the cut m. -/
def PU (d : Nat) (z A q : Nat → Int) (m : Nat) (p : Nat → Int) : Prop :=
  ∃ u pr s, Unf d q (partLo d q (stt d z A ev0 m) m) (partHi d q (stt d z A ev0 m) m) (keptLo d z A (stt d z A ev0 m) m) (keptHi d z A (stt d z A ev0 m) m) u pr s ∧ ∀ k, k < d → keptLo d z A (stt d z A ev0 m) m k + pr k = p k
theorem PU.bd {d : Nat} {z A q : Nat → Int} {m : Nat} {p : Nat → Int} (h : PU d z A q m p) {k : Nat} (hk : k < d) : keptLo d z A (stt d z A ev0 m) m k ≤ p k ∧ p k < keptHi d z A (stt d z A ev0 m) m k := by
  obtain ⟨u, pr, s, hU, hp⟩ := h
  have := hU.p0 k hk
  rw [← hp k hk]
  omega

theorem st_unf {d : Nat} {z q A : Nat → Int} (hz : ∀ k, 0 ≤ z k ∧ z k < 2 ^ 49) (hq : ∀ k, 0 ≤ q k ∧ q k < 2 ^ 49) (hqm : ∀ k, ∃ m : Int, q k = m * 2 ^ 45) (hA : ∀ i, ∃ c : Int, A i = c * 2 ^ 45) {j : Nat} (hok : ∀ i, i ≤ j → Okk d z A ev0 i)
    (hag : ∀ i, i < j → Agr d z A q ev0 i) : ∃ p, PU d z A q j p := by
  obtain ⟨e, h⟩ := st_inv (d := d) (z := z) hA j (fun i hi => hok i (by omega))
  obtain ⟨v, hv, hm, hw, hpos⟩ := h.split (j % d)
  obtain ⟨i0, hi⟩ := h.ev
  have hin := st_qin (d := d) (z := z) (A := A) hq j hag
  have key : ∃ s' : St, EvI s' (i0 + 1) (upE e (j % d) v) ∧ partLo d q (stt d z A ev0 j) j = s'.el ∧ partHi d q (stt d z A ev0 j) j = s'.eh ∧ ∀ k, s'.el k ≤ q k ∧ q k < s'.eh k := by
    unfold partLo partHi
    by_cases hc : (stt d z A ev0 j).mid (j % d) ≤ q (j % d)
    · simp only [if_pos hc]
      refine ⟨_, hi.above hv hm hw (fun _ => 0) (fun _ => 0), rfl, rfl, fun k => ⟨?_, (hin k).2⟩⟩
      show up _ _ _ k ≤ q k
      unfold up; split
      · rename_i ek; subst ek; exact hc
      · exact (hin k).1
    · simp only [if_neg hc]
      refine ⟨_, hi.under hv hm hw (fun _ => 0) (fun _ => 0), rfl, rfl, fun k => ⟨(hin k).1, ?_⟩⟩
      show q k < up _ _ _ k
      unfold up; split
      · rename_i ek; subst ek; omega
      · exact (hin k).2
  have kept : ∀ k, ∃ a b : Int, keptLo d z A (stt d z A ev0 j) j k = a * 2 ^ 45 ∧ keptHi d z A (stt d z A ev0 j) j k = b * 2 ^ 45 ∧ 0 ≤ a ∧ a < b ∧ b ≤ 16 := by
    intro k
    obtain ⟨c, hc⟩ := hA j
    obtain ⟨o1, o2⟩ := hok j (Nat.le_refl _)
    obtain ⟨a, b, w1, w2, w3, w4, w5, w6⟩ := h.it k
    unfold keptLo keptHi
    by_cases hcz : A j ≤ z (j % d)
    · rw [if_pos hcz, if_pos hcz]
      unfold up
      by_cases ek : k = j % d
      · subst ek
        rw [if_pos rfl]
        exact ⟨a, c, w1, hc, by omega, by omega, by omega⟩
      · rw [if_neg ek]
        exact ⟨a, b, w1, w2, by omega, by omega, by omega⟩
    · rw [if_neg hcz, if_neg hcz]
      unfold up
      by_cases ek : k = j % d
      · subst ek
        rw [if_pos rfl]
        exact ⟨c, b, hc, w2, by omega, by omega, by omega⟩
      · rw [if_neg ek]
        exact ⟨a, b, w1, w2, by omega, by omega, by omega⟩
  obtain ⟨s', hI, p1, p2, hqi⟩ := key
  unfold PU
  rw [p1, p2]
  generalize keptLo d z A (stt d z A ev0 j) j = kl at *
  generalize keptHi d z A (stt d z A ev0 j) j = kh at *
  have hu : ∀ k, ∃ u : Int, (q k - s'.el k) * 2 ^ 45 = u * 2 ^ upE e (j % d) v k := fun k => div_ex (hI.le k) (hqm k) (hI.mul k)
  have hub : ∀ k, 0 ≤ Classical.choose (hu k) ∧ Classical.choose (hu k) < 2 ^ 45 := by
    intro k
    have hc := Classical.choose_spec (hu k)
    have hp := ipow_pos (upE e (j % d) v k)
    have h3 := hqi k
    have h4 := hI.w k
    generalize Classical.choose (hu k) = u at hc ⊢
    have h45 := ipow_pos 45
    constructor
    · apply Decidable.byContradiction
      intro hneg
      have := Int.mul_neg_of_neg_of_pos (show u < 0 by omega) hp
      have := Int.mul_nonneg (show 0 ≤ q k - s'.el k by omega) (Int.le_of_lt h45)
      omega
    · apply Decidable.byContradiction
      intro hge
      have a1 : (2 : Int) ^ 45 * 2 ^ upE e (j % d) v k ≤ u * 2 ^ upE e (j % d) v k := Int.mul_le_mul_of_nonneg_right (by omega) (Int.le_of_lt hp)
      have a2 : (q k - s'.el k) * 2 ^ 45 < 2 ^ upE e (j % d) v k * 2 ^ 45 := Int.mul_lt_mul_of_pos_right (by omega) h45
      rw [Int.mul_comm (2 ^ 45)] at a1
      omega
  have hW : ∀ k, ∃ w : Int, kh k - kl k = w * 2 ^ 45 ∧ 0 < w ∧ 0 ≤ kl k ∧ kh k ≤ 2 ^ 49 := fun k => by
    obtain ⟨a, b, k1, k2, k3, k4, k5⟩ := kept k
    exact ⟨b - a, by rw [k1, k2]; omega, by omega, by omega, by omega⟩
  refine ⟨_, fun k => Classical.choose (hu k), fun k => Classical.choose (hu k) * Classical.choose (hW k), upE e (j % d) v, ⟨fun k _ => by have := hI.le k; omega, fun k _ => by have := hI.w k; omega, fun k _ => (hqi k).1, fun k _ => Classical.choose_spec (hu k), fun k _ => hub k, fun k _ => ?_, fun k _ => ?_, fun k _ => ?_⟩, fun k _ => rfl⟩
  · show _ * (kh k - kl k) = _ * _ * 2 ^ 45
    have hc := (Classical.choose_spec (hW k)).1
    generalize Classical.choose (hW k) = w at hc ⊢
    rw [hc, Int.mul_assoc]
  · have hc := Classical.choose_spec (hW k)
    have hb := hub k
    show 0 ≤ _ * _ ∧ kl k + _ * _ < kh k
    generalize Classical.choose (hW k) = w at hc ⊢
    generalize Classical.choose (hu k) = u at hb ⊢
    have h1 := Int.mul_nonneg hb.1 (Int.le_of_lt hc.2.1)
    have h2 := Int.mul_lt_mul_of_pos_right hb.2 hc.2.1
    rw [Int.mul_comm (2 ^ 45)] at h2
    omega
  · have hc := Classical.choose_spec (hW k)
    have := hI.lo k; have := hI.hi k; have := hqi k; have := (hq k).2
    exact ⟨by omega, by omega, by omega, by omega, by omega⟩

theorem stP_ex (d : Nat) (z A q : Nat → Int) : ∃ st : Nat → Nat → Int, ∀ m, (∃ p, PU d z A q m p) → PU d z A q m (st m) := by
  have h : ∀ m, ∃ p : Nat → Int, (∃ p, PU d z A q m p) → PU d z A q m p := fun m => by
    by_cases e : ∃ p, PU d z A q m p
    · obtain ⟨p, hp⟩ := e
      exact ⟨p, fun _ => hp⟩
    · exact ⟨fun _ => 0, fun x => absurd x e⟩
  exact ⟨fun m => Classical.choose (h m), fun m => Classical.choose_spec (h m)⟩

/-! The law's own loop, in integers. -/
structure It where
  wl : Nat → Int
  wh : Nat → Int
  el : Nat → Int
  eh : Nat → Int
def It.st (s : It) : St := { wl := fun k => s.wl k * 2 ^ 45, wh := fun k => s.wh k * 2 ^ 45, el := s.el, eh := s.eh }
def It.mid (s : It) (k : Nat) : Int := s.el k + (s.eh k - s.el k) / 2
def cutI (r : Nat → Int) (s : It) (k j : Nat) : Int := s.wl k + 1 + r j % (s.wh k - s.wl k - 1)
def itN (d : Nat) (z : Nat → Int) (c : Int) (j : Nat) (s : It) : It :=
  if c * 2 ^ 45 ≤ z (j % d) then { wl := up s.wl (j % d) c, wh := s.wh, el := up s.el (j % d) (s.mid (j % d)), eh := s.eh }
  else { wl := s.wl, wh := up s.wh (j % d) c, el := s.el, eh := up s.eh (j % d) (s.mid (j % d)) }
def itT (d : Nat) (z r : Nat → Int) : Nat → It
  | 0 => { wl := fun _ => 0, wh := fun _ => 16, el := fun _ => 0, eh := fun _ => 2 ^ 49 }
  | j + 1 => itN d z (cutI r (itT d z r j) (j % d) j) j (itT d z r j)
def itA (d : Nat) (z r : Nat → Int) (j : Nat) : Int := cutI r (itT d z r j) (j % d) j
def OkI (d : Nat) (z r : Nat → Int) (i : Nat) : Prop := (itT d z r i).wl (i % d) < itA d z r i ∧ itA d z r i < (itT d z r i).wh (i % d)
def AgI (d : Nat) (z r q : Nat → Int) (i : Nat) : Prop := itA d z r i * 2 ^ 45 ≤ z (i % d) ↔ (itT d z r i).mid (i % d) ≤ q (i % d)

theorem up_mul (x : Nat → Int) (k : Nat) (c : Int) : up (fun i => x i * 2 ^ 45) k (c * 2 ^ 45) = fun i => up x k c i * 2 ^ 45 := by
  funext i; unfold up; split <;> rfl
theorem stt_itT {d : Nat} {z A r : Nat → Int} {j : Nat} (h : ∀ i, i < j → A i = itA d z r i * 2 ^ 45) : stt d z A ev0 j = (itT d z r j).st := by
  induction j with
  | zero =>
    show ev0 = It.st _
    unfold ev0 itT It.st
    congr 1 <;> (funext k; show _ = (_ : Int) * 2 ^ 45; omega)
  | succ j ih =>
    have e := ih (fun i hi => h i (by omega))
    have hA := h j (by omega)
    show nxt d z A j (stt d z A ev0 j) = (itN d z (cutI r (itT d z r j) (j % d) j) j (itT d z r j)).st
    rw [e]
    unfold nxt itN
    rw [hA]
    unfold itA
    split
    · show St.mk _ _ _ _ = St.mk _ _ _ _
      congr 1
      exact up_mul _ _ _
    · show St.mk _ _ _ _ = St.mk _ _ _ _
      congr 1
      exact up_mul _ _ _

theorem okk_of {d : Nat} {z A r : Nat → Int} {i : Nat} (h : ∀ i', i' ≤ i → A i' = itA d z r i' * 2 ^ 45) : Okk d z A ev0 i ↔ OkI d z r i := by
  unfold Okk OkI
  rw [stt_itT (fun i' hi' => h i' (by omega)), h i (Nat.le_refl _)]
  show (itT d z r i).wl (i % d) * 2 ^ 45 < itA d z r i * 2 ^ 45 ∧ itA d z r i * 2 ^ 45 < (itT d z r i).wh (i % d) * 2 ^ 45 ↔ _
  omega
theorem agr_of {d : Nat} {z A r q : Nat → Int} {i : Nat} (h : ∀ i', i' ≤ i → A i' = itA d z r i' * 2 ^ 45) : Agr d z A q ev0 i ↔ AgI d z r q i := by
  unfold Agr AgI
  rw [stt_itT (fun i' hi' => h i' (by omega)), h i (Nat.le_refl _)]
  exact Iff.rfl
theorem it_inv {d : Nat} {z r : Nat → Int} {j : Nat} (h : ∀ i, i < j → OkI d z r i) : ∃ e, ItI (itT d z r j).st e := by
  have hs : stt d z (fun i => itA d z r i * 2 ^ 45) ev0 j = (itT d z r j).st := stt_itT (fun _ _ => rfl)
  rw [← hs]
  exact st_inv (fun i => ⟨_, rfl⟩) j (fun i hi => (okk_of (fun _ _ => rfl)).2 (h i hi))
/-- The bounds that the walk needs at the cut j. -/
theorem it_bd {d : Nat} {z r : Nat → Int} {j : Nat} (h : ∀ i, i < j → OkI d z r i) (k : Nat) : 0 ≤ (itT d z r j).wl k ∧ (itT d z r j).wl k < (itT d z r j).wh k ∧ (itT d z r j).wh k ≤ 16 ∧
    ∃ v : Int, 0 < v ∧ (itT d z r j).mid k = (itT d z r j).el k + v ∧ (itT d z r j).eh k = (itT d z r j).el k + 2 * v ∧ 0 ≤ (itT d z r j).el k ∧ (itT d z r j).eh k ≤ 2 ^ 49 := by
  obtain ⟨e, hI⟩ := it_inv h
  obtain ⟨a, b, w1, w2, w3, w4, w5, w6⟩ := hI.it k
  obtain ⟨v, hv, hm, hw, hpos⟩ := hI.split k
  obtain ⟨i, hi⟩ := hI.ev
  have w1' : (itT d z r j).wl k * 2 ^ 45 = a * 2 ^ 45 := w1
  have w2' : (itT d z r j).wh k * 2 ^ 45 = b * 2 ^ 45 := w2
  exact ⟨by omega, by omega, by omega, 2 ^ v, hpos, hm, hw, hi.lo k, hi.hi k⟩
theorem okI_of {d : Nat} {z r : Nat → Int} {j : Nat} (hr : 0 ≤ r j) (hw : 2 ≤ (itT d z r j).wh (j % d) - (itT d z r j).wl (j % d)) : OkI d z r j := by
  unfold OkI itA cutI
  have h1 := Int.emod_nonneg (r j) (show (itT d z r j).wh (j % d) - (itT d z r j).wl (j % d) - 1 ≠ 0 by omega)
  have h2 := Int.emod_lt_of_pos (r j) (show 0 < (itT d z r j).wh (j % d) - (itT d z r j).wl (j % d) - 1 by omega)
  omega

/-- The walk ended without a divergence. -/
theorem it_no {d n J m : Nat} {z A r q : Nat → Int} (hA : ∀ i, i < J → A i = itA d z r i * 2 ^ 45) (hJ : J = n ∨ ¬ Okk d z A ev0 J) (hag : ∀ i, i < J → AgI d z r q i)
    (hm : m < n) (hok : ∀ i, i ≤ m → Okk d z A ev0 i) (hna : ¬ Agr d z A q ev0 m) : False := by
  have hmJ : m < J := by
    rcases hJ with h | h
    · omega
    · apply Decidable.byContradiction
      intro x
      exact h (hok J (by omega))
  exact hna ((agr_of (fun i hi => hA i (by omega))).2 (hag m hmJ))
/-- The walk diverged at the cut j. -/
theorem it_yes {d n j m : Nat} {z A r q : Nat → Int} (hj : j < n) (hA : ∀ i, i ≤ j → A i = itA d z r i * 2 ^ 45) (hok : ∀ i, i ≤ j → OkI d z r i) (hna : ¬ AgI d z r q j) (hS : StepS d n z A ev0 m) (hag : ∀ i, i < m → Agr d z A q ev0 i) : False := by
  have hmj : m ≤ j := by
    apply Decidable.byContradiction
    intro h
    exact hna ((agr_of hA).1 (hag j (by omega)))
  rcases hS.2 with h | ⟨_, h⟩
  · omega
  · exact h ((okk_of (fun i hi => hA i (by omega))).2 (hok m hmj))
theorem it_at {d j m : Nat} {z A r q : Nat → Int} (hA : ∀ i, i ≤ j → A i = itA d z r i * 2 ^ 45) (hag : ∀ i, i < j → AgI d z r q i) (hna : ¬ AgI d z r q j) (hag' : ∀ i, i < m → Agr d z A q ev0 i) (hna' : ¬ Agr d z A q ev0 m) : m = j := by
  rcases Nat.lt_trichotomy m j with h | h | h
  · exact (hna' ((agr_of (fun i hi => hA i (by omega))).2 (hag m h))).elim
  · exact h
  · exact (hna ((agr_of hA).1 (hag' j h))).elim
end Go.Proofs.Ybulkdaxu
