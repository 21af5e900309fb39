import Derived.Test.YbulkdaxuSide
namespace Go.Proofs.Ybulkdaxu
set_option linter.unusedSimpArgs false
set_option linter.unusedVariables false

def ev0 : St := { wl := fun _ => 0, wh := fun _ => 2 ^ 49, el := fun _ => 0, eh := fun _ => 2 ^ 49 }
/-- The even zones on the way to z, each cut in the middle. -/
def evT (d : Nat) (z : Nat → Int) : Nat → St
  | 0 => ev0
  | j + 1 => if (evT d z j).mid (j % d) ≤ z (j % d) then { wl := up (evT d z j).el (j % d) ((evT d z j).mid (j % d)), wh := (evT d z j).eh, el := up (evT d z j).el (j % d) ((evT d z j).mid (j % d)), eh := (evT d z j).eh }
    else { wl := (evT d z j).el, wh := up (evT d z j).eh (j % d) ((evT d z j).mid (j % d)), el := (evT d z j).el, eh := up (evT d z j).eh (j % d) ((evT d z j).mid (j % d)) }
def evA (d : Nat) (z : Nat → Int) (j : Nat) : Int := (evT d z j).mid (j % d)

theorem evT_succ (d : Nat) (z : Nat → Int) (j : Nat) : evT d z (j + 1) = if (evT d z j).mid (j % d) ≤ z (j % d) then { wl := up (evT d z j).el (j % d) ((evT d z j).mid (j % d)), wh := (evT d z j).eh, el := up (evT d z j).el (j % d) ((evT d z j).mid (j % d)), eh := (evT d z j).eh }
    else { wl := (evT d z j).el, wh := up (evT d z j).eh (j % d) ((evT d z j).mid (j % d)), el := (evT d z j).el, eh := up (evT d z j).eh (j % d) ((evT d z j).mid (j % d)) } := rfl
theorem evT_same (d : Nat) (z : Nat → Int) (j : Nat) : (evT d z j).wl = (evT d z j).el ∧ (evT d z j).wh = (evT d z j).eh := by
  cases j with
  | zero => exact ⟨rfl, rfl⟩
  | succ j => unfold evT; split <;> exact ⟨rfl, rfl⟩

/-- Where the cuts are the middles, the walk's zones are the even zones. -/
theorem stt_evT {d : Nat} {z A : Nat → Int} {j : Nat} (h : ∀ i, i < j → A i = evA d z i) : stt d z A ev0 j = evT d z j := by
  induction j with
  | zero => rfl
  | succ j ih =>
    have e := ih (fun i hi => h i (by omega))
    have hA := h j (by omega)
    obtain ⟨h1, h2⟩ := evT_same d z j
    show nxt d z A j (stt d z A ev0 j) = _
    rw [e, evT_succ]
    unfold nxt
    rw [hA]
    unfold evA
    rw [h1, h2]

/-- What is true of an even zone after j cuts. -/
structure EvI (s : St) (j : Nat) (e : Nat → Nat) : Prop where
  w : ∀ k, s.eh k = s.el k + 2 ^ e k
  le : ∀ k, e k ≤ 49
  ge : ∀ k, 49 ≤ e k + j
  lo : ∀ k, 0 ≤ s.el k
  hi : ∀ k, s.eh k ≤ 2 ^ 49
  mul : ∀ k, ∃ t : Int, s.el k = t * 2 ^ e k

theorem mid_of {s : St} {k e : Nat} (h : s.eh k = s.el k + 2 ^ (e + 1)) : s.mid k = s.el k + 2 ^ e := by
  unfold St.mid
  have : (2 : Int) ^ (e + 1) = 2 * 2 ^ e := by rw [Int.pow_succ]; omega
  rw [h, this]
  omega

def upE (e : Nat → Nat) (k : Nat) (v : Nat) : Nat → Nat := fun i => if i = k then v else e i

theorem EvI.split {s : St} {j k : Nat} {e : Nat → Nat} (h : EvI s j e) (hj : j ≤ 47) : ∃ v, e k = v + 1 ∧ s.mid k = s.el k + 2 ^ v ∧ s.eh k = s.el k + 2 * 2 ^ v ∧ (0 : Int) < 2 ^ v := by
  obtain ⟨v, hv⟩ : ∃ v, e k = v + 1 := ⟨e k - 1, by have := h.ge k; omega⟩
  have hw := h.w k
  rw [hv] at hw
  have hp : (2 : Int) ^ (v + 1) = 2 * 2 ^ v := by rw [Int.pow_succ]; omega
  exact ⟨v, hv, mid_of hw, by rw [hw, hp], ipow_pos v⟩
theorem EvI.above {s : St} {j k : Nat} {e : Nat → Nat} (h : EvI s j e) {v : Nat} (hv : e k = v + 1) (hm : s.mid k = s.el k + 2 ^ v) (hw : s.eh k = s.el k + 2 * 2 ^ v) (wl wh : Nat → Int) : EvI { wl := wl, wh := wh, el := up s.el k (s.mid k), eh := s.eh } (j + 1) (upE e k v) := by
  have hpos := ipow_pos v
  have hlo := h.lo k
  obtain ⟨t, ht⟩ := h.mul k
  have hp : (2 : Int) ^ (v + 1) = 2 * 2 ^ v := by rw [Int.pow_succ]; omega
  refine ⟨fun i => ?_, fun i => ?_, fun i => ?_, fun i => ?_, fun i => ?_, fun i => ?_⟩
  · show s.eh i = up _ _ _ i + 2 ^ upE e k v i
    unfold up upE
    split
    · rename_i ek; subst ek; rw [hw, hm]; omega
    · exact h.w i
  · unfold upE; split
    · have := h.le k; omega
    · exact h.le i
  · unfold upE; split
    · have := h.ge k; omega
    · have := h.ge i; omega
  · show 0 ≤ up _ _ _ i
    unfold up; split
    · rw [hm]; omega
    · exact h.lo i
  · exact h.hi i
  · show ∃ t : Int, up _ _ _ i = t * 2 ^ upE e k v i
    unfold up upE
    split
    · refine ⟨2 * t + 1, ?_⟩
      rw [hm, ht, hv, hp, Int.add_mul, Int.one_mul, Int.mul_comm 2 t, Int.mul_assoc]
    · exact h.mul i
theorem EvI.under {s : St} {j k : Nat} {e : Nat → Nat} (h : EvI s j e) {v : Nat} (hv : e k = v + 1) (hm : s.mid k = s.el k + 2 ^ v) (hw : s.eh k = s.el k + 2 * 2 ^ v) (wl wh : Nat → Int) : EvI { wl := wl, wh := wh, el := s.el, eh := up s.eh k (s.mid k) } (j + 1) (upE e k v) := by
  have hpos := ipow_pos v
  have hlo := h.lo k
  have hhi := h.hi k
  obtain ⟨t, ht⟩ := h.mul k
  have hp : (2 : Int) ^ (v + 1) = 2 * 2 ^ v := by rw [Int.pow_succ]; omega
  refine ⟨fun i => ?_, fun i => ?_, fun i => ?_, fun i => ?_, fun i => ?_, fun i => ?_⟩
  · show up _ _ _ i = s.el i + 2 ^ upE e k v i
    unfold up upE
    split
    · rename_i ek; subst ek; exact hm
    · exact h.w i
  · unfold upE; split
    · have := h.le k; omega
    · exact h.le i
  · unfold upE; split
    · have := h.ge k; omega
    · have := h.ge i; omega
  · exact h.lo i
  · show up _ _ _ i ≤ 2 ^ 49
    unfold up; split
    · rw [hm]; omega
    · exact h.hi i
  · show ∃ t : Int, s.el i = t * 2 ^ upE e k v i
    unfold upE
    split
    · rename_i ek; subst ek
      exact ⟨2 * t, by rw [ht, hv, hp, ← Int.mul_assoc, Int.mul_comm t 2]⟩
    · exact h.mul i

theorem evI (d : Nat) (z : Nat → Int) : ∀ j, j ≤ 48 → ∃ e, EvI (evT d z j) j e := by
  intro j
  induction j with
  | zero =>
    intro _
    exact ⟨fun _ => 49, fun k => by show (2 : Int) ^ 49 = 0 + 2 ^ 49; omega, fun _ => Nat.le_refl _, fun _ => by omega, fun _ => Int.le_refl _, fun _ => Int.le_refl _, fun _ => ⟨0, by show (0 : Int) = 0 * _; rw [Int.zero_mul]⟩⟩
  | succ j ih =>
    intro hj
    obtain ⟨e, h⟩ := ih (by omega)
    obtain ⟨v, hv, hm, hw, hpos⟩ := h.split (k := j % d) (by omega)
    refine ⟨upE e (j % d) v, ?_⟩
    rw [evT_succ]
    split
    · exact h.above hv hm hw _ _
    · exact h.under hv hm hw _ _

/-- z lies in its own even zone. -/
theorem ev_ins {d : Nat} {z q : Nat → Int} (hq : ∀ k, 0 ≤ q k ∧ q k < 2 ^ 49) : ∀ j, (∀ i, i < j → (evA d z i ≤ z (i % d) ↔ evA d z i ≤ q (i % d))) → ∀ k, (evT d z j).el k ≤ q k ∧ q k < (evT d z j).eh k := by
  intro j
  induction j with
  | zero => exact fun _ k => hq k
  | succ j ih =>
    intro h k
    have h1 := ih (fun i hi => h i (by omega)) k
    have h2 := h j (by omega)
    unfold evA at h2
    rw [evT_succ]
    split
    · rename_i hz
      have h3 := h2.1 hz
      refine ⟨?_, h1.2⟩
      show up _ _ _ k ≤ q k
      unfold up; split
      · rename_i e; subst e; exact h3
      · exact h1.1
    · rename_i hz
      have h3 : ¬ (evT d z j).mid (j % d) ≤ q (j % d) := fun x => hz (h2.2 x)
      refine ⟨h1.1, ?_⟩
      show q k < up _ _ _ k
      unfold up; split
      · rename_i e; subst e; omega
      · exact h1.2

theorem ev_fine {d : Nat} {z : Nat → Int} (hz : ∀ k, 0 ≤ z k ∧ z k < 2 ^ 49) {j : Nat} (hj : j ≤ 47) : Fine d z (evT d z j) j := by
  obtain ⟨e, h⟩ := evI d z j (by omega)
  obtain ⟨v, hv, hm, hw, hpos⟩ := h.split (k := j % d) (by omega)
  have hin := ev_ins (d := d) (z := z) (q := z) hz j (fun i _ => Iff.rfl)
  obtain ⟨h1, h2⟩ := evT_same d z j
  have hb : ∀ k, 0 ≤ (evT d z j).el k ∧ (evT d z j).el k ≤ (evT d z j).eh k ∧ (evT d z j).eh k ≤ 2 ^ 49 := fun k => ⟨h.lo k, by have := h.w k; have := ipow_pos (e k); omega, h.hi k⟩
  refine ⟨fun k _ => ?_, fun k _ => ?_, fun k _ => ?_, fun k _ => ?_, by rw [hm]; omega, by rw [hm, hw]; omega⟩
  · rw [h1]; have := hb k; exact ⟨by omega, by omega⟩
  · rw [h2]; have := hb k; exact ⟨by omega, by omega⟩
  · rw [h1, h2]; exact hin k
  · have := hb k; exact ⟨by omega, by omega, by omega⟩

theorem ev_ok {d : Nat} {z A : Nat → Int} {j : Nat} (hj : j ≤ 47) (hA : ∀ i, i ≤ j → A i = evA d z i) : Okk d z A ev0 j := by
  obtain ⟨e, h⟩ := evI d z j (by omega)
  obtain ⟨v, hv, hm, hw, hpos⟩ := h.split (k := j % d) (by omega)
  obtain ⟨h1, h2⟩ := evT_same d z j
  unfold Okk
  rw [stt_evT (fun i hi => hA i (by omega)), h1, h2, hA j (Nat.le_refl _)]
  unfold evA
  rw [hm, hw]
  omega

theorem div_ex {q x : Int} {e : Nat} (he : e ≤ 49) (hq : ∃ m : Int, q = m * 2 ^ 45) (hx : ∃ t : Int, x = t * 2 ^ e) : ∃ u : Int, (q - x) * 2 ^ 45 = u * 2 ^ e := by
  obtain ⟨m, rfl⟩ := hq
  obtain ⟨t, rfl⟩ := hx
  refine ⟨m * 2 ^ (90 - e) - t * 2 ^ 45, ?_⟩
  rw [Int.sub_mul, Int.sub_mul, Int.mul_assoc, ← Int.pow_add, Int.mul_assoc m, ← Int.pow_add, Int.mul_right_comm]
  congr 3
  omega

theorem ev_unf {d : Nat} {z q A : Nat → Int} (hz : ∀ k, 0 ≤ z k ∧ z k < 2 ^ 49) (hq : ∀ k, 0 ≤ q k ∧ q k < 2 ^ 49) (hqm : ∀ k, ∃ m : Int, q k = m * 2 ^ 45) {j : Nat} (hj : j ≤ 47) (hA : ∀ i, i ≤ j → A i = evA d z i)
    (hag : ∀ i, i < j → Agr d z A q ev0 i) (hna : ¬ Agr d z A q ev0 j) :
    ∃ u pr s, Unf d q (partLo d q (stt d z A ev0 j) j) (partHi d q (stt d z A ev0 j) j) (keptLo d z A (stt d z A ev0 j) j) (keptHi d z A (stt d z A ev0 j) j) u pr s ∧ ∀ k, k < d → keptLo d z A (stt d z A ev0 j) j k + pr k = q k := by
  obtain ⟨e, h⟩ := evI d z j (by omega)
  obtain ⟨v, hv, hm, hw, hpos⟩ := h.split (k := j % d) (by omega)
  obtain ⟨h1, h2⟩ := evT_same d z j
  have hst : ∀ i, i ≤ j → stt d z A ev0 i = evT d z i := fun i hi => stt_evT (fun i' hi' => hA i' (by omega))
  have hin := ev_ins (d := d) (z := z) hq j (fun i hi => by
    have := hag i hi
    unfold Agr at this
    rw [hst i (by omega), hA i (by omega)] at this
    exact this)
  unfold Agr at hna
  rw [hst j (Nat.le_refl _)] at hna ⊢
  have hAj := hA j (Nat.le_refl _)
  rw [hAj] at hna
  unfold evA at hna hAj
  -- the other part is q's even part
  have key : ∃ s' : St, EvI s' (j + 1) (upE e (j % d) v) ∧ partLo d q (evT d z j) j = s'.el ∧ partHi d q (evT d z j) j = s'.eh ∧ keptLo d z A (evT d z j) j = s'.el ∧ keptHi d z A (evT d z j) j = s'.eh ∧ ∀ k, s'.el k ≤ q k ∧ q k < s'.eh k := by
    unfold partLo partHi keptLo keptHi
    rw [hAj]
    by_cases hc : (evT d z j).mid (j % d) ≤ q (j % d)
    · have hz' : ¬ (evT d z j).mid (j % d) ≤ z (j % d) := fun x => hna ⟨fun _ => hc, fun _ => x⟩
      simp only [if_pos hc, if_neg hz']
      refine ⟨_, h.above hv hm hw (fun _ => 0) (fun _ => 0), rfl, rfl, by rw [h1], h2, fun k => ⟨?_, (hin k).2⟩⟩
      show up _ _ _ k ≤ q k
      unfold up; split
      · rename_i ek; subst ek; exact hc
      · exact (hin k).1
    · have hz' : (evT d z j).mid (j % d) ≤ z (j % d) := by
        apply Decidable.byContradiction
        intro x; exact hna ⟨fun y => absurd y x, fun y => absurd y hc⟩
      simp only [if_neg hc, if_pos hz']
      refine ⟨_, h.under hv hm hw (fun _ => 0) (fun _ => 0), rfl, rfl, h1, by rw [h2], fun k => ⟨(hin k).1, ?_⟩⟩
      show q k < up _ _ _ k
      unfold up; split
      · rename_i ek; subst ek; omega
      · exact (hin k).2
  obtain ⟨s', hI, p1, p2, p3, p4, hqi⟩ := key
  rw [p1, p2, p3, p4]
  have hu : ∀ k, ∃ u : Int, (q k - s'.el k) * 2 ^ 45 = u * 2 ^ upE e (j % d) v k := fun k => div_ex (hI.le k) (hqm k) (hI.mul k)
  refine ⟨fun k => Classical.choose (hu k), fun k => q k - s'.el k, upE e (j % d) v, ⟨fun k _ => by have := hI.le k; omega, fun k _ => by have := hI.w k; omega, fun k _ => (hqi k).1, fun k _ => Classical.choose_spec (hu k), fun k _ => ?_, fun k _ => ?_, fun k _ => ?_, fun k _ => ?_⟩, fun k _ => (by show s'.el k + (q k - s'.el k) = q k; omega)⟩
  · have hc := Classical.choose_spec (hu k)
    have hp := ipow_pos (upE e (j % d) v k)
    have h3 := hqi k
    have h4 := hI.w k
    generalize Classical.choose (hu k) = u at hc ⊢
    have h45 := ipow_pos 45
    constructor
    · apply Decidable.byContradiction
      intro hneg
      have := Int.mul_neg_of_neg_of_pos (show u < 0 by omega) hp
      have := Int.mul_nonneg (show 0 ≤ q k - s'.el k by omega) (Int.le_of_lt h45)
      omega
    · apply Decidable.byContradiction
      intro hge
      have a1 : (2 : Int) ^ 45 * 2 ^ upE e (j % d) v k ≤ u * 2 ^ upE e (j % d) v k := Int.mul_le_mul_of_nonneg_right (by omega) (Int.le_of_lt hp)
      have a2 : (q k - s'.el k) * 2 ^ 45 < 2 ^ upE e (j % d) v k * 2 ^ 45 := Int.mul_lt_mul_of_pos_right (by omega) h45
      rw [Int.mul_comm (2 ^ 45)] at a1
      omega
  · have hc := Classical.choose_spec (hu k)
    have h4 := hI.w k
    have : s'.eh k - s'.el k = 2 ^ upE e (j % d) v k := by omega
    rw [this, ← hc]
  · have := hqi k; exact ⟨by omega, by omega⟩
  · have := hI.lo k; have := hI.hi k; have := hqi k; have := (hq k).2
    exact ⟨by omega, by omega, by omega, by omega, by omega⟩
end Go.Proofs.Ybulkdaxu
