import Derived.Test.YbulkdaxuEvenP
import Derived.Test.YbulkdaxuPoint
namespace Go.Proofs.Ybulkdaxu
open Go.RowKit
set_option linter.unusedSimpArgs false
set_option linter.unusedVariables false

theorem okk_zero {d : Nat} {z A : Nat → Int} {J : Nat} (hJ : J ≤ 48) (hA : ∀ i, i < J → A i = evA d z i) (h0 : A J = 0) : ¬ Okk d z A ev0 J := by
  intro h
  unfold Okk at h
  obtain ⟨e, hI⟩ := evI d z J hJ
  rw [stt_evT hA, (evT_same d z J).1, h0] at h
  have := hI.lo (J % d)
  omega
theorem pre_lt {f : Nat → Int} {J i : Nat} (h : i < J) : pre f J i = f i := by unfold pre; rw [if_pos h]
theorem pre_ge {f : Nat → Int} {J i : Nat} (h : ¬ i < J) : pre f J i = 0 := by unfold pre; rw [if_neg h]

theorem evp_fine {d n J : Nat} {z : Nat → Int} (hn : n ≤ 48) (hJ : J ≤ n) (hz : ∀ k, 0 ≤ z k ∧ z k < 2 ^ 49) : ∀ j, j < n → (∀ i, i < j → Okk d z (pre (evA d z) J) ev0 i) → Fine d z (stt d z (pre (evA d z) J) ev0 j) j := by
  intro j hj hok
  have hjJ : j ≤ J := by
    apply Decidable.byContradiction
    intro h
    exact okk_zero (by omega) (fun i hi => pre_lt hi) (pre_ge (by omega)) (hok J (by omega))
  rw [stt_evT (fun i hi => pre_lt (by omega))]
  exact ev_fine hz (by omega)
theorem evp_unf {d n J : Nat} {z q : Nat → Int} (hn : n ≤ 48) (hJ : J ≤ n) (hz : ∀ k, 0 ≤ z k ∧ z k < 2 ^ 49) (hq : ∀ k, 0 ≤ q k ∧ q k < 2 ^ 49) (hqm : ∀ k, ∃ m : Int, q k = m * 2 ^ 45) :
    ∀ m, m < n → (∀ i, i ≤ m → Okk d z (pre (evA d z) J) ev0 i) → (∀ i, i < m → Agr d z (pre (evA d z) J) q ev0 i) → ¬ Agr d z (pre (evA d z) J) q ev0 m → ∃ u pr s, Unf d q (partLo d q (stt d z (pre (evA d z) J) ev0 m) m) (partHi d q (stt d z (pre (evA d z) J) ev0 m) m) (keptLo d z (pre (evA d z) J) (stt d z (pre (evA d z) J) ev0 m) m) (keptHi d z (pre (evA d z) J) (stt d z (pre (evA d z) J) ev0 m) m) u pr s ∧ ∀ k, k < d → keptLo d z (pre (evA d z) J) (stt d z (pre (evA d z) J) ev0 m) m k + pr k = (fun (_ : Nat) => q) m k := by
  intro m hm hok hag hna
  have hmJ : m < J := by
    apply Decidable.byContradiction
    intro h
    exact okk_zero (by omega) (fun i hi => pre_lt hi) (pre_ge (by omega)) (hok J (by omega))
  exact ev_unf hz hq hqm (by omega) (fun i hi => pre_lt (by omega)) hag hna
/-- Agreement, in the even zones' own words. -/
theorem evp_agr {d J : Nat} {z q : Nat → Int} {i : Nat} (hi : i < J) : Agr d z (pre (evA d z) J) q ev0 i ↔ (evA d z i ≤ z (i % d) ↔ evA d z i ≤ q (i % d)) := by
  unfold Agr
  rw [stt_evT (fun i' hi' => pre_lt (by omega)), pre_lt hi]
  exact Iff.rfl
theorem evp_ok {d J : Nat} {z : Nat → Int} {i : Nat} (hJ : J ≤ 48) (hi : i < J) : Okk d z (pre (evA d z) J) ev0 i := ev_ok (by omega) (fun i' hi' => pre_lt (by omega))

theorem evA_bd {d j : Nat} {z : Nat → Int} (hj : j ≤ 47) : ∃ v : Int, 0 < v ∧ evA d z j = (evT d z j).el (j % d) + v ∧ (evT d z j).eh (j % d) = (evT d z j).el (j % d) + 2 * v ∧ 0 ≤ (evT d z j).el (j % d) ∧ (evT d z j).eh (j % d) ≤ 2 ^ 49 := by
  obtain ⟨e, h⟩ := evI d z j (by omega)
  obtain ⟨v, hv, hm, hw, hpos⟩ := h.split (k := j % d) (by omega)
  exact ⟨2 ^ v, hpos, hm, hw, h.lo _, h.hi _⟩
theorem pt_mul (len : Nat) (z : Nat → Int) (k : Nat) : ∃ m : Int, pt len z k = m * 2 ^ 45 := by
  unfold pt; split
  · exact ⟨0, by omega⟩
  · exact ⟨_, rfl⟩
theorem pt_lt (len : Nat) (z : Nat → Int) (k : Nat) : 0 ≤ pt len z k ∧ pt len z k < 2 ^ 49 := by have := pt_bd len z k; omega
end Go.Proofs.Ybulkdaxu
