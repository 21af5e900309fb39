import Derived.Test.YbulkdaxuStepP
import Derived.Test.YbulkdaxuFloats
import Derived.Test.YbulkdaxuEvenQ
namespace Go.Proofs.Ybulkdaxu
open Go.RowKit
set_option linter.unusedSimpArgs false
set_option linter.unusedVariables false

theorem FN.dn {n0 : Nat} {w : World} {v : Value} {d : Nat} {x : Nat → Int} (h : FN n0 w v d x) (k : Nat) : FN n0 (w.drewN k) v d x := h
theorem FN.as {n0 : Nat} {w : World} {v : Value} {d : Nat} {x y : Nat → Int} (h : FN n0 w v d x) (e : ∀ k, k < d → x k = y k) : FN n0 w v d y := by
  obtain ⟨b, c, rfl, h1, h0, h2, h3, h4⟩ := h
  exact ⟨b, c, rfl, h1, h0, h2, fun k hk => by rw [h3 k hk, e k hk], h4⟩
/-- The number drawn for the cut j. -/
def rI (len : Nat) (rr : Nat → Int) (j : Nat) : Int := if len = 0 then (j : Int) else rr (j % len)
/-- The cut j as a multiple of 2^-45. -/
def cA (d : Nat) (z r : Nat → Int) (j : Nat) : Int := itA d z r j * 2 ^ 45
/-- An integer as a multiple of 2^-45. -/
def sc (a : Int) : Int := a * 2 ^ 45

theorem it_up {d j k : Nat} {z r : Nat → Int} (hk : j % d = k) (h : cA d z r j ≤ z k) :
    (itT d z r (j + 1)).wl = up (itT d z r j).wl k (itA d z r j) ∧ (itT d z r (j + 1)).wh = (itT d z r j).wh ∧ (itT d z r (j + 1)).el = up (itT d z r j).el k ((itT d z r j).mid k) ∧ (itT d z r (j + 1)).eh = (itT d z r j).eh := by
  subst hk
  have e : itT d z r (j + 1) = itN d z (itA d z r j) j (itT d z r j) := rfl
  rw [e]
  unfold cA at h
  unfold itN
  rw [if_pos h]
  exact ⟨rfl, rfl, rfl, rfl⟩
theorem it_dn {d j k : Nat} {z r : Nat → Int} (hk : j % d = k) (h : ¬ cA d z r j ≤ z k) :
    (itT d z r (j + 1)).wl = (itT d z r j).wl ∧ (itT d z r (j + 1)).wh = up (itT d z r j).wh k (itA d z r j) ∧ (itT d z r (j + 1)).el = (itT d z r j).el ∧ (itT d z r (j + 1)).eh = up (itT d z r j).eh k ((itT d z r j).mid k) := by
  subst hk
  have e : itT d z r (j + 1) = itN d z (itA d z r j) j (itT d z r j) := rfl
  rw [e]
  unfold cA at h
  unfold itN
  rw [if_neg h]
  exact ⟨rfl, rfl, rfl, rfl⟩

theorem cA_sm {d i : Nat} {z r : Nat → Int} (h : ∀ i', i' ≤ i → OkI d z r i') : 0 ≤ cA d z r i ∧ cA d z r i ≤ 2 ^ 49 := by
  have h1 := it_bd (d := d) (z := z) (r := r) (j := i) (fun i' hi' => h i' (by omega)) (i % d)
  have h2 := h i (Nat.le_refl _)
  unfold OkI at h2
  unfold cA
  exact ⟨by omega, by omega⟩
theorem pre_sm {d j : Nat} {z r : Nat → Int} (h : ∀ i, i < j → OkI d z r i) (i : Nat) : Sm (pre (cA d z r) j i) := by
  unfold pre
  split
  · have := cA_sm (d := d) (i := i) (z := z) (r := r) (fun i' hi' => h i' (by omega))
    exact ⟨by omega, by omega⟩
  · exact ⟨by decide, by decide⟩
theorem pre_mul {d j : Nat} {z r : Nat → Int} (i : Nat) : ∃ c : Int, pre (cA d z r) j i = c * 2 ^ 45 := by
  unfold pre
  split
  · exact ⟨_, rfl⟩
  · exact ⟨0, by omega⟩

/-- What the law's own loop leaves. -/
def Out (d n : Nat) (z q : Nat → Int) (dv lo hi atv : Value) (w : World) : Prop :=
  ∃ A : Nat → Int, (∀ i, ∃ c : Int, A i = c * 2 ^ 45) ∧ (∀ i, i < n → Sm (A i)) ∧ FR w atv n A ∧
    ((dv = .bool false ∧ ∀ m, m < n → (∀ i, i ≤ m → Okk d z A ev0 i) → ¬ Agr d z A q ev0 m → False) ∨
     (dv = .bool true ∧ ∃ j, (∀ m, StepS d n z A ev0 m → (∀ i, i < m → Agr d z A q ev0 i) → False) ∧ (∀ m, (∀ i, i < m → Agr d z A q ev0 i) → ¬ Agr d z A q ev0 m → m = j) ∧
        FR w lo d (keptLo d z A (stt d z A ev0 j) j) ∧ FR w hi d (keptHi d z A (stt d z A ev0 j) j)))

theorem out_end {d n : Nat} {z q r : Nat → Int} {lo hi atv : Value} {w : World} (ok : ∀ i, i < n → OkI d z r i) (ag : ∀ i, i < n → AgI d z r q i) (h : FR w atv n (pre (cA d z r) n)) : Out d n z q (.bool false) lo hi atv w :=
  ⟨_, pre_mul, fun i _ => pre_sm ok i, h, .inl ⟨rfl, fun m hm hok hna => it_no (J := n) (fun i hi => pre_lt hi) (.inl rfl) ag hm hok hna⟩⟩
theorem out_stop {d n j k : Nat} {z q r : Nat → Int} {lo hi atv : Value} {w : World} (hk : j % d = k) (ok : ∀ i, i < j → OkI d z r i) (ag : ∀ i, i < j → AgI d z r q i)
    (h : FR w atv n (up (pre (cA d z r) j) j (sc ((itT d z r j).wl k)))) : Out d n z q (.bool false) lo hi atv w := by
  subst hk
  have hA : ∀ i, i < j → up (pre (cA d z r) j) j (sc ((itT d z r j).wl (j % d))) i = itA d z r i * 2 ^ 45 := fun i hi => by
    unfold up; rw [if_neg (by omega), pre_lt hi]; rfl
  refine ⟨_, fun i => ?_, fun i _ => ?_, h, .inl ⟨rfl, fun m hm hok hna => it_no hA (.inr ?_) ag hm hok hna⟩⟩
  · unfold up; split
    · exact ⟨_, rfl⟩
    · exact pre_mul i
  · unfold up; split
    · have := it_bd (d := d) (z := z) (r := r) (j := j) ok (j % d)
      unfold sc
      exact ⟨by omega, by omega⟩
    · exact pre_sm ok i
  · unfold Okk
    rw [stt_itT hA]
    show ¬ ((itT d z r j).wl (j % d) * 2 ^ 45 < up _ _ _ j ∧ _)
    unfold up
    rw [if_pos rfl]
    unfold sc
    omega
theorem out_div {d n j : Nat} {z q r : Nat → Int} {lo hi atv : Value} {w : World} {L H : Nat → Int} (hj : j < n) (ok : ∀ i, i ≤ j → OkI d z r i) (ag : ∀ i, i < j → AgI d z r q i) (na : ¬ AgI d z r q j)
    (h : FR w atv n (pre (cA d z r) (j + 1))) (hlo : FR w lo d L) (hhi : FR w hi d H)
    (eL : L = if cA d z r j ≤ z (j % d) then (itT d z r j).st.wl else up (itT d z r j).st.wl (j % d) (cA d z r j))
    (eH : H = if cA d z r j ≤ z (j % d) then up (itT d z r j).st.wh (j % d) (cA d z r j) else (itT d z r j).st.wh) : Out d n z q (.bool true) lo hi atv w := by
  have hA : ∀ i, i ≤ j → pre (cA d z r) (j + 1) i = itA d z r i * 2 ^ 45 := fun i hi => pre_lt (by omega)
  have e := stt_itT (d := d) (z := z) (r := r) (A := pre (cA d z r) (j + 1)) (j := j) (fun i hi => hA i (by omega))
  have e2 : pre (cA d z r) (j + 1) j = cA d z r j := pre_lt (by omega)
  refine ⟨_, pre_mul, fun i _ => pre_sm (fun i hi => ok i (by omega)) i, h, .inr ⟨rfl, j, fun m hS hag => it_yes hj hA ok na hS hag, fun m hag hna => it_at hA ag na hag hna, ?_, ?_⟩⟩
  · unfold keptLo; rw [e, e2, ← eL]; exact hlo
  · unfold keptHi; rw [e, e2, ← eH]; exact hhi
theorem out_up {d n j k : Nat} {z q r : Nat → Int} {lo hi atv : Value} {w : World} (hk : j % d = k) (hz : cA d z r j ≤ z k) (hj : j < n) (ok : ∀ i, i ≤ j → OkI d z r i) (ag : ∀ i, i < j → AgI d z r q i) (na : ¬ (itT d z r j).mid k ≤ q k)
    (h : FR w atv n (pre (cA d z r) (j + 1))) (hlo : FR w lo d (fun k => (itT d z r j).wl k * 2 ^ 45)) (hhi : FR w hi d (up (fun k => (itT d z r j).wh k * 2 ^ 45) k (cA d z r j))) : Out d n z q (.bool true) lo hi atv w := by
  subst hk
  exact out_div hj ok ag (fun x => na (x.1 hz)) h hlo hhi (by rw [if_pos hz]; rfl) (by rw [if_pos hz]; rfl)
theorem out_dn {d n j k : Nat} {z q r : Nat → Int} {lo hi atv : Value} {w : World} (hk : j % d = k) (hz : ¬ cA d z r j ≤ z k) (hj : j < n) (ok : ∀ i, i ≤ j → OkI d z r i) (ag : ∀ i, i < j → AgI d z r q i) (na : (itT d z r j).mid k ≤ q k)
    (h : FR w atv n (pre (cA d z r) (j + 1))) (hlo : FR w lo d (up (fun k => (itT d z r j).wl k * 2 ^ 45) k (cA d z r j))) (hhi : FR w hi d (fun k => (itT d z r j).wh k * 2 ^ 45)) : Out d n z q (.bool true) lo hi atv w := by
  subst hk
  exact out_div hj ok ag (fun x => hz (x.2 na)) h hlo hhi (by rw [if_neg hz]; rfl) (by rw [if_neg hz]; rfl)
theorem below_alloc4 (w : World) (a b c e : Obj) : Below w.heap.size w ((((w.alloc a).alloc b).alloc c).alloc e) := (((Below.refl _ _).alloc (Nat.le_refl _) a).alloc (by simp) b |>.alloc (by simp; omega) c).alloc (by simp; omega) e
end Go.Proofs.Ybulkdaxu
