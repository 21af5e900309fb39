import Derived.Test.YbulkdaxuSortI
namespace Go.Proofs.Ybulkdaxu
open Go.RowKit
set_option linter.unusedSimpArgs false
set_option linter.unusedVariables false

/-- The doubles of this road: halves of integers. -/
def hx (v : Int) : Nat := fx (v * 2 ^ 44)
def RG (v : Int) : Prop := -(2 ^ 40) ≤ v ∧ v ≤ 2 ^ 40
theorem RG.ex {v : Int} (h : RG v) : Ex (v * 2 ^ 44) := ⟨v.natAbs, 44, by rw [Int.natAbs_mul]; rfl, by have := h.1; have := h.2; omega, by omega⟩
theorem ex2 {v : Int} (h : -(2 ^ 50) ≤ v ∧ v ≤ 2 ^ 50) : Ex (v * 2 ^ 44) := ⟨v.natAbs, 44, by rw [Int.natAbs_mul]; rfl, by have := h.1; have := h.2; omega, by omega⟩
/-- What a walk may know of them: the kernel must not look inside. -/
structure FK (h : Int → Nat) : Prop where
  lt : ∀ {u v}, RG u → RG v → (FloatKind.f64.format.order (h u) (h v) == some .lt) = decide (u < v)
  gt : ∀ {u v}, RG u → RG v → (FloatKind.f64.format.order (h u) (h v) == some .gt) = decide (v < u)
  le : ∀ {u v}, RG u → RG v → (FloatKind.f64.format.order (h u) (h v) == some .lt || FloatKind.f64.format.order (h u) (h v) == some .eq) = decide (u ≤ v)
  ge : ∀ {u v}, RG u → RG v → (FloatKind.f64.format.order (h u) (h v) == some .gt || FloatKind.f64.format.order (h u) (h v) == some .eq) = decide (v ≤ u)
  eq : ∀ {u v}, RG u → RG v → (FloatKind.f64.format.order (h u) (h v) == some .eq) = decide (u = v)
  ne : ∀ {u v}, RG u → RG v → (FloatKind.f64.format.order (h u) (h v) != some .eq) = decide (u ≠ v)
  mx : ∀ {u v}, RG u → RG v → ∀ ts t w, (Builtin.max_ ts t #[.float .f64 (h u), .float .f64 (h v)]).run Yba.prog w = .ok (.float .f64 (h (max u v))) w
  mn : ∀ {u v}, RG u → RG v → ∀ ts t w, (Builtin.min_ ts t #[.float .f64 (h u), .float .f64 (h v)]).run Yba.prog w = .ok (.float .f64 (h (min u v))) w
  add : ∀ {u v}, RG u → RG v → ∀ t w, (binOp .add t (.float .f64 (h u)) (.float .f64 (h v))).run Yba.prog w = .ok (.float .f64 (h (u + v))) w
  sub : ∀ {u v}, RG u → RG v → ∀ t w, (binOp .sub t (.float .f64 (h u)) (.float .f64 (h v))).run Yba.prog w = .ok (.float .f64 (h (u - v))) w
  half : ∀ {u c}, RG u → u = 2 * c → 0 ≤ u → ∀ t w, (binOp .quo t (.float .f64 (h u)) (.float .f64 4611686018427387904)).run Yba.prog w = .ok (.float .f64 (h c)) w
  int : ∀ n : Int, -(2 ^ 20) ≤ n → n ≤ 2 ^ 20 → floatOfInt .f64 n = h (2 * n)
  inf : ∀ {u}, RG u → FloatKind.f64.format.order (h u) 9218868437227405312 = some .lt
  c0 : h 0 = 0
  c1 : h 2 = 4607182418800017408
  c4 : h 8 = 4616189618054758400
  cp : h 2000000000 = 4741671816366391296
  cm : h (-2000000000) = 13965043853221167104
  srt : ∀ (w : World) (blk off cap m : Nat) (z : Nat → Int), m ≤ 600 → blk < w.heap.size → (∀ k, k < m → RG (z k)) → (∀ k, k < m → w.cell? ⟨blk, off + k, none⟩ = some (.float .f64 (h (z k)))) → (∀ k, w.frozen? ⟨blk, k, none⟩ = false) →
    (∀ i j, i < m → j < m → i ≠ j → z i ≠ z j) → Calls Yba.prog 49 #[.slice (some ⟨blk, off, none⟩) m cap] w fun e w' => e = .returned (.tuple #[]) ∧ ∃ y : Nat → Int, Kb blk w w' ∧ (∀ k, (k < off ∨ off + m ≤ k) → w'.cell? ⟨blk, k, none⟩ = w.cell? ⟨blk, k, none⟩) ∧
      (∀ k, k < m → w'.cell? ⟨blk, off + k, none⟩ = some (.float .f64 (h (y k)))) ∧ (∀ k, w'.frozen? ⟨blk, k, none⟩ = false) ∧ (∀ i j, i < j → j < m → y i < y j) ∧ (∀ k, k < m → ∃ i, i < m ∧ y k = z i) ∧ (∀ i, i < m → ∃ k, k < m ∧ y k = z i)

theorem dec_mul {u v : Int} : decide (u * 2 ^ 44 < v * 2 ^ 44) = decide (u < v) := by
  by_cases h : u < v
  · rw [decide_eq_true h, decide_eq_true (by omega)]
  · rw [decide_eq_false h, decide_eq_false (by omega)]
theorem dec_mul' {u v : Int} : decide (u * 2 ^ 44 ≤ v * 2 ^ 44) = decide (u ≤ v) := by
  by_cases h : u ≤ v
  · rw [decide_eq_true h, decide_eq_true (by omega)]
  · rw [decide_eq_false h, decide_eq_false (by omega)]
theorem dec_mule {u v : Int} : decide (u * 2 ^ 44 = v * 2 ^ 44) = decide (u = v) := by
  by_cases h : u = v
  · rw [decide_eq_true h, decide_eq_true (by omega)]
  · rw [decide_eq_false h, decide_eq_false (by omega)]
theorem dec_muln {u v : Int} : decide (u * 2 ^ 44 ≠ v * 2 ^ 44) = decide (u ≠ v) := by
  by_cases h : u = v
  · rw [decide_eq_false (by omega), decide_eq_false (by omega)]
  · rw [decide_eq_true (by omega), decide_eq_true (by omega)]

theorem hx_max {u v : Int} (hu : RG u) (hv : RG v) (ts : Array TypeId) (t : TypeId) (w : World) : (Builtin.max_ ts t #[.float .f64 (hx u), .float .f64 (hx v)]).run Yba.prog w = .ok (.float .f64 (hx (max u v))) w := by
  rcases Int.lt_trichotomy u v with h | h | h
  · have o : FloatKind.f64.format.order (hx u) (hx v) = some .lt := ex_lt hu.ex hv.ex (show u * 2 ^ 44 < v * 2 ^ 44 by omega)
    rw [Int.max_eq_right (by omega)]
    simp [Builtin.max_, Builtin.max2, o]
  · subst h
    have o : FloatKind.f64.format.order (hx u) (hx u) = some .eq := ex_eq hu.ex (rfl : u * 2 ^ 44 = u * 2 ^ 44)
    rw [Int.max_self]
    simp [Builtin.max_, Builtin.max2, o]
  · have o : FloatKind.f64.format.order (hx u) (hx v) = some .gt := ex_gt hu.ex hv.ex (show v * 2 ^ 44 < u * 2 ^ 44 by omega)
    rw [Int.max_eq_left (by omega)]
    simp [Builtin.max_, Builtin.max2, o]
theorem hx_min {u v : Int} (hu : RG u) (hv : RG v) (ts : Array TypeId) (t : TypeId) (w : World) : (Builtin.min_ ts t #[.float .f64 (hx u), .float .f64 (hx v)]).run Yba.prog w = .ok (.float .f64 (hx (min u v))) w := by
  rcases Int.lt_trichotomy u v with h | h | h
  · have o : FloatKind.f64.format.order (hx u) (hx v) = some .lt := ex_lt hu.ex hv.ex (show u * 2 ^ 44 < v * 2 ^ 44 by omega)
    rw [Int.min_eq_left (by omega)]
    simp [Builtin.min_, Builtin.min2, o]
  · subst h
    have o : FloatKind.f64.format.order (hx u) (hx u) = some .eq := ex_eq hu.ex (rfl : u * 2 ^ 44 = u * 2 ^ 44)
    rw [Int.min_self]
    simp [Builtin.min_, Builtin.min2, o]
  · have o : FloatKind.f64.format.order (hx u) (hx v) = some .gt := ex_gt hu.ex hv.ex (show v * 2 ^ 44 < u * 2 ^ 44 by omega)
    rw [Int.min_eq_right (by omega)]
    simp [Builtin.min_, Builtin.min2, o]
theorem hx_int (n : Int) (h0 : -(2 ^ 20) ≤ n) (h1 : n ≤ 2 ^ 20) : floatOfInt .f64 n = hx (2 * n) := by
  have e : floatOfInt .f64 n = Ieee.double.nearest (decide (n < 0)) n.natAbs 0 := rfl
  rw [e]
  by_cases hz : n = 0
  · subst hz; decide
  · have : decide (n < 0) = decide (2 * n * 2 ^ 44 < 0) := by
      by_cases hn : n < 0
      · rw [decide_eq_true hn, decide_eq_true (by omega)]
      · rw [decide_eq_false hn, decide_eq_false (by omega)]
    rw [this]
    refine nearest_fx (ex2 ⟨by omega, by omega⟩) (by omega) ⟨45, 0, by omega, ?_⟩
    rw [Nat.pow_zero, Nat.mul_one, Int.natAbs_mul, Int.natAbs_mul]
    show n.natAbs * 2 ^ 45 = 2 * n.natAbs * 2 ^ 44
    omega
theorem hx_inf {u : Int} (hu : RG u) : FloatKind.f64.format.order (hx u) 9218868437227405312 = some .lt := by
  obtain ⟨M, P, r1, _⟩ := read_fx hu.ex
  show Ieee.double.order (fx (u * 2 ^ 44)) 9218868437227405312 = _
  unfold Ieee.Format.order
  rw [r1]
  have r2 : Ieee.double.read 9218868437227405312 = .infinity false := by decide
  rw [r2]
  rfl

theorem hx_srt (w : World) (blk off cap m : Nat) (z : Nat → Int) (h6 : m ≤ 600) (hlt : blk < w.heap.size) (hz : ∀ k, k < m → RG (z k)) (hc : ∀ k, k < m → w.cell? ⟨blk, off + k, none⟩ = some (.float .f64 (hx (z k)))) (hf : ∀ k, w.frozen? ⟨blk, k, none⟩ = false)
    (hD : ∀ i j, i < m → j < m → i ≠ j → z i ≠ z j) : Calls Yba.prog 49 #[.slice (some ⟨blk, off, none⟩) m cap] w fun e w' => e = .returned (.tuple #[]) ∧ ∃ y : Nat → Int, Kb blk w w' ∧ (∀ k, (k < off ∨ off + m ≤ k) → w'.cell? ⟨blk, k, none⟩ = w.cell? ⟨blk, k, none⟩) ∧
      (∀ k, k < m → w'.cell? ⟨blk, off + k, none⟩ = some (.float .f64 (hx (y k)))) ∧ (∀ k, w'.frozen? ⟨blk, k, none⟩ = false) ∧ (∀ i j, i < j → j < m → y i < y j) ∧ (∀ k, k < m → ∃ i, i < m ∧ y k = z i) ∧ (∀ i, i < m → ∃ k, k < m ∧ y k = z i) := by
  have i0 : Inhabited FE := ⟨⟨0, ex0⟩⟩
  obtain ⟨d, hd, hdk⟩ : ∃ d : Array FE, d.size = m ∧ ∀ k, k < m → (d[k]!).1 = z k * 2 ^ 44 := by
    refine ⟨Array.ofFn (n := m) fun i => ⟨z i * 2 ^ 44, (hz i i.2).ex⟩, by simp, fun k hk => ?_⟩
    rw [getElem!_pos _ k (by simpa using hk)]
    simp
  have S0 : SR blk off w w d := ⟨Kb.refl _ _, hlt, fun _ _ => rfl, fun k hk => by rw [hdk k (by omega)]; exact hc k (by omega), hf⟩
  have D0 : Dis d := fun i j hi hj hij => by
    rw [hdk i (by omega), hdk j (by omega)]
    have := hD i j (by omega) (by omega) hij
    omega
  refine (sortf_any w blk off cap m d hd h6 S0 D0).mono ?_
  rintro e w' ⟨rfl, d', S, P, so⟩
  have hs' : d'.size = m := P.1.trans hd
  have D1 := dis_perm P (by omega) D0
  have hall := Sort.permIn_all d d' 0 m (fun x => ∃ i, i < m ∧ x.1 = z i * 2 ^ 44) (by omega) P (fun i _ hi => ⟨i, hi, hdk i hi⟩)
  have hy : ∀ k, k < m → ∃ i, i < m ∧ (d'[k]!).1 / 2 ^ 44 = z i ∧ (d'[k]!).1 = z i * 2 ^ 44 := fun k hk => by
    obtain ⟨i, hi, e⟩ := hall k (Nat.zero_le _) hk
    exact ⟨i, hi, by rw [e]; omega, e⟩
  refine ⟨rfl, fun k => (d'[k]!).1 / 2 ^ 44, S.kb, fun k hk => S.out k (by omega), fun k hk => ?_, S.frz, fun i j hij hj => ?_, fun k hk => ?_, fun i hi => ?_⟩
  · obtain ⟨i, hi, e1, e2⟩ := hy k hk
    have := S.cell k (by omega)
    rw [e2] at this
    show _ = some (Value.float FloatKind.f64 (hx ((d'[k]!).1 / 2 ^ 44)))
    rw [e1]; exact this
  · obtain ⟨i1, _, e1, e2⟩ := hy i (by omega)
    obtain ⟨j1, _, f1, f2⟩ := hy j hj
    have := so i j (Nat.zero_le _) hij hj
    have := D1 i j (by omega) (by omega) (by omega)
    show (d'[i]!).1 / 2 ^ 44 < (d'[j]!).1 / 2 ^ 44
    omega
  · obtain ⟨i, hi, e1, e2⟩ := hy k hk
    exact ⟨i, hi, e1⟩
  · obtain ⟨_, _, p3⟩ := P
    have e1 : d.extract 0 m = d := by rw [← hd]; exact Array.extract_size
    have e2 : d'.extract 0 m = d' := by rw [← hs']; exact Array.extract_size
    rw [e1, e2] at p3
    have hm : d[i]! ∈ d.toList := by
      rw [getElem!_pos d i (by omega)]
      simp
    have hm' : d[i]! ∈ d'.toList := p3.mem_iff.2 hm
    obtain ⟨k, hk, e⟩ := List.getElem_of_mem hm'
    refine ⟨k, by simpa [hs'] using hk, ?_⟩
    have hk' : k < d'.size := by simpa using hk
    show (d'[k]!).1 / 2 ^ 44 = z i
    rw [getElem!_pos d' k hk']
    have e' : d'[k] = d[i]! := by simpa using e
    rw [e', hdk i hi]
    omega

theorem hx_fk : FK hx := {
  lt := fun hu hv => (ox_lt hu.ex hv.ex).trans dec_mul
  gt := fun hu hv => (ox_gt hu.ex hv.ex).trans dec_mul
  le := fun hu hv => (ox_le hu.ex hv.ex).trans dec_mul'
  ge := fun hu hv => (ox_ge hu.ex hv.ex).trans dec_mul'
  eq := fun hu hv => (ox_eq hu.ex hv.ex).trans dec_mule
  ne := fun hu hv => (ox_ne hu.ex hv.ex).trans dec_muln
  mx := fun hu hv => hx_max hu hv
  mn := fun hu hv => hx_min hu hv
  add := fun {u v} hu hv t w => by
    have := add_fx hu.ex hv.ex (by rw [← Int.add_mul]; exact ex2 ⟨by have := hu.1; have := hv.1; omega, by have := hu.2; have := hv.2; omega⟩)
    rw [← Int.add_mul] at this
    exact run_float_arith w .add t .f64 _ _ _ this
  sub := fun {u v} hu hv t w => by
    have := sub_fx hu.ex hv.ex (by rw [← Int.sub_mul]; exact ex2 ⟨by have := hu.1; have := hv.2; omega, by have := hu.2; have := hv.1; omega⟩)
    rw [← Int.sub_mul] at this
    exact run_float_arith w .sub t .f64 _ _ _ this
  half := fun {u c} hu h h0 t w => by
    have e : fx (2 ^ 46) = 4611686018427387904 := by decide
    have := div_fx (a := u * 2 ^ 44) (c := c * 2 ^ 44) (s := 46) hu.ex (by omega) (ex2 ⟨by have := hu.1; omega, by have := hu.2; omega⟩) (by omega) (by omega)
    rw [e] at this
    exact run_float_arith w .quo t .f64 _ _ _ this
  int := hx_int
  inf := fun hu => hx_inf hu
  c0 := by decide
  c1 := by decide
  c4 := by decide
  cp := by decide
  cm := by decide
  srt := hx_srt }
end Go.Proofs.Ybulkdaxu
