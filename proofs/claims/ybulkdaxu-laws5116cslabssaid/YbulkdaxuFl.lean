import Ieee.Arith
namespace Go.Proofs.Ybulkdaxu
open Ieee
set_option linter.unusedSimpArgs false
set_option linter.unusedVariables false

theorem pow_pos2 (k : Nat) : 0 < 2 ^ k := Nat.pow_pos (by omega)

theorem log2_eq {m k : Nat} (h1 : 2 ^ k ≤ m) (h2 : m < 2 ^ (k + 1)) : m.log2 = k := by
  have h0 : m ≠ 0 := by have := pow_pos2 k; omega
  have a := (Nat.le_log2 h0).2 h1
  have b := (Nat.log2_lt h0).2 h2
  omega

theorem cut_exact (neg : Bool) (M k : Nat) (hM : M ≠ 0) : Toward.even.cut neg (M * 2 ^ k) k = M := by
  unfold Toward.cut
  have h0 : M * 2 ^ k ≠ 0 := Nat.mul_ne_zero hM (by have := pow_pos2 k; omega)
  have h1 : k ≤ (M * 2 ^ k).log2 := (Nat.le_log2 h0).2 (Nat.le_mul_of_pos_left _ (by omega))
  have h2 : min k ((M * 2 ^ k).log2 + 2) = k := by omega
  have h3 : 1 <<< k = 2 ^ k := by simp [Nat.shiftLeft_eq]
  simp only [h2, h3, Nat.mul_div_cancel _ (pow_pos2 k), Nat.mul_mod_left]
  have := pow_pos2 k
  have e1 : decide (2 ^ k < 2 * 0) = false := by simp
  have e2 : (2 ^ k == 2 * 0) = false := by simp
  rw [e1, e2]; simp

/-- M·2^P is a double: the nearest word to it is its own. -/
theorem nearest_norm (neg : Bool) (mag : Nat) (place : Int) (M : Nat) (P : Int) (hM : 2 ^ 52 ≤ M) (hM2 : M < 2 ^ 53) (hP : -1074 ≤ P) (hP2 : P ≤ 900)
    (h : (P ≤ place ∧ mag * 2 ^ (place - P).toNat = M) ∨ (place ≤ P ∧ mag = M * 2 ^ (P - place).toNat)) :
    double.nearest neg mag place = double.word neg ((P + 1074).toNat * 2 ^ 52 + M) := by
  have hlp : double.leastPlace = -1074 := by decide
  have hfb : (double.fractionBits : Int) = 52 := by decide
  have hbn : double.binade = 2 ^ 52 := by decide
  have hir : double.infRung = 2047 * 2 ^ 52 := by decide
  have h0 : mag ≠ 0 := by
    rintro rfl
    rcases h with ⟨_, h⟩ | ⟨_, h⟩
    · simp at h; omega
    · have := pow_pos2 (P - place).toNat
      have : 0 < M * 2 ^ (P - place).toNat := Nat.mul_pos (by omega) this
      omega
  have hlog : place + (mag.log2 : Int) = P + 52 := by
    rcases h with ⟨h1, h2⟩ | ⟨h1, h2⟩
    · obtain ⟨k, hk⟩ : ∃ k : Nat, place - P = k := ⟨(place - P).toNat, by omega⟩
      rw [hk] at h2
      simp only [Int.toNat_natCast] at h2
      have hk52 : k ≤ 52 := by
        apply Decidable.byContradiction
        intro hc
        have : 2 ^ 53 ≤ 2 ^ k := Nat.pow_le_pow_right (by omega) (by omega)
        have : 2 ^ k ≤ mag * 2 ^ k := Nat.le_mul_of_pos_left _ (by omega)
        omega
      have : mag.log2 = 52 - k := by
        apply log2_eq
        · have e : 2 ^ 52 = 2 ^ (52 - k) * 2 ^ k := by rw [← Nat.pow_add]; congr 1; omega
          rw [e, ← h2] at hM
          exact Nat.le_of_mul_le_mul_right hM (pow_pos2 k)
        · have e : 2 ^ 53 = 2 ^ (52 - k + 1) * 2 ^ k := by rw [← Nat.pow_add]; congr 1; omega
          rw [e, ← h2] at hM2
          exact Nat.lt_of_mul_lt_mul_right hM2
      omega
    · obtain ⟨k, hk⟩ : ∃ k : Nat, P - place = k := ⟨(P - place).toNat, by omega⟩
      rw [hk] at h2
      simp only [Int.toNat_natCast] at h2
      have : mag.log2 = 52 + k := by
        subst h2
        apply log2_eq
        · rw [Nat.pow_add]; exact Nat.mul_le_mul_right _ hM
        · have e : 2 ^ (52 + k + 1) = 2 ^ 53 * 2 ^ k := by rw [← Nat.pow_add]; congr 1; omega
          rw [e]; exact Nat.mul_lt_mul_of_pos_right hM2 (pow_pos2 k)
      omega
  unfold Format.nearest
  rw [if_neg h0]
  have hlast : max (place + (mag.log2 : Int) - (double.fractionBits : Int)) double.leastPlace = P := by rw [hlp, hfb, hlog]; omega
  simp only [hlast]
  simp only [hlp, hbn, hir]
  have hkept : Toward.even.cut neg (mag <<< (place - P).toNat) (P - place).toNat = M := by
    rw [Nat.shiftLeft_eq]
    rcases h with ⟨h1, h2⟩ | ⟨h1, h2⟩
    · have e : (P - place).toNat = 0 := by omega
      rw [h2, e]
      have := cut_exact neg M 0 (by omega)
      simpa using this
    · by_cases e : place = P
      · subst e
        have e0 : (place - place).toNat = 0 := by omega
        rw [e0] at h2 ⊢
        have := cut_exact neg M 0 (by omega)
        rw [h2]; simpa using this
      · have e0 : (place - P).toNat = 0 := by omega
        rw [e0, h2]
        have := cut_exact neg M (P - place).toNat (by omega)
        simpa using this
  rw [hkept]
  have e1 : (P - -1074).toNat = (P + 1074).toNat := by omega
  have e2 : (P + 1074).toNat * 2 ^ 52 + M ≤ 2047 * 2 ^ 52 := by omega
  rw [e1, Nat.min_eq_left e2]

theorem read_norm (neg : Bool) (M : Nat) (P : Int) (hM : 2 ^ 52 ≤ M) (hM2 : M < 2 ^ 53) (hP : -1074 ≤ P) (hP2 : P ≤ 900) :
    double.read (double.word neg ((P + 1074).toNat * 2 ^ 52 + M)) = .number neg M P := by
  have hlp : double.leastPlace = -1074 := by decide
  have hbn : double.binade = 2 ^ 52 := by decide
  have hir : double.infRung = 2047 * 2 ^ 52 := by decide
  have hsw : double.signWeight = 2 ^ 63 := by decide
  obtain ⟨p, hp⟩ : ∃ p : Nat, P + 1074 = p := ⟨(P + 1074).toNat, by omega⟩
  have hpl : p ≤ 1974 := by omega
  have e1 : (P + 1074).toNat = p := by omega
  rw [e1]
  have hr : (double.word neg (p * 2 ^ 52 + M)) % 2 ^ 63 = p * 2 ^ 52 + M := by
    unfold Format.word; rw [hsw]; cases neg
    · simp only [Bool.false_eq_true, if_false]; omega
    · simp only [if_true]; omega
  have hn : (double.word neg (p * 2 ^ 52 + M) / 2 ^ 63 % 2 == 1) = neg := by
    unfold Format.word; rw [hsw]; cases neg
    · simp only [Bool.false_eq_true, if_false]
      have : (p * 2 ^ 52 + M) / 2 ^ 63 = 0 := by omega
      rw [this]; rfl
    · simp only [if_true]
      have : (2 ^ 63 + (p * 2 ^ 52 + M)) / 2 ^ 63 = 1 := by omega
      rw [this]; rfl
  unfold Format.read
  simp only [hsw, hbn, hir, hlp, hr, hn]
  rw [if_neg (by omega), if_pos (by omega)]
  have h1 : 2 ^ 52 + (p * 2 ^ 52 + M) % 2 ^ 52 = M := by omega
  have h2 : (p * 2 ^ 52 + M) / 2 ^ 52 - 1 = p := by omega
  rw [h1, h2]
  congr 1
  omega

/-- THE DOUBLE OF a·2^-45. -/
def fx (a : Int) : Nat := double.nearest (decide (a < 0)) a.natAbs (-45)
/-- a·2^-45 is a double. -/
def Ex (a : Int) : Prop := ∃ k t : Nat, a.natAbs = k * 2 ^ t ∧ k < 2 ^ 53 ∧ t ≤ 300

theorem Ex.of_lt {a : Int} (h : a.natAbs < 2 ^ 53) : Ex a := ⟨a.natAbs, 0, by simp, h, by omega⟩

theorem Ex.norm {a : Int} (h : Ex a) (h0 : a ≠ 0) : ∃ M l : Nat, a.natAbs * 2 ^ 52 = M * 2 ^ l ∧ 2 ^ 52 ≤ M ∧ M < 2 ^ 53 ∧ l ≤ 352 := by
  obtain ⟨k, t, h1, h2, h3⟩ := h
  have hk : k ≠ 0 := by rintro rfl; simp at h1; omega
  have hj1 : 2 ^ k.log2 ≤ k := (Nat.le_log2 hk).1 (Nat.le_refl _)
  have hj2 : k < 2 ^ (k.log2 + 1) := (Nat.log2_lt hk).1 (Nat.lt_succ_self _)
  have hj3 : k.log2 < 53 := (Nat.log2_lt hk).2 h2
  refine ⟨k * 2 ^ (52 - k.log2), t + k.log2, ?_, ?_, ?_, by omega⟩
  · rw [h1, Nat.mul_assoc, Nat.mul_assoc, ← Nat.pow_add, ← Nat.pow_add]
    congr 2; omega
  · have e : 2 ^ 52 = 2 ^ k.log2 * 2 ^ (52 - k.log2) := by rw [← Nat.pow_add]; congr 1; omega
    rw [e]; exact Nat.mul_le_mul_right _ hj1
  · have e : 2 ^ 53 = 2 ^ (k.log2 + 1) * 2 ^ (52 - k.log2) := by rw [← Nat.pow_add]; congr 1; omega
    rw [e]; exact Nat.mul_lt_mul_of_pos_right hj2 (pow_pos2 _)

/-- mag·2^place = c·2^-45. -/
def Same (mag : Nat) (place : Int) (c : Nat) : Prop := ∃ α β : Nat, place + 45 = (α : Int) - (β : Int) ∧ mag * 2 ^ α = c * 2 ^ β

theorem nearest_same {c : Int} (hc : Ex c) (h0 : c ≠ 0) (neg : Bool) {mag : Nat} {place : Int} (h : Same mag place c.natAbs) :
    ∃ M l : Nat, c.natAbs * 2 ^ 52 = M * 2 ^ l ∧ 2 ^ 52 ≤ M ∧ M < 2 ^ 53 ∧ l ≤ 352 ∧ double.nearest neg mag place = double.word neg (((l : Int) - 97 + 1074).toNat * 2 ^ 52 + M) := by
  obtain ⟨M, l, h1, h2, h3, h4⟩ := hc.norm h0
  obtain ⟨α, β, e1, e2⟩ := h
  have key : mag * 2 ^ (α + 52) = M * 2 ^ (l + β) := by
    rw [Nat.pow_add, ← Nat.mul_assoc, e2, Nat.mul_right_comm, h1, Nat.mul_assoc, ← Nat.pow_add]
  refine ⟨M, l, h1, h2, h3, h4, nearest_norm neg mag place M ((l : Int) - 97) h2 h3 (by omega) (by omega) ?_⟩
  by_cases hh : (l : Int) - 97 ≤ place
  · left
    refine ⟨hh, ?_⟩
    have e : α + 52 = (place - ((l : Int) - 97)).toNat + (l + β) := by omega
    rw [e, Nat.pow_add 2 _ (l + β), ← Nat.mul_assoc] at key
    exact Nat.eq_of_mul_eq_mul_right (pow_pos2 (l + β)) key
  · right
    refine ⟨by omega, ?_⟩
    have e : l + β = ((l : Int) - 97 - place).toNat + (α + 52) := by omega
    rw [e, Nat.pow_add 2 _ (α + 52), ← Nat.mul_assoc] at key
    exact Nat.eq_of_mul_eq_mul_right (pow_pos2 (α + 52)) key

theorem Same.refl (a : Nat) : Same a (-45) a := ⟨0, 0, by omega, rfl⟩

theorem nearest_fx {c : Int} (hc : Ex c) (h0 : c ≠ 0) {mag : Nat} {place : Int} (h : Same mag place c.natAbs) : double.nearest (decide (c < 0)) mag place = fx c := by
  obtain ⟨M, l, h1, h2, h3, h4, h5⟩ := nearest_same hc h0 (decide (c < 0)) h
  obtain ⟨M', l', g1, g2, g3, g4, g5⟩ := nearest_same hc h0 (decide (c < 0)) (Same.refl c.natAbs)
  have : M = M' ∧ l = l' := by
    have e : M * 2 ^ l = M' * 2 ^ l' := by rw [← h1, ← g1]
    have hl : l = l' := by
      have a : (M * 2 ^ l).log2 = 52 + l := log2_eq (by rw [Nat.pow_add]; exact Nat.mul_le_mul_right _ h2) (by
        have e : 2 ^ (52 + l + 1) = 2 ^ 53 * 2 ^ l := by rw [← Nat.pow_add]; congr 1; omega
        rw [e]; exact Nat.mul_lt_mul_of_pos_right h3 (pow_pos2 _))
      have b : (M' * 2 ^ l').log2 = 52 + l' := log2_eq (by rw [Nat.pow_add]; exact Nat.mul_le_mul_right _ g2) (by
        have e : 2 ^ (52 + l' + 1) = 2 ^ 53 * 2 ^ l' := by rw [← Nat.pow_add]; congr 1; omega
        rw [e]; exact Nat.mul_lt_mul_of_pos_right g3 (pow_pos2 _))
      rw [e] at a; omega
    subst hl
    exact ⟨Nat.eq_of_mul_eq_mul_right (pow_pos2 _) e, rfl⟩
  obtain ⟨rfl, rfl⟩ := this
  rw [h5]; exact g5.symm

theorem Same.zero (P : Int) : Same 0 P 0 := ⟨(P + 45).toNat, (-45 - P).toNat, by omega, by rw [Nat.zero_mul, Nat.zero_mul]⟩
theorem fx0 : fx 0 = 0 := by decide
theorem read0 : double.read 0 = .number false 0 (-1074) := by decide

/-- WHAT fx a READS AS. -/
theorem read_fx {a : Int} (ha : Ex a) : ∃ M P, double.read (fx a) = .number (decide (a < 0)) M P ∧ -1074 ≤ P ∧ P ≤ 900 ∧ Same M P a.natAbs ∧ (a = 0 ↔ M = 0) ∧ (a ≠ 0 → 2 ^ 52 ≤ M ∧ M < 2 ^ 53 ∧ -97 ≤ P) := by
  by_cases h0 : a = 0
  · subst h0
    refine ⟨0, -1074, ?_, by omega, by omega, Same.zero _, by simp, fun h => absurd rfl h⟩
    rw [fx0, read0]; simp
  · obtain ⟨M, l, h1, h2, h3, h4, h5⟩ := nearest_same ha h0 (decide (a < 0)) (Same.refl a.natAbs)
    refine ⟨M, (l : Int) - 97, ?_, by omega, by omega, ⟨l, 52, by omega, h1.symm⟩, ⟨fun h => absurd h h0, fun h => by omega⟩, fun _ => ⟨h2, h3, by omega⟩⟩
    unfold fx
    rw [h5, read_norm _ _ _ h2 h3 (by omega) (by omega)]

theorem signed_eq (a : Int) (M up : Nat) : signed (decide (a < 0)) M up = (if a < 0 then -1 else 1) * ((M * 2 ^ up : Nat) : Int) := by
  unfold signed; rw [Nat.shiftLeft_eq]
  by_cases h : a < 0
  · simp [h]
  · simp [h]

/-- The value of a read datum, at a base below its place. -/
theorem Same.at {M : Nat} {P : Int} {a : Int} (h : Same M P a.natAbs) (base : Int) (hb : base ≤ P) :
    signed (decide (a < 0)) M (P - base).toNat * 2 ^ (base + 45).toNat = a * 2 ^ (-45 - base).toNat := by
  obtain ⟨α, β, e1, e2⟩ := h
  have key : M * 2 ^ (P - base).toNat * 2 ^ (base + 45).toNat = a.natAbs * 2 ^ (-45 - base).toNat := by
    have e : (P - base).toNat + (base + 45).toNat + β = α + (-45 - base).toNat := by omega
    have : M * 2 ^ (P - base).toNat * 2 ^ (base + 45).toNat * 2 ^ β = a.natAbs * 2 ^ (-45 - base).toNat * 2 ^ β := by
      rw [Nat.mul_assoc M, ← Nat.pow_add, Nat.mul_assoc, ← Nat.pow_add, e, Nat.pow_add, ← Nat.mul_assoc, e2]
      rw [Nat.mul_right_comm]
    exact Nat.eq_of_mul_eq_mul_right (pow_pos2 _) this
  rw [signed_eq, Int.mul_assoc]
  have k2 : ((M * 2 ^ (P - base).toNat : Nat) : Int) * 2 ^ (base + 45).toNat = (a.natAbs : Int) * 2 ^ (-45 - base).toNat := by
    have := congrArg (fun x : Nat => (x : Int)) key
    push_cast at this
    push_cast
    exact this
  rw [k2]
  by_cases h : a < 0
  · rw [if_pos h]
    have : (a.natAbs : Int) = -a := by omega
    rw [this, Int.neg_mul, Int.one_mul, Int.neg_mul, Int.neg_neg]
  · rw [if_neg h]
    have : (a.natAbs : Int) = a := by omega
    rw [this, Int.one_mul]

theorem ipow_pos (k : Nat) : (0 : Int) < 2 ^ k := Int.pow_pos (by omega)

theorem sign_of {a c : Int} {k l : Nat} (h : a * 2 ^ k = c * 2 ^ l) : (a < 0 ↔ c < 0) ∧ (a = 0 ↔ c = 0) := by
  have h1 := ipow_pos k
  have h2 := ipow_pos l
  rcases Int.lt_trichotomy a 0 with x | x | x
  · have := Int.mul_neg_of_neg_of_pos x h1
    rcases Int.lt_trichotomy c 0 with y | y | y
    · omega
    · subst y; rw [Int.zero_mul] at h; omega
    · have := Int.mul_pos y h2; omega
  · subst x; rw [Int.zero_mul] at h
    have : c = 0 := by
      rcases Int.mul_eq_zero.1 h.symm with y | y
      · exact y
      · omega
    omega
  · have := Int.mul_pos x h1
    rcases Int.lt_trichotomy c 0 with y | y | y
    · have := Int.mul_neg_of_neg_of_pos y h2; omega
    · subst y; rw [Int.zero_mul] at h; omega
    · omega

theorem write_fx {c : Int} (hc : Ex c) {tot : Int} {base : Int} {z : Bool} (h : tot * 2 ^ (base + 45).toNat = c * 2 ^ (-45 - base).toNat) (hz : c = 0 → z = false) :
    double.write (.number (if tot = 0 then z else decide (tot < 0)) tot.natAbs base) = fx c := by
  unfold Format.write
  simp only
  have hs := sign_of h
  by_cases h0 : c = 0
  · have ht : tot = 0 := hs.2.2 h0
    have hz2 := hz h0
    rw [if_pos ht, hz2, ht, h0, fx0]; rfl
  · have ht : tot ≠ 0 := fun e => h0 (hs.2.1 e)
    rw [if_neg ht]
    have hd : decide (tot < 0) = decide (c < 0) := by
      by_cases hn : c < 0
      · have := hs.1.2 hn; simp [hn, this]
      · have : ¬ tot < 0 := fun e => hn (hs.1.1 e)
        simp [hn]; omega
    rw [hd]
    refine nearest_fx hc h0 ⟨(base + 45).toNat, (-45 - base).toNat, by omega, ?_⟩
    have := congrArg Int.natAbs h
    rw [Int.natAbs_mul, Int.natAbs_mul, Int.natAbs_pow, Int.natAbs_pow] at this
    exact this

theorem add_fx {a b : Int} (ha : Ex a) (hb : Ex b) (hc : Ex (a + b)) : double.add (fx a) (fx b) = some (fx (a + b)) := by
  obtain ⟨M, P, r1, p1, p1', s1, z1, n1⟩ := read_fx ha
  obtain ⟨N, Q, r2, q1, q1', s2, z2, n2⟩ := read_fx hb
  unfold Format.add
  rw [r1, r2]
  unfold Datum.sum
  simp only [Option.map_some, Option.some.injEq]
  have x1 := s1.at (min P Q) (by omega)
  have x2 := s2.at (min P Q) (by omega)
  refine write_fx hc ?_ ?_
  · rw [Int.add_mul, x1, x2, ← Int.add_mul]
  · intro h
    by_cases h1 : a < 0
    · have : ¬ b < 0 := by omega
      simp [this]
    · simp [h1]

theorem sub_fx {a b : Int} (ha : Ex a) (hb : Ex b) (hc : Ex (a - b)) : double.sub (fx a) (fx b) = some (fx (a - b)) := by
  obtain ⟨M, P, r1, p1, p1', s1, z1, n1⟩ := read_fx ha
  obtain ⟨N, Q, r2, q1, q1', s2, z2, n2⟩ := read_fx hb
  unfold Format.sub
  rw [r1, r2]
  unfold Datum.opposite Datum.sum
  simp only [Option.map_some, Option.some.injEq]
  have x1 := s1.at (min P Q) (by omega)
  have x2 := s2.at (min P Q) (by omega)
  have e : signed (!decide (b < 0)) N (Q - min P Q).toNat = - signed (decide (b < 0)) N (Q - min P Q).toNat := by
    unfold signed; by_cases h : b < 0 <;> simp [h]
  rw [e]
  refine write_fx hc ?_ ?_
  · rw [Int.add_mul, Int.neg_mul, x1, x2, ← Int.neg_mul, ← Int.add_mul]; rfl
  · intro h
    by_cases h1 : a < 0
    · have : b < 0 := by omega
      simp [this]
    · simp [h1]

/-- How two stand to each other. -/
theorem order_fx {a b : Int} (ha : Ex a) (hb : Ex b) : double.order (fx a) (fx b) = some (compare a b) := by
  obtain ⟨M, P, r1, p1, p1', s1, z1, n1⟩ := read_fx ha
  obtain ⟨N, Q, r2, q1, q1', s2, z2, n2⟩ := read_fx hb
  unfold Format.order
  rw [r1, r2]
  unfold Datum.order
  simp only [Option.some.injEq]
  have x1 := s1.at (min P Q) (by omega)
  have x2 := s2.at (min P Q) (by omega)
  generalize signed (decide (a < 0)) M (P - min P Q).toNat = u at *
  generalize signed (decide (b < 0)) N (Q - min P Q).toNat = v at *
  have h := sign_of (a := u - v) (c := a - b) (k := (min P Q + 45).toNat) (l := (-45 - min P Q).toNat) (by rw [Int.sub_mul, Int.sub_mul, x1, x2])
  show compareOfLessAndEq u v = compareOfLessAndEq a b
  unfold compareOfLessAndEq
  by_cases h1 : a < b
  · rw [if_pos h1, if_pos (by omega)]
  · rw [if_neg h1, if_neg (by omega)]
    by_cases h2 : a = b
    · rw [if_pos h2, if_pos (by omega)]
    · rw [if_neg h2, if_neg (by omega)]

/-- A product, where neither is negative. -/
theorem mul_fx {a b c : Int} (ha : Ex a) (hb : Ex b) (hc : Ex c) (h : a * b = c * 2 ^ 45) (h1 : 0 ≤ a) (h2 : 0 ≤ b) : double.mul (fx a) (fx b) = some (fx c) := by
  obtain ⟨M, P, r1, p1, p1', s1, z1, n1⟩ := read_fx ha
  obtain ⟨N, Q, r2, q1, q1', s2, z2, n2⟩ := read_fx hb
  unfold Format.mul
  rw [r1, r2]
  unfold Datum.product
  simp only [Option.map_some, Option.some.injEq]
  unfold Format.write
  simp only
  have d1 : decide (a < 0) = false := by simp; omega
  have d2 : decide (b < 0) = false := by simp; omega
  rw [d1, d2]
  have hc0 : 0 ≤ c := by
    have := Int.mul_nonneg h1 h2
    rw [h] at this
    rcases Int.lt_trichotomy c 0 with y | y | y
    · have := Int.mul_neg_of_neg_of_pos y (ipow_pos 45); omega
    · omega
    · omega
  by_cases h0 : c = 0
  · subst h0
    have : M * N = 0 := by
      rw [Int.zero_mul] at h
      rcases Int.mul_eq_zero.1 h with y | y
      · rw [z1.1 y, Nat.zero_mul]
      · rw [z2.1 y, Nat.mul_zero]
    rw [this, fx0]; rfl
  · have d3 : (false ^^ false) = decide (c < 0) := by simp; omega
    rw [d3]
    refine nearest_fx hc h0 ?_
    obtain ⟨α, β, e1, e2⟩ := s1
    obtain ⟨γ, δ, e3, e4⟩ := s2
    refine ⟨α + γ, β + δ + 45, by omega, ?_⟩
    have hn : a.natAbs * b.natAbs = c.natAbs * 2 ^ 45 := by
      have := congrArg Int.natAbs h
      rw [Int.natAbs_mul, Int.natAbs_mul, Int.natAbs_pow] at this
      exact this
    rw [Nat.pow_add, Nat.pow_add, Nat.pow_add]
    calc M * N * (2 ^ α * 2 ^ γ) = (M * 2 ^ α) * (N * 2 ^ γ) := by rw [Nat.mul_mul_mul_comm]
      _ = (a.natAbs * 2 ^ β) * (b.natAbs * 2 ^ δ) := by rw [e2, e4]
      _ = a.natAbs * b.natAbs * (2 ^ β * 2 ^ δ) := by rw [Nat.mul_mul_mul_comm]
      _ = c.natAbs * (2 ^ β * 2 ^ δ * 2 ^ 45) := by rw [hn, Nat.mul_assoc, Nat.mul_comm (2 ^ 45)]

/-- A quotient by a power of two. -/
theorem div_fx {a c : Int} {s : Nat} (ha : Ex a) (hs : s ≤ 300) (hc : Ex c) (h : a * 2 ^ 45 = c * 2 ^ s) (h1 : 0 ≤ a) : double.div (fx a) (fx (2 ^ s)) = some (fx c) := by
  have hb : Ex (2 ^ s) := ⟨1, s, by rw [Int.natAbs_pow]; simp, by decide, hs⟩
  have hp : ((2 : Int) ^ s).natAbs = 2 ^ s := by rw [Int.natAbs_pow]; rfl
  have hpos := ipow_pos s
  obtain ⟨M, P, r1, p1, p1', s1, z1, n1⟩ := read_fx ha
  obtain ⟨N, Q, r2, q1, q1', s2, z2, n2⟩ := read_fx hb
  obtain ⟨m1, m2, m3⟩ := n2 (by omega)
  rw [hp] at s2
  have hN : N = 2 ^ 52 := by
    obtain ⟨γ, δ, e3, e4⟩ := s2
    rw [← Nat.pow_add] at e4
    have hl : (N * 2 ^ γ).log2 = 52 + γ := log2_eq (by rw [Nat.pow_add]; exact Nat.mul_le_mul_right _ m1) (by
      have e : 2 ^ (52 + γ + 1) = 2 ^ 53 * 2 ^ γ := by rw [← Nat.pow_add]; congr 1; omega
      rw [e]; exact Nat.mul_lt_mul_of_pos_right m2 (pow_pos2 _))
    rw [e4, Nat.log2_two_pow] at hl
    rw [hl, Nat.pow_add] at e4
    exact Nat.eq_of_mul_eq_mul_right (pow_pos2 _) e4
  subst hN
  unfold Format.div
  rw [r1, r2]
  unfold Datum.quotient
  simp only [Option.map_some, Option.some.injEq]
  rw [if_neg (by decide)]
  simp only [Option.map_some, Option.some.injEq]
  unfold Format.write
  simp only
  have d1 : decide (a < 0) = false := by simp; omega
  have d2 : decide ((2 : Int) ^ s < 0) = false := by simp; omega
  rw [d1, d2]
  have hc0 : 0 ≤ c := by
    have := Int.mul_nonneg h1 (Int.le_of_lt (ipow_pos 45))
    rw [h] at this
    rcases Int.lt_trichotomy c 0 with y | y | y
    · have := Int.mul_neg_of_neg_of_pos y hpos; omega
    · omega
    · omega
  by_cases h0 : c = 0
  · subst h0
    rw [Int.zero_mul] at h
    have ha0 : a = 0 := by
      rcases Int.mul_eq_zero.1 h with y | y
      · exact y
      · have := ipow_pos 45; omega
    have : M = 0 := z1.1 ha0
    subst this
    rw [fx0]
    simp [Nat.zero_shiftLeft]
    rfl
  · have d3 : (false ^^ false) = decide (c < 0) := by simp; omega
    rw [d3]
    refine nearest_fx hc h0 ?_
    have ha0 : a ≠ 0 := by
      rintro rfl
      rw [Int.zero_mul] at h
      rcases Int.mul_eq_zero.1 h.symm with y | y
      · exact h0 y
      · omega
    obtain ⟨k1, k2, k3⟩ := n1 ha0
    have l1 : M.log2 = 52 := log2_eq k1 k2
    have l2 : (2 ^ 52 : Nat).log2 = 52 := Nat.log2_two_pow
    have l3 : double.fractionBits + 2 + (2 ^ 52 : Nat).log2 - M.log2 = 54 := by rw [l1, l2]; rfl
    rw [l3, Nat.shiftLeft_eq]
    have l4 : M * 2 ^ 54 / 2 ^ 52 = M * 2 ^ 2 := by omega
    have l5 : (M * 2 ^ 54 % 2 ^ 52 != 0).toNat = 0 := by
      have : M * 2 ^ 54 % 2 ^ 52 = 0 := by omega
      rw [this]; rfl
    rw [l4, l5]
    obtain ⟨α, β, e1, e2⟩ := s1
    obtain ⟨γ, δ, e3, e4⟩ := s2
    have hn : a.natAbs * 2 ^ 45 = c.natAbs * 2 ^ s := by
      have := congrArg Int.natAbs h
      rw [Int.natAbs_mul, Int.natAbs_mul, Int.natAbs_pow, Int.natAbs_pow] at this
      exact this
    rw [← Nat.pow_add, ← Nat.pow_add] at e4
    have e5 : 52 + γ = s + δ := by
      have := congrArg Nat.log2 e4
      rwa [Nat.log2_two_pow, Nat.log2_two_pow] at this
    refine ⟨α + 42, β + s, by omega, ?_⟩
    have e6 : (2 * (M * 2 ^ 2) + 0) * 2 ^ (α + 42) = M * 2 ^ α * 2 ^ 45 := by
      rw [Nat.pow_add, Nat.add_zero]
      generalize 2 ^ α = x
      rw [show (2 : Nat) ^ 45 = 2 * 2 ^ 2 * 2 ^ 42 from rfl]
      simp only [Nat.mul_comm, Nat.mul_left_comm, Nat.mul_assoc]
    rw [e6, e2, Nat.mul_right_comm, hn, Nat.pow_add, Nat.mul_assoc, Nat.mul_comm (2 ^ s)]
end Go.Proofs.Ybulkdaxu
