import Derived.Test.YbulkdaxuRange
import Derived.Sort.Row
import Derived.Sort.LotA
import Derived.Sort.LotB
import Derived.Sort.LotC
import Derived.CellFam
import Derived.BigGuard
import Derived.BigCall
import Derived.Deep.Draws
import Derived.Deep.QuietTactic
namespace Go.Proofs.Ybulkdaxu
open Go.RowKit
set_option linter.unusedSimpArgs false
set_option linter.unusedVariables false

/-! A row of doubles that the sort turns. -/
abbrev FE := {a : Int // Ex a}
theorem ex0 : Ex 0 := Ex.of_lt (by decide)
def ltF (x y : FE) : Bool := decide (x.1 < y.1)
theorem swoF : Sort.SWO ltF := by
  refine ⟨fun x => ?_, fun x y z h1 h2 => ?_, fun x y z h1 h2 => ?_⟩ <;> simp only [ltF, decide_eq_true_eq, decide_eq_false_iff_not] at * <;> omega

structure SR [Inhabited FE] (blk off : Nat) (w0 w : World) (d : Array FE) : Prop where
  kb : Kb blk w0 w
  lt : blk < w0.heap.size
  out : ∀ k, (k < off ∨ off + d.size ≤ k) → w.cell? ⟨blk, k, none⟩ = w0.cell? ⟨blk, k, none⟩
  cell : ∀ k, k < d.size → w.cell? ⟨blk, off + k, none⟩ = some (.float .f64 (fx (d[k]!).1))
  frz : ∀ k, w.frozen? ⟨blk, k, none⟩ = false

theorem SR.trans [Inhabited FE] {blk off : Nat} {w0 w1 w2 : World} {d1 d2 : Array FE} (h : SR blk off w0 w1 d1) (k : SR blk off w1 w2 d2) (hs : d2.size = d1.size) : SR blk off w0 w2 d2 :=
  ⟨h.kb.trans k.kb, h.lt, fun j hj => (k.out j hj).trans (h.out j (by omega)), k.cell, k.frz⟩
theorem SR.self [Inhabited FE] {blk off : Nat} {w0 w1 : World} {d : Array FE} (h : SR blk off w0 w1 d) : SR blk off w1 w1 d :=
  ⟨Kb.refl _ _, Nat.lt_of_lt_of_le h.lt h.kb.size, fun _ _ => rfl, h.cell, h.frz⟩
theorem SR.drewN [Inhabited FE] {blk off : Nat} {w0 w : World} {d : Array FE} (h : SR blk off w0 w d) (n : Nat) : SR blk off w0 (w.drewN n) d :=
  ⟨⟨h.kb.os, h.kb.tape, h.kb.output, h.kb.size, h.kb.block⟩, h.lt, h.out, h.cell, h.frz⟩
theorem SR.set [Inhabited FE] {blk off : Nat} {w0 w : World} {d : Array FE} (h : SR blk off w0 w d) {i : Nat} (hi : i < d.size) (x : FE) : SR blk off w0 (w.setCell ⟨blk, off + i, none⟩ (.float .f64 (fx x.1))) (d.setIfInBounds i x) := by
  refine ⟨⟨h.kb.os, h.kb.tape, h.kb.output, by simpa using h.kb.size, fun k hk hn => ?_⟩, h.lt, fun k hk => ?_, fun k hk => ?_, fun k => by rw [World.frozen?_setCell]; exact h.frz k⟩
  · rw [Below.heap_setCell _ _ _ _ hn]; exact h.kb.block k hk hn
  · rw [Array.size_setIfInBounds] at hk
    rw [World.cell?_setCell_other w _ (a := ⟨blk, off + i, none⟩) (b := ⟨blk, k, none⟩) (by intro he; injection he with _ he; omega)]
    exact h.out k hk
  · rw [Array.size_setIfInBounds] at hk
    by_cases e : k = i
    · subst e
      rw [World.cell?_setCell_same' _ _ _ (by rw [h.cell k hk]; rfl), Sort.getElem!_set_same d k x hk]
    · rw [World.cell?_setCell_other w _ (a := ⟨blk, off + i, none⟩) (b := ⟨blk, off + k, none⟩) (by intro he; injection he with _ he; omega), Sort.getElem!_set_other d i k x e]
      exact h.cell k hk
/-- The exchange. -/
theorem SR.swap [Inhabited FE] {blk off : Nat} {w0 w : World} {d : Array FE} (h : SR blk off w0 w d) {i j : Nat} (hi : i < d.size) (hj : j < d.size) (n : Nat) :
    SR blk off w0 (((w.drewN n).setCell ⟨blk, off + i, none⟩ (.float .f64 (fx (d[j]!).1))).setCell ⟨blk, off + j, none⟩ (.float .f64 (fx (d[i]!).1))) (Sort.swp d i j) :=
  ((h.drewN n).set hi d[j]!).set (by simpa using hj) d[i]!
theorem SR.exs [Inhabited FE] {blk off : Nat} {w0 w : World} {d : Array FE} (_ : SR blk off w0 w d) (k : Nat) : Ex (d[k]!).1 := (d[k]!).2

theorem SR.fc [Inhabited FE] {blk off m : Nat} {w0 w : World} {d : Array FE} {F : Nat → Nat} (h : SR blk off w0 w d) (hF : ∀ t, fx (d[t]!).1 = F t) (hm : d.size = m) : ∀ t, t < m → w.cell? ⟨blk, off + t, none⟩ = some (.float .f64 (F t)) :=
  fun t ht => by rw [← hF]; exact h.cell t (by omega)
theorem SR.ff [Inhabited FE] {blk off m : Nat} {w0 w : World} {d : Array FE} (h : SR blk off w0 w d) : ∀ t, t < m → w.frozen? ⟨blk, off + t, none⟩ = false := fun t _ => h.frz _
theorem SR.drew [Inhabited FE] {blk off : Nat} {w0 w : World} {d : Array FE} (h : SR blk off w0 w d) : SR blk off w0 w.drew d :=
  ⟨⟨h.kb.os, h.kb.tape, h.kb.output, h.kb.size, h.kb.block⟩, h.lt, h.out, h.cell, h.frz⟩
theorem SR.swap1 [Inhabited FE] {blk off : Nat} {w0 w : World} {d : Array FE} (h : SR blk off w0 w d) {i j : Nat} (hi : i < d.size) (hj : j < d.size) {x y : Nat} (hx : fx (d[j]!).1 = x) (hy : fx (d[i]!).1 = y) :
    SR blk off w0 ((w.setCell ⟨blk, off + i, none⟩ (.float .f64 x)).setCell ⟨blk, off + j, none⟩ (.float .f64 y)).drew (Sort.swp d i j) := by
  subst hx; subst hy
  exact ((h.set hi d[j]!).set (by simpa using hj) d[i]!).drew
theorem SR.swapN [Inhabited FE] {blk off : Nat} {w0 w : World} {d : Array FE} (h : SR blk off w0 w d) {i j : Nat} (hi : i < d.size) (hj : j < d.size) {x y : Nat} (hx : fx (d[j]!).1 = x) (hy : fx (d[i]!).1 = y) (n : Nat) :
    SR blk off w0 (((w.drewN n).setCell ⟨blk, off + i, none⟩ (.float .f64 x)).setCell ⟨blk, off + j, none⟩ (.float .f64 y)) (Sort.swp d i j) := by
  subst hx; subst hy
  exact ((h.drewN n).set hi d[j]!).set (by simpa using hj) d[i]!
theorem ex_lt {a b : Int} (ha : Ex a) (hb : Ex b) (h : a < b) : FloatKind.f64.format.order (fx a) (fx b) = some .lt := by
  show Ieee.double.order (fx a) (fx b) = _
  rw [order_fx ha hb]; show some (compareOfLessAndEq a b) = _; unfold compareOfLessAndEq; rw [if_pos h]
theorem ex_eq {a b : Int} (ha : Ex a) (h : a = b) : FloatKind.f64.format.order (fx a) (fx b) = some .eq := by
  subst h
  show Ieee.double.order (fx a) (fx a) = _
  rw [order_fx ha ha]; show some (compareOfLessAndEq a a) = _; unfold compareOfLessAndEq; simp
theorem ex_gt {a b : Int} (ha : Ex a) (hb : Ex b) (h : b < a) : FloatKind.f64.format.order (fx a) (fx b) = some .gt := by
  show Ieee.double.order (fx a) (fx b) = _
  rw [order_fx ha hb]; show some (compareOfLessAndEq a b) = _; unfold compareOfLessAndEq; rw [if_neg (by omega), if_neg (by omega)]
theorem ox_lt {a b : Int} (ha : Ex a) (hb : Ex b) : (FloatKind.f64.format.order (fx a) (fx b) == some .lt) = decide (a < b) := by
  rcases Int.lt_trichotomy a b with h | h | h
  · rw [ex_lt ha hb h]; simp [h]
  · rw [ex_eq ha h]; subst h; simp
  · rw [ex_gt ha hb h]; simp; omega
theorem ox_gt {a b : Int} (ha : Ex a) (hb : Ex b) : (FloatKind.f64.format.order (fx a) (fx b) == some .gt) = decide (b < a) := by
  rcases Int.lt_trichotomy a b with h | h | h
  · rw [ex_lt ha hb h]; simp; omega
  · rw [ex_eq ha h]; subst h; simp
  · rw [ex_gt ha hb h]; simp [h]
theorem ox_le {a b : Int} (ha : Ex a) (hb : Ex b) : (FloatKind.f64.format.order (fx a) (fx b) == some .lt || FloatKind.f64.format.order (fx a) (fx b) == some .eq) = decide (a ≤ b) := by
  rcases Int.lt_trichotomy a b with h | h | h
  · rw [ex_lt ha hb h]; simp; omega
  · rw [ex_eq ha h]; subst h; simp
  · rw [ex_gt ha hb h]; simp; omega
theorem ox_ge {a b : Int} (ha : Ex a) (hb : Ex b) : (FloatKind.f64.format.order (fx a) (fx b) == some .gt || FloatKind.f64.format.order (fx a) (fx b) == some .eq) = decide (b ≤ a) := by
  rcases Int.lt_trichotomy a b with h | h | h
  · rw [ex_lt ha hb h]; simp; omega
  · rw [ex_eq ha h]; subst h; simp
  · rw [ex_gt ha hb h]; simp; omega
theorem ox_eq {a b : Int} (ha : Ex a) (hb : Ex b) : (FloatKind.f64.format.order (fx a) (fx b) == some .eq) = decide (a = b) := by
  rcases Int.lt_trichotomy a b with h | h | h
  · rw [ex_lt ha hb h, decide_eq_false (show ¬ a = b by omega)]; rfl
  · rw [ex_eq ha h]; subst h; simp
  · rw [ex_gt ha hb h, decide_eq_false (show ¬ a = b by omega)]; rfl
theorem ox_ne {a b : Int} (ha : Ex a) (hb : Ex b) : (FloatKind.f64.format.order (fx a) (fx b) != some .eq) = decide (a ≠ b) := by
  rcases Int.lt_trichotomy a b with h | h | h
  · rw [ex_lt ha hb h, decide_eq_true (show a ≠ b by omega)]; rfl
  · rw [ex_eq ha h]; subst h; simp
  · rw [ex_gt ha hb h, decide_eq_true (show a ≠ b by omega)]; rfl

theorem nan_any (a : Int) (ha : Ex a) (w : World) : Calls Yba.prog 84 #[.float .f64 (fx a)] w fun e w' => e = .returned (.bool false) ∧ w' = w := by
  have o := (ox_ne ha ha).trans (decide_eq_false (fun h => h rfl))
  go_enter Yba.func84, Yba.ntmps84
  go_wp2_with fail
  go_ret
  exact ⟨rfl, rfl⟩
theorem less_any (a b : Int) (ha : Ex a) (hb : Ex b) (w : World) : Calls Yba.prog 73 #[.float .f64 (fx a), .float .f64 (fx b)] w fun e w' => e = .returned (.bool (decide (a < b))) ∧ w' = w := by
  have o := ox_lt ha hb
  generalize decide (a < b) = r at *
  go_enter Yba.func73, Yba.ntmps73
  go_wp2_with (go_at_call 84; refine (nan_any _ (by assumption) _).mono ?_; rintro e w' ⟨rfl, rfl⟩)
  go_ret
  exact ⟨rfl, rfl⟩
/-- A row's numbers under names of their own: the kernel must not look into fx. -/
theorem row_open [Inhabited FE] (d : Array FE) : ∃ (F : Nat → Nat) (L : Nat → Nat → Bool), (∀ t, fx (d[t]!).1 = F t) ∧ (∀ i j, ltF d[i]! d[j]! = L i j) ∧
    ∀ i j w, Calls Yba.prog 73 #[.float .f64 (F i), .float .f64 (F j)] w fun e w' => e = .returned (.bool (L i j)) ∧ w' = w :=
  ⟨fun t => fx (d[t]!).1, fun i j => ltF d[i]! d[j]!, fun _ => rfl, fun _ _ => rfl, fun i j w => less_any _ _ (d[i]!).2 (d[j]!).2 w⟩
end Go.Proofs.Ybulkdaxu
