import Derived.Test.YbulkdaxuFl
import Derived.Test.YbulkdaxuProg
import Derived.WalkKit
import Derived.WalkLawsBesides
import Derived.BigRegion
import Derived.BigQuiet
import Derived.Deep.RegionLaw
import Derived.Deep.RegionHeld3
import Derived.Deep.DeepCutAuto
import Derived.Below
namespace Go.Proofs.Ybulkdaxu
open Go.RowKit
set_option linter.unusedSimpArgs false
set_option linter.unusedVariables false

set_option maxRecDepth 100000 in
theorem load_box (w : World) (g : Nat) (u0 u1 : Value) (h0 : w.cell? ⟨g, 0, none⟩ = some u0) (h1 : w.cell? ⟨g, 1, none⟩ = some u1) : (loadVar 27 ⟨g, 0, none⟩).run Yba.prog w = .ok (.agg #[u0, u1]) w := by
  go_simp
set_option maxRecDepth 100000 in
theorem load_one (w : World) (g : Nat) (u0 : Value) (h0 : w.cell? ⟨g, 0, none⟩ = some u0) : (loadVar 24 ⟨g, 0, none⟩).run Yba.prog w = .ok u0 w := by
  go_simp
set_option maxRecDepth 100000 in
theorem load_bool (w : World) (g : Nat) (u0 : Value) (h0 : w.cell? ⟨g, 0, none⟩ = some u0) : (loadVar 4 ⟨g, 0, none⟩).run Yba.prog w = .ok u0 w := by
  go_simp
theorem res_box {fn : Func} {p : Tmp} (h : fn.results = #[.cell p 27]) (tmps : Array Value) (w : World) (g : Nat) (u0 u1 : Value) (hp : tmps.getD p undef = .pointer (some ⟨g, 0, none⟩)) (h0 : w.cell? ⟨g, 0, none⟩ = some u0) (h1 : w.cell? ⟨g, 1, none⟩ = some u1) : (results fn tmps).run Yba.prog w = .ok (.agg #[u0, u1]) w := by
  have hp' : tmps[p]?.getD undef = .pointer (some ⟨g, 0, none⟩) := by simpa using hp
  simp [results, h, hp', asAddr, load_box w g u0 u1 h0 h1]
theorem res_box2 {fn : Func} {p q : Tmp} (h : fn.results = #[.cell p 27, .cell q 27]) (tmps : Array Value) (w : World) (g k : Nat) (u0 u1 v0 v1 : Value) (hp : tmps.getD p undef = .pointer (some ⟨g, 0, none⟩)) (hq : tmps.getD q undef = .pointer (some ⟨k, 0, none⟩)) (h0 : w.cell? ⟨g, 0, none⟩ = some u0) (h1 : w.cell? ⟨g, 1, none⟩ = some u1) (h2 : w.cell? ⟨k, 0, none⟩ = some v0) (h3 : w.cell? ⟨k, 1, none⟩ = some v1) : (results fn tmps).run Yba.prog w = .ok (.tuple #[.agg #[u0, u1], .agg #[v0, v1]]) w := by
  have hp' : tmps[p]?.getD undef = .pointer (some ⟨g, 0, none⟩) := by simpa using hp
  have hq' : tmps[q]?.getD undef = .pointer (some ⟨k, 0, none⟩) := by simpa using hq
  simp [results, h, hp', hq', asAddr, load_box w g u0 u1 h0 h1, load_box w k v0 v1 h2 h3]
theorem res_box3 {fn : Func} {p q r : Tmp} (h : fn.results = #[.cell p 27, .cell q 27, .tmp r]) (tmps : Array Value) (w : World) (g k : Nat) (u0 u1 v0 v1 : Value) (hp : tmps.getD p undef = .pointer (some ⟨g, 0, none⟩)) (hq : tmps.getD q undef = .pointer (some ⟨k, 0, none⟩)) (h0 : w.cell? ⟨g, 0, none⟩ = some u0) (h1 : w.cell? ⟨g, 1, none⟩ = some u1) (h2 : w.cell? ⟨k, 0, none⟩ = some v0) (h3 : w.cell? ⟨k, 1, none⟩ = some v1) : (results fn tmps).run Yba.prog w = .ok (.tuple #[.agg #[u0, u1], .agg #[v0, v1], tmps.getD r undef]) w := by
  have hp' : tmps[p]?.getD undef = .pointer (some ⟨g, 0, none⟩) := by simpa using hp
  have hq' : tmps[q]?.getD undef = .pointer (some ⟨k, 0, none⟩) := by simpa using hq
  simp [results, h, hp', hq', asAddr, load_box w g u0 u1 h0 h1, load_box w k v0 v1 h2 h3]
theorem res_box4 {fn : Func} {p q r s : Tmp} (h : fn.results = #[.cell p 27, .cell q 27, .tmp r, .tmp s]) (tmps : Array Value) (w : World) (g k : Nat) (u0 u1 v0 v1 : Value) (hp : tmps.getD p undef = .pointer (some ⟨g, 0, none⟩)) (hq : tmps.getD q undef = .pointer (some ⟨k, 0, none⟩)) (h0 : w.cell? ⟨g, 0, none⟩ = some u0) (h1 : w.cell? ⟨g, 1, none⟩ = some u1) (h2 : w.cell? ⟨k, 0, none⟩ = some v0) (h3 : w.cell? ⟨k, 1, none⟩ = some v1) : (results fn tmps).run Yba.prog w = .ok (.tuple #[.agg #[u0, u1], .agg #[v0, v1], tmps.getD r undef, tmps.getD s undef]) w := by
  have hp' : tmps[p]?.getD undef = .pointer (some ⟨g, 0, none⟩) := by simpa using hp
  have hq' : tmps[q]?.getD undef = .pointer (some ⟨k, 0, none⟩) := by simpa using hq
  simp [results, h, hp', hq', asAddr, load_box w g u0 u1 h0 h1, load_box w k v0 v1 h2 h3]

/-- v is a row of d doubles, the numbers x (at the scale 2^-45). -/
def FR (w : World) (v : Value) (d : Nat) (x : Nat → Int) : Prop :=
  ∃ b c, v = .slice (some ⟨b, 0, none⟩) d c ∧ d ≤ c ∧ b < w.heap.size ∧ ∀ k, k < d → w.cell? ⟨b, k, none⟩ = some (.float .f64 (fx (x k)))

/-- A fact kept out of the walk's sight. -/
structure Hid (p : Prop) : Prop where
  out : p
theorem FR.below {w w' : World} {v : Value} {d : Nat} {x : Nat → Int} (h : FR w v d x) (hb : Below w.heap.size w w') : FR w' v d x := by
  obtain ⟨b, c, rfl, h1, h2, h3⟩ := h
  exact ⟨b, c, rfl, h1, Nat.lt_of_lt_of_le h2 hb.size, fun k hk => (hb.cell (p := ⟨b, k, none⟩) h2).trans (h3 k hk)⟩
theorem FR.cast {w : World} {v : Value} {d : Nat} {x y : Nat → Int} (h : FR w v d x) (e : ∀ k, k < d → x k = y k) : FR w v d y := by
  obtain ⟨b, c, rfl, h1, h2, h3⟩ := h
  exact ⟨b, c, rfl, h1, h2, fun k hk => by rw [h3 k hk, e k hk]⟩

theorem Below.drewN {B : Nat} {a w : World} (h : Below B a w) (n : Nat) : Below B a (w.drewN n) := ⟨h.os, h.tape, h.output, h.size, h.block⟩
/-- A number small enough. -/
def Sm (a : Int) : Prop := -(2 ^ 52) ≤ a ∧ a ≤ 2 ^ 52
theorem Sm.ex {a : Int} (h : Sm a) : Ex a := Ex.of_lt (by have := h.1; have := h.2; omega)

theorem ord_fx {a b : Int} (ha : Sm a) (hb : Sm b) : FloatKind.f64.format.order (fx a) (fx b) = some (compare a b) := order_fx ha.ex hb.ex
theorem ord_lt {a b : Int} (ha : Sm a) (hb : Sm b) (h : a < b) : FloatKind.f64.format.order (fx a) (fx b) = some .lt := by
  rw [ord_fx ha hb]; show some (compareOfLessAndEq a b) = _; unfold compareOfLessAndEq; rw [if_pos h]
theorem ord_eq {a b : Int} (ha : Sm a) (h : a = b) : FloatKind.f64.format.order (fx a) (fx b) = some .eq := by
  subst h; rw [ord_fx ha ha]; show some (compareOfLessAndEq a a) = _; unfold compareOfLessAndEq; simp
theorem ord_gt {a b : Int} (ha : Sm a) (hb : Sm b) (h : b < a) : FloatKind.f64.format.order (fx a) (fx b) = some .gt := by
  rw [ord_fx ha hb]; show some (compareOfLessAndEq a b) = _; unfold compareOfLessAndEq; rw [if_neg (by omega), if_neg (by omega)]
theorem fadd {a b : Int} (ha : Sm a) (hb : Sm b) (hc : Sm (a + b)) (c : Int) (e : a + b = c) : ∀ t w, (binOp .add t (.float .f64 (fx a)) (.float .f64 (fx b))).run Yba.prog w = .ok (.float .f64 (fx c)) w := by
  subst e; exact fun t w => run_float_arith w .add t .f64 _ _ _ (add_fx ha.ex hb.ex hc.ex)
theorem fsub {a b : Int} (ha : Sm a) (hb : Sm b) (hc : Sm (a - b)) : ∀ t w, (binOp .sub t (.float .f64 (fx a)) (.float .f64 (fx b))).run Yba.prog w = .ok (.float .f64 (fx (a - b))) w :=
  fun t w => run_float_arith w .sub t .f64 _ _ _ (sub_fx ha.ex hb.ex hc.ex)
theorem fhalf {a c : Int} (ha : Sm a) (h : a = 2 * c) (h0 : 0 ≤ a) : ∀ t w, (binOp .quo t (.float .f64 (fx a)) (.float .f64 4611686018427387904)).run Yba.prog w = .ok (.float .f64 (fx c)) w := by
  have e : fx (2 ^ 46) = 4611686018427387904 := by decide
  have := div_fx (c := c) (s := 46) ha.ex (by omega) (Ex.of_lt (by have := ha.1; have := ha.2; omega)) (by omega) h0
  rw [e] at this
  exact fun t w => run_float_arith w .quo t .f64 _ _ _ this
theorem fdiv {a c : Int} {s : Nat} (ha : Sm a) (hs : s ≤ 52) (hc : Sm c) (h : a * 2 ^ 45 = c * 2 ^ s) (h0 : 0 ≤ a) (b : Int) (hb : b = 2 ^ s) : ∀ t w, (binOp .quo t (.float .f64 (fx a)) (.float .f64 (fx b))).run Yba.prog w = .ok (.float .f64 (fx c)) w := by
  subst hb; exact fun t w => run_float_arith w .quo t .f64 _ _ _ (div_fx ha.ex (by omega) hc.ex h h0)
theorem fmul {a b c : Int} (ha : Sm a) (hb : Sm b) (hc : Sm c) (h : a * b = c * 2 ^ 45) (h0 : 0 ≤ a) (h1 : 0 ≤ b) : ∀ t w, (binOp .mul t (.float .f64 (fx a)) (.float .f64 (fx b))).run Yba.prog w = .ok (.float .f64 (fx c)) w :=
  fun t w => run_float_arith w .mul t .f64 _ _ _ (mul_fx ha.ex hb.ex hc.ex h h0 h1)

set_option maxRecDepth 100000 in
theorem dims_any (w : World) (lo hi : Value) (d : Nat) (x : Nat → Int) (h : FR w lo d x) : Calls Yba.prog 39 #[.agg #[lo, hi]] w fun e w' => e = .returned (.int .i64 d) ∧ Below w.heap.size w w' := by
  obtain ⟨b, c, rfl, h1, h2, h3⟩ := h
  go_enter Yba.func39, Yba.ntmps39
  go_wp2_with fail
  go_ret
  exact ⟨rfl, (Below.refl _ _).alloc (Nat.le_refl _) _⟩

set_option maxRecDepth 100000 in
theorem mid_any (w : World) (lo hi : Value) (d k : Nat) (x y : Nat → Int) (m : Int) (h : FR w lo d x) (h' : FR w hi d y) (hk : k < d) (hd : d ≤ 3) (hx : Sm (x k)) (hy : Sm (y k)) (hm : x k + (m - x k) * 2 = y k) (hlt : x k < m) (h0 : 0 ≤ x k) :
    Calls Yba.prog 25 #[.agg #[lo, hi], .int .i64 k] w fun e w' => e = .returned (.float .f64 (fx m)) ∧ Below w.heap.size w w' := by
  obtain ⟨b, c, rfl, h1, h2, h3⟩ := h
  obtain ⟨b', c', rfl, h1', h2', h3'⟩ := h'
  have c1 := h3 k hk
  have c2 := h3' k hk
  have hy2 := hy.2
  have f1 := fsub hy hx ⟨by have := hx.2; omega, by omega⟩
  have f2 := fhalf (a := y k - x k) (c := m - x k) ⟨by omega, by omega⟩ (by omega) (by omega)
  have f3 := fadd hx (b := m - x k) ⟨by omega, by omega⟩ ⟨by omega, by omega⟩ m (by omega)
  have o1 := ord_lt hx (b := m) ⟨by omega, by omega⟩ hlt
  have o2 := ord_lt (a := m) (b := y k) ⟨by omega, by omega⟩ hy (by omega)
  have hk0 : (0 : Int) ≤ (k : Int) := by omega
  have hk1 : (k : Int) < (d : Int) := by omega
  go_enter Yba.func25, Yba.ntmps25
  go_wp2_with fail
  go_quiet (fail)
  go_wp2_with fail
  go_ret
  exact ⟨rfl, Below.drewN ((Below.refl _ _).alloc (Nat.le_refl _) _) _⟩

set_option maxRecDepth 100000 in
theorem between_any (w : World) (lo hi u c : Int) (h1 : Sm lo) (h2 : Sm hi) (h3 : Sm u) (h4 : Sm c) (h0 : 0 ≤ lo) (hl : lo ≤ hi) (hu : 0 ≤ u) (h5 : u * (hi - lo) = c * 2 ^ 45) (h6 : 0 ≤ c) (h7 : lo + c ≤ 2 ^ 52) :
    Calls Yba.prog 26 #[.float .f64 (fx lo), .float .f64 (fx hi), .float .f64 (fx u)] w fun e w' => e = .returned (.float .f64 (fx (lo + c))) ∧ Below w.heap.size w w' := by
  have a1 := h1.1; have a2 := h2.2
  have f1 := fsub h2 h1 ⟨by have := h1.2; have := h2.1; omega, by omega⟩
  have f2 := fmul h3 (b := hi - lo) (c := c) ⟨by omega, by omega⟩ h4 h5 hu (by omega)
  have f3 := fadd h1 (b := c) h4 ⟨by omega, by omega⟩ _ rfl
  go_enter Yba.func26, Yba.ntmps26
  go_wp2_with fail
  go_ret
  exact ⟨rfl, Below.refl _ _⟩

/-- A fresh row of the call's own. -/
def FN (n0 : Nat) (w : World) (v : Value) (d : Nat) (x : Nat → Int) : Prop :=
  ∃ b c, v = .slice (some ⟨b, 0, none⟩) d c ∧ d ≤ c ∧ n0 ≤ b ∧ b < w.heap.size ∧ (∀ k, k < d → w.cell? ⟨b, k, none⟩ = some (.float .f64 (fx (x k)))) ∧ ∀ k, w.frozen? ⟨b, k, none⟩ = false
theorem FN.fr {n0 : Nat} {w : World} {v : Value} {d : Nat} {x : Nat → Int} (h : FN n0 w v d x) : FR w v d x := by
  obtain ⟨b, c, h1, h2, h3, h4, h5, h6⟩ := h
  exact ⟨b, c, h1, h2, h4, h5⟩
theorem FN.below {n0 : Nat} {w w' : World} {v : Value} {d : Nat} {x : Nat → Int} (h : FN n0 w v d x) (hb : Below w.heap.size w w') : FN n0 w' v d x := by
  obtain ⟨b, c, rfl, h1, h0, h2, h3, h4⟩ := h
  exact ⟨b, c, rfl, h1, h0, Nat.lt_of_lt_of_le h2 hb.size, fun k hk => (hb.cell (p := ⟨b, k, none⟩) h2).trans (h3 k hk), fun k => (hb.frozen (p := ⟨b, k, none⟩) h2).trans (h4 k)⟩

theorem FN.form {n0 : Nat} {w : World} {v : Value} {d : Nat} {x : Nat → Int} (h : FN n0 w v d x) : ∃ g c, v = .slice (some ⟨g, 0, none⟩) d c := by
  obtain ⟨b, c, h1, _⟩ := h; exact ⟨b, c, h1⟩
theorem FN.lo {n0 : Nat} {w : World} {d d' g c : Nat} {x : Nat → Int} (h : FN n0 w (.slice (some ⟨g, 0, none⟩) d' c) d x) : n0 ≤ g ∧ g < w.heap.size := by
  obtain ⟨b, c, h1, h2, h3, h4, _⟩ := h; cases h1; exact ⟨h3, h4⟩
theorem Hid.mov {n0 : Nat} {w w' : World} {v : Value} {d : Nat} {x : Nat → Int} (h : Hid (FN n0 w v d x)) (hb : Below w.heap.size w w') : Hid (FN n0 w' v d x) := ⟨h.out.below hb⟩
theorem FN.setCell {n0 : Nat} {w : World} {v : Value} {d : Nat} {x : Nat → Int} (h : FN n0 w v d x) {p : Addr} (hp : p.block < n0) (u : Value) : FN n0 (w.setCell p u) v d x := by
  obtain ⟨b, c, rfl, h1, h0, h2, h3, h4⟩ := h
  refine ⟨b, c, rfl, h1, h0, by simpa using h2, fun k hk => ?_, fun k => ?_⟩
  · rw [World.cell?_of_block (a := ⟨b, k, none⟩) (Below.heap_setCell w p u b (by omega))]; exact h3 k hk
  · rw [World.frozen?_setCell]; exact h4 k
theorem FN.mono {n0 n1 : Nat} {w : World} {v : Value} {d : Nat} {x : Nat → Int} (h : FN n0 w v d x) (hn : n1 ≤ n0) : FN n1 w v d x := by
  obtain ⟨b, c, rfl, h1, h0, h2, h3, h4⟩ := h
  exact ⟨b, c, rfl, h1, Nat.le_trans hn h0, h2, h3, h4⟩
theorem info31 : (Yba.prog.info? 31).map (fun i => (i.zero, i.size, i.bytes)) = some (some (.float .f64 0), 1, 8) := by kernel_rfl

def flts (d : Nat) (x : Nat → Int) : List Value := (List.range d).map fun k => .float .f64 (fx (x k))
theorem flts_len (d : Nat) (x : Nat → Int) : (flts d x).length = d := by simp [flts]
theorem flts_get (d : Nat) (x : Nat → Int) (k : Nat) (hk : k < d) : (flts d x)[k]? = some (.float .f64 (fx (x k))) := by simp [flts, hk]

theorem own_fn {n0 : Nat} {w : World} {v : Value} {d : Nat} {x : Nat → Int} (h : w.ownsRow n0 31 1 v d (flts d x)) (hd : 0 < d) : FN n0 w v d x := by
  obtain ⟨h1, ⟨_, h2⟩ | ⟨g, cap, cur, rfl, hb, hg, hc, hm, hs, ht⟩⟩ := h
  · omega
  · have hlt : g < w.heap.size := by
      rcases Nat.lt_or_ge g w.heap.size with h | h
      · exact h
      · rw [Array.getElem?_eq_none h] at hg; cases hg
    refine ⟨g, cap, rfl, hc, hb, hlt, fun k hk => ?_, fun k => ?_⟩
    · have e := flts_get d x k hk
      rw [← ht, List.getElem?_take, if_pos (by omega)] at e
      simp [World.cell?, hg]
      simpa using e
    · simp [World.frozen?, hg]

/-- 'append([]float64(nil), xs...)' as a step of a region that draws its order. -/
theorem step_clone {w : World} {d : Nat} {x : Nat → Int} {ops : Array Oper} {o : Oper} {a : Act} {K : Act → World → Prop} {Q : Exit → Act → World → Prop} {E : Prop} (hgd : o.guard = none) (s y : Operand) 
    (ho : o.op = .call { callee := .builtin .append, args := #[s, y], argTypes := #[23, 23] }) (hs' : a.eval s = .slice none 0 0) (hd : 0 < d) (hd3 : d ≤ 3)
    (v : Value) (hv : a.eval y = v) (hR : FR w v d x)
    (h : ∀ v' w', Below w.heap.size w w' → FN w.heap.size w' v' d x → K (a.put o.dst v') w') :
    if Region.wanted o (yielded ops a.tmps) = true then o.wp Yba.prog a w K Q else E := by
  have hw : Region.wanted o (yielded ops a.tmps) = true := by simp [Region.wanted, hgd]
  rw [if_pos hw]
  obtain ⟨i, hi, hz0, hz1, hz2⟩ := info_parts info31
  obtain ⟨b, c, rfl, h1, h2, h3⟩ := hR
  refine wp_append_own w s y 23 ho w.heap.size 31 i (.float .f64 0) 1 8 Yba.underlying23 hi hz0 hz1 hz2 rfl (by decide) _ 0 [] hs' (World.ownsRow_nil _ _ _ _) ⟨b, 0, none⟩ d c (flts d x) hv (by rw [flts_len]; omega) ?_ ?_ (by simp [maxLen]; omega) (by omega) (Nat.le_refl _) ?_
  · intro j u hj
    have hj2 : j < d := by
      rcases Nat.lt_or_ge j d with h | h
      · exact h
      · rw [List.getElem?_eq_none (by rw [flts_len]; omega)] at hj; cases hj
    rw [flts_get d x j hj2] at hj
    cases hj
    rw [Addr.add_lit]
    simpa using h3 j hj2
  · intro u hu
    simp only [flts, List.mem_map] at hu
    obtain ⟨k, _, rfl⟩ := hu
    rfl
  · intro v' w' h4 h5 h6
    rw [Nat.zero_add, List.nil_append] at h4
    exact h v' w' ((Below.refl _ _).grown h5 (Nat.le_refl _) (fun k e => by cases e)) (own_fn h4 hd)

set_option maxRecDepth 100000 in
theorem clone_any (w : World) (lo hi : Value) (d : Nat) (x y : Nat → Int) (h : FR w lo d x) (h' : FR w hi d y) (hd : 0 < d) (hd3 : d ≤ 3) :
    Calls Yba.prog 57 #[.agg #[lo, hi]] w fun e w' => ∃ lo' hi', e = .returned (.agg #[lo', hi']) ∧ Below w.heap.size w w' ∧ FN w.heap.size w' lo' d x ∧ FN w.heap.size w' hi' d y ∧ lo'.ownBlock ≠ hi'.ownBlock := by
  go_enter Yba.func57, Yba.ntmps57
  go_wp2_with fail
  generalize hS : ((w.alloc (Obj.cells #[lo, hi] 27)).alloc (Obj.cells #[Value.slice none 0 0, Value.slice none 0 0] 27)) = wS
  have BS : Below w.heap.size w wS := by rw [← hS]; exact ((Below.refl _ _).alloc (Nat.le_refl _) _).alloc (by simp) _
  have sS : wS.heap.size = w.heap.size + 2 := by rw [← hS]; simp
  have k0 : wS.cell? ⟨w.heap.size, 0, none⟩ = some lo := by rw [← hS]; simp
  have k1 : wS.cell? ⟨w.heap.size, 1, none⟩ = some hi := by rw [← hS]; simp
  have k2 : wS.cell? ⟨w.heap.size + 1, 0, none⟩ = some (.slice none 0 0) := by rw [← hS]; simp
  have k3 : wS.cell? ⟨w.heap.size + 1, 1, none⟩ = some (.slice none 0 0) := by rw [← hS]; simp
  have z2 : ∀ k, wS.frozen? ⟨w.heap.size + 1, k, none⟩ = false := by rw [← hS]; intro k; simp
  clear hS
  have HR : ∀ w', Below wS.heap.size wS w' → Hid (FR w' lo d x) ∧ Hid (FR w' hi d y) ∧ w'.cell? ⟨w.heap.size, 0, none⟩ = some lo ∧ w'.cell? ⟨w.heap.size, 1, none⟩ = some hi ∧ w'.cell? ⟨w.heap.size + 1, 0, none⟩ = some (.slice none 0 0) ∧ w'.cell? ⟨w.heap.size + 1, 1, none⟩ = some (.slice none 0 0) ∧ (∀ k, w'.frozen? ⟨w.heap.size + 1, k, none⟩ = false) := by
    intro w' hB
    refine ⟨⟨(h.below BS).below hB⟩, ⟨(h'.below BS).below hB⟩, (hB.cell (p := ⟨w.heap.size, 0, none⟩) (by simp [sS])).trans k0, (hB.cell (p := ⟨w.heap.size, 1, none⟩) (by simp [sS])).trans k1, (hB.cell (p := ⟨w.heap.size + 1, 0, none⟩) (by simp [sS])).trans k2, (hB.cell (p := ⟨w.heap.size + 1, 1, none⟩) (by simp [sS])).trans k3, fun k => (hB.frozen (p := ⟨w.heap.size + 1, k, none⟩) (by simp [sS])).trans (z2 k)⟩
  have B0 : Hid (Below wS.heap.size wS wS) := ⟨Below.refl _ _⟩
  have HR' : Hid (∀ w', Below wS.heap.size wS w' → Hid (FR w' lo d x) ∧ Hid (FR w' hi d y) ∧ w'.cell? ⟨w.heap.size, 0, none⟩ = some lo ∧ w'.cell? ⟨w.heap.size, 1, none⟩ = some hi ∧ w'.cell? ⟨w.heap.size + 1, 0, none⟩ = some (.slice none 0 0) ∧ w'.cell? ⟨w.heap.size + 1, 1, none⟩ = some (.slice none 0 0) ∧ (∀ k, w'.frozen? ⟨w.heap.size + 1, k, none⟩ = false)) := ⟨HR⟩
  clear HR
  obtain ⟨bl, cl, rfl, q1, q2, q3⟩ := h
  obtain ⟨bh, ch, rfl, r1, r2, r3⟩ := h'
  go_region_law (first
    | (refine step_clone (d := d) (x := x) rfl _ (.tmp 4) rfl rfl hd hd3 (.slice (some ⟨bl, 0, none⟩) d cl) (by simp [Act.eval, Act.put]) (HR'.out _ BH.out).1.out ?_; intro v2 w2 hB2 hN2; obtain ⟨gl, cl1, rfl⟩ := hN2.form; have BB : Hid (Below wS.heap.size wS w2) := ⟨BH.out.trans (hB2.mono BH.out.size)⟩; have NL := Hid.mk hN2; have NH2 := NH.mov hB2; have e0w2 := (HR'.out w2 BB.out).2.2.1; have e1w2 := (HR'.out w2 BB.out).2.2.2.1; have e2w2 := (HR'.out w2 BB.out).2.2.2.2.1; have e3w2 := (HR'.out w2 BB.out).2.2.2.2.2.1; have e4w2 := (HR'.out w2 BB.out).2.2.2.2.2.2)
    | (refine step_clone (d := d) (x := y) rfl _ (.tmp 7) rfl rfl hd hd3 (.slice (some ⟨bh, 0, none⟩) d ch) (by simp [Act.eval, Act.put]) (HR'.out _ BL.out).2.1.out ?_; intro v2 w2 hB2 hN2; obtain ⟨gh, ch1, rfl⟩ := hN2.form; have BB : Hid (Below wS.heap.size wS w2) := ⟨BL.out.trans (hB2.mono BL.out.size)⟩; have NH := Hid.mk hN2; have NL2 := NL.mov hB2; have e0w2 := (HR'.out w2 BB.out).2.2.1; have e1w2 := (HR'.out w2 BB.out).2.2.2.1; have e2w2 := (HR'.out w2 BB.out).2.2.2.2.1; have e3w2 := (HR'.out w2 BB.out).2.2.2.2.2.1; have e4w2 := (HR'.out w2 BB.out).2.2.2.2.2.2)
    | (refine step_clone (d := d) (x := x) rfl _ (.tmp 4) rfl rfl hd hd3 (.slice (some ⟨bl, 0, none⟩) d cl) (by simp [Act.eval, Act.put]) (HR'.out _ B0.out.drew).1.out ?_; intro v1 w1 hB1 hN1; obtain ⟨gl, cl1, rfl⟩ := hN1.form; have BL : Hid (Below wS.heap.size wS w1) := ⟨B0.out.drew.trans hB1⟩; have NL := Hid.mk hN1; have e0w1 := (HR'.out w1 BL.out).2.2.1; have e1w1 := (HR'.out w1 BL.out).2.2.2.1; have e2w1 := (HR'.out w1 BL.out).2.2.2.2.1; have e3w1 := (HR'.out w1 BL.out).2.2.2.2.2.1; have e4w1 := (HR'.out w1 BL.out).2.2.2.2.2.2)
    | (refine step_clone (d := d) (x := y) rfl _ (.tmp 7) rfl rfl hd hd3 (.slice (some ⟨bh, 0, none⟩) d ch) (by simp [Act.eval, Act.put]) (HR'.out _ B0.out.drew).2.1.out ?_; intro v1 w1 hB1 hN1; obtain ⟨gh, ch1, rfl⟩ := hN1.form; have BH : Hid (Below wS.heap.size wS w1) := ⟨B0.out.drew.trans hB1⟩; have NH := Hid.mk hN1; have e0w1 := (HR'.out w1 BH.out).2.2.1; have e1w1 := (HR'.out w1 BH.out).2.2.2.1; have e2w1 := (HR'.out w1 BH.out).2.2.2.2.1; have e3w1 := (HR'.out w1 BH.out).2.2.2.2.2.1; have e4w1 := (HR'.out w1 BH.out).2.2.2.2.2.2))
  all_goals go_wp2_with fail
  all_goals refine bodyPost_ret (res_box rfl _ _ (w.heap.size + 1) (.slice (some ⟨gl, 0, none⟩) d cl1) (.slice (some ⟨gh, 0, none⟩) d ch1) rfl (by go_simp) (by go_simp)) rfl ?_
  all_goals first
    | exact ⟨_, _, rfl, ((BS.trans (BB.out.mono (by omega))).setCell (p := ⟨w.heap.size + 1, 0, none⟩) (by simp) _).setCell (p := ⟨w.heap.size + 1, 1, none⟩) (by simp) _, ((NL2.out.setCell (by simp [sS]) _).setCell (by simp [sS]) _).mono (by simp [sS]), ((NH.out.setCell (by simp; have := BL.out.size; omega) _).setCell (by simp; have := BL.out.size; omega) _).mono (by have := BL.out.size; omega), fun e => by have h1 := NL.out.lo.2; have h2 := NH.out.lo.1; simp [Value.ownBlock] at e; omega⟩
    | exact ⟨_, _, rfl, ((BS.trans (BB.out.mono (by omega))).setCell (p := ⟨w.heap.size + 1, 0, none⟩) (by simp) _).setCell (p := ⟨w.heap.size + 1, 1, none⟩) (by simp) _, ((NL.out.setCell (by simp; have := BH.out.size; omega) _).setCell (by simp; have := BH.out.size; omega) _).mono (by have := BH.out.size; omega), ((NH2.out.setCell (by simp [sS]) _).setCell (by simp [sS]) _).mono (by simp [sS]), fun e => by have h1 := NH.out.lo.2; have h2 := NL.out.lo.1; simp [Value.ownBlock] at e; omega⟩
end Go.Proofs.Ybulkdaxu
