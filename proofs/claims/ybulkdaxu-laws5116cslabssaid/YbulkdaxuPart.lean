import Derived.Test.YbulkdaxuHalf
namespace Go.Proofs.Ybulkdaxu
open Go.RowKit
set_option linter.unusedSimpArgs false
set_option linter.unusedVariables false

theorem ob_lt {a b : Int} (ha : Sm a) (hb : Sm b) : (FloatKind.f64.format.order (fx a) (fx b) == some .lt) = decide (a < b) := by
  rcases Int.lt_trichotomy a b with h | h | h
  · rw [ord_lt ha hb h]; simp [h]
  · rw [ord_eq ha h]; subst h; simp
  · rw [ord_gt ha hb h]; simp; omega
theorem ob_gt {a b : Int} (ha : Sm a) (hb : Sm b) : (FloatKind.f64.format.order (fx a) (fx b) == some .gt) = decide (b < a) := by
  rcases Int.lt_trichotomy a b with h | h | h
  · rw [ord_lt ha hb h]; simp; omega
  · rw [ord_eq ha h]; subst h; simp
  · rw [ord_gt ha hb h]; simp [h]
theorem ob_le {a b : Int} (ha : Sm a) (hb : Sm b) : (FloatKind.f64.format.order (fx a) (fx b) == some .lt || FloatKind.f64.format.order (fx a) (fx b) == some .eq) = decide (a ≤ b) := by
  rcases Int.lt_trichotomy a b with h | h | h
  · rw [ord_lt ha hb h]; simp; omega
  · rw [ord_eq ha h]; subst h; simp
  · rw [ord_gt ha hb h]; simp; omega
theorem ob_ge {a b : Int} (ha : Sm a) (hb : Sm b) : (FloatKind.f64.format.order (fx a) (fx b) == some .gt || FloatKind.f64.format.order (fx a) (fx b) == some .eq) = decide (b ≤ a) := by
  rcases Int.lt_trichotomy a b with h | h | h
  · rw [ord_lt ha hb h]; simp; omega
  · rw [ord_eq ha h]; subst h; simp
  · rw [ord_gt ha hb h]; simp; omega
theorem ob_ne {a b : Int} (ha : Sm a) (hb : Sm b) : (FloatKind.f64.format.order (fx a) (fx b) != some .eq) = decide (a ≠ b) := by
  rcases Int.lt_trichotomy a b with h | h | h
  · rw [ord_lt ha hb h, decide_eq_true (show a ≠ b by omega)]; rfl
  · rw [ord_eq ha h]; subst h; simp
  · rw [ord_gt ha hb h, decide_eq_true (show a ≠ b by omega)]; rfl
/-- Every coordinate lies inside. -/
def Ins (d : Nat) (x y z : Nat → Int) : Prop := ∀ k, k < d → x k ≤ z k ∧ z k < y k
def ContPost (d : Nat) (x y z : Nat → Int) (w : World) (e : Ending) (w' : World) : Prop := ∃ b : Bool, e = .returned (.bool b) ∧ (b = true ↔ Ins d x y z) ∧ Below w.heap.size w w'

set_option maxRecDepth 100000 in
theorem contains_any (w : World) (lo hi p : Value) (d : Nat) (x y z : Nat → Int) (h : FR w lo d x) (h' : FR w hi d y) (hp : FR w p d z) (hd3 : d ≤ 3) (sx : ∀ k, k < d → Sm (x k)) (sy : ∀ k, k < d → Sm (y k)) (sz : ∀ k, k < d → Sm (z k)) :
    Calls Yba.prog 58 #[.agg #[lo, hi], p] w (ContPost d x y z w) := by
  obtain ⟨bl, cl, rfl, p1, p2, p3⟩ := h
  obtain ⟨bh, ch, rfl, q1, q2, q3⟩ := h'
  obtain ⟨bp, cp, rfl, r1, r2, r3⟩ := hp
  go_enter Yba.func58, Yba.ntmps58
  go_wp2_with fail
  go_loopw [9] (fun v wr => ∃ k : Nat, k ≤ d ∧ v = .int .i64 (k : Int) ∧ Below w.heap.size w wr ∧ wr.cell? ⟨w.heap.size, 0, none⟩ = some (.slice (some ⟨bl, 0, none⟩) d cl) ∧ wr.cell? ⟨w.heap.size, 1, none⟩ = some (.slice (some ⟨bh, 0, none⟩) d ch) ∧ ∀ j, j < k → x j ≤ z j ∧ z j < y j) (fun v _ => d - (intOf v).toNat)
  case atStart =>
    exact ⟨0, by omega, rfl, (Below.refl _ _).alloc (Nat.le_refl _) _, by go_simp, by go_simp, fun j hj => by omega⟩
  case round =>
    obtain ⟨k, hk, rfl, hB, c0, c1, hall⟩ := hrel
    have Hall := Hid.mk hall
    clear hall
    by_cases hkd : k < d
    · have hi0 : (0 : Int) ≤ (k : Int) := by omega
      have hi1 : (k : Int) < (d : Int) := by omega
      have e1 := (hB.cell (p := ⟨bl, k, none⟩) p2).trans (p3 k hkd)
      have e2 := (hB.cell (p := ⟨bh, k, none⟩) q2).trans (q3 k hkd)
      have e3 := (hB.cell (p := ⟨bp, k, none⟩) r2).trans (r3 k hkd)
      by_cases h1 : x k ≤ z k
      · have o1 := (ob_le (sx k hkd) (sz k hkd)).trans (decide_eq_true h1)
        by_cases h2 : z k < y k
        · have o2 := ord_lt (sz k hkd) (sy k hkd) h2
          go_wp2_with fail
          go_quiet (fail)
          go_wp2_with fail
          go_roundw
          case rel =>
            refine ⟨k + 1, by omega, by simp, Below.drewN hB _, c0, c1, fun j hj => ?_⟩
            by_cases e : j = k
            · subst e; exact ⟨h1, h2⟩
            · exact Hall.out j (by omega)
          case measure => simp only [intOf]; omega
        · have o2 := (ob_lt (sz k hkd) (sy k hkd)).trans (decide_eq_false h2)
          go_wp2_with fail
          go_quiet (fail)
          go_wp2_with fail
          go_ret
          exact ⟨false, rfl, ⟨fun h => (by cases h), fun h => (by have := (h k hkd).2; omega)⟩, Below.drewN hB _⟩
      · have o1 := (ob_le (sx k hkd) (sz k hkd)).trans (decide_eq_false h1)
        go_wp2_with fail
        go_quiet (fail)
        go_wp2_with fail
        go_ret
        exact ⟨false, rfl, ⟨fun h => (by cases h), fun h => (by have := (h k hkd).1; omega)⟩, Below.drewN hB _⟩
    · have hi1 : ¬ (k : Int) < (d : Int) := by omega
      go_wp2_with fail
      go_ret
      exact ⟨true, rfl, ⟨fun _ j hj => Hall.out j (by omega), fun _ => rfl⟩, hB⟩

/-- Two boxes written, and a draw: what lies behind. -/
structure Fin2 (w1 : World) (g g' : Nat) (p q r s : Value) (w' : World) : Prop where
  a0 : w'.cell? ⟨g, 0, none⟩ = some p
  a1 : w'.cell? ⟨g, 1, none⟩ = some q
  b0 : w'.cell? ⟨g', 0, none⟩ = some r
  b1 : w'.cell? ⟨g', 1, none⟩ = some s
  bel : ∀ {n : Nat} {w : World}, n ≤ g → n ≤ g' → Below n w w1 → Below n w w'
  fn : ∀ {n0 : Nat} {v : Value} {d : Nat} {x : Nat → Int}, g < n0 → g' < n0 → FN n0 w1 v d x → FN n0 w' v d x
theorem fin2 {w1 : World} {g g' : Nat} (hne : g ≠ g') (p q r s : Value) {u0 u1 v0 v1 : Value} (h0 : w1.cell? ⟨g, 0, none⟩ = some u0) (h1 : w1.cell? ⟨g, 1, none⟩ = some u1) (h2 : w1.cell? ⟨g', 0, none⟩ = some v0) (h3 : w1.cell? ⟨g', 1, none⟩ = some v1) :
    Fin2 w1 g g' p q r s (((((w1.setCell ⟨g, 0, none⟩ p).setCell ⟨g, 1, none⟩ q).setCell ⟨g', 0, none⟩ r).setCell ⟨g', 1, none⟩ s).drew) := by
  generalize h5 : (w1.setCell ⟨g, 0, none⟩ p).setCell ⟨g, 1, none⟩ q = w5
  generalize h6 : (w5.setCell ⟨g', 0, none⟩ r).setCell ⟨g', 1, none⟩ s = w6
  have T5 := set2 h5 h0 h1
  have T6 := set2 h6 ((T5.other ⟨g', 0, none⟩ (fun e => hne (Eq.symm e))).trans h2) ((T5.other ⟨g', 1, none⟩ (fun e => hne (Eq.symm e))).trans h3)
  exact ⟨(T6.other ⟨g, 0, none⟩ hne).trans T5.c0, (T6.other ⟨g, 1, none⟩ hne).trans T5.c1, T6.c0, T6.c1, fun h h' hb => (T6.bel h' (T5.bel h hb)).drew, fun h h' hf => T6.fn h' (T5.fn h hf)⟩

set_option maxRecDepth 100000 in
theorem share_any (w : World) (l1 l2 u1 u2 p : Value) (d : Nat) (x y x' y' z : Nat → Int) (h : FR w l1 d x) (h' : FR w l2 d y) (g : FR w u1 d x') (g' : FR w u2 d y') (hp : FR w p d z) (hd3 : d ≤ 3) (sx : ∀ k, k < d → Sm (x k)) (sy : ∀ k, k < d → Sm (y k)) (sz : ∀ k, k < d → Sm (z k)) :
    Calls Yba.prog 41 #[.agg #[l1, l2], .agg #[u1, u2], p] w fun e w' => (Ins d x y z ∧ e = .returned (.tuple #[.agg #[u1, u2], .agg #[l1, l2]]) ∧ Below w.heap.size w w') ∨ (¬ Ins d x y z ∧ e = .returned (.tuple #[.agg #[l1, l2], .agg #[u1, u2]]) ∧ Below w.heap.size w w') := by
  have Hh := Hid.mk h
  have Hh' := Hid.mk h'
  have Hp := Hid.mk hp
  obtain ⟨a1, e1, rfl, _, _, _⟩ := h
  obtain ⟨a2, e2, rfl, _, _, _⟩ := h'
  obtain ⟨a3, e3, rfl, _, _, _⟩ := g
  obtain ⟨a4, e4, rfl, _, _, _⟩ := g'
  go_enter Yba.func41, Yba.ntmps41
  go_wp2_with fail
  have BS : Below w.heap.size w ((((w.alloc (Obj.cells #[Value.slice (some ⟨a1, 0, none⟩) d e1, Value.slice (some ⟨a2, 0, none⟩) d e2] 27)).alloc (Obj.cells #[Value.slice (some ⟨a3, 0, none⟩) d e3, Value.slice (some ⟨a4, 0, none⟩) d e4] 27)).alloc (Obj.cells #[Value.slice none 0 0, Value.slice none 0 0] 27)).alloc (Obj.cells #[Value.slice none 0 0, Value.slice none 0 0] 27)) := ((((Below.refl _ _).alloc (Nat.le_refl _) _).alloc (by simp) _).alloc (by simp; omega) _).alloc (by simp; omega) _
  refine (contains_any _ _ _ p d x y z (Hh.out.below BS) (Hh'.out.below BS) (Hp.out.below BS) hd3 sx sy sz).mono ?_
  rintro e w1 ⟨b, rfl, hb, B1⟩
  have s1 : w.heap.size + 4 ≤ w1.heap.size := by have := B1.size; simp at this; omega
  have k00 : w1.cell? ⟨w.heap.size, 0, none⟩ = some (.slice (some ⟨a1, 0, none⟩) d e1) := by rw [B1.cell (p := ⟨w.heap.size, 0, none⟩) (by simp <;> omega)]; go_simp
  have k01 : w1.cell? ⟨w.heap.size, 1, none⟩ = some (.slice (some ⟨a2, 0, none⟩) d e2) := by rw [B1.cell (p := ⟨w.heap.size, 1, none⟩) (by simp <;> omega)]; go_simp
  have z0 : ∀ j, w1.frozen? ⟨w.heap.size, j, none⟩ = false := by intro j; rw [B1.frozen (p := ⟨w.heap.size, j, none⟩) (by simp <;> omega)]; go_simp
  have k10 : w1.cell? ⟨w.heap.size + 1, 0, none⟩ = some (.slice (some ⟨a3, 0, none⟩) d e3) := by rw [B1.cell (p := ⟨w.heap.size + 1, 0, none⟩) (by simp <;> omega)]; go_simp
  have k11 : w1.cell? ⟨w.heap.size + 1, 1, none⟩ = some (.slice (some ⟨a4, 0, none⟩) d e4) := by rw [B1.cell (p := ⟨w.heap.size + 1, 1, none⟩) (by simp <;> omega)]; go_simp
  have z1 : ∀ j, w1.frozen? ⟨w.heap.size + 1, j, none⟩ = false := by intro j; rw [B1.frozen (p := ⟨w.heap.size + 1, j, none⟩) (by simp <;> omega)]; go_simp
  have k20 : w1.cell? ⟨w.heap.size + 1 + 1, 0, none⟩ = some (.slice none 0 0) := by rw [B1.cell (p := ⟨w.heap.size + 1 + 1, 0, none⟩) (by simp <;> omega)]; go_simp
  have k21 : w1.cell? ⟨w.heap.size + 1 + 1, 1, none⟩ = some (.slice none 0 0) := by rw [B1.cell (p := ⟨w.heap.size + 1 + 1, 1, none⟩) (by simp <;> omega)]; go_simp
  have z2 : ∀ j, w1.frozen? ⟨w.heap.size + 1 + 1, j, none⟩ = false := by intro j; rw [B1.frozen (p := ⟨w.heap.size + 1 + 1, j, none⟩) (by simp <;> omega)]; go_simp
  have k30 : w1.cell? ⟨w.heap.size + 1 + 1 + 1, 0, none⟩ = some (.slice none 0 0) := by rw [B1.cell (p := ⟨w.heap.size + 1 + 1 + 1, 0, none⟩) (by simp <;> omega)]; go_simp
  have k31 : w1.cell? ⟨w.heap.size + 1 + 1 + 1, 1, none⟩ = some (.slice none 0 0) := by rw [B1.cell (p := ⟨w.heap.size + 1 + 1 + 1, 1, none⟩) (by simp <;> omega)]; go_simp
  have z3 : ∀ j, w1.frozen? ⟨w.heap.size + 1 + 1 + 1, j, none⟩ = false := by intro j; rw [B1.frozen (p := ⟨w.heap.size + 1 + 1 + 1, j, none⟩) (by simp <;> omega)]; go_simp
  have BW := Hid.mk (BS.trans (B1.mono (by simp; omega)))
  clear BS B1
  cases b
  · have Hb : Hid (¬ Ins d x y z) := ⟨fun h => by have := hb.2 h; cases this⟩
    clear hb
    go_wp2_with fail
    go_region
    go_wp2_with fail
    have F := fin2 (w1 := w1) (g := w.heap.size + 1 + 1) (g' := w.heap.size + 1 + 1 + 1) (by omega) (.slice (some ⟨a1, 0, none⟩) d e1) (.slice (some ⟨a2, 0, none⟩) d e2) (.slice (some ⟨a3, 0, none⟩) d e3) (.slice (some ⟨a4, 0, none⟩) d e4) k20 k21 k30 k31
    refine bodyPost_ret (res_box2 rfl _ _ (w.heap.size + 1 + 1) (w.heap.size + 1 + 1 + 1) _ _ _ _ rfl rfl F.a0 F.a1 F.b0 F.b1) rfl ?_
    exact .inr ⟨Hb.out, rfl, F.bel (by omega) (by omega) BW.out⟩
  · have Hb : Hid (Ins d x y z) := ⟨hb.1 rfl⟩
    clear hb
    go_wp2_with fail
    go_region
    go_wp2_with fail
    have F := fin2 (w1 := w1) (g := w.heap.size + 1 + 1) (g' := w.heap.size + 1 + 1 + 1) (by omega) (.slice (some ⟨a3, 0, none⟩) d e3) (.slice (some ⟨a4, 0, none⟩) d e4) (.slice (some ⟨a1, 0, none⟩) d e1) (.slice (some ⟨a2, 0, none⟩) d e2) k20 k21 k30 k31
    refine bodyPost_ret (res_box2 rfl _ _ (w.heap.size + 1 + 1) (w.heap.size + 1 + 1 + 1) _ _ _ _ rfl rfl F.a0 F.a1 F.b0 F.b1) rfl ?_
    exact .inl ⟨Hb.out, rfl, F.bel (by omega) (by omega) BW.out⟩

theorem FR.ne {wb : World} {b d d' c : Nat} {x : Nat → Int} (h : FR wb (.slice (some ⟨b, 0, none⟩) d' c) d x) (hd : 0 < d) {g : Nat} {a : Option Addr} {l c' : Nat} (hc : wb.cell? ⟨g, 0, none⟩ = some (.slice a l c')) : b ≠ g := by
  rintro rfl
  have := h.open.2.2 0 hd
  rw [hc] at this
  cases this
theorem FR.set2 {wb w3 : World} {v : Value} {d : Nat} {x : Nat → Int} {g : Nat} {p q : Value} (h : FR wb v d x) (T : Set2 wb g p q w3) (hd : 0 < d) {a : Option Addr} {l c' : Nat} (hc : wb.cell? ⟨g, 0, none⟩ = some (.slice a l c')) : FR w3 v d x := by
  have h' := h
  obtain ⟨b, c, rfl, h1, h2, h3⟩ := h
  have hne := FR.ne h' hd hc
  exact ⟨b, c, rfl, h1, by rw [T.size]; exact h2, fun k hk => (T.other ⟨b, k, none⟩ hne).trans (h3 k hk)⟩
theorem alloc2_cell {w1 : World} {p : Addr} {u : Value} (h : w1.cell? p = some u) (hp : p.block < w1.heap.size) : ∀ o o', ((w1.alloc o).alloc o').cell? p = some u := fun o o' => ((((Below.refl w1.heap.size w1).alloc (Nat.le_refl _) o).alloc (by simp) o').cell hp).trans h
theorem alloc2_frozen {w1 : World} {p : Addr} (h : w1.frozen? p = false) (hp : p.block < w1.heap.size) : ∀ o o', ((w1.alloc o).alloc o').frozen? p = false := fun o o' => ((((Below.refl w1.heap.size w1).alloc (Nat.le_refl _) o).alloc (by simp) o').frozen hp).trans h
theorem below_alloc2 (w1 : World) (o o' : Obj) : Below w1.heap.size w1 ((w1.alloc o).alloc o') := ((Below.refl w1.heap.size w1).alloc (Nat.le_refl _) o).alloc (by simp) o'

set_option maxRecDepth 100000 in
theorem part_any (w : World) (lo hi o1 o2 : Value) (d k : Nat) (x y xo yo : Nat → Int) (m : Int) (u : Bool) (h : FR w lo d x) (h' : FR w hi d y) (g : FR w o1 d xo) (g' : FR w o2 d yo) (hk : k < d) (hd3 : d ≤ 3) (hx : Sm (x k)) (hy : Sm (y k)) (hm : x k + (m - x k) * 2 = y k) (hlt : x k < m) (h0 : 0 ≤ x k) (v : Bool) (mb : Nat) :
    Calls Yba.prog 16 #[.agg #[lo, hi, .int .i64 k, .float .f64 mb, .bool v, o1, o2], .bool u] w fun e w' => ∃ l1 l2, e = .returned (.agg #[l1, l2]) ∧ Below w.heap.size w w' ∧ FR w' l1 d (if u then up x k m else x) ∧ FR w' l2 d (if u then y else up y k m) := by
  have Hh := Hid.mk h
  have Hh' := Hid.mk h'
  obtain ⟨a1, e1, rfl, _, _, _⟩ := h
  obtain ⟨a2, e2, rfl, _, _, _⟩ := h'
  obtain ⟨a3, e3, rfl, _, _, _⟩ := g
  obtain ⟨a4, e4, rfl, _, _, _⟩ := g'
  go_enter Yba.func16, Yba.ntmps16
  go_wp2_with fail
  have BS : Below w.heap.size w ((w.alloc (Obj.cells #[Value.slice (some ⟨a1, 0, none⟩) d e1, Value.slice (some ⟨a2, 0, none⟩) d e2, Value.int IntKind.i64 (k : Int), Value.float FloatKind.f64 mb, Value.bool v, Value.slice (some ⟨a3, 0, none⟩) d e3, Value.slice (some ⟨a4, 0, none⟩) d e4] 62)).alloc (Obj.cells #[Value.slice none 0 0, Value.slice none 0 0] 27)) := ((Below.refl _ _).alloc (Nat.le_refl _) _).alloc (by simp) _
  refine (halves_any _ _ _ d k x y m (Hh.out.below BS) (Hh'.out.below BS) hk hd3 hx hy hm hlt h0).mono ?_
  rintro e w1 ⟨l1, l2, u1, u2, rfl, B1, F1, F2, F3, F4⟩
  have s1 : w.heap.size + 2 ≤ w1.heap.size := by have := B1.size; simp at this; omega
  have c0 : w1.cell? ⟨w.heap.size + 1, 0, none⟩ = some (.slice none 0 0) := by rw [B1.cell (p := ⟨w.heap.size + 1, 0, none⟩) (by simp)]; go_simp
  have c1 : w1.cell? ⟨w.heap.size + 1, 1, none⟩ = some (.slice none 0 0) := by rw [B1.cell (p := ⟨w.heap.size + 1, 1, none⟩) (by simp)]; go_simp
  have z1 : ∀ j, w1.frozen? ⟨w.heap.size + 1, j, none⟩ = false := by intro j; rw [B1.frozen (p := ⟨w.heap.size + 1, j, none⟩) (by simp)]; go_simp
  have BW := Hid.mk (BS.trans (B1.mono (by simp; omega)))
  have G1 := Hid.mk F1
  have G2 := Hid.mk F2
  have G3 := Hid.mk F3
  have G4 := Hid.mk F4
  obtain ⟨b1, f1, rfl, _, _, _⟩ := F1
  obtain ⟨b2, f2, rfl, _, _, _⟩ := F2
  obtain ⟨b3, f3, rfl, _, _, _⟩ := F3
  obtain ⟨b4, f4, rfl, _, _, _⟩ := F4
  have cc0 := alloc2_cell c0 (by simp; omega)
  have cc1 := alloc2_cell c1 (by simp; omega)
  have zz0 := alloc2_frozen (z1 0) (by simp; omega)
  have zz1 := alloc2_frozen (z1 1) (by simp; omega)
  have A2 := Hid.mk (below_alloc2 w1)
  clear BS B1
  cases u
  · go_wp2_with fail
    generalize hX : ((w1.alloc (Obj.cells #[Value.slice (some ⟨b1, 0, none⟩) d f1, Value.slice (some ⟨b2, 0, none⟩) d f2] 27)).alloc (Obj.cells #[Value.slice (some ⟨b3, 0, none⟩) d f3, Value.slice (some ⟨b4, 0, none⟩) d f4] 27)) = wX at *
    have BX : Below w1.heap.size w1 wX := by rw [← hX]; exact A2.out _ _
    generalize h5 : (wX.setCell { block := w.heap.size + 1, off := 0 } (Value.slice (some { block := b1, off := 0 }) d f1)).setCell { block := w.heap.size + 1, off := 1 } (Value.slice (some { block := b2, off := 0 }) d f2) = w5
    have k0 := (BX.cell (p := ⟨w.heap.size + 1, 0, none⟩) (by simp; omega)).trans c0
    have T5 := set2 h5 k0 ((BX.cell (p := ⟨w.heap.size + 1, 1, none⟩) (by simp; omega)).trans c1)
    refine bodyPost_ret (res_box rfl _ _ (w.heap.size + 1) _ _ rfl T5.c0 T5.c1) rfl ?_
    exact ⟨_, _, rfl, T5.bel (by omega) (BW.out.trans (BX.mono (by omega))), (G1.out.below BX).set2 T5 (by omega) k0, (G2.out.below BX).set2 T5 (by omega) k0⟩
  · go_wp2_with fail
    generalize hX : ((w1.alloc (Obj.cells #[Value.slice (some ⟨b1, 0, none⟩) d f1, Value.slice (some ⟨b2, 0, none⟩) d f2] 27)).alloc (Obj.cells #[Value.slice (some ⟨b3, 0, none⟩) d f3, Value.slice (some ⟨b4, 0, none⟩) d f4] 27)) = wX at *
    have BX : Below w1.heap.size w1 wX := by rw [← hX]; exact A2.out _ _
    generalize h5 : (wX.setCell { block := w.heap.size + 1, off := 0 } (Value.slice (some { block := b3, off := 0 }) d f3)).setCell { block := w.heap.size + 1, off := 1 } (Value.slice (some { block := b4, off := 0 }) d f4) = w5
    have k0 := (BX.cell (p := ⟨w.heap.size + 1, 0, none⟩) (by simp; omega)).trans c0
    have T5 := set2 h5 k0 ((BX.cell (p := ⟨w.heap.size + 1, 1, none⟩) (by simp; omega)).trans c1)
    refine bodyPost_ret (res_box rfl _ _ (w.heap.size + 1) _ _ rfl T5.c0 T5.c1) rfl ?_
    exact ⟨_, _, rfl, T5.bel (by omega) (BW.out.trans (BX.mono (by omega))), (G3.out.below BX).set2 T5 (by omega) k0, (G4.out.below BX).set2 T5 (by omega) k0⟩
end Go.Proofs.Ybulkdaxu
