import Derived.Test.YbulkdaxuBox
namespace Go.Proofs.Ybulkdaxu
open Go.RowKit
set_option linter.unusedSimpArgs false
set_option linter.unusedVariables false

@[go_sem] theorem run_store_float {P : Program} {w : World} {a : Addr} {m : Mode} (k : FloatKind) (b : Nat) : (store a (.float k b) m).run P w = stored P w a (.float k b) m := run_store P w a _ m rfl

theorem FR.open {w : World} {b d d' c : Nat} {x : Nat → Int} (h : FR w (.slice (some ⟨b, 0, none⟩) d' c) d x) : d ≤ c ∧ b < w.heap.size ∧ ∀ k, k < d → w.cell? ⟨b, k, none⟩ = some (.float .f64 (fx (x k))) := by
  obtain ⟨b', c', e, h1, h2, h3⟩ := h
  cases e
  exact ⟨h1, h2, h3⟩
theorem flts_cells {w : World} {b d : Nat} {x : Nat → Int} (h3 : ∀ k, k < d → w.cell? ⟨b, k, none⟩ = some (.float .f64 (fx (x k)))) : ∀ (j : Nat) (u : Value), (flts d x)[j]? = some u → w.cell? ((⟨b, 0, none⟩ : Addr).add j) = some u := by
  intro j u hj
  have hj2 : j < d := by
    rcases Nat.lt_or_ge j d with h | h
    · exact h
    · rw [List.getElem?_eq_none (by rw [flts_len]; omega)] at hj; cases hj
  rw [flts_get d x j hj2] at hj
  cases hj
  rw [Addr.add_lit]
  simpa using h3 j hj2
theorem flts_one (d : Nat) (x : Nat → Int) : ∀ u ∈ flts d x, u.oneCell' = true := by
  intro u hu
  simp only [flts, List.mem_map] at hu
  obtain ⟨k, _, rfl⟩ := hu
  rfl

set_option maxRecDepth 100000 in
theorem sclone_any (w : World) (v : Value) (d : Nat) (x : Nat → Int) (h : FR w v d x) (hd : 0 < d) (hd3 : d ≤ 3) :
    Calls Yba.prog 37 #[v] w fun e w' => ∃ v', e = .returned v' ∧ Below w.heap.size w w' ∧ FN w.heap.size w' v' d x := by
  have h' := h
  obtain ⟨b, c, rfl, q1, q2, q3⟩ := h
  have hnil := fun w => Lib.run_eql_slice_nil (P := Yba.prog) w 23 31 (some ⟨b, 0, none⟩) d c 0 0 Yba.underlying23
  obtain ⟨i, hi, hz0, hz1, hz2⟩ := info_parts info31
  have hcs : ∀ (j : Nat) (u : Value), (flts d x)[j]? = some u → (w.alloc (.cells #[] 31)).cell? ((⟨b, 0, none⟩ : Addr).add j) = some u := flts_cells (fun k hk => by
    have hB : Below w.heap.size w (w.alloc (.cells #[] 31)) := (Below.refl _ _).alloc (Nat.le_refl _) _
    exact (hB.cell (p := ⟨b, k, none⟩) q2).trans (q3 k hk))
  have HC : Hid (∀ (j : Nat) (u : Value), (flts d x)[j]? = some u → (w.alloc (.cells #[] 31)).cell? ((⟨b, 0, none⟩ : Addr).add j) = some u) := ⟨hcs⟩
  clear hcs
  go_enter Yba.func37, Yba.ntmps37
  go_wp2_with (at_builtin; refine wpList_append_own _ rfl _ _ 23 rfl w.heap.size 31 i (.float .f64 0) 1 8 Yba.underlying23 hi hz0 hz1 hz2 rfl (by decide) _ 0 [] rfl (World.ownsRow_made (base := w.heap.size) (e := 31) (size := 1) w #[] 0 (Nat.le_refl _) (by simp) (by simp)) ⟨b, 0, none⟩ d c (flts d x) rfl (by rw [flts_len]; omega) HC.out (flts_one d x) (by simp [maxLen]; omega) (by omega) (by simp) ?_)
  intro v' w' h4 h5 h6
  have hN := own_fn h4 hd
  have hB : Below w.heap.size w w' := ((Below.refl _ _).alloc (Nat.le_refl _) _).grown h5 (by simp) (fun k e => by cases e; simp)
  clear h4 h5 h6
  go_wp2_with fail
  go_ret
  exact ⟨_, rfl, hB, hN⟩

def up (x : Nat → Int) (k : Nat) (a : Int) : Nat → Int := fun j => if j = k then a else x j
theorem up_same (x : Nat → Int) (k : Nat) {d : Nat} : ∀ j, j < d → up x k (x k) j = x j := fun j _ => by unfold up; split <;> simp_all
theorem FN.put {n0 : Nat} {w : World} {b c d k : Nat} {x : Nat → Int} (h : FN n0 w (.slice (some ⟨b, 0, none⟩) d c) d x) (hk : k < d) (a : Int) : FN n0 (w.setCell ⟨b, k, none⟩ (.float .f64 (fx a))) (.slice (some ⟨b, 0, none⟩) d c) d (up x k a) := by
  obtain ⟨b', c', e, q0, q1, q2, q3, q4⟩ := h
  cases e
  have c1 := q3 k hk
  refine ⟨b, c, rfl, q0, q1, by simpa using q2, fun j hj => ?_, fun j => by rw [World.frozen?_setCell]; exact q4 j⟩
  unfold up
  by_cases e : j = k
  · subst e
    simp only [if_true]
    exact World.cell?_setCell_same' _ _ _ (by rw [c1]; rfl)
  · simp only [if_neg e]
    rw [World.cell?_setCell_other w _ (a := ⟨b, k, none⟩) (b := ⟨b, j, none⟩) (by intro he; cases he; exact e rfl)]
    exact q3 j hj

set_option maxRecDepth 100000 in
theorem with_any (w : World) (v : Value) (d k : Nat) (x : Nat → Int) (a : Int) (h : FR w v d x) (hk : k < d) (hd3 : d ≤ 3) :
    Calls Yba.prog 47 #[v, .int .i64 k, .float .f64 (fx a)] w fun e w' => ∃ v', e = .returned v' ∧ Below w.heap.size w w' ∧ FN w.heap.size w' v' d (up x k a) := by
  have hk1 : (k : Int) < (d : Int) := by omega
  go_enter Yba.func47, Yba.ntmps47
  go_wp2_with fail
  refine (sclone_any w v d x h (by omega) hd3).mono ?_
  rintro e w1 ⟨v1, rfl, hB, hN⟩
  have HN := Hid.mk hN
  obtain ⟨b, c, rfl, q0, q1, q2, q3, q4⟩ := hN
  have c1 := q3 k hk
  go_wp2_with fail
  go_ret
  exact ⟨_, rfl, hB.setCell (p := ⟨b, k, none⟩) q1 _, HN.out.put hk a⟩

/-- Two cells of the block g written: what lies behind. -/
structure Set2 (wb : World) (g : Nat) (p q : Value) (w3 : World) : Prop where
  size : w3.heap.size = wb.heap.size
  c0 : w3.cell? ⟨g, 0, none⟩ = some p
  c1 : w3.cell? ⟨g, 1, none⟩ = some q
  other : ∀ a : Addr, a.block ≠ g → w3.cell? a = wb.cell? a
  frz : ∀ a : Addr, w3.frozen? a = wb.frozen? a
  fn : ∀ {n0 : Nat} {v : Value} {d : Nat} {x : Nat → Int}, g < n0 → FN n0 wb v d x → FN n0 w3 v d x
  bel : ∀ {n : Nat} {w : World}, n ≤ g → Below n w wb → Below n w w3
theorem set2 {wb w3 : World} {g : Nat} {p q : Value} (h3 : (wb.setCell ⟨g, 0, none⟩ p).setCell ⟨g, 1, none⟩ q = w3) {u0 u1 : Value} (c0 : wb.cell? ⟨g, 0, none⟩ = some u0) (c1 : wb.cell? ⟨g, 1, none⟩ = some u1) : Set2 wb g p q w3 := by
  subst h3
  refine ⟨by simp, ?_, ?_, fun a ha => ?_, fun a => by rw [World.frozen?_setCell, World.frozen?_setCell], fun h1 h2 => (h2.setCell (p := ⟨g, 0, none⟩) h1 _).setCell (p := ⟨g, 1, none⟩) h1 _, fun h1 h2 => (h2.setCell (p := ⟨g, 0, none⟩) h1 _).setCell (p := ⟨g, 1, none⟩) h1 _⟩
  · rw [World.cell?_setCell_other _ _ (a := ⟨g, 1, none⟩) (b := ⟨g, 0, none⟩) (by simp)]
    exact World.cell?_setCell_same' _ _ _ (by rw [c0]; rfl)
  · refine World.cell?_setCell_same' _ _ _ ?_
    rw [World.cell?_setCell_other _ _ (a := ⟨g, 0, none⟩) (b := ⟨g, 1, none⟩) (by simp), c1]; rfl
  · rw [World.cell?_setCell_other _ _ (a := ⟨g, 1, none⟩) (b := a) (by intro e; exact ha (by rw [← e])), World.cell?_setCell_other _ _ (a := ⟨g, 0, none⟩) (b := a) (by intro e; exact ha (by rw [← e]))]

set_option maxRecDepth 100000 in
theorem halves_any (w : World) (lo hi : Value) (d k : Nat) (x y : Nat → Int) (m : Int) (h : FR w lo d x) (h' : FR w hi d y) (hk : k < d) (hd3 : d ≤ 3) (hx : Sm (x k)) (hy : Sm (y k)) (hm : x k + (m - x k) * 2 = y k) (hlt : x k < m) (h0 : 0 ≤ x k) :
    Calls Yba.prog 28 #[.agg #[lo, hi], .int .i64 k] w fun e w' => ∃ l1 l2 u1 u2, e = .returned (.tuple #[.agg #[l1, l2], .agg #[u1, u2]]) ∧ Below w.heap.size w w' ∧ FR w' l1 d x ∧ FR w' l2 d (up y k m) ∧ FR w' u1 d (up x k m) ∧ FR w' u2 d y := by
  have hk0 : (0 : Int) ≤ (k : Int) := by omega
  have hk1 : (k : Int) < (d : Int) := by omega
  go_enter Yba.func28, Yba.ntmps28
  go_wp2_with fail
  have BS : Below w.heap.size w (((w.alloc (Obj.cells #[lo, hi] 27)).alloc (Obj.cells #[Value.slice none 0 0, Value.slice none 0 0] 27)).alloc (Obj.cells #[Value.slice none 0 0, Value.slice none 0 0] 27)) := (((Below.refl _ _).alloc (Nat.le_refl _) _).alloc (by simp) _).alloc (by simp; omega) _
  refine (mid_any _ lo hi d k x y m (h.below BS) (h'.below BS) hk hd3 hx hy hm hlt h0).mono ?_
  rintro e w1 ⟨rfl, B1⟩
  have s1 : w.heap.size + 3 ≤ w1.heap.size := by have := B1.size; simp at this; omega
  have a0 : w1.cell? ⟨w.heap.size, 0, none⟩ = some lo := by rw [B1.cell (p := ⟨w.heap.size, 0, none⟩) (by simp; omega)]; go_simp
  have a1 : w1.cell? ⟨w.heap.size, 1, none⟩ = some hi := by rw [B1.cell (p := ⟨w.heap.size, 1, none⟩) (by simp; omega)]; go_simp
  have a20 : w1.cell? ⟨w.heap.size + 1, 0, none⟩ = some (.slice none 0 0) := by rw [B1.cell (p := ⟨w.heap.size + 1, 0, none⟩) (by simp)]; go_simp
  have a21 : w1.cell? ⟨w.heap.size + 1, 1, none⟩ = some (.slice none 0 0) := by rw [B1.cell (p := ⟨w.heap.size + 1, 1, none⟩) (by simp)]; go_simp
  have a30 : w1.cell? ⟨w.heap.size + 1 + 1, 0, none⟩ = some (.slice none 0 0) := by rw [B1.cell (p := ⟨w.heap.size + 1 + 1, 0, none⟩) (by simp)]; go_simp
  have a31 : w1.cell? ⟨w.heap.size + 1 + 1, 1, none⟩ = some (.slice none 0 0) := by rw [B1.cell (p := ⟨w.heap.size + 1 + 1, 1, none⟩) (by simp)]; go_simp
  have z2 : ∀ j, w1.frozen? ⟨w.heap.size + 1, j, none⟩ = false := by intro j; rw [B1.frozen (p := ⟨w.heap.size + 1, j, none⟩) (by simp)]; go_simp
  have z3 : ∀ j, w1.frozen? ⟨w.heap.size + 1 + 1, j, none⟩ = false := by intro j; rw [B1.frozen (p := ⟨w.heap.size + 1 + 1, j, none⟩) (by simp)]; go_simp
  have BW : Hid (Below w.heap.size w w1) := ⟨BS.trans (B1.mono (by simp; omega))⟩
  have HR : Hid (∀ w', Below w1.heap.size w1 w' → FR w' lo d x ∧ FR w' hi d y) := ⟨fun w' hB => ⟨((h.below BS).below B1).below hB, ((h'.below BS).below B1).below hB⟩⟩
  have hL1 : FR w1 lo d x := (h.below BS).below B1
  have hH1 : FR w1 hi d y := (h'.below BS).below B1
  clear BS B1
  have HL1 := Hid.mk hL1
  have HH1 := Hid.mk hH1
  have Hh := Hid.mk h
  have Hh' := Hid.mk h'
  obtain ⟨bl, cl, rfl, _, p0, _⟩ := h
  obtain ⟨bh, ch, rfl, _, r0, _⟩ := h'
  obtain ⟨p1, p2, p3⟩ := hL1.open
  obtain ⟨r1, r2, r3⟩ := hH1.open
  clear hL1 hH1
  have n1 : bl ≠ w.heap.size + 1 := by omega
  have n2 : ¬ w.heap.size + 1 = bl := by omega
  have n3 : bl ≠ w.heap.size + 1 + 1 := by omega
  have n4 : ¬ w.heap.size + 1 + 1 = bl := by omega
  have xk := p3 k hk
  have yk := r3 k hk
  have B0 : Hid (Below w1.heap.size w1 w1) := ⟨Below.refl _ _⟩
  go_wp2_with fail
  go_region_held3 (fun z => z.cell? ⟨w.heap.size, 0, none⟩ = some (.slice (some ⟨bl, 0, none⟩) d cl) ∧ z.cell? ⟨w.heap.size, 1, none⟩ = some (.slice (some ⟨bh, 0, none⟩) d ch) ∧ z.cell? ⟨bl, k, none⟩ = some (.float .f64 (fx (x k)))) (go_keep) (first
    | (go_at_call 47; refine (with_any _ (.slice (some ⟨bl, 0, none⟩) d cl) d k x (x k) (HR.out _ BQ.out).1 hk hd3).mono ?_; rintro e wb ⟨vP, rfl, hBb, hNb⟩; obtain ⟨gP, cP, rfl⟩ := hNb.form; have BB : Hid (Below w1.heap.size w1 wb) := ⟨BQ.out.trans (hBb.mono BQ.out.size)⟩; have MP := Hid.mk (hNb.mono (n1 := w1.heap.size) BQ.out.size); have MQ := NQ.mov hBb; have f0wb : wb.cell? ⟨w.heap.size, 0, none⟩ = some (.slice (some ⟨bl, 0, none⟩) d cl) := (BB.out.cell (p := ⟨w.heap.size, 0, none⟩) (by simp; omega)).trans a0; have f1wb : wb.cell? ⟨w.heap.size, 1, none⟩ = some (.slice (some ⟨bh, 0, none⟩) d ch) := (BB.out.cell (p := ⟨w.heap.size, 1, none⟩) (by simp; omega)).trans a1; have f2wb : wb.cell? ⟨bl, k, none⟩ = some (.float .f64 (fx (x k))) := (BB.out.cell (p := ⟨bl, k, none⟩) p2).trans xk; have f3wb : wb.cell? ⟨w.heap.size + 1, 0, none⟩ = some (.slice none 0 0) := (BB.out.cell (p := ⟨w.heap.size + 1, 0, none⟩) (by simp; omega)).trans a20; have f4wb : wb.cell? ⟨w.heap.size + 1, 1, none⟩ = some (.slice none 0 0) := (BB.out.cell (p := ⟨w.heap.size + 1, 1, none⟩) (by simp; omega)).trans a21; have f5wb : ∀ j, wb.frozen? ⟨w.heap.size + 1, j, none⟩ = false := fun j => (BB.out.frozen (p := ⟨w.heap.size + 1, j, none⟩) (by simp; omega)).trans (z2 j))
    | (go_at_call 47; refine (with_any _ (.slice (some ⟨bh, 0, none⟩) d ch) d k y m (HR.out _ BP.out).2 hk hd3).mono ?_; rintro e wb ⟨vQ, rfl, hBb, hNb⟩; obtain ⟨gQ, cQ, rfl⟩ := hNb.form; have BB : Hid (Below w1.heap.size w1 wb) := ⟨BP.out.trans (hBb.mono BP.out.size)⟩; have MQ := Hid.mk (hNb.mono (n1 := w1.heap.size) BP.out.size); have MP := NP.mov hBb; have f0wb : wb.cell? ⟨w.heap.size, 0, none⟩ = some (.slice (some ⟨bl, 0, none⟩) d cl) := (BB.out.cell (p := ⟨w.heap.size, 0, none⟩) (by simp; omega)).trans a0; have f1wb : wb.cell? ⟨w.heap.size, 1, none⟩ = some (.slice (some ⟨bh, 0, none⟩) d ch) := (BB.out.cell (p := ⟨w.heap.size, 1, none⟩) (by simp; omega)).trans a1; have f2wb : wb.cell? ⟨bl, k, none⟩ = some (.float .f64 (fx (x k))) := (BB.out.cell (p := ⟨bl, k, none⟩) p2).trans xk; have f3wb : wb.cell? ⟨w.heap.size + 1, 0, none⟩ = some (.slice none 0 0) := (BB.out.cell (p := ⟨w.heap.size + 1, 0, none⟩) (by simp; omega)).trans a20; have f4wb : wb.cell? ⟨w.heap.size + 1, 1, none⟩ = some (.slice none 0 0) := (BB.out.cell (p := ⟨w.heap.size + 1, 1, none⟩) (by simp; omega)).trans a21; have f5wb : ∀ j, wb.frozen? ⟨w.heap.size + 1, j, none⟩ = false := fun j => (BB.out.frozen (p := ⟨w.heap.size + 1, j, none⟩) (by simp; omega)).trans (z2 j))
    | (go_at_call 47; refine (with_any _ (.slice (some ⟨bl, 0, none⟩) d cl) d k x (x k) (HR.out _ B0.out.drew).1 hk hd3).mono ?_; rintro e wa ⟨vP, rfl, hBa, hNa⟩; obtain ⟨gP, cP, rfl⟩ := hNa.form; have BP : Hid (Below w1.heap.size w1 wa) := ⟨B0.out.drew.trans hBa⟩; have NP := Hid.mk hNa; have f0wa : wa.cell? ⟨w.heap.size, 0, none⟩ = some (.slice (some ⟨bl, 0, none⟩) d cl) := (BP.out.cell (p := ⟨w.heap.size, 0, none⟩) (by simp; omega)).trans a0; have f1wa : wa.cell? ⟨w.heap.size, 1, none⟩ = some (.slice (some ⟨bh, 0, none⟩) d ch) := (BP.out.cell (p := ⟨w.heap.size, 1, none⟩) (by simp; omega)).trans a1; have f2wa : wa.cell? ⟨bl, k, none⟩ = some (.float .f64 (fx (x k))) := (BP.out.cell (p := ⟨bl, k, none⟩) p2).trans xk; have f3wa : wa.cell? ⟨w.heap.size + 1, 0, none⟩ = some (.slice none 0 0) := (BP.out.cell (p := ⟨w.heap.size + 1, 0, none⟩) (by simp; omega)).trans a20; have f4wa : wa.cell? ⟨w.heap.size + 1, 1, none⟩ = some (.slice none 0 0) := (BP.out.cell (p := ⟨w.heap.size + 1, 1, none⟩) (by simp; omega)).trans a21; have f5wa : ∀ j, wa.frozen? ⟨w.heap.size + 1, j, none⟩ = false := fun j => (BP.out.frozen (p := ⟨w.heap.size + 1, j, none⟩) (by simp; omega)).trans (z2 j))
    | (go_at_call 47; refine (with_any _ (.slice (some ⟨bh, 0, none⟩) d ch) d k y m (HR.out _ B0.out.drew).2 hk hd3).mono ?_; rintro e wa ⟨vQ, rfl, hBa, hNa⟩; obtain ⟨gQ, cQ, rfl⟩ := hNa.form; have BQ : Hid (Below w1.heap.size w1 wa) := ⟨B0.out.drew.trans hBa⟩; have NQ := Hid.mk hNa; have f0wa : wa.cell? ⟨w.heap.size, 0, none⟩ = some (.slice (some ⟨bl, 0, none⟩) d cl) := (BQ.out.cell (p := ⟨w.heap.size, 0, none⟩) (by simp; omega)).trans a0; have f1wa : wa.cell? ⟨w.heap.size, 1, none⟩ = some (.slice (some ⟨bh, 0, none⟩) d ch) := (BQ.out.cell (p := ⟨w.heap.size, 1, none⟩) (by simp; omega)).trans a1; have f2wa : wa.cell? ⟨bl, k, none⟩ = some (.float .f64 (fx (x k))) := (BQ.out.cell (p := ⟨bl, k, none⟩) p2).trans xk; have f3wa : wa.cell? ⟨w.heap.size + 1, 0, none⟩ = some (.slice none 0 0) := (BQ.out.cell (p := ⟨w.heap.size + 1, 0, none⟩) (by simp; omega)).trans a20; have f4wa : wa.cell? ⟨w.heap.size + 1, 1, none⟩ = some (.slice none 0 0) := (BQ.out.cell (p := ⟨w.heap.size + 1, 1, none⟩) (by simp; omega)).trans a21; have f5wa : ∀ j, wa.frozen? ⟨w.heap.size + 1, j, none⟩ = false := fun j => (BQ.out.frozen (p := ⟨w.heap.size + 1, j, none⟩) (by simp; omega)).trans (z2 j)))
  all_goals (
    generalize h3 : ((wb.setCell { block := w.heap.size + 1, off := 0 } (Value.slice (some { block := gP, off := 0 }) d cP)).setCell { block := w.heap.size + 1, off := 1 } (Value.slice (some { block := gQ, off := 0 }) d cQ)) = w3
    have T := set2 h3 f3wb f4wb
    have s3 : w1.heap.size ≤ w3.heap.size := by have := BB.out.size; rw [T.size]; omega
    have BW3 : Hid (Below w.heap.size w w3) := ⟨T.bel (by omega) (BW.out.trans (BB.out.mono (by omega)))⟩
    have b0 := (T.other ⟨w.heap.size, 0, none⟩ (by simp)).trans f0wb
    have b1 := (T.other ⟨w.heap.size, 1, none⟩ (by simp)).trans f1wb
    have b20 := T.c0
    have b21 := T.c1
    have b30 := ((T.other ⟨w.heap.size + 1 + 1, 0, none⟩ (by simp)).trans (BB.out.cell (p := ⟨w.heap.size + 1 + 1, 0, none⟩) (by simp; omega))).trans a30
    have b31 := ((T.other ⟨w.heap.size + 1 + 1, 1, none⟩ (by simp)).trans (BB.out.cell (p := ⟨w.heap.size + 1 + 1, 1, none⟩) (by simp; omega))).trans a31
    have y2 : ∀ j, w3.frozen? ⟨w.heap.size + 1, j, none⟩ = false := fun j => (T.frz _).trans (f5wb j)
    have y3 : ∀ j, w3.frozen? ⟨w.heap.size + 1 + 1, j, none⟩ = false := fun j => ((T.frz _).trans (BB.out.frozen (p := ⟨w.heap.size + 1 + 1, j, none⟩) (by simp; omega))).trans (z3 j)
    have KP : Hid (FN w1.heap.size w3 (.slice (some ⟨gP, 0, none⟩) d cP) d (up x k (x k))) := ⟨T.fn (by omega) MP.out⟩
    have KQ : Hid (FN w1.heap.size w3 (.slice (some ⟨gQ, 0, none⟩) d cQ) d (up y k m)) := ⟨T.fn (by omega) MQ.out⟩
    have HL3 := Hh.out.below BW3.out
    have HH3 := Hh'.out.below BW3.out
    have HR3 : Hid (∀ w', Below w3.heap.size w3 w' → FR w' (.slice (some ⟨bl, 0, none⟩) d cl) d x ∧ FR w' (.slice (some ⟨bh, 0, none⟩) d ch) d y) := ⟨fun w' hB => ⟨HL3.below hB, HH3.below hB⟩⟩
    obtain ⟨p1, p2, p3⟩ := HL3.open
    obtain ⟨r1, r2, r3⟩ := HH3.open
    have yk := r3 k hk
    have C0 : Hid (Below w3.heap.size w3 w3) := ⟨Below.refl _ _⟩
    clear h3 HL3 HH3 HR T f0wb f1wb f2wb f3wb f4wb f5wb f0wa f1wa f2wa f3wa f4wa f5wa xk a0 a1 a20 a21 a30 a31 z2 z3 hBb hNb hBa hNa BB B0)
  all_goals have HR := HR3
  all_goals have n5 : bh ≠ w.heap.size + 1 + 1 := by omega
  all_goals have n6 : ¬ w.heap.size + 1 + 1 = bh := by omega
  all_goals have n7 : w.heap.size ≠ w.heap.size + 1 + 1 := by omega
  all_goals have n8 : ¬ w.heap.size + 1 + 1 = w.heap.size := by omega
  all_goals go_wp2_with fail
  all_goals go_region_held3 (fun z => z.cell? ⟨w.heap.size, 0, none⟩ = some (.slice (some ⟨bl, 0, none⟩) d cl) ∧ z.cell? ⟨w.heap.size, 1, none⟩ = some (.slice (some ⟨bh, 0, none⟩) d ch) ∧ z.cell? ⟨bh, k, none⟩ = some (.float .f64 (fx (y k)))) (go_keep) (first
      | (go_at_call 47; refine (with_any _ (.slice (some ⟨bl, 0, none⟩) d cl) d k x m (HR.out _ BV.out).1 hk hd3).mono ?_; rintro e wb ⟨vU, rfl, hBb, hNb⟩; obtain ⟨gU, cU, rfl⟩ := hNb.form; have BB : Hid (Below w3.heap.size w3 wb) := ⟨BV.out.trans (hBb.mono BV.out.size)⟩; have MU := Hid.mk (hNb.mono (n1 := w3.heap.size) BV.out.size); have MV := NV.mov hBb; have f0wb : wb.cell? ⟨w.heap.size, 0, none⟩ = some (.slice (some ⟨bl, 0, none⟩) d cl) := (BB.out.cell (p := ⟨w.heap.size, 0, none⟩) (by simp; omega)).trans b0; have f1wb : wb.cell? ⟨w.heap.size, 1, none⟩ = some (.slice (some ⟨bh, 0, none⟩) d ch) := (BB.out.cell (p := ⟨w.heap.size, 1, none⟩) (by simp; omega)).trans b1; have f2wb : wb.cell? ⟨bh, k, none⟩ = some (.float .f64 (fx (y k))) := (BB.out.cell (p := ⟨bh, k, none⟩) (by simp; omega)).trans yk; have f3wb : wb.cell? ⟨w.heap.size + 1 + 1, 0, none⟩ = some (.slice none 0 0) := (BB.out.cell (p := ⟨w.heap.size + 1 + 1, 0, none⟩) (by simp; omega)).trans b30; have f4wb : wb.cell? ⟨w.heap.size + 1 + 1, 1, none⟩ = some (.slice none 0 0) := (BB.out.cell (p := ⟨w.heap.size + 1 + 1, 1, none⟩) (by simp; omega)).trans b31; have f5wb : ∀ j, wb.frozen? ⟨w.heap.size + 1 + 1, j, none⟩ = false := fun j => (BB.out.frozen (p := ⟨w.heap.size + 1 + 1, j, none⟩) (by simp; omega)).trans (y3 j); have f6wb : wb.cell? ⟨w.heap.size + 1, 0, none⟩ = some (.slice (some ⟨gP, 0, none⟩) d cP) := (BB.out.cell (p := ⟨w.heap.size + 1, 0, none⟩) (by simp; omega)).trans b20; have f7wb : wb.cell? ⟨w.heap.size + 1, 1, none⟩ = some (.slice (some ⟨gQ, 0, none⟩) d cQ) := (BB.out.cell (p := ⟨w.heap.size + 1, 1, none⟩) (by simp; omega)).trans b21; have f8wb : ∀ j, wb.frozen? ⟨w.heap.size + 1, j, none⟩ = false := fun j => (BB.out.frozen (p := ⟨w.heap.size + 1, j, none⟩) (by simp; omega)).trans (y2 j))
      | (go_at_call 47; refine (with_any _ (.slice (some ⟨bh, 0, none⟩) d ch) d k y (y k) (HR.out _ BU.out).2 hk hd3).mono ?_; rintro e wb ⟨vV, rfl, hBb, hNb⟩; obtain ⟨gV, cV, rfl⟩ := hNb.form; have BB : Hid (Below w3.heap.size w3 wb) := ⟨BU.out.trans (hBb.mono BU.out.size)⟩; have MV := Hid.mk (hNb.mono (n1 := w3.heap.size) BU.out.size); have MU := NU.mov hBb; have f0wb : wb.cell? ⟨w.heap.size, 0, none⟩ = some (.slice (some ⟨bl, 0, none⟩) d cl) := (BB.out.cell (p := ⟨w.heap.size, 0, none⟩) (by simp; omega)).trans b0; have f1wb : wb.cell? ⟨w.heap.size, 1, none⟩ = some (.slice (some ⟨bh, 0, none⟩) d ch) := (BB.out.cell (p := ⟨w.heap.size, 1, none⟩) (by simp; omega)).trans b1; have f2wb : wb.cell? ⟨bh, k, none⟩ = some (.float .f64 (fx (y k))) := (BB.out.cell (p := ⟨bh, k, none⟩) (by simp; omega)).trans yk; have f3wb : wb.cell? ⟨w.heap.size + 1 + 1, 0, none⟩ = some (.slice none 0 0) := (BB.out.cell (p := ⟨w.heap.size + 1 + 1, 0, none⟩) (by simp; omega)).trans b30; have f4wb : wb.cell? ⟨w.heap.size + 1 + 1, 1, none⟩ = some (.slice none 0 0) := (BB.out.cell (p := ⟨w.heap.size + 1 + 1, 1, none⟩) (by simp; omega)).trans b31; have f5wb : ∀ j, wb.frozen? ⟨w.heap.size + 1 + 1, j, none⟩ = false := fun j => (BB.out.frozen (p := ⟨w.heap.size + 1 + 1, j, none⟩) (by simp; omega)).trans (y3 j); have f6wb : wb.cell? ⟨w.heap.size + 1, 0, none⟩ = some (.slice (some ⟨gP, 0, none⟩) d cP) := (BB.out.cell (p := ⟨w.heap.size + 1, 0, none⟩) (by simp; omega)).trans b20; have f7wb : wb.cell? ⟨w.heap.size + 1, 1, none⟩ = some (.slice (some ⟨gQ, 0, none⟩) d cQ) := (BB.out.cell (p := ⟨w.heap.size + 1, 1, none⟩) (by simp; omega)).trans b21; have f8wb : ∀ j, wb.frozen? ⟨w.heap.size + 1, j, none⟩ = false := fun j => (BB.out.frozen (p := ⟨w.heap.size + 1, j, none⟩) (by simp; omega)).trans (y2 j))
      | (go_at_call 47; refine (with_any _ (.slice (some ⟨bl, 0, none⟩) d cl) d k x m (HR.out _ C0.out.drew).1 hk hd3).mono ?_; rintro e wa ⟨vU, rfl, hBa, hNa⟩; obtain ⟨gU, cU, rfl⟩ := hNa.form; have BU : Hid (Below w3.heap.size w3 wa) := ⟨C0.out.drew.trans hBa⟩; have NU := Hid.mk hNa; have f0wa : wa.cell? ⟨w.heap.size, 0, none⟩ = some (.slice (some ⟨bl, 0, none⟩) d cl) := (BU.out.cell (p := ⟨w.heap.size, 0, none⟩) (by simp; omega)).trans b0; have f1wa : wa.cell? ⟨w.heap.size, 1, none⟩ = some (.slice (some ⟨bh, 0, none⟩) d ch) := (BU.out.cell (p := ⟨w.heap.size, 1, none⟩) (by simp; omega)).trans b1; have f2wa : wa.cell? ⟨bh, k, none⟩ = some (.float .f64 (fx (y k))) := (BU.out.cell (p := ⟨bh, k, none⟩) (by simp; omega)).trans yk; have f3wa : wa.cell? ⟨w.heap.size + 1 + 1, 0, none⟩ = some (.slice none 0 0) := (BU.out.cell (p := ⟨w.heap.size + 1 + 1, 0, none⟩) (by simp; omega)).trans b30; have f4wa : wa.cell? ⟨w.heap.size + 1 + 1, 1, none⟩ = some (.slice none 0 0) := (BU.out.cell (p := ⟨w.heap.size + 1 + 1, 1, none⟩) (by simp; omega)).trans b31; have f5wa : ∀ j, wa.frozen? ⟨w.heap.size + 1 + 1, j, none⟩ = false := fun j => (BU.out.frozen (p := ⟨w.heap.size + 1 + 1, j, none⟩) (by simp; omega)).trans (y3 j); have f6wa : wa.cell? ⟨w.heap.size + 1, 0, none⟩ = some (.slice (some ⟨gP, 0, none⟩) d cP) := (BU.out.cell (p := ⟨w.heap.size + 1, 0, none⟩) (by simp; omega)).trans b20; have f7wa : wa.cell? ⟨w.heap.size + 1, 1, none⟩ = some (.slice (some ⟨gQ, 0, none⟩) d cQ) := (BU.out.cell (p := ⟨w.heap.size + 1, 1, none⟩) (by simp; omega)).trans b21; have f8wa : ∀ j, wa.frozen? ⟨w.heap.size + 1, j, none⟩ = false := fun j => (BU.out.frozen (p := ⟨w.heap.size + 1, j, none⟩) (by simp; omega)).trans (y2 j))
      | (go_at_call 47; refine (with_any _ (.slice (some ⟨bh, 0, none⟩) d ch) d k y (y k) (HR.out _ C0.out.drew).2 hk hd3).mono ?_; rintro e wa ⟨vV, rfl, hBa, hNa⟩; obtain ⟨gV, cV, rfl⟩ := hNa.form; have BV : Hid (Below w3.heap.size w3 wa) := ⟨C0.out.drew.trans hBa⟩; have NV := Hid.mk hNa; have f0wa : wa.cell? ⟨w.heap.size, 0, none⟩ = some (.slice (some ⟨bl, 0, none⟩) d cl) := (BV.out.cell (p := ⟨w.heap.size, 0, none⟩) (by simp; omega)).trans b0; have f1wa : wa.cell? ⟨w.heap.size, 1, none⟩ = some (.slice (some ⟨bh, 0, none⟩) d ch) := (BV.out.cell (p := ⟨w.heap.size, 1, none⟩) (by simp; omega)).trans b1; have f2wa : wa.cell? ⟨bh, k, none⟩ = some (.float .f64 (fx (y k))) := (BV.out.cell (p := ⟨bh, k, none⟩) (by simp; omega)).trans yk; have f3wa : wa.cell? ⟨w.heap.size + 1 + 1, 0, none⟩ = some (.slice none 0 0) := (BV.out.cell (p := ⟨w.heap.size + 1 + 1, 0, none⟩) (by simp; omega)).trans b30; have f4wa : wa.cell? ⟨w.heap.size + 1 + 1, 1, none⟩ = some (.slice none 0 0) := (BV.out.cell (p := ⟨w.heap.size + 1 + 1, 1, none⟩) (by simp; omega)).trans b31; have f5wa : ∀ j, wa.frozen? ⟨w.heap.size + 1 + 1, j, none⟩ = false := fun j => (BV.out.frozen (p := ⟨w.heap.size + 1 + 1, j, none⟩) (by simp; omega)).trans (y3 j); have f6wa : wa.cell? ⟨w.heap.size + 1, 0, none⟩ = some (.slice (some ⟨gP, 0, none⟩) d cP) := (BV.out.cell (p := ⟨w.heap.size + 1, 0, none⟩) (by simp; omega)).trans b20; have f7wa : wa.cell? ⟨w.heap.size + 1, 1, none⟩ = some (.slice (some ⟨gQ, 0, none⟩) d cQ) := (BV.out.cell (p := ⟨w.heap.size + 1, 1, none⟩) (by simp; omega)).trans b21; have f8wa : ∀ j, wa.frozen? ⟨w.heap.size + 1, j, none⟩ = false := fun j => (BV.out.frozen (p := ⟨w.heap.size + 1, j, none⟩) (by simp; omega)).trans (y2 j)))
  all_goals (
    generalize h4 : ((wb.setCell { block := w.heap.size + 1 + 1, off := 0 } (Value.slice (some { block := gU, off := 0 }) d cU)).setCell { block := w.heap.size + 1 + 1, off := 1 } (Value.slice (some { block := gV, off := 0 }) d cV)) = w4
    have T := set2 h4 f3wb f4wb
    have sz4 : w3.heap.size ≤ w4.heap.size := by have := BB.out.size; rw [T.size]; omega
    have BW4 : Hid (Below w.heap.size w w4) := ⟨T.bel (by omega) (BW3.out.trans (BB.out.mono (by omega)))⟩
    have d20 := (T.other ⟨w.heap.size + 1, 0, none⟩ (by simp)).trans f6wb
    have d21 := (T.other ⟨w.heap.size + 1, 1, none⟩ (by simp)).trans f7wb
    have d30 := T.c0
    have d31 := T.c1
    have g2 : ∀ j, w4.frozen? ⟨w.heap.size + 1, j, none⟩ = false := fun j => (T.frz _).trans (f8wb j)
    have g3 : ∀ j, w4.frozen? ⟨w.heap.size + 1 + 1, j, none⟩ = false := fun j => (T.frz _).trans (f5wb j)
    have QP : Hid (FN w1.heap.size w4 _ d (up x k (x k))) := ⟨T.fn (by omega) (KP.out.below (BB.out.mono (Nat.le_refl _)))⟩
    have QQ : Hid (FN w1.heap.size w4 _ d (up y k m)) := ⟨T.fn (by omega) (KQ.out.below (BB.out.mono (Nat.le_refl _)))⟩
    have QU : Hid (FN w1.heap.size w4 _ d (up x k m)) := ⟨T.fn (by omega) (MU.out.mono s3)⟩
    have QV : Hid (FN w1.heap.size w4 _ d (up y k (y k))) := ⟨T.fn (by omega) (MV.out.mono s3)⟩
    clear h4 T f0wb f1wb f2wb f3wb f4wb f5wb f0wa f1wa f2wa f3wa f4wa f5wa f6wa f6wb f7wa f7wb f8wa f8wb hBb hNb hBa hNa BB C0)
  all_goals go_wp2_with fail
  all_goals go_region
  all_goals go_wp2_with fail
  all_goals (
    generalize h5 : ((w4.setCell { block := w.heap.size + 1, off := 0 } (Value.slice (some { block := gP, off := 0 }) d cP)).setCell { block := w.heap.size + 1, off := 1 } (Value.slice (some { block := gQ, off := 0 }) d cQ)) = w5
    generalize h6 : ((w5.setCell { block := w.heap.size + 1 + 1, off := 0 } (Value.slice (some { block := gU, off := 0 }) d cU)).setCell { block := w.heap.size + 1 + 1, off := 1 } (Value.slice (some { block := gV, off := 0 }) d cV)) = w6
    have T5 := set2 h5 d20 d21
    have T6 := set2 h6 ((T5.other ⟨w.heap.size + 1 + 1, 0, none⟩ (by simp)).trans d30) ((T5.other ⟨w.heap.size + 1 + 1, 1, none⟩ (by simp)).trans d31)
    refine bodyPost_ret (res_box2 rfl _ _ (w.heap.size + 1) (w.heap.size + 1 + 1) _ _ _ _ rfl rfl ((T6.other ⟨w.heap.size + 1, 0, none⟩ (by simp)).trans T5.c0) ((T6.other ⟨w.heap.size + 1, 1, none⟩ (by simp)).trans T5.c1) T6.c0 T6.c1) rfl ?_
    exact ⟨_, _, _, _, rfl, (T6.bel (by omega) (T5.bel (by omega) BW4.out)).drew, (T6.fn (by omega) (T5.fn (by omega) QP.out)).fr.cast (up_same x k), (T6.fn (by omega) (T5.fn (by omega) QQ.out)).fr, (T6.fn (by omega) (T5.fn (by omega) QU.out)).fr, (T6.fn (by omega) (T5.fn (by omega) QV.out)).fr.cast (up_same y k)⟩)
end Go.Proofs.Ybulkdaxu
