import Derived.Test.YbulkdaxuRecut
namespace Go.Proofs.Ybulkdaxu
open Go.RowKit
set_option linter.unusedSimpArgs false
set_option linter.unusedVariables false

theorem mk_any {t e : TypeId} {z : Value} {sz by_ : Nat} (hu : Yba.prog.underlying t = some (.slice e)) (hi : (Yba.prog.info? e).map (fun i => (i.zero, i.size, i.bytes)) = some (some z, sz, by_))
    (n : Nat) (h : by_ * n ≤ 281474976710656) (hn : n ≤ 1000000) (w : World) :
    (Instr.makeSlice t (.int .i64 n) (.int .i64 n)).run Yba.prog w = .ok (.slice (some ⟨w.heap.size, 0, none⟩) n n) (w.alloc (.cells (madeCells z.cells (n * sz)).toList.toArray e)) := by
  obtain ⟨i, h1, h2, h3, h4⟩ := info_parts hi
  have hb : (i.bytes : Int) * n ≤ 281474976710656 := by rw [h4, ← Int.natCast_mul]; exact Int.ofNat_le.2 h
  have := run_make (P := Yba.prog) w t e i z hu h1 h2 .i64 .i64 (n : Int) (n : Int) (by omega) (by omega) hb (by omega)
  rw [h3] at this
  rw [this]
  congr 1
def ZF (n : Nat) : List Value := (madeCells #[Value.float .f64 0] n).toList
theorem zf_get (n k : Nat) (hk : k < n) : (ZF n)[k]? = some (.float .f64 0) := by simp [ZF, madeCells, hk, Nat.mod_one]
theorem mk23 (n : Nat) (hn : n ≤ 600) (w : World) : (Instr.makeSlice 23 (.int .i64 n) (.int .i64 n)).run Yba.prog w = .ok (.slice (some ⟨w.heap.size, 0, none⟩) n n) (w.alloc (.cells (ZF n).toArray 31)) := by
  have := mk_any Yba.underlying23 info31 n (by omega) (by omega) w
  rw [Nat.mul_one] at this
  exact this
theorem mk24 (n : Nat) (hn : n ≤ 600) (w : World) : (Instr.makeSlice 24 (.int .i64 n) (.int .i64 n)).run Yba.prog w = .ok (.slice (some ⟨w.heap.size, 0, none⟩) n n) (w.alloc (.cells (ZF n).toArray 31)) := by
  have := mk_any Yba.underlying24 info31 n (by omega) (by omega) w
  rw [Nat.mul_one] at this
  exact this
theorem zf_fn (w : World) (n : Nat) : FN w.heap.size (w.alloc (.cells (ZF n).toArray 31)) (.slice (some ⟨w.heap.size, 0, none⟩) n n) n (fun _ => 0) := by
  have hg := heap_alloc_new w (.cells (ZF n).toArray 31)
  refine ⟨_, _, rfl, Nat.le_refl _, Nat.le_refl _, by simp, fun k hk => ?_, fun k => ?_⟩
  · have := zf_get n k hk
    rw [fx0]
    simp only [World.cell?, hg]
    simpa using this
  · simp only [World.frozen?, hg]
    simp

theorem hmax_of {u : Int} (hu : Sm u) (h0 : 0 ≤ u) : ∀ ts t w, (Builtin.max_ ts t #[.float .f64 (fx u), .float .f64 0]).run Yba.prog w = .ok (.float .f64 (fx u)) w := by
  intro ts t w
  have z0 : Sm 0 := ⟨by decide, by decide⟩
  have e0 : (0 : Nat) = fx 0 := fx0.symm
  by_cases h : u = 0
  · subst h
    rw [fx0]
    have : FloatKind.f64.format.order 0 0 = some .eq := by have := ord_eq z0 (rfl : (0 : Int) = 0); rwa [fx0] at this
    simp [Builtin.max_, Builtin.max2, this]
  · have : FloatKind.f64.format.order (fx u) 0 = some .gt := by have := ord_gt hu z0 (show (0 : Int) < u by omega); rwa [fx0] at this
    simp [Builtin.max_, Builtin.max2, this]
theorem hmin_of {u : Int} (hu : Sm u) (h1 : u < 2 ^ 45) : ∀ ts t w, (Builtin.min_ ts t #[.float .f64 (fx u), .float .f64 4607182418800017408]).run Yba.prog w = .ok (.float .f64 (fx u)) w := by
  intro ts t w
  have e1 : fx (2 ^ 45) = 4607182418800017408 := by decide
  have : FloatKind.f64.format.order (fx u) 4607182418800017408 = some .lt := by rw [← e1]; exact ord_lt hu ⟨by decide, by decide⟩ h1
  simp [Builtin.min_, Builtin.min2, this]

/-- The numbers of the first k, else nought. -/
def pre (f : Nat → Int) (k : Nat) : Nat → Int := fun j => if j < k then f j else 0
theorem pre_zero (f : Nat → Int) : pre f 0 = fun _ => 0 := by funext j; simp [pre]
theorem pre_succ (f : Nat → Int) (k : Nat) : up (pre f k) k (f k) = pre f (k + 1) := by
  funext j; unfold up pre
  by_cases e : j = k
  · subst e; simp
  · by_cases h : j < k
    · simp [e, h, show j < k + 1 by omega]
    · simp [e, h, show ¬ j < k + 1 by omega]

set_option maxRecDepth 100000 in
theorem between_eq (w : World) (lo hi u c : Int) (h1 : Sm lo) (h2 : Sm hi) (h3 : Sm u) (h4 : Sm c) (h0 : 0 ≤ lo) (hl : lo ≤ hi) (hu : 0 ≤ u) (h5 : u * (hi - lo) = c * 2 ^ 45) (h6 : 0 ≤ c) (h7 : lo + c ≤ 2 ^ 52) :
    Calls Yba.prog 26 #[.float .f64 (fx lo), .float .f64 (fx hi), .float .f64 (fx u)] w fun e w' => e = .returned (.float .f64 (fx (lo + c))) ∧ w' = w := by
  have a1 := h1.1; have a2 := h2.2
  have f1 := fsub h2 h1 ⟨by have := h1.2; have := h2.1; omega, by omega⟩
  have f2 := fmul h3 (b := hi - lo) (c := c) ⟨by omega, by omega⟩ h4 h5 hu (by omega)
  have f3 := fadd h1 (b := c) h4 ⟨by omega, by omega⟩ _ rfl
  go_enter Yba.func26, Yba.ntmps26
  go_wp2_with fail
  go_ret
  exact ⟨rfl, rfl⟩

/-- What unfold asks of its numbers: everything is exact. -/
structure Unf (d : Nat) (q xe ye xl xh u pr : Nat → Int) (s : Nat → Nat) : Prop where
  hs : ∀ k, k < d → s k ≤ 52
  hw : ∀ k, k < d → ye k - xe k = 2 ^ s k
  hq : ∀ k, k < d → xe k ≤ q k
  hu : ∀ k, k < d → (q k - xe k) * 2 ^ 45 = u k * 2 ^ s k
  u0 : ∀ k, k < d → 0 ≤ u k ∧ u k < 2 ^ 45
  hp : ∀ k, k < d → u k * (xh k - xl k) = pr k * 2 ^ 45
  p0 : ∀ k, k < d → 0 ≤ pr k ∧ xl k + pr k < xh k
  b0 : ∀ k, k < d → 0 ≤ xe k ∧ ye k ≤ 2 ^ 52 ∧ q k ≤ 2 ^ 52 ∧ 0 ≤ xl k ∧ xh k ≤ 2 ^ 52
set_option maxRecDepth 100000 in
set_option maxHeartbeats 4000000 in
theorem unfold_any (w : World) (qv e1 e2 z1 z2 : Value) (d : Nat) (q xe ye xl xh u pr : Nat → Int) (s : Nat → Nat) (hq : FR w qv d q) (h1 : FR w e1 d xe) (h2 : FR w e2 d ye) (h3 : FR w z1 d xl) (h4 : FR w z2 d xh) (hd3 : d ≤ 3) (hU : Unf d q xe ye xl xh u pr s) :
    Calls Yba.prog 15 #[qv, .agg #[e1, e2], .agg #[z1, z2]] w fun e w' => ∃ v, e = .returned v ∧ Below w.heap.size w w' ∧ FN w.heap.size w' v d (fun k => xl k + pr k) := by
  obtain ⟨bq, cq, rfl, q1, q2, q3⟩ := hq
  obtain ⟨b1, c1, rfl, i1, i2, i3⟩ := h1
  obtain ⟨b2, c2, rfl, j1, j2, j3⟩ := h2
  obtain ⟨b3, c3, rfl, k1, k2, k3⟩ := h3
  obtain ⟨b4, c4, rfl, l1, l2, l3⟩ := h4
  have m24 := mk24 d (by omega)
  have HU := Hid.mk hU
  clear hU
  go_enter Yba.func15, Yba.ntmps15
  go_wp2_with fail
  have BS := below_alloc2 w (Obj.cells #[Value.slice (some ⟨b1, 0, none⟩) d c1, Value.slice (some ⟨b2, 0, none⟩) d c2] 27) (Obj.cells #[Value.slice (some ⟨b3, 0, none⟩) d c3, Value.slice (some ⟨b4, 0, none⟩) d c4] 27)
  have z := zf_fn ((w.alloc (Obj.cells #[Value.slice (some ⟨b1, 0, none⟩) d c1, Value.slice (some ⟨b2, 0, none⟩) d c2] 27)).alloc (Obj.cells #[Value.slice (some ⟨b3, 0, none⟩) d c3, Value.slice (some ⟨b4, 0, none⟩) d c4] 27)) d
  have hsz : ((w.alloc (Obj.cells #[Value.slice (some ⟨b1, 0, none⟩) d c1, Value.slice (some ⟨b2, 0, none⟩) d c2] 27)).alloc (Obj.cells #[Value.slice (some ⟨b3, 0, none⟩) d c3, Value.slice (some ⟨b4, 0, none⟩) d c4] 27)).heap.size = w.heap.size + 1 + 1 := by simp
  rw [hsz] at z
  go_loopw [18] (fun v wr => ∃ k : Nat, k ≤ d ∧ v = .int .i64 (k : Int) ∧ Below w.heap.size w wr ∧ wr.cell? ⟨w.heap.size, 0, none⟩ = some (.slice (some ⟨b1, 0, none⟩) d c1) ∧ wr.cell? ⟨w.heap.size, 1, none⟩ = some (.slice (some ⟨b2, 0, none⟩) d c2) ∧ wr.cell? ⟨w.heap.size + 1, 0, none⟩ = some (.slice (some ⟨b3, 0, none⟩) d c3) ∧ wr.cell? ⟨w.heap.size + 1, 1, none⟩ = some (.slice (some ⟨b4, 0, none⟩) d c4) ∧ FN (w.heap.size + 1 + 1) wr (.slice (some ⟨w.heap.size + 1 + 1, 0, none⟩) d d) d (pre (fun k => xl k + pr k) k)) (fun v _ => d - (intOf v).toNat)
  case atStart =>
    refine ⟨0, by omega, rfl, BS.alloc (by simp; omega) _, by go_simp, by go_simp, by go_simp, by go_simp, ?_⟩
    rw [pre_zero]; exact z
  case round =>
    obtain ⟨k, hk, rfl, hB, a1, a2, a3, a4, hN⟩ := hrel
    have HN := Hid.mk hN
    obtain ⟨n1, n2, n3⟩ := hN.cells
    clear z hsz BS
    by_cases hkd : k < d
    · have f1 := (hB.cell (p := ⟨bq, k, none⟩) q2).trans (q3 k hkd)
      have f2 := (hB.cell (p := ⟨b1, k, none⟩) i2).trans (i3 k hkd)
      have f3 := (hB.cell (p := ⟨b2, k, none⟩) j2).trans (j3 k hkd)
      have f4 := (hB.cell (p := ⟨b3, k, none⟩) k2).trans (k3 k hkd)
      have f5 := (hB.cell (p := ⟨b4, k, none⟩) l2).trans (l3 k hkd)
      have f6 := n1 k hkd
      obtain ⟨t1, t2, t3, t4, t5⟩ := HU.out.b0 k hkd
      have hw := HU.out.hw k hkd
      have hq0 := HU.out.hq k hkd
      obtain ⟨u0, u1⟩ := HU.out.u0 k hkd
      obtain ⟨p0, p1⟩ := HU.out.p0 k hkd
      have hpow := ipow_pos (s k)
      have hs52 := HU.out.hs k hkd
      have smx : Sm (xe k) := ⟨by omega, by omega⟩
      have smy : Sm (ye k) := ⟨by omega, by omega⟩
      have smq : Sm (q k) := ⟨by omega, by omega⟩
      have sml : Sm (xl k) := ⟨by omega, by omega⟩
      have smh : Sm (xh k) := ⟨by omega, by omega⟩
      have smu : Sm (u k) := ⟨by omega, by omega⟩
      have smp : Sm (pr k) := ⟨by omega, by omega⟩
      have smr : Sm (xl k + pr k) := ⟨by omega, by omega⟩
      have r1 := ord_lt smx smy (by omega)
      have r2 := fsub smq smx ⟨by omega, by omega⟩
      have r3 := fsub smy smx ⟨by omega, by omega⟩
      have r4 := fdiv (a := q k - xe k) (c := u k) (s := s k) ⟨by omega, by omega⟩ (HU.out.hs k hkd) smu (HU.out.hu k hkd) (by omega) (ye k - xe k) hw
      have r5 := hmax_of smu u0
      have r6 := hmin_of smu u1
      have r7 := (ob_ge smr smh).trans (decide_eq_false (by omega))
      have B7 := between_any
      have HB7 := Hid.mk (HU.out.hp k hkd)
      have hk0 : (0 : Int) ≤ (k : Int) := by omega
      have hk1 : (k : Int) < (d : Int) := by omega
      clear hw B7 hpow hs52
      go_wp2_with fail
      go_quiet (fail)
      go_wp2_with fail
      go_quiet (fail)
      go_wp2_with fail
      go_quiet (fail)
      go_wp2_with fail
      refine (between_eq _ (xl k) (xh k) (u k) (pr k) sml smh smu smp t4 (by omega) u0 HB7.out p0 (by omega)).mono ?_
      rintro e w5 ⟨rfl, rfl⟩
      dsimp only
      go_wp2_with fail
      go_roundw
      case rel =>
        have K := HN.out.put hkd (xl k + pr k)
        rw [pre_succ (fun k => xl k + pr k) k] at K
        refine ⟨k + 1, by omega, by simp, (Below.drewN hB _).setCell (p := ⟨w.heap.size + 1 + 1, k, none⟩) (by simp; omega) _, ?_, ?_, ?_, ?_, K⟩
        · rw [World.cell?_setCell_other _ _ (a := ⟨w.heap.size + 1 + 1, k, none⟩) (b := ⟨w.heap.size, 0, none⟩) (by intro e; injection e with e; omega)]; exact a1
        · rw [World.cell?_setCell_other _ _ (a := ⟨w.heap.size + 1 + 1, k, none⟩) (b := ⟨w.heap.size, 1, none⟩) (by intro e; injection e with e; omega)]; exact a2
        · rw [World.cell?_setCell_other _ _ (a := ⟨w.heap.size + 1 + 1, k, none⟩) (b := ⟨w.heap.size + 1, 0, none⟩) (by intro e; injection e with e; omega)]; exact a3
        · rw [World.cell?_setCell_other _ _ (a := ⟨w.heap.size + 1 + 1, k, none⟩) (b := ⟨w.heap.size + 1, 1, none⟩) (by intro e; injection e with e; omega)]; exact a4
      case measure => simp only [intOf]; omega
    · have hi1 : ¬ (k : Int) < (d : Int) := by omega
      have hke : k = d := by omega
      have HF : Hid (FN w.heap.size wr (.slice (some ⟨w.heap.size + 1 + 1, 0, none⟩) d d) d (fun k => xl k + pr k)) := ⟨by obtain ⟨b, c, g1, g2, g3, g4, g5, g6⟩ := HN.out; exact ⟨b, c, g1, g2, by omega, g4, fun j hj => by rw [g5 j hj]; unfold pre; rw [if_pos (by omega)], g6⟩⟩
      clear hke
      go_wp2_with fail
      go_ret
      exact ⟨_, rfl, hB, HF.out⟩
end Go.Proofs.Ybulkdaxu
