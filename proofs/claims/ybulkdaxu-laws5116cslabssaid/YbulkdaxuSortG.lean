import Derived.Test.YbulkdaxuSortF
namespace Go.Proofs.Ybulkdaxu
open Go.RowKit
set_option linter.unusedSimpArgs false
set_option linter.unusedVariables false

/-- The row and the counter of exchanges. -/
structure ST [Inhabited FE] (blk off : Nat) (d : Array FE) (sp n : Nat) (w : World) : Prop where
  row : SR blk off w w d
  lt : sp < w.heap.size
  ne : sp ≠ blk
  cnt : ∃ c : Nat, c ≤ n ∧ w.cell? ⟨sp, 0, none⟩ = some (.int .i64 c)
  frz : w.frozen? ⟨sp, 0, none⟩ = false
theorem ST.drewN [Inhabited FE] {blk off : Nat} {d : Array FE} {sp n : Nat} {w : World} (h : ST blk off d sp n w) (k : Nat) : ST blk off d sp n (w.drewN k) :=
  ⟨(h.row.drewN k).self, h.lt, h.ne, h.cnt, h.frz⟩
theorem ST.mono [Inhabited FE] {blk off : Nat} {d : Array FE} {sp n n' : Nat} {w : World} (h : ST blk off d sp n w) (hn : n ≤ n') : ST blk off d sp n' w :=
  ⟨h.row, h.lt, h.ne, let ⟨c, h1, h2⟩ := h.cnt; ⟨c, by omega, h2⟩, h.frz⟩
theorem ST.set [Inhabited FE] {blk off : Nat} {d : Array FE} {sp n : Nat} {w : World} (h : ST blk off d sp n w) {c : Nat} (hc : c ≤ n) : ST blk off d sp n (w.setCell ⟨sp, 0, none⟩ (.int .i64 c)) := by
  obtain ⟨c0, _, h0⟩ := h.cnt
  refine ⟨⟨Kb.refl _ _, by simpa using h.row.lt, fun _ _ => rfl, fun k hk => ?_, fun k => by rw [World.frozen?_setCell]; exact h.row.frz k⟩, by simpa using h.lt, h.ne, ⟨c, hc, World.cell?_setCell_same' _ _ _ (by rw [h0]; rfl)⟩, by rw [World.frozen?_setCell]; exact h.frz⟩
  rw [World.cell?_of_block (a := ⟨blk, off + k, none⟩) (Below.heap_setCell w ⟨sp, 0, none⟩ _ blk (fun e => h.ne e.symm))]
  exact h.row.cell k hk
theorem Kb.dn {l : Nat} {A B : World} (h : Kb l A B) (k : Nat) : Kb l A (B.drewN k) := ⟨h.os, h.tape, h.output, h.size, h.block⟩
theorem Kb.set {l : Nat} {A B : World} (h : Kb l A B) (o : Nat) (v : Value) : Kb l A (B.setCell ⟨l, o, none⟩ v) :=
  ⟨h.os, h.tape, h.output, by simpa using h.size, fun k hk hn => (Below.heap_setCell B ⟨l, o, none⟩ v k hn).trans (h.block k hk hn)⟩

set_option maxRecDepth 100000 in
set_option maxHeartbeats 2000000 in
theorem order2_any [Inhabited FE] (w : World) (blk off cap sp n lo hi x y m : Nat) (d : Array FE) (hm : d.size = m) (h6 : m ≤ 600) (hn : n ≤ 100) (hhi : hi ≤ m) (H : ST blk off d sp n w) (hx : lo ≤ x ∧ x < hi) (hy : lo ≤ y ∧ y < hi) :
    Calls Yba.prog 85 #[.slice (some ⟨blk, off, none⟩) m cap, .int .i64 x, .int .i64 y, .pointer (some ⟨sp, 0, none⟩)] w fun e w' =>
      ∃ x' y' : Nat, e = .returned (.tuple #[.int .i64 x', .int .i64 y']) ∧ (lo ≤ x' ∧ x' < hi) ∧ (lo ≤ y' ∧ y' < hi) ∧ ST blk off d sp (n + 1) w' ∧ Kb sp w w' := by
  obtain ⟨F, L, hF, hL, LC⟩ := row_open d
  have hcw := H.row.fc hF hm
  have HF := Hid.mk hF
  obtain ⟨c, hc, hcs⟩ := H.cnt
  have hfs := H.frz
  have z1 : (0 : Int) ≤ (x : Int) := by omega
  have z2 : (x : Int) < (m : Int) := by omega
  have z3 : (0 : Int) ≤ (y : Int) := by omega
  have z4 : (y : Int) < (m : Int) := by omega
  have HH := Hid.mk H
  clear H hF hL
  go_enter Yba.func85, Yba.ntmps85
  go_wp2_with fail
  go_quiet (first | (go_at_call 73; refine Calls.quiet_of_same (LC _ _ _)))
  go_wp2_with fail
  · go_ret2
    exact ⟨y, x, rfl, hy, hx, ((HH.out.drewN nq).mono (n' := n + 1) (by omega)).set (c := c + 1) (by omega), ((Kb.refl _ _).dn _).set 0 _⟩
  · go_ret2
    exact ⟨x, y, rfl, hx, hy, (HH.out.drewN _).mono (by omega), (Kb.refl _ _).dn _⟩

set_option maxRecDepth 100000 in
set_option maxHeartbeats 2000000 in
theorem median_any [Inhabited FE] (w : World) (blk off cap sp n lo hi x y z m : Nat) (d : Array FE) (hm : d.size = m) (h6 : m ≤ 600) (hn : n ≤ 90) (hhi : hi ≤ m) (H : ST blk off d sp n w) (hx : lo ≤ x ∧ x < hi) (hy : lo ≤ y ∧ y < hi) (hz : lo ≤ z ∧ z < hi) :
    Calls Yba.prog 83 #[.slice (some ⟨blk, off, none⟩) m cap, .int .i64 x, .int .i64 y, .int .i64 z, .pointer (some ⟨sp, 0, none⟩)] w fun e w' =>
      ∃ r : Nat, e = .returned (.int .i64 r) ∧ (lo ≤ r ∧ r < hi) ∧ ST blk off d sp (n + 3) w' ∧ Kb sp w w' := by
  have HH := Hid.mk H
  clear H
  go_enter Yba.func83, Yba.ntmps83
  go_wp2_with fail
  refine (order2_any w blk off cap sp n lo hi x y m d hm h6 (by omega) hhi HH.out hx hy).mono ?_
  rintro e w1 ⟨x1, y1, rfl, b1, b2, S1, K1⟩
  dsimp only
  go_wp2_with fail
  refine (order2_any w1 blk off cap sp (n + 1) lo hi y1 z m d hm h6 (by omega) hhi S1 b2 hz).mono ?_
  rintro e w2 ⟨y2, z2, rfl, b3, b4, S2, K2⟩
  dsimp only
  go_wp2_with fail
  refine (order2_any w2 blk off cap sp (n + 1 + 1) lo hi x1 y2 m d hm h6 (by omega) hhi S2 b1 b3).mono ?_
  rintro e w3 ⟨x3, y3, rfl, b5, b6, S3, K3⟩
  dsimp only
  go_wp2_with fail
  go_ret
  exact ⟨y3, rfl, b6, S3, (K1.trans K2).trans K3⟩

set_option maxRecDepth 100000 in
set_option maxHeartbeats 2000000 in
theorem medadj_any [Inhabited FE] (w : World) (blk off cap sp n lo hi x m : Nat) (d : Array FE) (hm : d.size = m) (h6 : m ≤ 600) (hn : n ≤ 90) (hhi : hi ≤ m) (H : ST blk off d sp n w) (hx : lo + 1 ≤ x ∧ x + 1 < hi) :
    Calls Yba.prog 82 #[.slice (some ⟨blk, off, none⟩) m cap, .int .i64 x, .pointer (some ⟨sp, 0, none⟩)] w fun e w' =>
      ∃ r : Nat, e = .returned (.int .i64 r) ∧ (lo ≤ r ∧ r < hi) ∧ ST blk off d sp (n + 3) w' ∧ Kb sp w w' := by
  have HH := Hid.mk H
  clear H
  obtain ⟨x0, hx0⟩ : ∃ x0 : Nat, x0 = x - 1 := ⟨_, rfl⟩
  obtain ⟨x1, hx1⟩ : ∃ x1 : Nat, x1 = x + 1 := ⟨_, rfl⟩
  have e0 : (x : Int) - 1 = (x0 : Int) := by omega
  have e1 : (x : Int) + 1 = (x1 : Int) := by omega
  have q0 : lo ≤ x0 ∧ x0 < hi := by omega
  have q1 : lo ≤ x1 ∧ x1 < hi := by omega
  clear hx0 hx1
  go_enter Yba.func82, Yba.ntmps82
  go_wp2_with fail
  refine (median_any w blk off cap sp n lo hi x0 x x1 m d hm h6 hn hhi HH.out q0 (by omega) q1).mono ?_
  rintro e w1 ⟨r, rfl, b1, S1, K1⟩
  dsimp only
  go_wp2_with fail
  go_ret
  exact ⟨r, rfl, b1, S1, K1⟩

/-- What choosePivot hands back. -/
def PivPost [Inhabited FE] (blk off a b : Nat) (w : World) (d : Array FE) (e : Ending) (w' : World) : Prop :=
  ∃ p h : Nat, e = .returned (.tuple #[.int .i64 p, .int .i64 h]) ∧ a ≤ p ∧ p < b ∧ h ≤ 2 ∧ SR blk off w w' d
theorem ST.fin [Inhabited FE] {blk off sp n : Nat} {d : Array FE} {w0 w : World} (h : ST blk off d sp n w) (hb : Below w0.heap.size w0 w) (hl : blk < w0.heap.size) : SR blk off w0 w d :=
  ⟨⟨hb.os, hb.tape, hb.output, hb.size, fun k hk _ => hb.block k hk⟩, hl, fun k _ => hb.cell (p := ⟨blk, k, none⟩) hl, h.row.cell, h.row.frz⟩
theorem Kb.bel {l : Nat} {w0 A B : World} (h : Kb l A B) (hb : Below w0.heap.size w0 A) (hl : w0.heap.size ≤ l) : Below w0.heap.size w0 B :=
  ⟨h.os.trans hb.os, h.tape.trans hb.tape, h.output.trans hb.output, Nat.le_trans hb.size h.size, fun k hk => (h.block k (Nat.lt_of_lt_of_le hk hb.size) (by omega)).trans (hb.block k hk)⟩

set_option maxRecDepth 100000 in
set_option maxHeartbeats 4000000 in
theorem pivot_any [Inhabited FE] (w : World) (blk off cap a b m : Nat) (d : Array FE) (hm : d.size = m) (h6 : m ≤ 600) (H : SR blk off w w d) (hab : a + 12 < b) (hb : b ≤ m) :
    Calls Yba.prog 70 #[.slice (some ⟨blk, off, none⟩) m cap, .int .i64 a, .int .i64 b] w (PivPost blk off a b w d) := by
  obtain ⟨l, hl⟩ : ∃ l : Nat, l = b - a := ⟨_, rfl⟩
  obtain ⟨q, hq⟩ : ∃ q : Nat, q = l / 4 := ⟨_, rfl⟩
  obtain ⟨i, hi⟩ : ∃ i : Nat, i = a + q * 1 := ⟨_, rfl⟩
  obtain ⟨j, hj⟩ : ∃ j : Nat, j = a + q * 2 := ⟨_, rfl⟩
  obtain ⟨k, hk⟩ : ∃ k : Nat, k = a + q * 3 := ⟨_, rfl⟩
  have e1 : (b : Int) - (a : Int) = (l : Int) := by omega
  have e2 : (l : Int) / 4 = (q : Int) := by omega
  have e3 : (a : Int) + (q : Int) * 1 = (i : Int) := by omega
  have e3' : (a : Int) + (q : Int) = (i : Int) := by omega
  have e4 : (a : Int) + (q : Int) * 2 = (j : Int) := by omega
  have e5 : (a : Int) + (q : Int) * 3 = (k : Int) := by omega
  have l8 : (l : Int) ≥ 8 := by omega
  have bi : a + 1 ≤ i ∧ i + 1 < b := by omega
  have bj : a + 1 ≤ j ∧ j + 1 < b := by omega
  have bk : a + 1 ≤ k ∧ k + 1 < b := by omega
  have ql : q ≤ 600 := by omega
  clear hl hq hi hj hk
  have HB := Hid.mk ((Below.refl w.heap.size w).alloc (Nat.le_refl _) (.cells #[.int .i64 0] 3))
  have S0 : ST blk off d w.heap.size 0 (w.alloc (.cells #[.int .i64 0] 3)) := by
    refine ⟨⟨Kb.refl _ _, by have := H.lt; simp; omega, fun _ _ => rfl, fun t ht => (HB.out.cell (p := ⟨blk, off + t, none⟩) H.lt).trans (H.cell t ht), fun t => (HB.out.frozen (p := ⟨blk, t, none⟩) H.lt).trans (H.frz t)⟩, by simp, by have := H.lt; omega, ⟨0, Nat.le_refl _, by go_simp⟩, by go_simp⟩
  have HS := Hid.mk S0
  have hlt := H.lt
  clear S0 H
  go_enter Yba.func70, Yba.ntmps70
  by_cases h50 : 50 ≤ l
  · have h50' : (l : Int) ≥ 50 := by omega
    go_wp2_with fail
    refine (medadj_any _ blk off cap w.heap.size 0 a b i m d hm h6 (by omega) hb HS.out bi).mono ?_
    rintro e w1 ⟨i1, rfl, b1, S1, K1⟩
    have B1 := Hid.mk (K1.bel HB.out (Nat.le_refl _))
    clear K1
    dsimp only
    go_wp2_with fail
    refine (medadj_any w1 blk off cap w.heap.size (0 + 3) a b j m d hm h6 (by omega) hb S1 bj).mono ?_
    rintro e w2 ⟨j1, rfl, b2, S2, K2⟩
    have B2 := Hid.mk (K2.bel B1.out (Nat.le_refl _))
    clear K2 S1
    dsimp only
    go_wp2_with fail
    refine (medadj_any w2 blk off cap w.heap.size (0 + 3 + 3) a b k m d hm h6 (by omega) hb S2 bk).mono ?_
    rintro e w3 ⟨k1, rfl, b3, S3, K3⟩
    have B3 := Hid.mk (K3.bel B2.out (Nat.le_refl _))
    clear K3 S2
    dsimp only
    go_wp2_with fail
    refine (median_any w3 blk off cap w.heap.size (0 + 3 + 3 + 3) a b i1 j1 k1 m d hm h6 (by omega) hb S3 b1 b2 b3).mono ?_
    rintro e w4 ⟨r, rfl, b4, S4, K4⟩
    have BF := Hid.mk (K4.bel B3.out (Nat.le_refl _))
    obtain ⟨c, hc, hcs⟩ := S4.cnt
    have HS4 := Hid.mk S4
    clear S4 K4
    dsimp only
    go_wp2_with fail
    · go_ret2
      exact ⟨r, 1, rfl, b4.1, b4.2, by omega, HS4.out.fin BF.out hlt⟩
    · go_ret2
      exact ⟨r, 2, rfl, b4.1, b4.2, by omega, HS4.out.fin BF.out hlt⟩
    · go_ret2
      exact ⟨r, 0, rfl, b4.1, b4.2, by omega, HS4.out.fin BF.out hlt⟩
  · have h50' : ¬ (l : Int) ≥ 50 := by omega
    go_wp2_with fail
    refine (median_any _ blk off cap w.heap.size 0 a b i j k m d hm h6 (by omega) hb HS.out (by omega) (by omega) (by omega)).mono ?_
    rintro e w4 ⟨r, rfl, b4, S4, K4⟩
    have BF := Hid.mk (K4.bel HB.out (Nat.le_refl _))
    obtain ⟨c, hc, hcs⟩ := S4.cnt
    have HS4 := Hid.mk S4
    clear S4 K4
    dsimp only
    go_wp2_with fail
    · go_ret2
      exact ⟨r, 1, rfl, b4.1, b4.2, by omega, HS4.out.fin BF.out hlt⟩
    · go_ret2
      exact ⟨r, 0, rfl, b4.1, b4.2, by omega, HS4.out.fin BF.out hlt⟩
end Go.Proofs.Ybulkdaxu
