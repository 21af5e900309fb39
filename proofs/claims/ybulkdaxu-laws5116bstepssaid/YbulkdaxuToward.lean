import Derived.Test.YbulkdaxuSide
import Derived.Test.YbulkdaxuInRound
import Derived.Sort.QuietIn
import Derived.Sort.CutIn
import Derived.Stop.RegionWithIn
namespace Go.Proofs.Ybulkdaxu
open Go.RowKit Go.Shelf
set_option linter.unusedSimpArgs false
set_option linter.unusedVariables false
attribute [local go_sem] Oper.semAt_some

set_option maxRecDepth 100000 in
theorem seq_any (w : World) (l1 l2 p1 p2 : Value) (aa : Option Addr) (al ac n : Nat) :
    Calls Yba.prog 14 #[.agg #[l1, l2], .agg #[p1, p2], .int .i64 n, (.slice aa al ac)] w fun e w' => e = .returned (.func (.func 23) #[] #[.pointer (some ⟨w.heap.size, 0, none⟩), .pointer (some ⟨w.heap.size + 1 + 1, 0, none⟩), .pointer (some ⟨w.heap.size + 1, 0, none⟩), .pointer (some ⟨w.heap.size + 1 + 1 + 1, 0, none⟩)]) ∧
      w' = (((w.alloc (.cells #[l1, l2] 27)).alloc (.cells #[p1, p2] 27)).alloc (.cells #[.int .i64 n] 3)).alloc (.cells #[(.slice aa al ac)] 23) := by
  go_enter Yba.func14, Yba.ntmps14
  go_wp2_with fail
  go_ret
  exact ⟨rfl, rfl⟩

theorem res_two {fn : Func} {p q : Tmp} (h : fn.results = #[.cell p 24, .cell q 4]) (tmps : Array Value) (w : World) (g k : Nat) (u v : Value) (hp : tmps.getD p undef = .pointer (some ⟨g, 0, none⟩)) (hq : tmps.getD q undef = .pointer (some ⟨k, 0, none⟩)) (h0 : w.cell? ⟨g, 0, none⟩ = some u) (h1 : w.cell? ⟨k, 0, none⟩ = some v) : (results fn tmps).run Yba.prog w = .ok (.tuple #[u, v]) w := by
  have hp' : tmps[p]?.getD undef = .pointer (some ⟨g, 0, none⟩) := by simpa using hp
  have hq' : tmps[q]?.getD undef = .pointer (some ⟨k, 0, none⟩) := by simpa using hq
  simp [results, h, hp', hq', asAddr, load_one w g u h0, load_bool w k v h1]

theorem set_far {w : World} {p b o : Nat} (h : p ≠ b) (x : Value) : (w.setCell ⟨p, 0, none⟩ x).cell? ⟨b, o, none⟩ = w.cell? ⟨b, o, none⟩ :=
  World.cell?_setCell_other _ _ (a := ⟨p, 0, none⟩) (b := ⟨b, o, none⟩) (by intro e; injection e with e; omega)

set_option maxRecDepth 100000 in
set_option maxHeartbeats 4000000 in
theorem toward_any (w : World) (d n : Nat) (z A q : Nat → Int) (s0 : St) (l1 l2 p1 p2 at_ qv : Value) (zh : Nat → Int) (P : Nat → Nat → Int) (hd : 0 < d) (hd3 : d ≤ 3) (hn : n ≤ 300)
    (f1 : FR w l1 d s0.wl) (f2 : FR w l2 d s0.wh) (e1 : s0.el = s0.wl) (e2 : s0.eh = s0.wh) (f3 : FR w p1 d z) (f4 : FR w p2 d zh) (f5 : FR w at_ n A) (f6 : FR w qv d q)
    (sz : ∀ k, k < d → Sm (z k)) (sq : ∀ k, k < d → Sm (q k)) (sa : ∀ j, j < n → Sm (A j)) (hfine : ∀ j, j < n → (∀ i, i < j → Okk d z A s0 i) → Fine d z (stt d z A s0 j) j)
    (hunf : ∀ m, m < n → (∀ i, i ≤ m → Okk d z A s0 i) → (∀ i, i < m → Agr d z A q s0 i) → ¬ Agr d z A q s0 m → ∃ u pr s, Unf d q (partLo d q (stt d z A s0 m) m) (partHi d q (stt d z A s0 m) m) (keptLo d z A (stt d z A s0 m) m) (keptHi d z A (stt d z A s0 m) m) u pr s ∧ ∀ k, k < d → keptLo d z A (stt d z A s0 m) m k + pr k = P m k) :
    Calls Yba.prog 10 #[.agg #[l1, l2], .agg #[p1, p2], .int .i64 n, at_, qv] w fun e w' => Below w.heap.size w w' ∧
      ((∃ m, StepS d n z A s0 m ∧ (∀ i, i < m → Agr d z A q s0 i) ∧ e = .returned (.tuple #[.slice none 0 0, .bool true])) ∨
       (∃ m v, m < n ∧ (∀ i, i ≤ m → Okk d z A s0 i) ∧ (∀ i, i < m → Agr d z A q s0 i) ∧ ¬ Agr d z A q s0 m ∧ e = .returned (.tuple #[v, .bool false]) ∧ FR w' v d (P m))) := by
  have F1 := Hid.mk f1
  have F2 := Hid.mk f2
  have F3 := Hid.mk f3
  have F4 := Hid.mk f4
  have F5 := Hid.mk f5
  have F6 := Hid.mk f6
  have HF := Hid.mk hfine
  have HU := Hid.mk hunf
  obtain ⟨b1, t1, rfl, hx, lr1, hy⟩ := f1
  clear hx hy
  obtain ⟨b2, t2, rfl, hx, lr2, hy⟩ := f2
  clear hx hy
  obtain ⟨b3, t3, rfl, hx, lr3, hy⟩ := f3
  clear hx hy
  obtain ⟨b4, t4, rfl, hx, lr4, hy⟩ := f4
  clear hx hy
  obtain ⟨b5, t5, rfl, hx, lr5, hy⟩ := f5
  clear hx hy
  obtain ⟨b6, t6, rfl, hx, lr6, hy⟩ := f6
  clear hx hy
  clear hfine hunf
  refine (callsIn_wide (n := 0)).1 (callsIn_of_wp_marks Yba.func10 rfl trivial (wpIn_wide.2 ?_) rfl)
  simp only [Yba.ntmps10, List.size_toArray, List.length_cons, List.length_nil, Nat.reduceAdd, Nat.reduceSub, Array.replicate_succ, Array.replicate_zero, List.push_toArray, List.append_toArray, List.nil_append, List.cons_append]
  go_wp2_with fail
  refine (seq_any _ _ _ _ _ _ _ _ n).mono ?_
  rintro e w0 ⟨rfl, hw0⟩
  dsimp only
  have hB : Below w.heap.size w w0 := by
    rw [hw0]
    exact ((((((((((Below.refl _ _).alloc (Nat.le_refl _) _).alloc (by simp) _).alloc (by simp; omega) _).alloc (by simp; omega) _).alloc (by simp; omega) _).alloc (by simp; omega) _).alloc (by simp; omega) _).alloc (by simp; omega) _).alloc (by simp; omega) _)
  have hsz : w0.heap.size = w.heap.size + 9 := by rw [hw0]; simp
  have a20 : w0.cell? ⟨w.heap.size + 1 + 1, 0, none⟩ = some (Value.slice (some ⟨b6, 0, none⟩) d t6) := by rw [hw0]; go_simp
  have a30 : w0.cell? ⟨w.heap.size + 1 + 1 + 1, 0, none⟩ = some (.slice none 0 0) := by rw [hw0]; go_simp
  have a40 : w0.cell? ⟨w.heap.size + 1 + 1 + 1 + 1, 0, none⟩ = some (.bool false) := by rw [hw0]; go_simp
  have a50 : w0.cell? ⟨w.heap.size + 1 + 1 + 1 + 1 + 1, 0, none⟩ = some (Value.slice (some ⟨b1, 0, none⟩) d t1) := by rw [hw0]; go_simp
  have a51 : w0.cell? ⟨w.heap.size + 1 + 1 + 1 + 1 + 1, 1, none⟩ = some (Value.slice (some ⟨b2, 0, none⟩) d t2) := by rw [hw0]; go_simp
  have a60 : w0.cell? ⟨w.heap.size + 1 + 1 + 1 + 1 + 1 + 1, 0, none⟩ = some (Value.slice (some ⟨b3, 0, none⟩) d t3) := by rw [hw0]; go_simp
  have a61 : w0.cell? ⟨w.heap.size + 1 + 1 + 1 + 1 + 1 + 1, 1, none⟩ = some (Value.slice (some ⟨b4, 0, none⟩) d t4) := by rw [hw0]; go_simp
  have a70 : w0.cell? ⟨w.heap.size + 1 + 1 + 1 + 1 + 1 + 1 + 1, 0, none⟩ = some (.int .i64 (n : Int)) := by rw [hw0]; go_simp
  have a80 : w0.cell? ⟨w.heap.size + 1 + 1 + 1 + 1 + 1 + 1 + 1 + 1, 0, none⟩ = some (Value.slice (some ⟨b5, 0, none⟩) n t5) := by rw [hw0]; go_simp
  have z3 : ∀ j, w0.frozen? ⟨w.heap.size + 1 + 1 + 1, j, none⟩ = false := by intro j; rw [hw0]; go_simp
  have z4 : ∀ j, w0.frozen? ⟨w.heap.size + 1 + 1 + 1 + 1, j, none⟩ = false := by intro j; rw [hw0]; go_simp
  simp only [World.size_alloc]
  clear hw0
  have hsl : w.heap.size + 9 ≤ w0.heap.size := by omega
  have HB := Hid.mk hB
  clear hsz hB
  go_wp2_with fail
  have Fw1 := F1.out.below HB.out
  have Fw2 := F2.out.below HB.out
  have Fw3 := F3.out.below HB.out
  have Fw4 := F4.out.below HB.out
  have Fw5 := F5.out.below HB.out
  have HF6 := Hid.mk (F6.out.below HB.out)
  refine range_own rfl (enters_of Yba.func23 (by kernel_rfl) rfl) (steps_seq w0 (w.heap.size + 1 + 1 + 1 + 1 + 1) (w.heap.size + 1 + 1 + 1 + 1 + 1 + 1 + 1) (w.heap.size + 1 + 1 + 1 + 1 + 1 + 1) (w.heap.size + 1 + 1 + 1 + 1 + 1 + 1 + 1 + 1) d n z A s0 _ _ _ _ _ zh hd hd3 hn a50 a51 a70 a60 a61 a80 Fw1 Fw2 e1 e2 Fw3 Fw4 Fw5 sz sa HF.out)
    (fun j W => Below w0.heap.size w0 W ∧ ∀ i, i < j → Agr d z A q s0 i)
    (fun W => ∃ m b c, m < n ∧ (∀ i, i ≤ m → Okk d z A s0 i) ∧ (∀ i, i < m → Agr d z A q s0 i) ∧ ¬ Agr d z A q s0 m ∧ b ≠ w0.heap.size + 1 ∧ b ≠ w0.heap.size ∧ W.cell? ⟨w.heap.size + 1 + 1 + 1, 0, none⟩ = some (.slice (some ⟨b, 0, none⟩) d c) ∧ W.cell? ⟨w.heap.size + 1 + 1 + 1 + 1, 0, none⟩ = some (.bool false) ∧ FR W (.slice (some ⟨b, 0, none⟩) d c) d (P m) ∧ Below w.heap.size w W)
    ?hI ?hX ?h0 ?round ?done ?ret
  case hI => exact fun j A B h hAB => ⟨h.1.trans hAB, h.2⟩
  case hX =>
    rintro A B ⟨m, b, c, h1, h2, h3, h4, h5, h5', h6, h7, h8, h9⟩ hAB
    exact ⟨m, b, c, h1, h2, h3, h4, h5, h5', (hAB.cell (World.block_lt_of_cell? A _ h6) (by simp; omega)).trans h6, (hAB.cell (World.block_lt_of_cell? A _ h7) (by simp; omega)).trans h7, h8.kb hAB h5, h9.trans (hAB.below (by omega) h9.size)⟩
  case h0 => exact ⟨Below.refl _ _, fun i hi => by omega⟩
  case done =>
    rintro j W hS ⟨hBW, hag⟩ hD
    have c3 := (hBW.cell (p := ⟨w.heap.size + 1 + 1 + 1, 0, none⟩) (by simp; omega)).trans a30
    have c4 := (hBW.cell (p := ⟨w.heap.size + 1 + 1 + 1 + 1, 0, none⟩) (by simp; omega)).trans a40
    have y3 : ∀ j, W.frozen? ⟨w.heap.size + 1 + 1 + 1, j, none⟩ = false := fun j => (hBW.frozen (p := ⟨w.heap.size + 1 + 1 + 1, j, none⟩) (by simp; omega)).trans (z3 j)
    have y4 : ∀ j, W.frozen? ⟨w.heap.size + 1 + 1 + 1 + 1, j, none⟩ = false := fun j => (hBW.frozen (p := ⟨w.heap.size + 1 + 1 + 1 + 1, j, none⟩) (by simp; omega)).trans (z4 j)
    have HS := Hid.mk hS
    have Hag := Hid.mk hag
    have HW := Hid.mk hBW
    have HD := Hid.mk hD
    clear hS hag hBW hD
    go_wp2_with fail
    generalize hX : (W.setCell { block := w.heap.size + 1 + 1 + 1, off := 0 } (Value.slice none 0 0)).setCell { block := w.heap.size + 1 + 1 + 1 + 1, off := 0 } (Value.bool true) = WX
    have x3 : WX.cell? ⟨w.heap.size + 1 + 1 + 1, 0, none⟩ = some (.slice none 0 0) := by
      rw [← hX, World.cell?_setCell_other _ _ (a := ⟨w.heap.size + 1 + 1 + 1 + 1, 0, none⟩) (b := ⟨w.heap.size + 1 + 1 + 1, 0, none⟩) (by intro e; injection e with e; omega)]
      exact World.cell?_setCell_same' _ _ _ (by rw [c3]; rfl)
    have x4 : WX.cell? ⟨w.heap.size + 1 + 1 + 1 + 1, 0, none⟩ = some (.bool true) := by
      rw [← hX]
      refine World.cell?_setCell_same' _ _ _ ?_
      rw [World.cell?_setCell_other _ _ (a := ⟨w.heap.size + 1 + 1 + 1, 0, none⟩) (b := ⟨w.heap.size + 1 + 1 + 1 + 1, 0, none⟩) (by intro e; injection e with e; omega), c4]; rfl
    have hBX : Below w.heap.size w WX := by rw [← hX]; exact ((HB.out.trans (HW.out.mono HB.out.size)).setCell (p := ⟨w.heap.size + 1 + 1 + 1, 0, none⟩) (by simp; omega) _).setCell (p := ⟨w.heap.size + 1 + 1 + 1 + 1, 0, none⟩) (by simp; omega) _
    have hDX : WX.heap[w0.heap.size]? = some (.deferred (some [])) := by rw [← hX]; exact (Below.heap_setCell _ _ _ _ (by simp; omega)).trans ((Below.heap_setCell _ _ _ _ (by simp; omega)).trans HD.out)
    refine ⟨by simp, .inl ⟨_, _, rfl, run_takeDeferred hDX, ?_⟩⟩
    have kp := Kb.put w0.heap.size WX (.deferred none)
    refine ⟨_, res_two rfl _ _ (w.heap.size + 1 + 1 + 1) (w.heap.size + 1 + 1 + 1 + 1) _ _ rfl rfl ((kp.cell (World.block_lt_of_cell? WX _ x3) (by simp; omega)).trans x3) ((kp.cell (World.block_lt_of_cell? WX _ x4) (by simp; omega)).trans x4), ?_⟩
    exact ⟨hBX.trans (kp.below (by omega) hBX.size), .inl ⟨j, HS.out, Hag.out, rfl⟩⟩
  case ret =>
    rintro W ⟨m, b, c, h1, h2, h3, h4, h5, h5', h6, h7, h8, h9⟩ hD
    have H1 := Hid.mk h1
    have H2 := Hid.mk h2
    have H3 := Hid.mk h3
    have H4 := Hid.mk h4
    have H8 := Hid.mk h8
    have H9 := Hid.mk h9
    have HD := Hid.mk hD
    clear h1 h2 h3 h4 h8 h9 hD
    go_wp2_with fail
    refine ⟨by simp, .inl ⟨_, _, rfl, run_takeDeferred HD.out, ?_⟩⟩
    have kp := Kb.put w0.heap.size W (.deferred none)
    refine ⟨_, res_two rfl _ _ (w.heap.size + 1 + 1 + 1) (w.heap.size + 1 + 1 + 1 + 1) _ _ rfl rfl ((kp.cell (World.block_lt_of_cell? W _ h6) (by simp; omega)).trans h6) ((kp.cell (World.block_lt_of_cell? W _ h7) (by simp; omega)).trans h7), ?_⟩
    exact ⟨H9.out.trans (kp.below (by omega) H9.out.size), .inr ⟨m, _, H1.out, H2.out, H3.out, H4.out, rfl, H8.out.kb kp h5'⟩⟩
  case round =>
    rintro j v W ⟨hBW, hag⟩ ⟨hjn, hall, x1, x2, x3, x4, rfl, G1, G2, G3, G4⟩ hlt hno
    have HG1 := Hid.mk G1
    have HG2 := Hid.mk G2
    have HG3 := Hid.mk G3
    have HG4 := Hid.mk G4
    have HW := Hid.mk hBW
    have Hag := Hid.mk hag
    have Hall := Hid.mk hall
    have Hno := Hid.mk hno
    have hWs := hBW.size
    obtain ⟨r1, v1, rfl, hx, hx2, hy⟩ := G1
    clear hx hx2 hy
    obtain ⟨r2, v2, rfl, hx, hx2, hy⟩ := G2
    clear hx hx2 hy
    obtain ⟨r3, v3, rfl, hx, hx2, hy⟩ := G3
    clear hx hx2 hy
    obtain ⟨r4, v4, rfl, hx, hx2, hy⟩ := G4
    clear hx hx2 hy
    obtain ⟨k, hke, hk⟩ : ∃ k, j % d = k ∧ k < d := ⟨j % d, rfl, Nat.mod_lt _ hd⟩
    have Hke := Hid.mk hke
    rw [hke]
    clear hag hall hno hBW hke
    gi_wp2
    have BA : Below W.heap.size W (W.alloc (Obj.cells #[Value.slice (some ⟨r1, 0, none⟩) d v1, Value.slice (some ⟨r2, 0, none⟩) d v2, Value.int .i64 (k : Int), Value.float .f64 (fx ((stt d z A s0 j).mid k)), Value.bool (decide (A j ≤ z k)), Value.slice (some ⟨r3, 0, none⟩) d v3, Value.slice (some ⟨r4, 0, none⟩) d v4] 62)) := (Below.refl _ _).alloc (Nat.le_refl _) _
    have sA : (W.alloc (Obj.cells #[Value.slice (some ⟨r1, 0, none⟩) d v1, Value.slice (some ⟨r2, 0, none⟩) d v2, Value.int .i64 (k : Int), Value.float .f64 (fx ((stt d z A s0 j).mid k)), Value.bool (decide (A j ≤ z k)), Value.slice (some ⟨r3, 0, none⟩) d v3, Value.slice (some ⟨r4, 0, none⟩) d v4] 62)).heap.size = W.heap.size + 1 := by simp
    have s0' : (W.alloc (Obj.cells #[Value.slice (some ⟨r1, 0, none⟩) d v1, Value.slice (some ⟨r2, 0, none⟩) d v2, Value.int .i64 (k : Int), Value.float .f64 (fx ((stt d z A s0 j).mid k)), Value.bool (decide (A j ≤ z k)), Value.slice (some ⟨r3, 0, none⟩) d v3, Value.slice (some ⟨r4, 0, none⟩) d v4] 62)).cell? ⟨W.heap.size, 0, none⟩ = some (Value.slice (some ⟨r1, 0, none⟩) d v1) := by go_simp
    have s1 : (W.alloc (Obj.cells #[Value.slice (some ⟨r1, 0, none⟩) d v1, Value.slice (some ⟨r2, 0, none⟩) d v2, Value.int .i64 (k : Int), Value.float .f64 (fx ((stt d z A s0 j).mid k)), Value.bool (decide (A j ≤ z k)), Value.slice (some ⟨r3, 0, none⟩) d v3, Value.slice (some ⟨r4, 0, none⟩) d v4] 62)).cell? ⟨W.heap.size, 1, none⟩ = some (Value.slice (some ⟨r2, 0, none⟩) d v2) := by go_simp
    have s2 : (W.alloc (Obj.cells #[Value.slice (some ⟨r1, 0, none⟩) d v1, Value.slice (some ⟨r2, 0, none⟩) d v2, Value.int .i64 (k : Int), Value.float .f64 (fx ((stt d z A s0 j).mid k)), Value.bool (decide (A j ≤ z k)), Value.slice (some ⟨r3, 0, none⟩) d v3, Value.slice (some ⟨r4, 0, none⟩) d v4] 62)).cell? ⟨W.heap.size, 2, none⟩ = some (Value.int .i64 (k : Int)) := by go_simp
    have s3 : (W.alloc (Obj.cells #[Value.slice (some ⟨r1, 0, none⟩) d v1, Value.slice (some ⟨r2, 0, none⟩) d v2, Value.int .i64 (k : Int), Value.float .f64 (fx ((stt d z A s0 j).mid k)), Value.bool (decide (A j ≤ z k)), Value.slice (some ⟨r3, 0, none⟩) d v3, Value.slice (some ⟨r4, 0, none⟩) d v4] 62)).cell? ⟨W.heap.size, 3, none⟩ = some (Value.float .f64 (fx ((stt d z A s0 j).mid k))) := by go_simp
    have s4 : (W.alloc (Obj.cells #[Value.slice (some ⟨r1, 0, none⟩) d v1, Value.slice (some ⟨r2, 0, none⟩) d v2, Value.int .i64 (k : Int), Value.float .f64 (fx ((stt d z A s0 j).mid k)), Value.bool (decide (A j ≤ z k)), Value.slice (some ⟨r3, 0, none⟩) d v3, Value.slice (some ⟨r4, 0, none⟩) d v4] 62)).cell? ⟨W.heap.size, 4, none⟩ = some (Value.bool (decide (A j ≤ z k))) := by go_simp
    have s5 : (W.alloc (Obj.cells #[Value.slice (some ⟨r1, 0, none⟩) d v1, Value.slice (some ⟨r2, 0, none⟩) d v2, Value.int .i64 (k : Int), Value.float .f64 (fx ((stt d z A s0 j).mid k)), Value.bool (decide (A j ≤ z k)), Value.slice (some ⟨r3, 0, none⟩) d v3, Value.slice (some ⟨r4, 0, none⟩) d v4] 62)).cell? ⟨W.heap.size, 5, none⟩ = some (Value.slice (some ⟨r3, 0, none⟩) d v3) := by go_simp
    have s6 : (W.alloc (Obj.cells #[Value.slice (some ⟨r1, 0, none⟩) d v1, Value.slice (some ⟨r2, 0, none⟩) d v2, Value.int .i64 (k : Int), Value.float .f64 (fx ((stt d z A s0 j).mid k)), Value.bool (decide (A j ≤ z k)), Value.slice (some ⟨r3, 0, none⟩) d v3, Value.slice (some ⟨r4, 0, none⟩) d v4] 62)).cell? ⟨W.heap.size, 6, none⟩ = some (Value.slice (some ⟨r4, 0, none⟩) d v4) := by go_simp
    generalize (W.alloc (Obj.cells #[Value.slice (some ⟨r1, 0, none⟩) d v1, Value.slice (some ⟨r2, 0, none⟩) d v2, Value.int .i64 (k : Int), Value.float .f64 (fx ((stt d z A s0 j).mid k)), Value.bool (decide (A j ≤ z k)), Value.slice (some ⟨r3, 0, none⟩) d v3, Value.slice (some ⟨r4, 0, none⟩) d v4] 62)) = W1 at *
    refine ⟨Kb.of_below BA, BA.block _ hlt, fun W2 hK2 => ?_⟩
    have sA2 := hK2.size
    have tt0 := (hK2.cell (p := ⟨W.heap.size, 0, none⟩) (by simp; omega) (by simp; omega)).trans s0'
    have tt1 := (hK2.cell (p := ⟨W.heap.size, 1, none⟩) (by simp; omega) (by simp; omega)).trans s1
    have tt2 := (hK2.cell (p := ⟨W.heap.size, 2, none⟩) (by simp; omega) (by simp; omega)).trans s2
    have tt3 := (hK2.cell (p := ⟨W.heap.size, 3, none⟩) (by simp; omega) (by simp; omega)).trans s3
    have tt4 := (hK2.cell (p := ⟨W.heap.size, 4, none⟩) (by simp; omega) (by simp; omega)).trans s4
    have tt5 := (hK2.cell (p := ⟨W.heap.size, 5, none⟩) (by simp; omega) (by simp; omega)).trans s5
    have tt6 := (hK2.cell (p := ⟨W.heap.size, 6, none⟩) (by simp; omega) (by simp; omega)).trans s6
    have q2 := ((hK2.cell (p := ⟨w.heap.size + 1 + 1, 0, none⟩) (by simp; omega) (by simp; omega)).trans (BA.cell (p := ⟨w.heap.size + 1 + 1, 0, none⟩) (by simp; omega))).trans ((HW.out.cell (p := ⟨w.heap.size + 1 + 1, 0, none⟩) (by simp; omega)).trans a20)
    have q3 := ((hK2.cell (p := ⟨w.heap.size + 1 + 1 + 1, 0, none⟩) (by simp; omega) (by simp; omega)).trans (BA.cell (p := ⟨w.heap.size + 1 + 1 + 1, 0, none⟩) (by simp; omega))).trans ((HW.out.cell (p := ⟨w.heap.size + 1 + 1 + 1, 0, none⟩) (by simp; omega)).trans a30)
    have q4 := ((hK2.cell (p := ⟨w.heap.size + 1 + 1 + 1 + 1, 0, none⟩) (by simp; omega) (by simp; omega)).trans (BA.cell (p := ⟨w.heap.size + 1 + 1 + 1 + 1, 0, none⟩) (by simp; omega))).trans ((HW.out.cell (p := ⟨w.heap.size + 1 + 1 + 1 + 1, 0, none⟩) (by simp; omega)).trans a40)
    have y3 : ∀ i, W2.frozen? ⟨w.heap.size + 1 + 1 + 1, i, none⟩ = false := fun i => ((hK2.frozen (p := ⟨w.heap.size + 1 + 1 + 1, i, none⟩) (by simp; omega) (by simp; omega)).trans (BA.frozen (p := ⟨w.heap.size + 1 + 1 + 1, i, none⟩) (by simp; omega))).trans ((HW.out.frozen (p := ⟨w.heap.size + 1 + 1 + 1, i, none⟩) (by simp; omega)).trans (z3 i))
    have y4 : ∀ i, W2.frozen? ⟨w.heap.size + 1 + 1 + 1 + 1, i, none⟩ = false := fun i => ((hK2.frozen (p := ⟨w.heap.size + 1 + 1 + 1 + 1, i, none⟩) (by simp; omega) (by simp; omega)).trans (BA.frozen (p := ⟨w.heap.size + 1 + 1 + 1 + 1, i, none⟩) (by simp; omega))).trans ((HW.out.frozen (p := ⟨w.heap.size + 1 + 1 + 1 + 1, i, none⟩) (by simp; omega)).trans (z4 i))
    have hno1 : ∀ p : Addr, p.block = w0.heap.size + 1 → W1.cell? p = none := fun p hp => (BA.cell (p := p) (by rw [hp]; exact hlt)).trans (Hno.out p hp)
    have KF := (KeepF.of_below BA).trans (KeepF.of_kb hK2 hno1)
    have HE1 := Hid.mk (HG1.out.keep KF)
    have HE2 := Hid.mk (HG2.out.keep KF)
    have HE3 := Hid.mk (HG3.out.keep KF)
    have HE4 := Hid.mk (HG4.out.keep KF)
    have HEq := Hid.mk ((HF6.out.below HW.out).keep KF)
    have cq := HEq.out.open.2.2
    have cqk := cq k hk
    have HK2 := Hid.mk hK2
    have HBA := Hid.mk BA
    have hW2 : W.heap.size + 1 ≤ W2.heap.size := by omega
    have fine := HF.out j hjn (fun i hi => Hall.out i (by omega))
    have hmid := fine.mid
    have hmid2 := fine.mid2
    have hsel := fine.sel k hk
    rw [Hke.out] at hmid hmid2
    have smm : Sm ((stt d z A s0 j).mid k) := ⟨by omega, by omega⟩
    have hk0 : (0 : Int) ≤ (k : Int) := by omega
    have hk1 : (k : Int) < (d : Int) := by omega
    clear hK2 BA hno1 KF cq fine sA sA2
    have o1 := ob_ge (sq k hk) smm
    have hmx : Yba.prog.follows .mixedOrders = true := by kernel_rfl
    gi_upto_region 3 with fail
    gi_cut [13] from 14 (fun x wx => x = .bool (decide ((stt d z A s0 j).mid k ≤ q k)) ∧ Below W2.heap.size W2 wx)
    case first =>
      gi_region_with_o (fail)
      all_goals gi_wp2
      all_goals gi_meet
      all_goals exact ⟨rfl, (Below.refl _ _).drew⟩
    case rest =>
      obtain ⟨rfl, BC⟩ := hcut
      have bcs := BC.size
      have d0 := (BC.cell (p := ⟨W.heap.size, 0, none⟩) (by simp; omega)).trans tt0
      have d1 := (BC.cell (p := ⟨W.heap.size, 1, none⟩) (by simp; omega)).trans tt1
      have d2 := (BC.cell (p := ⟨W.heap.size, 2, none⟩) (by simp; omega)).trans tt2
      have d3 := (BC.cell (p := ⟨W.heap.size, 3, none⟩) (by simp; omega)).trans tt3
      have d4 := (BC.cell (p := ⟨W.heap.size, 4, none⟩) (by simp; omega)).trans tt4
      have d5 := (BC.cell (p := ⟨W.heap.size, 5, none⟩) (by simp; omega)).trans tt5
      have d6 := (BC.cell (p := ⟨W.heap.size, 6, none⟩) (by simp; omega)).trans tt6
      have e20 := (BC.cell (p := ⟨w.heap.size + 1 + 1, 0, none⟩) (by simp; omega)).trans q2
      have e30 := (BC.cell (p := ⟨w.heap.size + 1 + 1 + 1, 0, none⟩) (by simp; omega)).trans q3
      have e40 := (BC.cell (p := ⟨w.heap.size + 1 + 1 + 1 + 1, 0, none⟩) (by simp; omega)).trans q4
      have ef3 : ∀ i, wc.frozen? ⟨w.heap.size + 1 + 1 + 1, i, none⟩ = false := fun i => (BC.frozen (p := ⟨w.heap.size + 1 + 1 + 1, i, none⟩) (by simp; omega)).trans (y3 i)
      have ef4 : ∀ i, wc.frozen? ⟨w.heap.size + 1 + 1 + 1 + 1, i, none⟩ = false := fun i => (BC.frozen (p := ⟨w.heap.size + 1 + 1 + 1 + 1, i, none⟩) (by simp; omega)).trans (y4 i)
      have HL1 := Hid.mk (HE1.out.below BC)
      have HL2 := Hid.mk (HE2.out.below BC)
      have HL3 := Hid.mk (HE3.out.below BC)
      have HL4 := Hid.mk (HE4.out.below BC)
      have HLq := Hid.mk (HEq.out.below BC)
      have HBC := Hid.mk BC
      have hbw : Below w0.heap.size w0 wc := ((HW.out.trans (HBA.out.mono (by omega))).trans (HK2.out.below (by omega) (by have := HBA.out.size; omega))).trans (BC.mono (by omega))
      have Hbw := Hid.mk hbw
      have sm1 : Sm ((stt d z A s0 j).el k) := ⟨by omega, by omega⟩
      have sm2 : Sm ((stt d z A s0 j).eh k) := ⟨by omega, by omega⟩
      clear BC hbw tt0 tt1 tt2 tt3 tt4 tt5 tt6 q2 q3 q4 y3 y4 cqk o1
      by_cases hqm : (stt d z A s0 j).mid k ≤ q k
      · rw [decide_eq_true hqm]
        by_cases hz : A j ≤ z k
        · rw [decide_eq_true hz] at d4
          gi_wp2
          refine ⟨Kb.of_below HBC.out, HBC.out.block _ (by omega), Hbw.out, fun i hi => ?_⟩
          by_cases e : i = j
          · subst e; unfold Agr; rw [Hke.out]; exact ⟨fun _ => hqm, fun _ => hz⟩
          · exact Hag.out i (by omega)
        · rw [decide_eq_false hz] at d4
          have Hna : Hid (¬ Agr d z A q s0 j) := ⟨by unfold Agr; rw [Hke.out]; exact fun h => hz (h.2 hqm)⟩
          obtain ⟨u, pr, s, hU, hP⟩ := HU.out j hjn Hall.out Hag.out Hna.out
          have HUn := Hid.mk hU
          have HPn := Hid.mk hP
          have Hc1 : Hid (∀ i, i < d → (if true = true then up (stt d z A s0 j).el k ((stt d z A s0 j).mid k) else (stt d z A s0 j).el) i = partLo d q (stt d z A s0 j) j i) := ⟨fun i _ => by unfold partLo; rw [Hke.out, if_pos hqm]; simp⟩
          have Hc2 : Hid (∀ i, i < d → (if true = true then (stt d z A s0 j).eh else up (stt d z A s0 j).eh k ((stt d z A s0 j).mid k)) i = partHi d q (stt d z A s0 j) j i) := ⟨fun i _ => by unfold partHi; rw [Hke.out, if_pos hqm]; simp⟩
          have C0 : Hid (Below wc.heap.size wc wc) := ⟨Below.refl _ _⟩
          clear hU hP HF HU F1 F2 F3 F4 F5 F6 Fw1 Fw2 Fw3 Fw4 Fw5 a20 a30 a40 a50 a51 a60 a61 a70 a80 z3 z4 lr1 lr2 lr3 lr4 lr5 HE1 HE2 HE3 HE4 HEq HG1 HG2 HG3 HG4 Hno s1 s2 s3 s4 s5 s6 s0' smm e1 e2 sq sa sz HF6
          gi_wp2
          have HSb : Hid (∀ w7 : World, Below wc.heap.size wc w7 → (fun w' => w'.cell? ⟨w.heap.size + 1 + 1, 0, none⟩ = some (Value.slice (some ⟨b6, 0, none⟩) d t6) ∧ w'.cell? ⟨W.heap.size, 0, none⟩ = some (Value.slice (some ⟨r1, 0, none⟩) d v1) ∧ w'.cell? ⟨W.heap.size, 1, none⟩ = some (Value.slice (some ⟨r2, 0, none⟩) d v2) ∧ w'.cell? ⟨W.heap.size, 2, none⟩ = some (Value.int .i64 (k : Int)) ∧ w'.cell? ⟨W.heap.size, 3, none⟩ = some (Value.float .f64 (fx ((stt d z A s0 j).mid k))) ∧ w'.cell? ⟨W.heap.size, 4, none⟩ = some (Value.bool false) ∧ w'.cell? ⟨W.heap.size, 5, none⟩ = some (Value.slice (some ⟨r3, 0, none⟩) d v3) ∧ w'.cell? ⟨W.heap.size, 6, none⟩ = some (Value.slice (some ⟨r4, 0, none⟩) d v4)) w7) := ⟨fun w7 hb => ⟨(hb.cell (p := ⟨w.heap.size + 1 + 1, 0, none⟩) (by simp; omega)).trans e20, (hb.cell (p := ⟨W.heap.size, 0, none⟩) (by simp; omega)).trans d0, (hb.cell (p := ⟨W.heap.size, 1, none⟩) (by simp; omega)).trans d1, (hb.cell (p := ⟨W.heap.size, 2, none⟩) (by simp; omega)).trans d2, (hb.cell (p := ⟨W.heap.size, 3, none⟩) (by simp; omega)).trans d3, (hb.cell (p := ⟨W.heap.size, 4, none⟩) (by simp; omega)).trans d4, (hb.cell (p := ⟨W.heap.size, 5, none⟩) (by simp; omega)).trans d5, (hb.cell (p := ⟨W.heap.size, 6, none⟩) (by simp; omega)).trans d6⟩⟩
          have HSs : Hid (∀ (w7 : World) (p : Nat) (x : Value), (fun w' => w'.cell? ⟨w.heap.size + 1 + 1, 0, none⟩ = some (Value.slice (some ⟨b6, 0, none⟩) d t6) ∧ w'.cell? ⟨W.heap.size, 0, none⟩ = some (Value.slice (some ⟨r1, 0, none⟩) d v1) ∧ w'.cell? ⟨W.heap.size, 1, none⟩ = some (Value.slice (some ⟨r2, 0, none⟩) d v2) ∧ w'.cell? ⟨W.heap.size, 2, none⟩ = some (Value.int .i64 (k : Int)) ∧ w'.cell? ⟨W.heap.size, 3, none⟩ = some (Value.float .f64 (fx ((stt d z A s0 j).mid k))) ∧ w'.cell? ⟨W.heap.size, 4, none⟩ = some (Value.bool false) ∧ w'.cell? ⟨W.heap.size, 5, none⟩ = some (Value.slice (some ⟨r3, 0, none⟩) d v3) ∧ w'.cell? ⟨W.heap.size, 6, none⟩ = some (Value.slice (some ⟨r4, 0, none⟩) d v4)) w7 → p ≠ w.heap.size + 1 + 1 ∧ p ≠ W.heap.size → (fun w' => w'.cell? ⟨w.heap.size + 1 + 1, 0, none⟩ = some (Value.slice (some ⟨b6, 0, none⟩) d t6) ∧ w'.cell? ⟨W.heap.size, 0, none⟩ = some (Value.slice (some ⟨r1, 0, none⟩) d v1) ∧ w'.cell? ⟨W.heap.size, 1, none⟩ = some (Value.slice (some ⟨r2, 0, none⟩) d v2) ∧ w'.cell? ⟨W.heap.size, 2, none⟩ = some (Value.int .i64 (k : Int)) ∧ w'.cell? ⟨W.heap.size, 3, none⟩ = some (Value.float .f64 (fx ((stt d z A s0 j).mid k))) ∧ w'.cell? ⟨W.heap.size, 4, none⟩ = some (Value.bool false) ∧ w'.cell? ⟨W.heap.size, 5, none⟩ = some (Value.slice (some ⟨r3, 0, none⟩) d v3) ∧ w'.cell? ⟨W.heap.size, 6, none⟩ = some (Value.slice (some ⟨r4, 0, none⟩) d v4)) (w7.setCell ⟨p, 0, none⟩ x)) := ⟨fun w7 p x h hp => ⟨(set_far hp.1 x).trans h.1, (set_far hp.2 x).trans h.2.1, (set_far hp.2 x).trans h.2.2.1, (set_far hp.2 x).trans h.2.2.2.1, (set_far hp.2 x).trans h.2.2.2.2.1, (set_far hp.2 x).trans h.2.2.2.2.2.1, (set_far hp.2 x).trans h.2.2.2.2.2.2.1, (set_far hp.2 x).trans h.2.2.2.2.2.2.2⟩⟩
          refine region_round (S := (fun w' => w'.cell? ⟨w.heap.size + 1 + 1, 0, none⟩ = some (Value.slice (some ⟨b6, 0, none⟩) d t6) ∧ w'.cell? ⟨W.heap.size, 0, none⟩ = some (Value.slice (some ⟨r1, 0, none⟩) d v1) ∧ w'.cell? ⟨W.heap.size, 1, none⟩ = some (Value.slice (some ⟨r2, 0, none⟩) d v2) ∧ w'.cell? ⟨W.heap.size, 2, none⟩ = some (Value.int .i64 (k : Int)) ∧ w'.cell? ⟨W.heap.size, 3, none⟩ = some (Value.float .f64 (fx ((stt d z A s0 j).mid k))) ∧ w'.cell? ⟨W.heap.size, 4, none⟩ = some (Value.bool false) ∧ w'.cell? ⟨W.heap.size, 5, none⟩ = some (Value.slice (some ⟨r3, 0, none⟩) d v3) ∧ w'.cell? ⟨W.heap.size, 6, none⟩ = some (Value.slice (some ⟨r4, 0, none⟩) d v4))) hmx ?hnoa (nodef_of (by kernel_rfl)) ⟨e20, d0, d1, d2, d3, d4, d5, d6⟩ (fun hHeld => ?_)
          case hnoa => rintro ⟨x1, x2, x3⟩; exact x3
          refine take_at (some 32) (i := 0) (v := ?v0a) rfl rfl (by kernel_rfl) (by kernel_rfl) (by kernel_rfl) (fun _ _ _ h => h) (Or.inl ⟨by rfl, ?hy0a⟩) hHeld ?rest0a
          case hy0a => intro w9 hSw; (try dsimp only at hSw); go_simp; try with_reducible rfl
          try simp only [Act.put, List.setIfInBounds_toArray, List.set_cons_zero, List.set_cons_succ]
          refine take_at (some 33) (i := 1) (v := ?v1a) rfl rfl (by kernel_rfl) (by kernel_rfl) (by kernel_rfl) (fun _ _ _ h => h) (Or.inl ⟨by rfl, ?hy1a⟩) hHeld ?rest1a
          case hy1a => intro w9 hSw; (try dsimp only at hSw); go_simp; try with_reducible rfl
          try simp only [Act.put, List.setIfInBounds_toArray, List.set_cons_zero, List.set_cons_succ]
          refine take_at (some 34) (i := 2) (v := ?v2a) rfl rfl (by kernel_rfl) (by kernel_rfl) (by kernel_rfl) (fun _ _ _ h => h) (Or.inl ⟨by rfl, ?hy2a⟩) hHeld ?rest2a
          case hy2a => intro w9 hSw; (try dsimp only at hSw); go_simp; try with_reducible rfl
          try simp only [Act.put, List.setIfInBounds_toArray, List.set_cons_zero, List.set_cons_succ]
          refine take_at (some 36) (i := 4) (v := ?v4a) rfl rfl (by kernel_rfl) (by kernel_rfl) (by kernel_rfl) (fun _ _ _ h => h) (Or.inl ⟨by rfl, ?hy4a⟩) hHeld ?rest4a
          case hy4a => intro w9 hSw; (try dsimp only at hSw); go_simp; try with_reducible rfl
          try simp only [Act.put, List.setIfInBounds_toArray, List.set_cons_zero, List.set_cons_succ]
          refine take_at (some 37) (i := 5) (v := ?v5a) rfl rfl (by kernel_rfl) (by kernel_rfl) (by kernel_rfl) (fun _ _ _ h => h) (Or.inl ⟨by rfl, ?hy5a⟩) hHeld ?rest5a
          case hy5a => intro w9 hSw; (try dsimp only at hSw); go_simp; try with_reducible rfl
          try simp only [Act.put, List.setIfInBounds_toArray, List.set_cons_zero, List.set_cons_succ]
          refine wpAnyH_ready (rs := [3]) (by kernel_rfl) (by simp) ?_
          refine AllReadyH.cons rfl (fun K hK => ?_) AllReadyH.nil
          go_simp
          refine (part_any _ _ _ _ _ d k (stt d z A s0 j).el (stt d z A s0 j).eh (keptLo d z A (stt d z A s0 j) j) (keptHi d z A (stt d z A s0 j) j) ((stt d z A s0 j).mid k) true (FR.below HL1.out C0.out.drew) (FR.below HL2.out C0.out.drew) (FR.below HL3.out C0.out.drew) (FR.below HL4.out C0.out.drew) hk hd3 sm1 sm2 hmid2 hmid hsel.1 false (fx ((stt d z A s0 j).mid k))).mono ?_
          rintro e w5 ⟨g1, g2, rfl, hB5, N1, N2⟩
          have HN1 := Hid.mk (N1.cast Hc1.out)
          have HN2 := Hid.mk (N2.cast Hc2.out)
          obtain ⟨n1, n1c, rfl, hx1, hx2, hx3⟩ := N1
          obtain ⟨n2, n2c, rfl, hy1, hy2, hy3⟩ := N2
          clear hx1 hx2 hx3 hy1 hy2 hy3
          have B5 : Hid (Below wc.heap.size wc w5) := ⟨C0.out.drew.trans hB5⟩
          have lt5 := B5.out.size
          clear hB5
          dsimp only
          refine hK.out _ _ (HSb.out w5 B5.out) (fun hHeld5 => ?_)
          clear hK K hHeld
          refine wpAnyH_ready (rs := [6]) (by kernel_rfl) (by simp) ?_
          refine AllReadyH.cons rfl (fun K hK => ?_) AllReadyH.nil
          go_simp
          refine (unfold_any _ _ _ _ _ _ d q _ _ _ _ u pr s (FR.below HLq.out B5.out) HN1.out HN2.out (FR.below HL3.out B5.out) (FR.below HL4.out B5.out) hd3 HUn.out).mono ?_
          rintro e w6 ⟨vv, rfl, hB6, Nv⟩
          have HNv := Hid.mk Nv
          obtain ⟨bv, cv, rfl, hx1, hbv, lbv, hx3, hx4⟩ := Nv
          clear hx1 hx3 hx4
          have B6 : Hid (Below wc.heap.size wc w6) := ⟨B5.out.trans (hB6.mono B5.out.size)⟩
          have lt6 := B6.out.size
          have oe3 : w6.cell? ⟨w.heap.size + 1 + 1 + 1, 0, none⟩ = some (Value.slice none 0 0) := (B6.out.cell (p := ⟨w.heap.size + 1 + 1 + 1, 0, none⟩) (by simp; omega)).trans e30
          have oe4 : w6.cell? ⟨w.heap.size + 1 + 1 + 1 + 1, 0, none⟩ = some (Value.bool false) := (B6.out.cell (p := ⟨w.heap.size + 1 + 1 + 1 + 1, 0, none⟩) (by simp; omega)).trans e40
          have of3 : ∀ i, w6.frozen? ⟨w.heap.size + 1 + 1 + 1, i, none⟩ = false := fun i => (B6.out.frozen (p := ⟨w.heap.size + 1 + 1 + 1, i, none⟩) (by simp; omega)).trans (ef3 i)
          have of4 : ∀ i, w6.frozen? ⟨w.heap.size + 1 + 1 + 1 + 1, i, none⟩ = false := fun i => (B6.out.frozen (p := ⟨w.heap.size + 1 + 1 + 1 + 1, i, none⟩) (by simp; omega)).trans (ef4 i)
          clear hB6
          dsimp only
          refine hK.out _ _ (HSb.out w6 B6.out) (fun hHeld6 => ?_)
          clear hK K hHeld5
          refine wpAnyH_ready (rs := [7]) (by kernel_rfl) (by simp) ?_
          refine AllReadyH.cons rfl (fun K hK => ?_) AllReadyH.nil
          go_simp
          refine hK.out _ _ (HSs.out _ _ _ hHeld6 ⟨by omega, by omega⟩) (fun hHeld7 => ?_)
          clear hK K hHeld6
          refine wpAnyH_ready (rs := [8]) (by kernel_rfl) (by simp) ?_
          refine AllReadyH.cons rfl (fun K hK => ?_) AllReadyH.nil
          go_simp
          refine hK.out _ _ (HSs.out _ _ _ hHeld7 ⟨by omega, by omega⟩) (fun hHeld8 => ?_)
          clear hK K hHeld7
          refine wpAnyH_done (by kernel_rfl) ?_ _
          gi_wp2
          have HT : Below W2.heap.size W2 w6 := HBC.out.trans (B6.out.mono bcs)
          have hBT : Below w.heap.size w w6 := (HB.out.trans (Hbw.out.mono HB.out.size)).trans (B6.out.mono (Nat.le_trans HB.out.size Hbw.out.size))
          refine ⟨(Below.heap_setCell _ _ _ _ (by simp; omega)).trans ((Below.heap_setCell _ _ _ _ (by simp; omega)).trans (HT.block _ (by omega))), (Below.heap_setCell _ _ _ _ (by simp; omega)).trans ((Below.heap_setCell _ _ _ _ (by simp; omega)).trans (HT.block _ (by omega))), j, hjn, Hall.out, Hag.out, Hna.out, bv, by omega, by omega, cv, ?_, ?_, ?_, ?_⟩
          · exact (set_far (by omega) _).trans (World.cell?_setCell_same' _ _ _ (by rw [oe3]; rfl))
          · exact World.cell?_setCell_same' _ _ _ (by rw [set_far (by omega), oe4]; rfl)
          · exact ((HNv.out.setCell (p := ⟨w.heap.size + 1 + 1 + 1, 0, none⟩) (by simp; omega) _).setCell (p := ⟨w.heap.size + 1 + 1 + 1 + 1, 0, none⟩) (by simp; omega) _).fr.cast HPn.out
          · exact (hBT.setCell (p := ⟨w.heap.size + 1 + 1 + 1, 0, none⟩) (by simp; omega) _).setCell (p := ⟨w.heap.size + 1 + 1 + 1 + 1, 0, none⟩) (by simp; omega) _
      · rw [decide_eq_false hqm]
        by_cases hz : A j ≤ z k
        · rw [decide_eq_true hz] at d4
          have Hna : Hid (¬ Agr d z A q s0 j) := ⟨by unfold Agr; rw [Hke.out]; exact fun h => hqm (h.1 hz)⟩
          obtain ⟨u, pr, s, hU, hP⟩ := HU.out j hjn Hall.out Hag.out Hna.out
          have HUn := Hid.mk hU
          have HPn := Hid.mk hP
          have Hc1 : Hid (∀ i, i < d → (if false = true then up (stt d z A s0 j).el k ((stt d z A s0 j).mid k) else (stt d z A s0 j).el) i = partLo d q (stt d z A s0 j) j i) := ⟨fun i _ => by unfold partLo; rw [Hke.out, if_neg hqm]; simp⟩
          have Hc2 : Hid (∀ i, i < d → (if false = true then (stt d z A s0 j).eh else up (stt d z A s0 j).eh k ((stt d z A s0 j).mid k)) i = partHi d q (stt d z A s0 j) j i) := ⟨fun i _ => by unfold partHi; rw [Hke.out, if_neg hqm]; simp⟩
          have C0 : Hid (Below wc.heap.size wc wc) := ⟨Below.refl _ _⟩
          clear hU hP HF HU F1 F2 F3 F4 F5 F6 Fw1 Fw2 Fw3 Fw4 Fw5 a20 a30 a40 a50 a51 a60 a61 a70 a80 z3 z4 lr1 lr2 lr3 lr4 lr5 HE1 HE2 HE3 HE4 HEq HG1 HG2 HG3 HG4 Hno s1 s2 s3 s4 s5 s6 s0' smm e1 e2 sq sa sz HF6
          gi_wp2
          have HSb : Hid (∀ w7 : World, Below wc.heap.size wc w7 → (fun w' => w'.cell? ⟨w.heap.size + 1 + 1, 0, none⟩ = some (Value.slice (some ⟨b6, 0, none⟩) d t6) ∧ w'.cell? ⟨W.heap.size, 0, none⟩ = some (Value.slice (some ⟨r1, 0, none⟩) d v1) ∧ w'.cell? ⟨W.heap.size, 1, none⟩ = some (Value.slice (some ⟨r2, 0, none⟩) d v2) ∧ w'.cell? ⟨W.heap.size, 2, none⟩ = some (Value.int .i64 (k : Int)) ∧ w'.cell? ⟨W.heap.size, 3, none⟩ = some (Value.float .f64 (fx ((stt d z A s0 j).mid k))) ∧ w'.cell? ⟨W.heap.size, 4, none⟩ = some (Value.bool true) ∧ w'.cell? ⟨W.heap.size, 5, none⟩ = some (Value.slice (some ⟨r3, 0, none⟩) d v3) ∧ w'.cell? ⟨W.heap.size, 6, none⟩ = some (Value.slice (some ⟨r4, 0, none⟩) d v4)) w7) := ⟨fun w7 hb => ⟨(hb.cell (p := ⟨w.heap.size + 1 + 1, 0, none⟩) (by simp; omega)).trans e20, (hb.cell (p := ⟨W.heap.size, 0, none⟩) (by simp; omega)).trans d0, (hb.cell (p := ⟨W.heap.size, 1, none⟩) (by simp; omega)).trans d1, (hb.cell (p := ⟨W.heap.size, 2, none⟩) (by simp; omega)).trans d2, (hb.cell (p := ⟨W.heap.size, 3, none⟩) (by simp; omega)).trans d3, (hb.cell (p := ⟨W.heap.size, 4, none⟩) (by simp; omega)).trans d4, (hb.cell (p := ⟨W.heap.size, 5, none⟩) (by simp; omega)).trans d5, (hb.cell (p := ⟨W.heap.size, 6, none⟩) (by simp; omega)).trans d6⟩⟩
          have HSs : Hid (∀ (w7 : World) (p : Nat) (x : Value), (fun w' => w'.cell? ⟨w.heap.size + 1 + 1, 0, none⟩ = some (Value.slice (some ⟨b6, 0, none⟩) d t6) ∧ w'.cell? ⟨W.heap.size, 0, none⟩ = some (Value.slice (some ⟨r1, 0, none⟩) d v1) ∧ w'.cell? ⟨W.heap.size, 1, none⟩ = some (Value.slice (some ⟨r2, 0, none⟩) d v2) ∧ w'.cell? ⟨W.heap.size, 2, none⟩ = some (Value.int .i64 (k : Int)) ∧ w'.cell? ⟨W.heap.size, 3, none⟩ = some (Value.float .f64 (fx ((stt d z A s0 j).mid k))) ∧ w'.cell? ⟨W.heap.size, 4, none⟩ = some (Value.bool true) ∧ w'.cell? ⟨W.heap.size, 5, none⟩ = some (Value.slice (some ⟨r3, 0, none⟩) d v3) ∧ w'.cell? ⟨W.heap.size, 6, none⟩ = some (Value.slice (some ⟨r4, 0, none⟩) d v4)) w7 → p ≠ w.heap.size + 1 + 1 ∧ p ≠ W.heap.size → (fun w' => w'.cell? ⟨w.heap.size + 1 + 1, 0, none⟩ = some (Value.slice (some ⟨b6, 0, none⟩) d t6) ∧ w'.cell? ⟨W.heap.size, 0, none⟩ = some (Value.slice (some ⟨r1, 0, none⟩) d v1) ∧ w'.cell? ⟨W.heap.size, 1, none⟩ = some (Value.slice (some ⟨r2, 0, none⟩) d v2) ∧ w'.cell? ⟨W.heap.size, 2, none⟩ = some (Value.int .i64 (k : Int)) ∧ w'.cell? ⟨W.heap.size, 3, none⟩ = some (Value.float .f64 (fx ((stt d z A s0 j).mid k))) ∧ w'.cell? ⟨W.heap.size, 4, none⟩ = some (Value.bool true) ∧ w'.cell? ⟨W.heap.size, 5, none⟩ = some (Value.slice (some ⟨r3, 0, none⟩) d v3) ∧ w'.cell? ⟨W.heap.size, 6, none⟩ = some (Value.slice (some ⟨r4, 0, none⟩) d v4)) (w7.setCell ⟨p, 0, none⟩ x)) := ⟨fun w7 p x h hp => ⟨(set_far hp.1 x).trans h.1, (set_far hp.2 x).trans h.2.1, (set_far hp.2 x).trans h.2.2.1, (set_far hp.2 x).trans h.2.2.2.1, (set_far hp.2 x).trans h.2.2.2.2.1, (set_far hp.2 x).trans h.2.2.2.2.2.1, (set_far hp.2 x).trans h.2.2.2.2.2.2.1, (set_far hp.2 x).trans h.2.2.2.2.2.2.2⟩⟩
          refine region_round (S := (fun w' => w'.cell? ⟨w.heap.size + 1 + 1, 0, none⟩ = some (Value.slice (some ⟨b6, 0, none⟩) d t6) ∧ w'.cell? ⟨W.heap.size, 0, none⟩ = some (Value.slice (some ⟨r1, 0, none⟩) d v1) ∧ w'.cell? ⟨W.heap.size, 1, none⟩ = some (Value.slice (some ⟨r2, 0, none⟩) d v2) ∧ w'.cell? ⟨W.heap.size, 2, none⟩ = some (Value.int .i64 (k : Int)) ∧ w'.cell? ⟨W.heap.size, 3, none⟩ = some (Value.float .f64 (fx ((stt d z A s0 j).mid k))) ∧ w'.cell? ⟨W.heap.size, 4, none⟩ = some (Value.bool true) ∧ w'.cell? ⟨W.heap.size, 5, none⟩ = some (Value.slice (some ⟨r3, 0, none⟩) d v3) ∧ w'.cell? ⟨W.heap.size, 6, none⟩ = some (Value.slice (some ⟨r4, 0, none⟩) d v4))) hmx ?hnob (nodef_of (by kernel_rfl)) ⟨e20, d0, d1, d2, d3, d4, d5, d6⟩ (fun hHeld => ?_)
          case hnob => rintro ⟨x1, x2, x3⟩; exact x3
          refine take_at (some 32) (i := 0) (v := ?v0b) rfl rfl (by kernel_rfl) (by kernel_rfl) (by kernel_rfl) (fun _ _ _ h => h) (Or.inl ⟨by rfl, ?hy0b⟩) hHeld ?rest0b
          case hy0b => intro w9 hSw; (try dsimp only at hSw); go_simp; try with_reducible rfl
          try simp only [Act.put, List.setIfInBounds_toArray, List.set_cons_zero, List.set_cons_succ]
          refine take_at (some 33) (i := 1) (v := ?v1b) rfl rfl (by kernel_rfl) (by kernel_rfl) (by kernel_rfl) (fun _ _ _ h => h) (Or.inl ⟨by rfl, ?hy1b⟩) hHeld ?rest1b
          case hy1b => intro w9 hSw; (try dsimp only at hSw); go_simp; try with_reducible rfl
          try simp only [Act.put, List.setIfInBounds_toArray, List.set_cons_zero, List.set_cons_succ]
          refine take_at (some 34) (i := 2) (v := ?v2b) rfl rfl (by kernel_rfl) (by kernel_rfl) (by kernel_rfl) (fun _ _ _ h => h) (Or.inl ⟨by rfl, ?hy2b⟩) hHeld ?rest2b
          case hy2b => intro w9 hSw; (try dsimp only at hSw); go_simp; try with_reducible rfl
          try simp only [Act.put, List.setIfInBounds_toArray, List.set_cons_zero, List.set_cons_succ]
          refine take_at (some 36) (i := 4) (v := ?v4b) rfl rfl (by kernel_rfl) (by kernel_rfl) (by kernel_rfl) (fun _ _ _ h => h) (Or.inl ⟨by rfl, ?hy4b⟩) hHeld ?rest4b
          case hy4b => intro w9 hSw; (try dsimp only at hSw); go_simp; try with_reducible rfl
          try simp only [Act.put, List.setIfInBounds_toArray, List.set_cons_zero, List.set_cons_succ]
          refine take_at (some 37) (i := 5) (v := ?v5b) rfl rfl (by kernel_rfl) (by kernel_rfl) (by kernel_rfl) (fun _ _ _ h => h) (Or.inl ⟨by rfl, ?hy5b⟩) hHeld ?rest5b
          case hy5b => intro w9 hSw; (try dsimp only at hSw); go_simp; try with_reducible rfl
          try simp only [Act.put, List.setIfInBounds_toArray, List.set_cons_zero, List.set_cons_succ]
          refine wpAnyH_ready (rs := [3]) (by kernel_rfl) (by simp) ?_
          refine AllReadyH.cons rfl (fun K hK => ?_) AllReadyH.nil
          go_simp
          refine (part_any _ _ _ _ _ d k (stt d z A s0 j).el (stt d z A s0 j).eh (keptLo d z A (stt d z A s0 j) j) (keptHi d z A (stt d z A s0 j) j) ((stt d z A s0 j).mid k) false (FR.below HL1.out C0.out.drew) (FR.below HL2.out C0.out.drew) (FR.below HL3.out C0.out.drew) (FR.below HL4.out C0.out.drew) hk hd3 sm1 sm2 hmid2 hmid hsel.1 true (fx ((stt d z A s0 j).mid k))).mono ?_
          rintro e w5 ⟨g1, g2, rfl, hB5, N1, N2⟩
          have HN1 := Hid.mk (N1.cast Hc1.out)
          have HN2 := Hid.mk (N2.cast Hc2.out)
          obtain ⟨n1, n1c, rfl, hx1, hx2, hx3⟩ := N1
          obtain ⟨n2, n2c, rfl, hy1, hy2, hy3⟩ := N2
          clear hx1 hx2 hx3 hy1 hy2 hy3
          have B5 : Hid (Below wc.heap.size wc w5) := ⟨C0.out.drew.trans hB5⟩
          have lt5 := B5.out.size
          clear hB5
          dsimp only
          refine hK.out _ _ (HSb.out w5 B5.out) (fun hHeld5 => ?_)
          clear hK K hHeld
          refine wpAnyH_ready (rs := [6]) (by kernel_rfl) (by simp) ?_
          refine AllReadyH.cons rfl (fun K hK => ?_) AllReadyH.nil
          go_simp
          refine (unfold_any _ _ _ _ _ _ d q _ _ _ _ u pr s (FR.below HLq.out B5.out) HN1.out HN2.out (FR.below HL3.out B5.out) (FR.below HL4.out B5.out) hd3 HUn.out).mono ?_
          rintro e w6 ⟨vv, rfl, hB6, Nv⟩
          have HNv := Hid.mk Nv
          obtain ⟨bv, cv, rfl, hx1, hbv, lbv, hx3, hx4⟩ := Nv
          clear hx1 hx3 hx4
          have B6 : Hid (Below wc.heap.size wc w6) := ⟨B5.out.trans (hB6.mono B5.out.size)⟩
          have lt6 := B6.out.size
          have oe3 : w6.cell? ⟨w.heap.size + 1 + 1 + 1, 0, none⟩ = some (Value.slice none 0 0) := (B6.out.cell (p := ⟨w.heap.size + 1 + 1 + 1, 0, none⟩) (by simp; omega)).trans e30
          have oe4 : w6.cell? ⟨w.heap.size + 1 + 1 + 1 + 1, 0, none⟩ = some (Value.bool false) := (B6.out.cell (p := ⟨w.heap.size + 1 + 1 + 1 + 1, 0, none⟩) (by simp; omega)).trans e40
          have of3 : ∀ i, w6.frozen? ⟨w.heap.size + 1 + 1 + 1, i, none⟩ = false := fun i => (B6.out.frozen (p := ⟨w.heap.size + 1 + 1 + 1, i, none⟩) (by simp; omega)).trans (ef3 i)
          have of4 : ∀ i, w6.frozen? ⟨w.heap.size + 1 + 1 + 1 + 1, i, none⟩ = false := fun i => (B6.out.frozen (p := ⟨w.heap.size + 1 + 1 + 1 + 1, i, none⟩) (by simp; omega)).trans (ef4 i)
          clear hB6
          dsimp only
          refine hK.out _ _ (HSb.out w6 B6.out) (fun hHeld6 => ?_)
          clear hK K hHeld5
          refine wpAnyH_ready (rs := [7]) (by kernel_rfl) (by simp) ?_
          refine AllReadyH.cons rfl (fun K hK => ?_) AllReadyH.nil
          go_simp
          refine hK.out _ _ (HSs.out _ _ _ hHeld6 ⟨by omega, by omega⟩) (fun hHeld7 => ?_)
          clear hK K hHeld6
          refine wpAnyH_ready (rs := [8]) (by kernel_rfl) (by simp) ?_
          refine AllReadyH.cons rfl (fun K hK => ?_) AllReadyH.nil
          go_simp
          refine hK.out _ _ (HSs.out _ _ _ hHeld7 ⟨by omega, by omega⟩) (fun hHeld8 => ?_)
          clear hK K hHeld7
          refine wpAnyH_done (by kernel_rfl) ?_ _
          gi_wp2
          have HT : Below W2.heap.size W2 w6 := HBC.out.trans (B6.out.mono bcs)
          have hBT : Below w.heap.size w w6 := (HB.out.trans (Hbw.out.mono HB.out.size)).trans (B6.out.mono (Nat.le_trans HB.out.size Hbw.out.size))
          refine ⟨(Below.heap_setCell _ _ _ _ (by simp; omega)).trans ((Below.heap_setCell _ _ _ _ (by simp; omega)).trans (HT.block _ (by omega))), (Below.heap_setCell _ _ _ _ (by simp; omega)).trans ((Below.heap_setCell _ _ _ _ (by simp; omega)).trans (HT.block _ (by omega))), j, hjn, Hall.out, Hag.out, Hna.out, bv, by omega, by omega, cv, ?_, ?_, ?_, ?_⟩
          · exact (set_far (by omega) _).trans (World.cell?_setCell_same' _ _ _ (by rw [oe3]; rfl))
          · exact World.cell?_setCell_same' _ _ _ (by rw [set_far (by omega), oe4]; rfl)
          · exact ((HNv.out.setCell (p := ⟨w.heap.size + 1 + 1 + 1, 0, none⟩) (by simp; omega) _).setCell (p := ⟨w.heap.size + 1 + 1 + 1 + 1, 0, none⟩) (by simp; omega) _).fr.cast HPn.out
          · exact (hBT.setCell (p := ⟨w.heap.size + 1 + 1 + 1, 0, none⟩) (by simp; omega) _).setCell (p := ⟨w.heap.size + 1 + 1 + 1 + 1, 0, none⟩) (by simp; omega) _
        · rw [decide_eq_false hz] at d4
          gi_wp2
          refine ⟨Kb.of_below HBC.out, HBC.out.block _ (by omega), Hbw.out, fun i hi => ?_⟩
          by_cases e : i = j
          · subst e; unfold Agr; rw [Hke.out]; exact ⟨fun h => absurd h (by omega), fun h => absurd h (by omega)⟩
          · exact Hag.out i (by omega)
end Go.Proofs.Ybulkdaxu
