import Derived.Test.YbulkdaxuRange
namespace Go.Proofs.Ybulkdaxu
open Go.RowKit Go.Shelf
set_option linter.unusedSimpArgs false
set_option linter.unusedVariables false

/-- The zone being cut and its even zone. -/
structure St where
  wl : Nat → Int
  wh : Nat → Int
  el : Nat → Int
  eh : Nat → Int
def St.mid (s : St) (k : Nat) : Int := s.el k + (s.eh k - s.el k) / 2
def nxt (d : Nat) (z A : Nat → Int) (j : Nat) (s : St) : St :=
  if A j ≤ z (j % d) then { wl := up s.wl (j % d) (A j), wh := s.wh, el := up s.el (j % d) (s.mid (j % d)), eh := s.eh }
  else { wl := s.wl, wh := up s.wh (j % d) (A j), el := s.el, eh := up s.eh (j % d) (s.mid (j % d)) }
def stt (d : Nat) (z A : Nat → Int) (s0 : St) : Nat → St
  | 0 => s0
  | j + 1 => nxt d z A j (stt d z A s0 j)
/-- The cut j falls inside. -/
def Okk (d : Nat) (z A : Nat → Int) (s0 : St) (j : Nat) : Prop := (stt d z A s0 j).wl (j % d) < A j ∧ A j < (stt d z A s0 j).wh (j % d)
/-- Everything is exact at the cut j. -/
structure Fine (d : Nat) (z : Nat → Int) (s : St) (j : Nat) : Prop where
  swl : ∀ k, k < d → Sm (s.wl k)
  swh : ∀ k, k < d → Sm (s.wh k)
  ins : Ins d s.wl s.wh z
  sel : ∀ k, k < d → 0 ≤ s.el k ∧ s.el k ≤ s.eh k ∧ s.eh k ≤ 2 ^ 52
  mid : s.el (j % d) < s.mid (j % d)
  mid2 : s.el (j % d) + (s.mid (j % d) - s.el (j % d)) * 2 = s.eh (j % d)

def keptLo (d : Nat) (z A : Nat → Int) (s : St) (j : Nat) : Nat → Int := if A j ≤ z (j % d) then s.wl else up s.wl (j % d) (A j)
def keptHi (d : Nat) (z A : Nat → Int) (s : St) (j : Nat) : Nat → Int := if A j ≤ z (j % d) then up s.wh (j % d) (A j) else s.wh

/-- What the iterator hands over at the cut j. -/
def StepV (d n : Nat) (z A : Nat → Int) (s0 : St) (j : Nat) (v : Value) (W : World) : Prop :=
  j < n ∧ (∀ i, i ≤ j → Okk d z A s0 i) ∧ ∃ e1 e2 o1 o2, v = .agg #[e1, e2, .int .i64 ((j % d : Nat) : Int), .float .f64 (fx ((stt d z A s0 j).mid (j % d))), .bool (decide (A j ≤ z (j % d))), o1, o2] ∧
    FR W e1 d (stt d z A s0 j).el ∧ FR W e2 d (stt d z A s0 j).eh ∧ FR W o1 d (keptLo d z A (stt d z A s0 j) j) ∧ FR W o2 d (keptHi d z A (stt d z A s0 j) j)
def StepS (d n : Nat) (z A : Nat → Int) (s0 : St) (j : Nat) : Prop := (∀ i, i < j → Okk d z A s0 i) ∧ (j = n ∨ (j < n ∧ ¬ Okk d z A s0 j))

theorem FR.kb {A B : World} {b d d' c l : Nat} {x : Nat → Int} (h : FR A (.slice (some ⟨b, 0, none⟩) d' c) d x) (hk : Kb l A B) (hn : b ≠ l) : FR B (.slice (some ⟨b, 0, none⟩) d' c) d x := by
  obtain ⟨b', c', e, h1, h2, h3⟩ := h
  cases e
  exact ⟨b, c, rfl, h1, Nat.lt_of_lt_of_le h2 hk.size, fun k hk' => (hk.cell (p := ⟨b, k, none⟩) h2 hn).trans (h3 k hk')⟩

theorem KeepF.of_kb {A B : World} {l : Nat} (hk : Kb l A B) (hl : ∀ p : Addr, p.block = l → A.cell? p = none) : KeepF A B :=
  ⟨hk.size, fun a u h => (hk.cell (World.block_lt_of_cell? A a h) (fun e => by rw [hl a e] at h; cases h)).trans h⟩
theorem Kb.below_trans {l : Nat} {A B C : World} (h : Kb l A B) (k : Below A.heap.size B C) : Kb l A C :=
  ⟨k.os.trans h.os, k.tape.trans h.tape, k.output.trans h.output, Nat.le_trans h.size k.size, fun j hj hn => (k.block j hj).trans (h.block j hj hn)⟩
theorem kept_taken {d : Nat} {z A : Nat → Int} {s : St} {j : Nat} {w' : World} {k1 k2 t1 t2 : Value}
    (h : (z (j % d) < A j ∧ FR w' t1 d s.wl ∧ FR w' t2 d (up s.wh (j % d) (A j)) ∧ FR w' k1 d (up s.wl (j % d) (A j)) ∧ FR w' k2 d s.wh) ∨ (A j ≤ z (j % d) ∧ FR w' k1 d s.wl ∧ FR w' k2 d (up s.wh (j % d) (A j)) ∧ FR w' t1 d (up s.wl (j % d) (A j)) ∧ FR w' t2 d s.wh)) :
    FR w' t1 d (nxt d z A j s).wl ∧ FR w' t2 d (nxt d z A j s).wh ∧ FR w' k1 d (keptLo d z A s j) ∧ FR w' k2 d (keptHi d z A s j) := by
  unfold nxt keptLo keptHi
  rcases h with ⟨h0, h1, h2, h3, h4⟩ | ⟨h0, h1, h2, h3, h4⟩
  · have : ¬ A j ≤ z (j % d) := by omega
    simp only [if_neg this]
    exact ⟨h1, h2, h3, h4⟩
  · simp only [if_pos h0]
    exact ⟨h3, h4, h1, h2⟩

set_option maxRecDepth 100000 in
set_option maxHeartbeats 4000000 in
theorem steps_seq (w : World) (bs bc bz ba d n : Nat) (z A : Nat → Int) (s0 : St) (l1 l2 p1 p2 at_ : Value) (zh : Nat → Int) (hd : 0 < d) (hd3 : d ≤ 3) (hn : n ≤ 300)
    (c0 : w.cell? ⟨bs, 0, none⟩ = some l1) (c1 : w.cell? ⟨bs, 1, none⟩ = some l2) (c2 : w.cell? ⟨bc, 0, none⟩ = some (.int .i64 n)) (c3 : w.cell? ⟨bz, 0, none⟩ = some p1) (c4 : w.cell? ⟨bz, 1, none⟩ = some p2) (c5 : w.cell? ⟨ba, 0, none⟩ = some at_)
    (f1 : FR w l1 d s0.wl) (f2 : FR w l2 d s0.wh) (e1 : s0.el = s0.wl) (e2 : s0.eh = s0.wh) (f3 : FR w p1 d z) (f4 : FR w p2 d zh) (f5 : FR w at_ n A)
    (sz : ∀ k, k < d → Sm (z k)) (sa : ∀ j, j < n → Sm (A j)) (hfine : ∀ j, j < n → (∀ i, i < j → Okk d z A s0 i) → Fine d z (stt d z A s0 j) j) :
    SeqC Yba.prog 23 #[.pointer (some ⟨bs, 0, none⟩), .pointer (some ⟨bc, 0, none⟩), .pointer (some ⟨bz, 0, none⟩), .pointer (some ⟨ba, 0, none⟩)] (StepV d n z A s0) (StepS d n z A s0) w := by
  intro l J Jx W hl hB hlW hJ hL hY h0
  have hL' := Hid.mk hL
  clear hL
  refine callsIn_wide.2 ?_
  have hY' := Hid.mk hY
  have hJ' := Hid.mk hJ
  have hf' := Hid.mk hfine
  clear hY hJ hfine
  have lb1 := World.block_lt_of_cell? w _ c0
  have lb2 := World.block_lt_of_cell? w _ c2
  have lb3 := World.block_lt_of_cell? w _ c3
  have lb4 := World.block_lt_of_cell? w _ c5
  simp only at lb1 lb2 lb3 lb4
  have k0 := (hB.cell (p := ⟨bs, 0, none⟩) lb1).trans c0
  have k1 := (hB.cell (p := ⟨bs, 1, none⟩) lb1).trans c1
  have k2 := (hB.cell (p := ⟨bc, 0, none⟩) lb2).trans c2
  have k3 := (hB.cell (p := ⟨bz, 0, none⟩) lb3).trans c3
  have k4 := (hB.cell (p := ⟨bz, 1, none⟩) lb3).trans c4
  have k5 := (hB.cell (p := ⟨ba, 0, none⟩) lb4).trans c5
  have F1 := Hid.mk (f1.below hB)
  have F2 := Hid.mk (f2.below hB)
  have F3 := Hid.mk (f3.below hB)
  have F4 := Hid.mk (f4.below hB)
  have F5 := Hid.mk (f5.below hB)
  have H0 := Hid.mk h0
  obtain ⟨b1, t1, rfl, _, lr1, _⟩ := f1
  obtain ⟨b2, t2, rfl, _, lr2, _⟩ := f2
  obtain ⟨b3, t3, rfl, _, lr3, _⟩ := f3
  obtain ⟨b4, t4, rfl, _, lr4, _⟩ := f4
  obtain ⟨b5, t5, rfl, _, lr5, _⟩ := f5
  have hBs := hB.size
  have HB := Hid.mk hB
  clear h0 hB c0 c1 c2 c3 c4 c5
  go_enter Yba.func23, Yba.ntmps23
  go_upto_region 0 with fail
  go_cut [6, 7] from 14 to 60 (fun x y wx => ∃ g6 g7, x = .pointer (some ⟨g6, 0, none⟩) ∧ y = .pointer (some ⟨g7, 0, none⟩) ∧ Below W.heap.size W wx ∧ g6 ≠ g7 ∧ W.heap.size ≤ g6 ∧ W.heap.size ≤ g7 ∧ g6 < wx.heap.size ∧ g7 < wx.heap.size ∧ wx.cell? ⟨g6, 0, none⟩ = some (.slice (some ⟨b1, 0, none⟩) d t1) ∧ wx.cell? ⟨g6, 1, none⟩ = some (.slice (some ⟨b2, 0, none⟩) d t2) ∧ wx.cell? ⟨g7, 0, none⟩ = some (.slice (some ⟨b1, 0, none⟩) d t1) ∧ wx.cell? ⟨g7, 1, none⟩ = some (.slice (some ⟨b2, 0, none⟩) d t2) ∧ (∀ j, wx.frozen? ⟨g6, j, none⟩ = false) ∧ (∀ j, wx.frozen? ⟨g7, j, none⟩ = false))
  case first =>
    have q0 := alloc1_cell k0
    have q1 := alloc1_cell k1
    have q2 := alloc2_cell k0 (World.block_lt_of_cell? W _ k0)
    have q3 := alloc2_cell k1 (World.block_lt_of_cell? W _ k1)
    go_region
    all_goals go_wp2_with fail
    all_goals go_meet
    all_goals exact ⟨_, _, rfl, rfl, (below_alloc2 _ _ _).drew, by omega, by omega, by omega, by first | (simp; done) | (simp; omega), by first | (simp; done) | (simp; omega), by go_simp, by go_simp, by go_simp, by go_simp, by intro j; go_simp, by intro j; go_simp⟩
  case rest =>
    obtain ⟨g6, g7, rfl, rfl, B1, hne, g6l, g7l, g6u, g7u, m0, m1, m2, m3, y6, y7⟩ := hcut
    have K2 := (B1.cell (p := ⟨bc, 0, none⟩) (by simp; omega)).trans k2
    have HB1 := Hid.mk B1
    have HJ0 := Hid.mk (hJ'.out 0 W wc H0.out B1)
    clear B1 k0 k1 k2
    go_wp2_with fail
    go_loopw [17] (fun v wr => ∃ j : Nat, j ≤ n ∧ v = .int .i64 (j : Int) ∧ (∀ i, i < j → Okk d z A s0 i) ∧ J j wr ∧ Kb l W wr ∧ g6 < wr.heap.size ∧ g7 < wr.heap.size ∧ (∀ i, wr.frozen? ⟨g6, i, none⟩ = false) ∧ (∀ i, wr.frozen? ⟨g7, i, none⟩ = false) ∧ ∃ w1 w2 e1 e2, wr.cell? ⟨g6, 0, none⟩ = some w1 ∧ wr.cell? ⟨g6, 1, none⟩ = some w2 ∧ wr.cell? ⟨g7, 0, none⟩ = some e1 ∧ wr.cell? ⟨g7, 1, none⟩ = some e2 ∧ FR wr w1 d (stt d z A s0 j).wl ∧ FR wr w2 d (stt d z A s0 j).wh ∧ FR wr e1 d (stt d z A s0 j).el ∧ FR wr e2 d (stt d z A s0 j).eh) (fun v _ => n - (intOf v).toNat)
    case atStart =>
      refine ⟨0, by omega, rfl, fun i hi => by omega, HJ0.out, Kb.of_below HB1.out, g6u, g7u, y6, y7, _, _, _, _, m0, m1, m2, m3, ?_, ?_, ?_, ?_⟩
      · exact F1.out.below HB1.out
      · exact F2.out.below HB1.out
      · show FR wc _ d s0.el; rw [e1]; exact F1.out.below HB1.out
      · show FR wc _ d s0.eh; rw [e2]; exact F2.out.below HB1.out
    case round =>
      obtain ⟨j, hj, rfl, hok, hJj, hK, u6, u7, x6, x7, w1, w2, v1, v2, a0, a1, a2, a3, G1, G2, G3, G4⟩ := hrel
      have HK := Hid.mk hK
      have HJj := Hid.mk hJj
      have Hok := Hid.mk hok
      have hKs := hK.size
      have c3 := (hK.cell (p := ⟨bz, 0, none⟩) (by simp; omega) (by simp; omega)).trans k3
      have c5 := (hK.cell (p := ⟨ba, 0, none⟩) (by simp; omega) (by simp; omega)).trans k5
      have P3 := F3.out.kb hK (by omega)
      have P5 := F5.out.kb hK (by omega)
      have HG1 := Hid.mk G1
      have HG2 := Hid.mk G2
      have HG3 := Hid.mk G3
      have HG4 := Hid.mk G4
      have HP3 := Hid.mk P3
      have HP5 := Hid.mk P5
      clear hK hJj hok P3 P5 k3 k4 k5 m0 m1 m2 m3 y6 y7 K2
      obtain ⟨q1, r1, rfl, _, _, _⟩ := G1
      obtain ⟨q2, r2, rfl, _, _, _⟩ := G2
      obtain ⟨q3, r3, rfl, _, _, _⟩ := G3
      obtain ⟨q4, r4, rfl, _, _, _⟩ := G4
      by_cases hjn : j < n
      · have fine := hf'.out j hjn Hok.out
        have HFi := Hid.mk fine
        have hi1 : (j : Int) < (n : Int) := by omega
        clear fine
        obtain ⟨k, hke, hk⟩ : ∃ k, j % d = k ∧ k < d := ⟨j % d, rfl, Nat.mod_lt _ hd⟩
        have Hke := Hid.mk hke
        have hk0 : (0 : Int) ≤ (k : Int) := by omega
        have hk1 : (k : Int) < (d : Int) := by omega
        go_wp2_with fail
        refine (recut_any wr _ _ _ _ d n j (stt d z A s0 j).wl (stt d z A s0 j).wh z A HG1.out HG2.out HP3.out HP5.out hjn hd hd3 HFi.out.swl HFi.out.swh sz (sa j hjn) HFi.out.ins).mono ?_
        rintro e w3 ⟨B3, (⟨hno, rfl⟩ | ⟨hyes, o1, o2, t1', t2', rfl, hd4⟩)⟩
        · have Hno := Hid.mk hno
          have HB3 := Hid.mk B3
          rw [hke]
          clear hno B3 hke
          unfold nilBox
          go_wp2_with fail
          refine bodyPost_ret (results_none rfl _ _ _) rfl ?_
          exact ⟨⟨_, rfl⟩, .inl ⟨j, ⟨Hok.out, .inr ⟨hjn, Hno.out⟩⟩, hJ'.out j wr _ HJj.out ((HB3.out.trans ((below_alloc2 _ _ _).mono HB3.out.size)).mono hKs)⟩⟩
        · have hall : ∀ i, i ≤ j → Okk d z A s0 i := fun i hi => by
            by_cases e : i = j
            · subst e; exact hyes
            · exact Hok.out i (by omega)
          have Hall := Hid.mk hall
          obtain ⟨D1, D2, D3, D4⟩ := kept_taken hd4
          have HB3 := Hid.mk B3
          rw [hke]
          have cmp : (FloatKind.f64.format.order (fx ((nxt d z A j (stt d z A s0 j)).wl k)) (fx (keptLo d z A (stt d z A s0 j) j k)) == some .gt) = decide (A j ≤ z k) := by
            have h1 := hyes.1
            rw [hke] at h1
            have h2 := HFi.out.swl k hk
            have h3 := sa j hjn
            unfold nxt keptLo
            rw [hke]
            by_cases e : A j ≤ z k
            · rw [if_pos e, if_pos e, decide_eq_true e]
              simp only [up, if_true]
              rw [ob_gt h3 h2]; simp [h1]
            · rw [if_neg e, if_neg e, decide_eq_false e]
              simp only [up, if_true]
              rw [ob_gt h2 h3]; simp; omega
          have mm1 := HFi.out.mid
          have mm2 := HFi.out.mid2
          have mse := HFi.out.sel k hk
          rw [hke] at mm1 mm2
          have E1 := D1
          have HD1 := Hid.mk D1
          have HD2 := Hid.mk D2
          have HD3 := Hid.mk D3
          have HD4 := Hid.mk D4
          obtain ⟨x1, y1, rfl, _, lx1, cx1⟩ := D1
          obtain ⟨x2, y2, rfl, _, _, _⟩ := D2
          obtain ⟨x3, y3, rfl, _, lx3, cx3⟩ := D3
          obtain ⟨x4, y4, rfl, _, _, _⟩ := D4
          have bx1 := cx1 k hk
          have bx3 := cx3 k hk
          have Hyes := Hid.mk hyes
          clear hyes hall hd4 E1 cx1 cx3 hke
          have z6 := (B3.cell (p := ⟨g6, 0, none⟩) u6).trans a0
          have z7 := (B3.cell (p := ⟨g6, 1, none⟩) u6).trans a1
          have z8 := (B3.cell (p := ⟨g7, 0, none⟩) u7).trans a2
          have z9 := (B3.cell (p := ⟨g7, 1, none⟩) u7).trans a3
          have zf6 : ∀ i, w3.frozen? ⟨g6, i, none⟩ = false := fun i => (B3.frozen (p := ⟨g6, i, none⟩) u6).trans (x6 i)
          have zf7 : ∀ i, w3.frozen? ⟨g7, i, none⟩ = false := fun i => (B3.frozen (p := ⟨g7, i, none⟩) u7).trans (x7 i)
          have B3s := B3.size
          clear B3
          go_upto_region 6 with fail
          have B4 : Below w3.heap.size w3 ((w3.alloc (Obj.cells #[Value.slice (some { block := x3, off := 0 }) d y3, Value.slice (some { block := x4, off := 0 }) d y4] 27)).alloc (Obj.cells #[Value.slice (some { block := x1, off := 0 }) d y1, Value.slice (some { block := x2, off := 0 }) d y2] 27)) := below_alloc2 _ _ _
          have s4 : w3.heap.size + 2 ≤ ((w3.alloc (Obj.cells #[Value.slice (some { block := x3, off := 0 }) d y3, Value.slice (some { block := x4, off := 0 }) d y4] 27)).alloc (Obj.cells #[Value.slice (some { block := x1, off := 0 }) d y1, Value.slice (some { block := x2, off := 0 }) d y2] 27)).heap.size := by simp
          have b90 : ((w3.alloc (Obj.cells #[Value.slice (some { block := x3, off := 0 }) d y3, Value.slice (some { block := x4, off := 0 }) d y4] 27)).alloc (Obj.cells #[Value.slice (some { block := x1, off := 0 }) d y1, Value.slice (some { block := x2, off := 0 }) d y2] 27)).cell? ⟨w3.heap.size, 0, none⟩ = some (Value.slice (some { block := x3, off := 0 }) d y3) := by go_simp
          have b91 : ((w3.alloc (Obj.cells #[Value.slice (some { block := x3, off := 0 }) d y3, Value.slice (some { block := x4, off := 0 }) d y4] 27)).alloc (Obj.cells #[Value.slice (some { block := x1, off := 0 }) d y1, Value.slice (some { block := x2, off := 0 }) d y2] 27)).cell? ⟨w3.heap.size, 1, none⟩ = some (Value.slice (some { block := x4, off := 0 }) d y4) := by go_simp
          have ba0 : ((w3.alloc (Obj.cells #[Value.slice (some { block := x3, off := 0 }) d y3, Value.slice (some { block := x4, off := 0 }) d y4] 27)).alloc (Obj.cells #[Value.slice (some { block := x1, off := 0 }) d y1, Value.slice (some { block := x2, off := 0 }) d y2] 27)).cell? ⟨w3.heap.size + 1, 0, none⟩ = some (Value.slice (some { block := x1, off := 0 }) d y1) := by go_simp
          have ba1 : ((w3.alloc (Obj.cells #[Value.slice (some { block := x3, off := 0 }) d y3, Value.slice (some { block := x4, off := 0 }) d y4] 27)).alloc (Obj.cells #[Value.slice (some { block := x1, off := 0 }) d y1, Value.slice (some { block := x2, off := 0 }) d y2] 27)).cell? ⟨w3.heap.size + 1, 1, none⟩ = some (Value.slice (some { block := x2, off := 0 }) d y2) := by go_simp
          generalize ((w3.alloc (Obj.cells #[Value.slice (some { block := x3, off := 0 }) d y3, Value.slice (some { block := x4, off := 0 }) d y4] 27)).alloc (Obj.cells #[Value.slice (some { block := x1, off := 0 }) d y1, Value.slice (some { block := x2, off := 0 }) d y2] 27)) = w4 at *
          have y60 := (B4.cell (p := ⟨g6, 0, none⟩) (by simp; omega)).trans z6
          have y61 := (B4.cell (p := ⟨g6, 1, none⟩) (by simp; omega)).trans z7
          have y70 := (B4.cell (p := ⟨g7, 0, none⟩) (by simp; omega)).trans z8
          have y71 := (B4.cell (p := ⟨g7, 1, none⟩) (by simp; omega)).trans z9
          have yf6 : ∀ i, w4.frozen? ⟨g6, i, none⟩ = false := fun i => (B4.frozen (p := ⟨g6, i, none⟩) (by simp; omega)).trans (zf6 i)
          have yf7 : ∀ i, w4.frozen? ⟨g7, i, none⟩ = false := fun i => (B4.frozen (p := ⟨g7, i, none⟩) (by simp; omega)).trans (zf7 i)
          have cy1 := (B4.cell (p := ⟨x1, k, none⟩) lx1).trans bx1
          have cy3 := (B4.cell (p := ⟨x3, k, none⟩) lx3).trans bx3
          have HE3 := Hid.mk ((HG3.out.below HB3.out).below B4)
          have HE4 := Hid.mk ((HG4.out.below HB3.out).below B4)
          have HX1 := Hid.mk (HD1.out.below B4)
          have HX2 := Hid.mk (HD2.out.below B4)
          have HX3 := Hid.mk (HD3.out.below B4)
          have HX4 := Hid.mk (HD4.out.below B4)
          have HB4 := Hid.mk B4
          have HJ4 := Hid.mk (hJ'.out j wr w4 HJj.out ((HB3.out.trans (B4.mono HB3.out.size)).mono hKs))
          have sm1 : Sm ((stt d z A s0 j).el k) := ⟨by have := mse.1; omega, by omega⟩
          have sm2 : Sm ((stt d z A s0 j).eh k) := ⟨by have := mse.1; omega, by omega⟩
          clear B4 z6 z7 z8 z9 zf6 zf7 bx1 bx3
          go_cut [13, 17] from 17 to 60 (fun x y wx => y = .int .i64 (j : Int) ∧ ∃ g13, x = .pointer (some ⟨g13, 0, none⟩) ∧ Below w4.heap.size w4 wx ∧ w4.heap.size ≤ g13 ∧ g13 < wx.heap.size ∧ wx.cell? ⟨g13, 0, none⟩ = some (Value.slice (some { block := q3, off := 0 }) d r3) ∧ wx.cell? ⟨g13, 1, none⟩ = some (Value.slice (some { block := q4, off := 0 }) d r4) ∧ wx.cell? ⟨g13, 2, none⟩ = some (.int .i64 (k : Int)) ∧ wx.cell? ⟨g13, 3, none⟩ = some (.float .f64 (fx ((stt d z A s0 j).mid k))) ∧ wx.cell? ⟨g13, 4, none⟩ = some (.bool (decide (A j ≤ z k))) ∧ wx.cell? ⟨g13, 5, none⟩ = some (Value.slice (some { block := x3, off := 0 }) d y3) ∧ wx.cell? ⟨g13, 6, none⟩ = some (Value.slice (some { block := x4, off := 0 }) d y4))
          case first =>
            have B0 : Hid (Below w4.heap.size w4 w4) := ⟨Below.refl _ _⟩
            have nn1 := World.new_ne w4 _ b90
            have nn2 := World.new_ne w4 _ ba0
            have nn3 := World.new_ne w4 _ y70
            have nn4 := World.new_ne w4 _ cy1
            have nn5 := World.new_ne w4 _ cy3
            go_region_held3 (fun v => v.cell? ⟨w3.heap.size, 0, none⟩ = some (Value.slice (some { block := x3, off := 0 }) d y3) ∧ v.cell? ⟨w3.heap.size, 1, none⟩ = some (Value.slice (some { block := x4, off := 0 }) d y4) ∧ v.cell? ⟨w3.heap.size + 1, 0, none⟩ = some (Value.slice (some { block := x1, off := 0 }) d y1) ∧ v.cell? ⟨g7, 0, none⟩ = some (Value.slice (some { block := q3, off := 0 }) d r3) ∧ v.cell? ⟨g7, 1, none⟩ = some (Value.slice (some { block := q4, off := 0 }) d r4) ∧ v.cell? ⟨x1, k, none⟩ = some (.float .f64 (fx ((nxt d z A j (stt d z A s0 j)).wl k))) ∧ v.cell? ⟨x3, k, none⟩ = some (.float .f64 (fx (keptLo d z A (stt d z A s0 j) j k)))) (go_keep) (first
              | (go_at_call 25; refine (mid_any w4.drew _ _ d k (stt d z A s0 j).el (stt d z A s0 j).eh ((stt d z A s0 j).mid k) (HE3.out.below (by first | exact B0.out.drew | exact (B0.out.alloc (Nat.le_refl _) _).drew)) (HE4.out.below (by first | exact B0.out.drew | exact (B0.out.alloc (Nat.le_refl _) _).drew)) hk hd3 sm1 sm2 mm2 mm1 mse.1).mono ?_; rintro e w5 ⟨rfl, hB5⟩; have B5 : Hid (Below w4.heap.size w4 w5) := ⟨by first | exact B0.out.drew.trans hB5 | exact Below.trans (B0.out.alloc (Nat.le_refl _) _).drew (hB5.mono (by simp))⟩; have lt5 := B5.out.size; have f0w5 : w5.cell? ⟨w3.heap.size, 0, none⟩ = some (Value.slice (some { block := x3, off := 0 }) d y3) := (B5.out.cell (p := ⟨w3.heap.size, 0, none⟩) (by simp; omega)).trans b90; have f1w5 : w5.cell? ⟨w3.heap.size, 1, none⟩ = some (Value.slice (some { block := x4, off := 0 }) d y4) := (B5.out.cell (p := ⟨w3.heap.size, 1, none⟩) (by simp; omega)).trans b91; have f2w5 : w5.cell? ⟨w3.heap.size + 1, 0, none⟩ = some (Value.slice (some { block := x1, off := 0 }) d y1) := (B5.out.cell (p := ⟨w3.heap.size + 1, 0, none⟩) (by simp; omega)).trans ba0; have f3w5 : w5.cell? ⟨w3.heap.size + 1, 1, none⟩ = some (Value.slice (some { block := x2, off := 0 }) d y2) := (B5.out.cell (p := ⟨w3.heap.size + 1, 1, none⟩) (by simp; omega)).trans ba1; have f4w5 : w5.cell? ⟨g7, 0, none⟩ = some (Value.slice (some { block := q3, off := 0 }) d r3) := (B5.out.cell (p := ⟨g7, 0, none⟩) (by simp; omega)).trans y70; have f5w5 : w5.cell? ⟨g7, 1, none⟩ = some (Value.slice (some { block := q4, off := 0 }) d r4) := (B5.out.cell (p := ⟨g7, 1, none⟩) (by simp; omega)).trans y71; have f6w5 : w5.cell? ⟨x1, k, none⟩ = some (.float .f64 (fx ((nxt d z A j (stt d z A s0 j)).wl k))) := (B5.out.cell (p := ⟨x1, k, none⟩) (by simp; omega)).trans cy1; have f7w5 : w5.cell? ⟨x3, k, none⟩ = some (.float .f64 (fx (keptLo d z A (stt d z A s0 j) j k))) := (B5.out.cell (p := ⟨x3, k, none⟩) (by simp; omega)).trans cy3)
              | (go_at_call 25; refine (mid_any (w4.alloc _).drew _ _ d k (stt d z A s0 j).el (stt d z A s0 j).eh ((stt d z A s0 j).mid k) (HE3.out.below (by first | exact B0.out.drew | exact (B0.out.alloc (Nat.le_refl _) _).drew)) (HE4.out.below (by first | exact B0.out.drew | exact (B0.out.alloc (Nat.le_refl _) _).drew)) hk hd3 sm1 sm2 mm2 mm1 mse.1).mono ?_; rintro e w5 ⟨rfl, hB5⟩; have B5 : Hid (Below w4.heap.size w4 w5) := ⟨by first | exact B0.out.drew.trans hB5 | exact Below.trans (B0.out.alloc (Nat.le_refl _) _).drew (hB5.mono (by simp))⟩; have lt5 := B5.out.size; have f0w5 : w5.cell? ⟨w3.heap.size, 0, none⟩ = some (Value.slice (some { block := x3, off := 0 }) d y3) := (B5.out.cell (p := ⟨w3.heap.size, 0, none⟩) (by simp; omega)).trans b90; have f1w5 : w5.cell? ⟨w3.heap.size, 1, none⟩ = some (Value.slice (some { block := x4, off := 0 }) d y4) := (B5.out.cell (p := ⟨w3.heap.size, 1, none⟩) (by simp; omega)).trans b91; have f2w5 : w5.cell? ⟨w3.heap.size + 1, 0, none⟩ = some (Value.slice (some { block := x1, off := 0 }) d y1) := (B5.out.cell (p := ⟨w3.heap.size + 1, 0, none⟩) (by simp; omega)).trans ba0; have f3w5 : w5.cell? ⟨w3.heap.size + 1, 1, none⟩ = some (Value.slice (some { block := x2, off := 0 }) d y2) := (B5.out.cell (p := ⟨w3.heap.size + 1, 1, none⟩) (by simp; omega)).trans ba1; have f4w5 : w5.cell? ⟨g7, 0, none⟩ = some (Value.slice (some { block := q3, off := 0 }) d r3) := (B5.out.cell (p := ⟨g7, 0, none⟩) (by simp; omega)).trans y70; have f5w5 : w5.cell? ⟨g7, 1, none⟩ = some (Value.slice (some { block := q4, off := 0 }) d r4) := (B5.out.cell (p := ⟨g7, 1, none⟩) (by simp; omega)).trans y71; have f6w5 : w5.cell? ⟨x1, k, none⟩ = some (.float .f64 (fx ((nxt d z A j (stt d z A s0 j)).wl k))) := (B5.out.cell (p := ⟨x1, k, none⟩) (by simp; omega)).trans cy1; have f7w5 : w5.cell? ⟨x3, k, none⟩ = some (.float .f64 (fx (keptLo d z A (stt d z A s0 j) j k))) := (B5.out.cell (p := ⟨x3, k, none⟩) (by simp; omega)).trans cy3; (have gz0 : w5.cell? ⟨w4.heap.size, 0, none⟩ = some (.slice none 0 0) := by (rw [hB5.cell (p := ⟨w4.heap.size, 0, none⟩) (by simp)]; go_simp)); (have gz1 : w5.cell? ⟨w4.heap.size, 1, none⟩ = some (.slice none 0 0) := by (rw [hB5.cell (p := ⟨w4.heap.size, 1, none⟩) (by simp)]; go_simp)); (have gz2 : w5.cell? ⟨w4.heap.size, 2, none⟩ = some (.int .i64 0) := by (rw [hB5.cell (p := ⟨w4.heap.size, 2, none⟩) (by simp)]; go_simp)); (have gz3 : w5.cell? ⟨w4.heap.size, 3, none⟩ = some (.float .f64 0) := by (rw [hB5.cell (p := ⟨w4.heap.size, 3, none⟩) (by simp)]; go_simp)); (have gz4 : w5.cell? ⟨w4.heap.size, 4, none⟩ = some (.bool false) := by (rw [hB5.cell (p := ⟨w4.heap.size, 4, none⟩) (by simp)]; go_simp)); (have gz5 : w5.cell? ⟨w4.heap.size, 5, none⟩ = some (.slice none 0 0) := by (rw [hB5.cell (p := ⟨w4.heap.size, 5, none⟩) (by simp)]; go_simp)); (have gz6 : w5.cell? ⟨w4.heap.size, 6, none⟩ = some (.slice none 0 0) := by (rw [hB5.cell (p := ⟨w4.heap.size, 6, none⟩) (by simp)]; go_simp)); (have gzf : ∀ i, w5.frozen? ⟨w4.heap.size, i, none⟩ = false := by (intro i; rw [hB5.frozen (p := ⟨w4.heap.size, i, none⟩) (by simp)]; go_simp))))
            all_goals go_wp2_with fail
            all_goals go_meet
            · exact ⟨rfl, w5.heap.size, rfl, B5.out.alloc lt5 _, lt5, by simp, by go_simp, by go_simp, by go_simp, by go_simp, by go_simp, by go_simp, by go_simp⟩
            · have ltz : w4.heap.size < w5.heap.size := World.block_lt_of_cell? w5 ⟨w4.heap.size, 0, none⟩ gz0
              exact ⟨rfl, w4.heap.size, rfl, (((((((B5.out.setCell (p := ⟨w4.heap.size, 0, none⟩) (Nat.le_refl w4.heap.size) _).setCell (p := ⟨w4.heap.size, 1, none⟩) (Nat.le_refl w4.heap.size) _).setCell (p := ⟨w4.heap.size, 2, none⟩) (Nat.le_refl w4.heap.size) _).setCell (p := ⟨w4.heap.size, 3, none⟩) (Nat.le_refl w4.heap.size) _).setCell (p := ⟨w4.heap.size, 4, none⟩) (Nat.le_refl w4.heap.size) _).setCell (p := ⟨w4.heap.size, 5, none⟩) (Nat.le_refl w4.heap.size) _).setCell (p := ⟨w4.heap.size, 6, none⟩) (Nat.le_refl w4.heap.size) _), Nat.le_refl w4.heap.size, by simpa using ltz, by go_simp, by go_simp, by go_simp, by go_simp, by go_simp, by go_simp, by go_simp⟩
          case rest =>
            obtain ⟨rfl, g13, rfl, BX, g13l, g13u, h130, h131, h132, h133, h134, h135, h136⟩ := hcut
            have bxs := BX.size
            have HJ5 := hJ'.out j w4 wc HJ4.out (BX.mono (by omega))
            have hst : StepV d n z A s0 j (Value.agg #[(Value.slice (some ⟨q3, 0, none⟩) d r3), (Value.slice (some ⟨q4, 0, none⟩) d r4), .int .i64 (k : Int), .float .f64 (fx ((stt d z A s0 j).mid k)), .bool (decide (A j ≤ z k)), (Value.slice (some ⟨x3, 0, none⟩) d y3), (Value.slice (some ⟨x4, 0, none⟩) d y4)]) wc := by
              unfold StepV
              rw [Hke.out]
              exact ⟨hjn, Hall.out, _, _, _, _, rfl, HE3.out.below BX, HE4.out.below BX, HX3.out.below BX, HX4.out.below BX⟩
            obtain ⟨fn, tmps, assign, body, hy, hR⟩ := hY'.out j _ wc HJ5 hst (by omega)
            have l60 := (BX.cell (p := ⟨g6, 0, none⟩) (by simp; omega)).trans y60
            have l61 := (BX.cell (p := ⟨g6, 1, none⟩) (by simp; omega)).trans y61
            have l70 := (BX.cell (p := ⟨g7, 0, none⟩) (by simp; omega)).trans y70
            have l71 := (BX.cell (p := ⟨g7, 1, none⟩) (by simp; omega)).trans y71
            have lf6 : ∀ i, wc.frozen? ⟨g6, i, none⟩ = false := fun i => (BX.frozen (p := ⟨g6, i, none⟩) (by simp; omega)).trans (yf6 i)
            have lf7 : ∀ i, wc.frozen? ⟨g7, i, none⟩ = false := fun i => (BX.frozen (p := ⟨g7, i, none⟩) (by simp; omega)).trans (yf7 i)
            have la0 := (BX.cell (p := ⟨w3.heap.size + 1, 0, none⟩) (by simp; omega)).trans ba0
            have la1 := (BX.cell (p := ⟨w3.heap.size + 1, 1, none⟩) (by simp; omega)).trans ba1
            have HBX := Hid.mk BX
            have HJ6 := Hid.mk HJ5
            clear BX hst HJ5 y60 y61 y70 y71 yf6 yf7 b90 b91 ba0 ba1 cy1 cy3 a0 a1 a2 a3 x6 x7 c3 c5
            go_upto_region 7 with fail
            refine (wpIn_wide (n := 0)).1 ?_
            gi_wp2
            refine ⟨rfl, hR.mono ?_⟩
            rintro e W3 (⟨rfl, hJ3, hk3⟩ | ⟨rfl, hJx3⟩)
            · have k60 := (hk3.cell (p := ⟨g6, 0, none⟩) (by simp; omega) (by simp; omega)).trans l60
              have k61 := (hk3.cell (p := ⟨g6, 1, none⟩) (by simp; omega) (by simp; omega)).trans l61
              have k70 := (hk3.cell (p := ⟨g7, 0, none⟩) (by simp; omega) (by simp; omega)).trans l70
              have k71 := (hk3.cell (p := ⟨g7, 1, none⟩) (by simp; omega) (by simp; omega)).trans l71
              have kf6 : ∀ i, W3.frozen? ⟨g6, i, none⟩ = false := fun i => (hk3.frozen (p := ⟨g6, i, none⟩) (by simp; omega) (by simp; omega)).trans (lf6 i)
              have kf7 : ∀ i, W3.frozen? ⟨g7, i, none⟩ = false := fun i => (hk3.frozen (p := ⟨g7, i, none⟩) (by simp; omega) (by simp; omega)).trans (lf7 i)
              have ka0 := (hk3.cell (p := ⟨w3.heap.size + 1, 0, none⟩) (by simp; omega) (by simp; omega)).trans la0
              have ka1 := (hk3.cell (p := ⟨w3.heap.size + 1, 1, none⟩) (by simp; omega) (by simp; omega)).trans la1
              have j0 := (hk3.cell (p := ⟨g13, 0, none⟩) g13u (by simp; omega)).trans h130
              have j1 := (hk3.cell (p := ⟨g13, 1, none⟩) g13u (by simp; omega)).trans h131
              have j2 := (hk3.cell (p := ⟨g13, 2, none⟩) g13u (by simp; omega)).trans h132
              have j3 := (hk3.cell (p := ⟨g13, 3, none⟩) g13u (by simp; omega)).trans h133
              have j4 := (hk3.cell (p := ⟨g13, 4, none⟩) g13u (by simp; omega)).trans h134
              have j5 := (hk3.cell (p := ⟨g13, 5, none⟩) g13u (by simp; omega)).trans h135
              have j6 := (hk3.cell (p := ⟨g13, 6, none⟩) g13u (by simp; omega)).trans h136
              have Hk3 := Hid.mk hk3
              have HJ3 := Hid.mk hJ3
              have hk3s := hk3.size
              clear hR hy hk3 hJ3 h130 h131 h132 h133 h134 h135 h136 l60 l61 l70 l71 lf6 lf7 la0 la1
              have KF := KeepF.of_kb Hk3.out (hL'.out j wc HJ6.out)
              have HW3 := Hid.mk ((HE3.out.below HBX.out).keep KF)
              have HW4 := Hid.mk ((HE4.out.below HBX.out).keep KF)
              have HW5 := Hid.mk ((HX3.out.below HBX.out).keep KF)
              have HW6 := Hid.mk ((HX4.out.below HBX.out).keep KF)
              have HW1 := Hid.mk ((HX1.out.below HBX.out).keep KF)
              have HW2 := Hid.mk ((HX2.out.below HBX.out).keep KF)
              clear KF
              have C0 : Hid (Below W3.heap.size W3 W3) := ⟨Below.refl _ _⟩
              have nd1 : g6 ≠ w3.heap.size + 1 := by omega
              have nd2 : ¬ g7 = w3.heap.size + 1 := by omega
              have nd3 : ¬ g6 = g13 := by omega
              have nd4 : ¬ g7 = g13 := by omega
              have nd5 : ¬ g6 = g7 := hne
              have nd6 : ¬ g7 = g6 := fun e => hne e.symm
              have nd7 : ¬ w3.heap.size + 1 = g6 := by omega
              have nd8 : ¬ w3.heap.size + 1 = g7 := by omega
              have nd9 : ¬ g13 = g6 := by omega
              have nd0 : ¬ g13 = g7 := by omega
              dsimp only
              gi_wp2
              go_wp2_with fail
              go_region_held3 (fun v => v.cell? ⟨w3.heap.size + 1, 0, none⟩ = some (Value.slice (some ⟨x1, 0, none⟩) d y1) ∧ v.cell? ⟨w3.heap.size + 1, 1, none⟩ = some (Value.slice (some ⟨x2, 0, none⟩) d y2) ∧ v.cell? ⟨g13, 0, none⟩ = some (Value.slice (some ⟨q3, 0, none⟩) d r3) ∧ v.cell? ⟨g13, 1, none⟩ = some (Value.slice (some ⟨q4, 0, none⟩) d r4) ∧ v.cell? ⟨g13, 2, none⟩ = some (.int .i64 (k : Int)) ∧ v.cell? ⟨g13, 3, none⟩ = some (.float .f64 (fx ((stt d z A s0 j).mid k))) ∧ v.cell? ⟨g13, 4, none⟩ = some (.bool (decide (A j ≤ z k))) ∧ v.cell? ⟨g13, 5, none⟩ = some (Value.slice (some ⟨x3, 0, none⟩) d y3) ∧ v.cell? ⟨g13, 6, none⟩ = some (Value.slice (some ⟨x4, 0, none⟩) d y4)) (go_keep) (first
                | (go_at_call 16; refine (part_any _ _ _ _ _ d k (stt d z A s0 j).el (stt d z A s0 j).eh (keptLo d z A (stt d z A s0 j) j) (keptHi d z A (stt d z A s0 j) j) ((stt d z A s0 j).mid k) _ (FR.below HW3.out C0.out.drew) (FR.below HW4.out C0.out.drew) (FR.below HW5.out C0.out.drew) (FR.below HW6.out C0.out.drew) hk hd3 sm1 sm2 mm2 mm1 mse.1 _ _).mono ?_; rintro e w6 ⟨m1, m2, rfl, hB6, N1, N2⟩; have HN1 := Hid.mk N1; have HN2 := Hid.mk N2; obtain ⟨p1', p1c, rfl, _, _, _⟩ := N1; obtain ⟨p2', p2c, rfl, _, _, _⟩ := N2; have B6 : Hid (Below W3.heap.size W3 w6) := ⟨C0.out.drew.trans hB6⟩; have lt6 := B6.out.size; have i0 : w6.cell? ⟨w3.heap.size + 1, 0, none⟩ = some (Value.slice (some ⟨x1, 0, none⟩) d y1) := (B6.out.cell (p := ⟨w3.heap.size + 1, 0, none⟩) (by simp; omega)).trans ka0; have i1 : w6.cell? ⟨w3.heap.size + 1, 1, none⟩ = some (Value.slice (some ⟨x2, 0, none⟩) d y2) := (B6.out.cell (p := ⟨w3.heap.size + 1, 1, none⟩) (by simp; omega)).trans ka1; have i2 : w6.cell? ⟨g13, 0, none⟩ = some (Value.slice (some ⟨q3, 0, none⟩) d r3) := (B6.out.cell (p := ⟨g13, 0, none⟩) (by simp; omega)).trans j0; have i3 : w6.cell? ⟨g13, 1, none⟩ = some (Value.slice (some ⟨q4, 0, none⟩) d r4) := (B6.out.cell (p := ⟨g13, 1, none⟩) (by simp; omega)).trans j1; have i4 : w6.cell? ⟨g13, 2, none⟩ = some (.int .i64 (k : Int)) := (B6.out.cell (p := ⟨g13, 2, none⟩) (by simp; omega)).trans j2; have i5 : w6.cell? ⟨g13, 3, none⟩ = some (.float .f64 (fx ((stt d z A s0 j).mid k))) := (B6.out.cell (p := ⟨g13, 3, none⟩) (by simp; omega)).trans j3; have i6 : w6.cell? ⟨g13, 4, none⟩ = some (.bool (decide (A j ≤ z k))) := (B6.out.cell (p := ⟨g13, 4, none⟩) (by simp; omega)).trans j4; have i7 : w6.cell? ⟨g13, 5, none⟩ = some (Value.slice (some ⟨x3, 0, none⟩) d y3) := (B6.out.cell (p := ⟨g13, 5, none⟩) (by simp; omega)).trans j5; have i8 : w6.cell? ⟨g13, 6, none⟩ = some (Value.slice (some ⟨x4, 0, none⟩) d y4) := (B6.out.cell (p := ⟨g13, 6, none⟩) (by simp; omega)).trans j6; have i9 : w6.cell? ⟨g6, 0, none⟩ = some (Value.slice (some ⟨q1, 0, none⟩) d r1) := (B6.out.cell (p := ⟨g6, 0, none⟩) (by simp; omega)).trans k60; have i10 : w6.cell? ⟨g6, 1, none⟩ = some (Value.slice (some ⟨q2, 0, none⟩) d r2) := (B6.out.cell (p := ⟨g6, 1, none⟩) (by simp; omega)).trans k61; have i11 : w6.cell? ⟨g7, 0, none⟩ = some (Value.slice (some ⟨q3, 0, none⟩) d r3) := (B6.out.cell (p := ⟨g7, 0, none⟩) (by simp; omega)).trans k70; have i12 : w6.cell? ⟨g7, 1, none⟩ = some (Value.slice (some ⟨q4, 0, none⟩) d r4) := (B6.out.cell (p := ⟨g7, 1, none⟩) (by simp; omega)).trans k71; have if6 : ∀ i, w6.frozen? ⟨g6, i, none⟩ = false := fun i => (B6.out.frozen (p := ⟨g6, i, none⟩) (by simp; omega)).trans (kf6 i); have if7 : ∀ i, w6.frozen? ⟨g7, i, none⟩ = false := fun i => (B6.out.frozen (p := ⟨g7, i, none⟩) (by simp; omega)).trans (kf7 i)))
              generalize h8 : ((((w6.setCell { block := g6, off := 0 } (Value.slice (some { block := x1, off := 0 }) d y1)).setCell { block := g6, off := 1 } (Value.slice (some { block := x2, off := 0 }) d y2)).setCell { block := g7, off := 0 } (Value.slice (some { block := p1', off := 0 }) d p1c)).setCell { block := g7, off := 1 } (Value.slice (some { block := p2', off := 0 }) d p2c)) = w8
              have F8 := Hid.mk (fin3 hne h8 i9 i10 i11 i12)
              have K8 := Hid.mk (keep4 h8 i9 i10 i11 i12)
              clear h8
              go_wp2_with fail
              go_roundw
              case rel =>
                have hs8 := F8.out.size
                have hb : Below W.heap.size W3 w8 := F8.out.bel g6l g7l (B6.out.mono (by omega))
                have hkb : Kb l W w8 := (((HK.out.trans (Kb.of_below HB3.out)).trans (Kb.of_below HB4.out)).trans (Kb.of_below HBX.out)).trans Hk3.out |>.below_trans hb
                refine ⟨j + 1, by omega, by simp, fun i hi => Hall.out i (by omega), hJ'.out (j + 1) W3 w8 HJ3.out hb, hkb, by omega, by omega, fun i => (F8.out.frz _).trans (if6 i), fun i => (F8.out.frz _).trans (if7 i), _, _, _, _, F8.out.a0, F8.out.a1, F8.out.b0, F8.out.b1, (HW1.out.below B6.out).keep K8.out, (HW2.out.below B6.out).keep K8.out, (HN1.out.keep K8.out).cast ?_, (HN2.out.keep K8.out).cast ?_⟩
                · intro i _
                  show _ = (nxt d z A j (stt d z A s0 j)).el i
                  unfold nxt
                  rw [Hke.out]
                  by_cases e : A j ≤ z k
                  · simp only [e, decide_true, if_true]
                  · simp [e]
                · intro i _
                  show _ = (nxt d z A j (stt d z A s0 j)).eh i
                  unfold nxt
                  rw [Hke.out]
                  by_cases e : A j ≤ z k
                  · simp only [e, decide_true, if_true]
                  · simp [e]
              case measure => simp only [intOf]; omega
            · have HJx := Hid.mk hJx3
              clear hR hy
              dsimp only
              gi_wp2
              go_wp2_with fail
              refine bodyPost_ret (results_none rfl _ _ _) rfl ?_
              exact ⟨⟨_, rfl⟩, .inr HJx.out⟩
      · have hi1 : ¬ (j : Int) < (n : Int) := by omega
        have Hje : Hid (j = n) := ⟨by omega⟩
        go_wp2_with fail
        refine bodyPost_end (results_none rfl _ _ _) rfl ?_
        exact ⟨⟨_, rfl⟩, .inl ⟨j, ⟨Hok.out, .inl Hje.out⟩, HJj.out⟩⟩
end Go.Proofs.Ybulkdaxu
