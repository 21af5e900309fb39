/-
  zzs5107abuild: what it leaves, whatever order its last statements take.
-/
import Derived.Test.YbulkdasyMid
namespace Go.Proofs.Ybulkdasy
open Go.RowKit
set_option linter.unusedSimpArgs false
set_option linter.unusedVariables false
def z93 : Value := Value.agg #[Value.slice none 0 0, Value.slice none 0 0, Value.int .i64 0, Value.int .i64 0, Value.int .i64 0, Value.int .i64 0]
theorem Yba.info93 : (Yba.prog.info? 93).map (fun i => (i.zero, i.size, i.bytes)) = some (some z93, 6, 80) := by kernel_rfl
def Z93 : List Value := (madeCells z93.cells (3 * 6)).toList
theorem mk56 (w : World) : (Instr.makeSlice 56 (.int .i64 3) (.int .i64 3)).run Yba.prog w = .ok (.slice (some ⟨w.heap.size, 0, none⟩) 3 3) (w.alloc (.cells Z93.toArray 93)) := mk_any Yba.underlying56 Yba.info93 3 (by omega) (by omega) w

theorem VA.set60 {S : Sto} {p : PS} (h : VA S p) (v : Value) : VA (S.set 0 60 v) p := by
  refine ⟨h.dom, h.ty, ?_, h.ops, h.proc, h.rank, h.obj, h.jud, h.ver, h.rcp, h.inw, h.held, h.hbl, h.hbv, fun q hq => (h.hbr q hq).fixed (by omega), h.rel, h.dl, h.wt, h.afl, h.afv, fun e he => (h.afr e he).fixed (by omega), h.ev.fixed (by omega), h.ord.fixed (by omega), h.hold.fixed (by omega), h.cut.fixed (by omega)⟩
  have r := h.r
  exact ⟨by simpa [Sto.set] using r.len, gset r.ops (by decide), gset r.ver (by decide), gset r.jud (by decide), gset r.rcp (by decide), gset r.cut (by decide), gset r.rel (by decide), gset r.dl (by decide), gset r.aft (by decide), gset r.wt (by decide), gset r.ev (by decide), gset r.ord (by decide), gset r.inw (by decide), gset r.held (by decide), gset r.hby (by decide), gset r.hold (by decide), gset r.stm (by decide), gset r.obj (by decide), gset r.prc (by decide), gset r.rnk (by decide)⟩

theorem leaf28d {w0 wc W4 : World} {T : Sto} {rb n : Nat} {fen call ret proc rank : Nat → Int} (hT : Good w0 wc T) (R : MB rb n fen call ret proc rank T) (hb : Below wc.heap.size wc W4)
    (b1 b2 b3 b4 : Nat) (g : wc.heap.size ≤ b1 ∧ wc.heap.size ≤ b2 ∧ wc.heap.size ≤ b3 ∧ wc.heap.size ≤ b4 ∧ b1 ≠ b2 ∧ b1 ≠ b3 ∧ b1 ≠ b4 ∧ b2 ≠ b3 ∧ b2 ≠ b4 ∧ b3 ≠ b4)
    (h1 : W4.heap[b1]? = some (.cells (Z3 (2 * n)).toArray 3)) (h2 : W4.heap[b2]? = some (.cells (Z3 (2 * n)).toArray 3)) (h3 : W4.heap[b3]? = some (.cells (Z27 (2 * n)).toArray 27)) (h4 : W4.heap[b4]? = some (.cells (Z3 (2 * n)).toArray 3)) :
    ∃ T', Good w0 ((((((W4.setCell ⟨rb, 34, none⟩ (.slice (some ⟨b1, 0, none⟩) (2 * n) (2 * n))).setCell ⟨rb, 35, none⟩ (.slice (some ⟨b2, 0, none⟩) (2 * n) (2 * n))).setCell ⟨rb, 36, none⟩ (.slice (some ⟨b3, 0, none⟩) (2 * n) (2 * n))).setCell ⟨rb, 37, none⟩ (.slice (some ⟨b4, 0, none⟩) (2 * n) (2 * n))).setCell ⟨rb, 38, none⟩ (.slice none 0 0)).setCell ⟨rb, 39, none⟩ (.slice none 0 0)).drew T' ∧ VA T' (ps0 n fen call ret proc rank) ∧ T'.loc 0 = rb := by
  obtain ⟨g1, g2, g3, g4, n1, n2, n3, n4, n5, n6⟩ := g
  obtain ⟨T', a, b, c⟩ := leaf28 hT R hb b1 b2 b3 b4 g1 g2 g3 g4 n1 n2 n3 n4 n5 n6 h1 h2 h3 h4
  exact ⟨T', a.drew, b, c⟩

set_option maxRecDepth 100000 in
set_option maxHeartbeats 4000000 in
theorem build_any (w0 w : World) (S : Sto) (hG : Good w0 w S) (n : Nat) (hn : n ≤ 300) (hn1 : 1 ≤ n) (a0 a1 a2 : Option Addr) (cap0 len1 cap1 len2 cap2 : Nat) (pz cz rz : Nat → Int)
   (hp : Arr .u8 w0 a0 n pz) (hp2 : ∀ j, 0 ≤ pz j ∧ pz j ≤ 255) (hc : Arr .i16 w0 a1 len1 cz) (hc2 : ∀ j, -32768 ≤ cz j ∧ cz j ≤ 32767) (hr : Arr .i16 w0 a2 len2 rz) (hr2 : ∀ j, -32768 ≤ rz j ∧ rz j ≤ 32767)
   (pull : Nat → Bool) (hd : S.dom 25) (hpull : ∀ j, j < n → (S.cells 25)[j]? = some (.bool (pull j))) :
   Calls Yba.prog 8 #[.slice a0 n cap0, .slice a1 len1 cap1, .slice a2 len2 cap2, .slice (some ⟨S.loc 25, 0, none⟩) n n] w fun e w' => ∃ T' : Sto, e = .returned (.pointer (some ⟨T'.loc 0, 0, none⟩)) ∧ Good w0 w' T' ∧ VA T' (ps0 n (fun k => if pull k then 2 else 0) (atZ len1 cz) (atZ len2 rz) (fun k => pz k % 3) (fun k => cnt pz k (pz k % 3).toNat)) := by
  have k30 := mk30 n (by omega)
  have k27 := mk27 n (by omega)
  have hsz := hG.below.size
  have hlt25 := hG.lt hd
  go_enter Yba.func8, Yba.ntmps8
  go_wp2_with fail
  go_loopw [16] (fun i wr => ∃ (j : Nat) (T : Sto), j ≤ n ∧ i = .int .i64 j ∧ Good w0 wr T ∧ BR w.heap.size (S.loc 25) (S.cells 25) n len1 len2 pz cz rz pull j T) (fun i _ => n - (intOf i).toNat)
  case atStart =>
    refine ⟨0, ((((((S.put 1 w.heap.size (Z80 n) 80).put 2 (w.heap.size + 1) (Z3 n) 3).put 3 (w.heap.size + 1 + 1) (Z3 n) 3).put 4 (w.heap.size + 1 + 1 + 1) (Z3 n) 3).put 5 (w.heap.size + 1 + 1 + 1 + 1) (Z3 n) 3).put 26 (w.heap.size + 1 + 1 + 1 + 1 + 1) [.int .i64 0, .int .i64 0, .int .i64 0] 76), by omega, rfl, ?_, ?_⟩
    · have := (((((hG.new 1 (Z80 n) 80).new 2 (Z3 n) 3).new 3 (Z3 n) 3).new 4 (Z3 n) 3).new 5 (Z3 n) 3).new 26 [.int .i64 0, .int .i64 0, .int .i64 0] 76
      simpa using this
    · constructor <;> simp [Sto.put, hd, OpsT.zero, Tab.zero]
      refine ⟨rfl, fun k hk => ?_⟩
      match k, hk with
      | 0, _ => rfl
      | 1, _ => rfl
      | 2, _ => rfl
  case round =>
    obtain ⟨j, T, hj, rfl, hT, R⟩ := hrel
    by_cases hlt : j < n
    · obtain ⟨b, off, rfl, hb, hcz⟩ : ∃ b off, a0 = some ⟨b, off, none⟩ ∧ b < w0.heap.size ∧ ∀ j, j < n → w0.cell? ⟨b, off + j, none⟩ = some (.int .u8 (pz j)) := by
        rcases hp with h | h
        · omega
        · exact h
      have hpj := hp2 j
      have hcell : wr.cell? ⟨b, off + j, none⟩ = some (.int .u8 (pz j)) := (hT.below.cell (p := ⟨b, off + j, none⟩) hb).trans (hcz j hlt)
      have q1 : 0 ≤ pz j % 3 ∧ pz j % 3 < 3 := by omega
      have q2 : (pz j % 3).toNat < 3 := by omega
      have e2 := hT.cell 2 j R.d2 (R.c2.at hlt)
      have f2 : ∀ k, wr.frozen? ⟨T.loc 2, k, none⟩ = false := fun k => hT.free 2 k R.d2
      have e3 := hT.cell 3 j R.d3 (R.c3.at hlt)
      have f3 : ∀ k, wr.frozen? ⟨T.loc 3, k, none⟩ = false := fun k => hT.free 3 k R.d3
      have e5 := hT.cell 5 j R.d5 (R.c5.at hlt)
      have f5 : ∀ k, wr.frozen? ⟨T.loc 5, k, none⟩ = false := fun k => hT.free 5 k R.d5
      have e26 := hT.cell 26 _ R.d26 (R.c26.at q2)
      have f26 : ∀ k, wr.frozen? ⟨T.loc 26, k, none⟩ = false := fun k => hT.free 26 k R.d26
      have f1 : ∀ k, wr.frozen? ⟨T.loc 1, k, none⟩ = false := fun k => hT.free 1 k R.d1
      obtain ⟨o6, o8, o9, v0, o0⟩ := R.cO.2 j hlt
      have e16 := hT.cell 1 _ R.d1 o6
      have e18 := hT.cell 1 _ R.d1 o8
      have e19 := hT.cell 1 _ R.d1 o9
      have e10 := hT.cell 1 _ R.d1 o0
      have e25 := hT.cell 25 j R.d25 (v := .bool (pull j)) (by rw [R.c25]; exact hpull j hlt)
      rw [R.l1] at e16 e18 e19 e10 f1
      rw [R.l2] at e2 f2
      rw [R.l3] at e3 f3
      rw [R.l5] at e5 f5
      rw [R.l26] at e26 f26
      rw [R.l25] at e25
      have hcb := cnt_bd pz j (pz j % 3).toNat
      clear hp2 hpull k30 k27 hcz o6 o8 o9 o0
      go_wp2_with fail
      refine (at_any _ _ _ cz _ _ (hc.below ?_) hc2).mono ?_
      · refine Below.setCell (Below.setCell (Below.setCell (Below.setCell hT.below ?_ _) ?_ _) ?_ _) ?_ _ <;> (dsimp only; omega)
      rintro e w' ⟨rfl, rfl⟩
      go_wp2_with fail
      refine (at_any _ _ _ rz _ _ (hr.below ?_) hr2).mono ?_
      · refine Below.setCell (Below.setCell (Below.setCell (Below.setCell (Below.setCell hT.below ?_ _) ?_ _) ?_ _) ?_ _) ?_ _ <;> (dsimp only; omega)
      rintro e w' ⟨rfl, rfl⟩
      by_cases hpl : pull j = true
      · go_wp2_with fail
        obtain ⟨T', g1, g2⟩ := R.stepP hT hlt q1 hpl
        go_roundw
        case rel => exact ⟨j + 1, T', by omega, by go_num, g1, g2⟩
        case measure => simp [intOf]; omega
      · have hpl' : pull j = false := by simpa using hpl
        clear hpl
        go_wp2_with fail
        obtain ⟨T', g1, g2⟩ := R.step hT hlt q1 hpl'
        go_roundw
        case rel => exact ⟨j + 1, T', by omega, by go_num, g1, g2⟩
        case measure => simp [intOf]; omega
    · obtain rfl : j = n := by omega
      clear hp hc hr hpull hp2 hc2 hr2 hlt25 hd hG
      have k38 := mk38 j (by omega)
      have k31 : ∀ w, (Instr.makeSlice 31 (.int .i64 3) (.int .i64 3)).run Yba.prog w = .ok (.slice (some ⟨w.heap.size, 0, none⟩) 3 3) (w.alloc (.cells (Z27 3).toArray 27)) := mk31 3 (by omega)
      have k2a : ∀ w, (Instr.makeSlice 27 (.int .i64 (2 * (j : Int))) (.int .i64 (2 * (j : Int)))).run Yba.prog w = .ok (.slice (some ⟨w.heap.size, 0, none⟩) (2 * j) (2 * j)) (w.alloc (.cells (Z3 (2 * j)).toArray 3)) := mk27 (2 * j) (by omega)
      have k2b : ∀ w, (Instr.makeSlice 31 (.int .i64 (2 * (j : Int))) (.int .i64 (2 * (j : Int)))).run Yba.prog w = .ok (.slice (some ⟨w.heap.size, 0, none⟩) (2 * j) (2 * j)) (w.alloc (.cells (Z27 (2 * j)).toArray 27)) := mk31 (2 * j) (by omega)
      go_upto_region 27 with fail
      go_cut [] from 123 to 127 (fun wx => ∃ T' : Sto, Good w0 wx T' ∧ MB wr.heap.size j (fun k => if pull k then 2 else 0) (atZ len1 cz) (atZ len2 rz) (fun k => pz k % 3) (fun k => cnt pz k (pz k % 3).toNat) T')
      case first =>
        go_wp2_with fail
        go_meet
        exact mid27 hT R
      case rest =>
        obtain ⟨T', hT', R'⟩ := hcut
        have hl0 := R'.l0
        have d0 := R'.dom 0 (by omega)
        have hlt0 := hT'.lt d0
        rw [hl0] at hlt0
        have f0 : ∀ k, wc.frozen? ⟨wr.heap.size, k, none⟩ = false := fun k => by rw [← hl0]; exact hT'.free 0 k d0
        have ex : ∀ k, k < 75 → ∃ v, wc.cell? ⟨wr.heap.size, k, none⟩ = some v := fun k hk => by
          rw [← hl0]
          exact ⟨_, hT'.cell 0 k d0 (List.getElem?_eq_getElem (by rw [R'.len]; exact hk))⟩
        obtain ⟨v34, e34⟩ := ex 34 (by omega)
        obtain ⟨v35, e35⟩ := ex 35 (by omega)
        obtain ⟨v36, e36⟩ := ex 36 (by omega)
        obtain ⟨v37, e37⟩ := ex 37 (by omega)
        obtain ⟨v38, e38⟩ := ex 38 (by omega)
        obtain ⟨v39, e39⟩ := ex 39 (by omega)
        clear ex hl0 k30 k27 k38 k31
        have hA : ∀ (o1 o2 o3 o4 : Obj) (k : Nat), ((((wc.alloc o1).alloc o2).alloc o3).alloc o4).cell? ⟨wr.heap.size, k, none⟩ = wc.cell? ⟨wr.heap.size, k, none⟩ := fun o1 o2 o3 o4 k => (alloc4 wc o1 o2 o3 o4).2.2.2.2.cell hlt0
        have hF : ∀ (o1 o2 o3 o4 : Obj) (k : Nat), ((((wc.alloc o1).alloc o2).alloc o3).alloc o4).frozen? ⟨wr.heap.size, k, none⟩ = wc.frozen? ⟨wr.heap.size, k, none⟩ := fun o1 o2 o3 o4 k => (alloc4 wc o1 o2 o3 o4).2.2.2.2.frozen hlt0
        have hwr : IntKind.i64.wrap (2 * (j : Int)) = 2 * (j : Int) := by rw [IntKind.wrap_i64]; omega
        go_upto_region 28 with fail
        go_cut [] from 128 to 144 (fun wx => ∃ T' : Sto, Good w0 wx T' ∧ VA T' (ps0 j (fun k => if pull k then 2 else 0) (atZ len1 cz) (atZ len2 rz) (fun k => pz k % 3) (fun k => cnt pz k (pz k % 3).toNat)) ∧ T'.loc 0 = wr.heap.size)
        case first =>
          go_region
          all_goals
            go_wp2_with fail
            go_meet
            refine leaf28d hT' R' (alloc4 wc _ _ _ _).2.2.2.2 _ _ _ _ (by omega) ?_ ?_ ?_ ?_
            all_goals first | exact (alloc4 wc _ _ _ _).1 | exact (alloc4 wc _ _ _ _).2.1 | exact (alloc4 wc _ _ _ _).2.2.1 | exact (alloc4 wc _ _ _ _).2.2.2.1
        case rest =>
          obtain ⟨T2, hT2, V2, l2⟩ := hcut
          have k56 := mk56
          have d2 := V2.dom 0 (by omega)
          have f2 : ∀ k, wc.frozen? ⟨T2.loc 0, k, none⟩ = false := fun k => hT2.free 0 k d2
          have e60 := hT2.cell 0 60 d2 (List.getElem?_eq_getElem (by rw [V2.r.len]; omega))
          have lt2 := hT2.lt d2
          rw [l2] at f2 e60 lt2
          go_wp2_with fail
          go_ret
          have H := (hT2.setCell 0 60 d2 (.slice (some ⟨wc.heap.size, 0, none⟩) 3 3)).alloc (.cells Z93.toArray 93)
          rw [l2] at H
          exact ⟨T2.set 0 60 _, by simp [Sto.set, l2], H, V2.set60 _⟩
end Go.Proofs.Ybulkdasy
