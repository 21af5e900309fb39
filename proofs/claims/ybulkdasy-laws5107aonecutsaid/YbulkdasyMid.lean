/-
  zzs5107abuild, in parts: what lies behind its loop.
-/
import Derived.Test.YbulkdasyView
import Derived.Deep.DeepCutAuto
import Derived.BigRegion
import Derived.Deep.RegionHeld3
namespace Go.Proofs.Ybulkdasy
open Go.RowKit
set_option linter.unusedSimpArgs false
set_option linter.unusedVariables false

/-- The plain state that build leaves. -/
def ps0 (n : Nat) (fen call ret proc rank : Nat → Int) : PS where
  n := n
  fen := fen
  call := call
  ret := ret
  proc := proc
  rank := rank
  rcp := fun _ => .slice none 0 0
  cutV := .slice none 0 0
  cut := []
  inw := fun _ => 0
  held := fun _ => 0
  hbV := fun _ => .slice none 0 0
  hb := fun _ => []
  rel := fun _ => 0
  dl := fun _ => 0
  wt := fun _ => 0
  aftV := fun _ => .slice none 0 0
  aft := fun _ => []
  evV := .slice none 0 0
  ev := []
  ordV := .slice none 0 0
  ord := []
  holdV := .slice none 0 0
  hold := []
  st := 0

/-- Behind region 27 of build: all is laid but the schedule and procs. -/
structure MB (rb : Nat) (n : Nat) (fen call ret proc rank : Nat → Int) (T : Sto) : Prop where
  dom : ∀ x, x < 11 → T.dom x
  ty : ∀ x, x < 11 → T.ty x = tyOf x
  l0 : T.loc 0 = rb
  len : (T.cells 0).length = 75
  r0 : (T.cells 0)[0]? = some (sl T.loc 1 n)
  r18 : (T.cells 0)[18]? = some (sl T.loc 6 1)
  r19 : (T.cells 0)[19]? = some (sl T.loc 5 n)
  r20 : (T.cells 0)[20]? = some (sl T.loc 7 n)
  r28 : (T.cells 0)[28]? = some (.slice none 0 0)
  r40 : (T.cells 0)[40]? = some (sl T.loc 8 n)
  r41 : (T.cells 0)[41]? = some (sl T.loc 9 n)
  r42 : (T.cells 0)[42]? = some (sl T.loc 10 3)
  r43 : (T.cells 0)[43]? = some (.slice none 0 0)
  r44 : (T.cells 0)[44]? = some (.int .i64 0)
  r54 : (T.cells 0)[54]? = some (sl T.loc 4 n)
  r55 : (T.cells 0)[55]? = some (sl T.loc 2 n)
  r58 : (T.cells 0)[58]? = some (sl T.loc 3 n)
  ops : OpsT (T.cells 1) n fen call ret
  proc : Tab (T.cells 2) n proc
  rank : Tab (T.cells 3) n rank
  obj : Tab (T.cells 4) n (fun _ => 0)
  jud : Tab (T.cells 5) n (fun _ => 1)
  ver : Tab (T.cells 6) 1 (fun _ => 1)
  rcp : RcpT (T.cells 7) n (fun _ => .slice none 0 0)
  inw : Tab (T.cells 8) n (fun _ => 0)
  held : Tab (T.cells 9) n (fun _ => 0)
  hbl : (T.cells 10).length = 3
  hbv : ∀ q, q < 3 → (T.cells 10)[q]? = some (.slice none 0 0)

theorem Z27_get (n k : Nat) (hk : k < n) : (Z27 n)[k]? = some (.slice none 0 0) := by unfold Z27; rw [made_get _ _ _ hk]; simp [Nat.mod_one]
theorem Z29_tab (n : Nat) : RcpT (Z29 n) n (fun _ => .slice none 0 0) := by
  refine ⟨made_len _ _, fun k hk => ?_⟩
  have e : ∀ o, o < 3 → (Z29 n)[k * 3 + o]? = some (z29.cells[o]!) := by
    intro o ho
    unfold Z29
    rw [made_get _ _ _ (by omega)]
    have h : (k * 3 + o) % z29.cells.size = o := by
      show (k * 3 + o) % 3 = o
      omega
    rw [h]
  exact ⟨⟨0, e 0 (by omega)⟩, e 1 (by omega), e 2 (by omega)⟩

theorem alloc4 (w : World) (a b c d : Obj) : ((((w.alloc a).alloc b).alloc c).alloc d).heap[w.heap.size]? = some a ∧ ((((w.alloc a).alloc b).alloc c).alloc d).heap[w.heap.size + 1]? = some b ∧
    ((((w.alloc a).alloc b).alloc c).alloc d).heap[w.heap.size + 1 + 1]? = some c ∧ ((((w.alloc a).alloc b).alloc c).alloc d).heap[w.heap.size + 1 + 1 + 1]? = some d ∧ Below w.heap.size w ((((w.alloc a).alloc b).alloc c).alloc d) := by
  refine ⟨?_, ?_, ?_, ?_, ?_⟩
  · rw [Below.heap_alloc _ _ _ (by simp; omega), Below.heap_alloc _ _ _ (by simp; omega), Below.heap_alloc _ _ _ (by simp)]; exact heap_alloc_new w a
  · rw [Below.heap_alloc _ _ _ (by simp; try omega), Below.heap_alloc _ _ _ (by simp)]
    have := heap_alloc_new (w.alloc a) b; simpa using this
  · rw [Below.heap_alloc _ _ _ (by simp)]
    have := heap_alloc_new ((w.alloc a).alloc b) c; simpa using this
  · have := heap_alloc_new (((w.alloc a).alloc b).alloc c) d; simpa using this
  · exact ((((Below.refl _ _).alloc (Nat.le_refl _) _).alloc (by simp) _).alloc (by simp; omega) _).alloc (by simp; omega) _

set_option maxRecDepth 100000 in
theorem leaf28 {w0 wc W4 : World} {T : Sto} {rb n : Nat} {fen call ret proc rank : Nat → Int} (hT : Good w0 wc T) (R : MB rb n fen call ret proc rank T) (hb : Below wc.heap.size wc W4)
    (b1 b2 b3 b4 : Nat) (g1 : wc.heap.size ≤ b1) (g2 : wc.heap.size ≤ b2) (g3 : wc.heap.size ≤ b3) (g4 : wc.heap.size ≤ b4) (n1 : b1 ≠ b2) (n2 : b1 ≠ b3) (n3 : b1 ≠ b4) (n4 : b2 ≠ b3) (n5 : b2 ≠ b4) (n6 : b3 ≠ b4)
    (h1 : W4.heap[b1]? = some (.cells (Z3 (2 * n)).toArray 3)) (h2 : W4.heap[b2]? = some (.cells (Z3 (2 * n)).toArray 3)) (h3 : W4.heap[b3]? = some (.cells (Z27 (2 * n)).toArray 27)) (h4 : W4.heap[b4]? = some (.cells (Z3 (2 * n)).toArray 3)) :
    ∃ T', Good w0 ((((((W4.setCell ⟨rb, 34, none⟩ (.slice (some ⟨b1, 0, none⟩) (2 * n) (2 * n))).setCell ⟨rb, 35, none⟩ (.slice (some ⟨b2, 0, none⟩) (2 * n) (2 * n))).setCell ⟨rb, 36, none⟩ (.slice (some ⟨b3, 0, none⟩) (2 * n) (2 * n))).setCell ⟨rb, 37, none⟩ (.slice (some ⟨b4, 0, none⟩) (2 * n) (2 * n))).setCell ⟨rb, 38, none⟩ (.slice none 0 0)).setCell ⟨rb, 39, none⟩ (.slice none 0 0)) T' ∧ VA T' (ps0 n fen call ret proc rank) ∧ T'.loc 0 = rb := by
  have hz := hT.below.size
  have H0 := hT.grown hb
  have lt : ∀ y, T.dom y → T.loc y < wc.heap.size := fun y hy => hT.lt hy
  have H1 := H0.name 11 b1 _ _ (by omega) (fun y hy => by have := lt y hy; omega) h1
  have H2 := H1.name 12 b2 _ _ (by omega) (fun y hy => by
    simp only [Sto.put] at hy ⊢; by_cases e : y = 11
    · simp [e]; omega
    · have := lt y (by simpa [e] using hy); simp [e]; omega) h2
  have H3 := H2.name 13 b3 _ _ (by omega) (fun y hy => by
    simp only [Sto.put] at hy ⊢; by_cases e2 : y = 12
    · simp [e2]; omega
    · by_cases e : y = 11
      · simp [e]; omega
      · have := lt y (by simpa [e, e2] using hy); simp [e, e2]; omega) h3
  have H4 := H3.name 14 b4 _ _ (by omega) (fun y hy => by
    simp only [Sto.put] at hy ⊢; by_cases e3 : y = 13
    · simp [e3]; omega
    · by_cases e2 : y = 12
      · simp [e2]; omega
      · by_cases e : y = 11
        · simp [e]; omega
        · have := lt y (by simpa [e, e2, e3] using hy); simp [e, e2, e3]; omega) h4
  have d0 : ((((T.put 11 b1 (Z3 (2 * n)) 3).put 12 b2 (Z3 (2 * n)) 3).put 13 b3 (Z27 (2 * n)) 27).put 14 b4 (Z3 (2 * n)) 3).dom 0 := by simp [Sto.put, R.dom 0 (by omega)]
  have H5 := (((((H4.setCell 0 34 d0 (.slice (some ⟨b1, 0, none⟩) (2 * n) (2 * n))).setCell 0 35 d0 (.slice (some ⟨b2, 0, none⟩) (2 * n) (2 * n))).setCell 0 36 d0 (.slice (some ⟨b3, 0, none⟩) (2 * n) (2 * n))).setCell 0 37 d0 (.slice (some ⟨b4, 0, none⟩) (2 * n) (2 * n))).setCell 0 38 d0 (.slice none 0 0)).setCell 0 39 d0 (.slice none 0 0)
  have el : T.loc 0 = rb := R.l0
  refine ⟨_, by simpa only [Sto.put, Sto.set, el, Nat.reduceEqDiff, reduceIte] using H5, ?_, by simp [Sto.put, el]⟩
  have hlen := R.len
  have c : ∀ y, y < 11 → y ≠ 0 → ∀ f : List Value → List Value, (if y = 0 then f (T.cells 0) else if y = 14 then Z3 (2 * n) else if y = 13 then Z27 (2 * n) else if y = 12 then Z3 (2 * n) else if y = 11 then Z3 (2 * n) else T.cells y) = T.cells y := by
    intro y h1 h2 f
    rw [if_neg h2, if_neg (by omega), if_neg (by omega), if_neg (by omega), if_neg (by omega)]
  constructor
  · intro x hx
    simp only [Sto.put]
    by_cases e : x < 11
    · simp [R.dom x e]
    · have : x = 11 ∨ x = 12 ∨ x = 13 ∨ x = 14 := by omega
      rcases this with rfl | rfl | rfl | rfl <;> simp
  · intro x hx
    simp only [Sto.put]
    by_cases e : x < 11
    · have := R.ty x e
      rw [if_neg (by omega), if_neg (by omega), if_neg (by omega), if_neg (by omega)]; exact this
    · have : x = 11 ∨ x = 12 ∨ x = 13 ∨ x = 14 := by omega
      rcases this with rfl | rfl | rfl | rfl <;> simp [tyOf]
  · constructor
    · simp [hlen]
    · iterate 6 (refine gset ?_ (by decide))
      exact R.r0
    · iterate 6 (refine gset ?_ (by decide))
      exact R.r18
    · iterate 6 (refine gset ?_ (by decide))
      exact R.r19
    · iterate 6 (refine gset ?_ (by decide))
      exact R.r20
    · iterate 6 (refine gset ?_ (by decide))
      exact R.r28
    · iterate 5 (refine gset ?_ (by decide))
      simp [hlen, sl, ps0]
    · iterate 4 (refine gset ?_ (by decide))
      simp [hlen, sl, ps0]
    · iterate 3 (refine gset ?_ (by decide))
      simp [hlen, sl, ps0]
    · iterate 2 (refine gset ?_ (by decide))
      simp [hlen, sl, ps0]
    · iterate 1 (refine gset ?_ (by decide))
      simp [hlen, sl, ps0]
    · simp [hlen, ps0]
    · iterate 6 (refine gset ?_ (by decide))
      exact R.r40
    · iterate 6 (refine gset ?_ (by decide))
      exact R.r41
    · iterate 6 (refine gset ?_ (by decide))
      exact R.r42
    · iterate 6 (refine gset ?_ (by decide))
      exact R.r43
    · iterate 6 (refine gset ?_ (by decide))
      exact R.r44
    · iterate 6 (refine gset ?_ (by decide))
      exact R.r54
    · iterate 6 (refine gset ?_ (by decide))
      exact R.r55
    · iterate 6 (refine gset ?_ (by decide))
      exact R.r58
  · simpa [Sto.put, ps0] using R.ops
  · simpa [Sto.put, ps0] using R.proc
  · simpa [Sto.put, ps0] using R.rank
  · simpa [Sto.put, ps0] using R.obj
  · simpa [Sto.put, ps0] using R.jud
  · simpa [Sto.put, ps0] using R.ver
  · simpa [Sto.put, ps0] using R.rcp
  · simpa [Sto.put, ps0] using R.inw
  · simpa [Sto.put, ps0] using R.held
  · simpa [Sto.put, ps0] using R.hbl
  · simpa [Sto.put, ps0] using R.hbv
  · intro q hq; exact Row.nil _ _
  · simpa [Sto.put, ps0] using Tab.zero (2 * n)
  · simpa [Sto.put, ps0] using Tab.zero (2 * n)
  · simpa [Sto.put, ps0] using Tab.zero (2 * n)
  · exact made_len #[Value.slice none 0 0] (2 * n)
  · intro e he; simp [Sto.put, ps0] at he ⊢; exact Z27_get _ _ he
  · intro e he; exact Row.nil _ _
  · exact Row.nil _ _
  · exact Row.nil _ _
  · exact Row.nil _ _
  · exact Row.nil _ _
theorem Good.newA {w0 w : World} {S : Sto} (h : Good w0 w S) (x : Nat) (cs : Array Value) (t : TypeId) : Good w0 (w.alloc (.cells cs t)) (S.put x w.heap.size cs.toList t) := by
  have := h.new x cs.toList t
  simpa using this

def rc0 (z : Array Value) (B wb n : Nat) : Array Value :=
  (((((((((((((z.setIfInBounds 0 (Value.slice (some ⟨B, 0, none⟩) n n)).setIfInBounds 1 (Value.slice none 0 0)).setIfInBounds 2 (Value.slice none 0 0)).setIfInBounds 3 (Value.slice none 0 0)).setIfInBounds 4 (Value.int .i64 0)).setIfInBounds 54 (Value.slice (some ⟨B + 1 + 1 + 1, 0, none⟩) n n)).setIfInBounds 55 (Value.slice (some ⟨B + 1, 0, none⟩) n n)).setIfInBounds 58 (Value.slice (some ⟨B + 1 + 1, 0, none⟩) n n)).setIfInBounds 19 (Value.slice (some ⟨B + 1 + 1 + 1 + 1, 0, none⟩) n n)).setIfInBounds 18 (Value.slice (some ⟨wb + 1, 0, none⟩) 1 1)).setIfInBounds 20 (Value.slice (some ⟨wb + 1 + 1, 0, none⟩) n n)).setIfInBounds 40 (Value.slice (some ⟨wb + 1 + 1 + 1, 0, none⟩) n n)).setIfInBounds 41 (Value.slice (some ⟨wb + 1 + 1 + 1 + 1, 0, none⟩) n n)).setIfInBounds 42 (Value.slice (some ⟨wb + 1 + 1 + 1 + 1 + 1, 0, none⟩) 3 3)

theorem zc60 : Yba.zeroCells60.toList.length = 75 ∧ Yba.zeroCells60.toList[28]? = some (.slice none 0 0) ∧ Yba.zeroCells60.toList[43]? = some (.slice none 0 0) ∧ Yba.zeroCells60.toList[44]? = some (.int .i64 0) := by
  refine ⟨?_, ?_, ?_, ?_⟩ <;> rfl

theorem gset1 {R : List Value} {i : Nat} {v : Value} (h : i < R.length) : (R.set i v)[i]? = some v := by simp [h]

theorem rc0_list (B wb n : Nat) : (rc0 Yba.zeroCells60 B wb n).toList.length = 75 ∧
    (rc0 Yba.zeroCells60 B wb n).toList[0]? = some (Value.slice (some ⟨B, 0, none⟩) n n) ∧ (rc0 Yba.zeroCells60 B wb n).toList[18]? = some (Value.slice (some ⟨wb + 1, 0, none⟩) 1 1) ∧ (rc0 Yba.zeroCells60 B wb n).toList[19]? = some (Value.slice (some ⟨B + 1 + 1 + 1 + 1, 0, none⟩) n n) ∧
    (rc0 Yba.zeroCells60 B wb n).toList[20]? = some (Value.slice (some ⟨wb + 1 + 1, 0, none⟩) n n) ∧ (rc0 Yba.zeroCells60 B wb n).toList[28]? = some (.slice none 0 0) ∧ (rc0 Yba.zeroCells60 B wb n).toList[40]? = some (Value.slice (some ⟨wb + 1 + 1 + 1, 0, none⟩) n n) ∧
    (rc0 Yba.zeroCells60 B wb n).toList[41]? = some (Value.slice (some ⟨wb + 1 + 1 + 1 + 1, 0, none⟩) n n) ∧ (rc0 Yba.zeroCells60 B wb n).toList[42]? = some (Value.slice (some ⟨wb + 1 + 1 + 1 + 1 + 1, 0, none⟩) 3 3) ∧ (rc0 Yba.zeroCells60 B wb n).toList[43]? = some (.slice none 0 0) ∧
    (rc0 Yba.zeroCells60 B wb n).toList[44]? = some (.int .i64 0) ∧ (rc0 Yba.zeroCells60 B wb n).toList[54]? = some (Value.slice (some ⟨B + 1 + 1 + 1, 0, none⟩) n n) ∧ (rc0 Yba.zeroCells60 B wb n).toList[55]? = some (Value.slice (some ⟨B + 1, 0, none⟩) n n) ∧ (rc0 Yba.zeroCells60 B wb n).toList[58]? = some (Value.slice (some ⟨B + 1 + 1, 0, none⟩) n n) := by
  obtain ⟨z1, z2, z3, z4⟩ := zc60
  unfold rc0
  simp only [Array.toList_setIfInBounds, List.length_set]
  refine ⟨z1, ?_, ?_, ?_, ?_, ?_, ?_, ?_, ?_, ?_, ?_, ?_, ?_, ?_⟩
  · iterate 13 (refine gset ?_ (by decide))
    exact gset1 (by simp only [List.length_set, z1]; decide)
  · iterate 4 (refine gset ?_ (by decide))
    exact gset1 (by simp only [List.length_set, z1]; decide)
  · iterate 5 (refine gset ?_ (by decide))
    exact gset1 (by simp only [List.length_set, z1]; decide)
  · iterate 3 (refine gset ?_ (by decide))
    exact gset1 (by simp only [List.length_set, z1]; decide)
  · iterate 14 (refine gset ?_ (by decide))
    exact z2
  · iterate 2 (refine gset ?_ (by decide))
    exact gset1 (by simp only [List.length_set, z1]; decide)
  · iterate 1 (refine gset ?_ (by decide))
    exact gset1 (by simp only [List.length_set, z1]; decide)
  · exact gset1 (by simp only [List.length_set, z1]; decide)
  · iterate 14 (refine gset ?_ (by decide))
    exact z3
  · iterate 14 (refine gset ?_ (by decide))
    exact z4
  · iterate 8 (refine gset ?_ (by decide))
    exact gset1 (by simp only [List.length_set, z1]; decide)
  · iterate 7 (refine gset ?_ (by decide))
    exact gset1 (by simp only [List.length_set, z1]; decide)
  · iterate 6 (refine gset ?_ (by decide))
    exact gset1 (by simp only [List.length_set, z1]; decide)

theorem mid27 {w0 wr : World} {T : Sto} {B lp : Nat} {c25 : List Value} {n len1 len2 : Nat} {pz cz rz : Nat → Int} {pull : Nat → Bool} (hT : Good w0 wr T) (R : BR B lp c25 n len1 len2 pz cz rz pull n T) :
    ∃ T', Good w0 ((((((wr.alloc (.cells (rc0 Yba.zeroCells60 B wr.heap.size n) 60)).alloc (.cells #[Value.int .i64 1] 3)).alloc (.cells (Z29 n).toArray 29)).alloc (.cells (Z3 n).toArray 3)).alloc (.cells (Z3 n).toArray 3)).alloc (.cells (Z27 3).toArray 27)) T' ∧
      MB wr.heap.size n (fun k => if pull k then 2 else 0) (atZ len1 cz) (atZ len2 rz) (fun k => pz k % 3) (fun k => cnt pz k (pz k % 3).toNat) T' := by
  have H := (((((hT.newA 0 (rc0 Yba.zeroCells60 B wr.heap.size n) 60).new 6 [Value.int .i64 1] 3).new 7 (Z29 n) 29).new 8 (Z3 n) 3).new 9 (Z3 n) 3).new 10 (Z27 3) 27
  obtain ⟨z, y0, y18, y19, y20, y28, y40, y41, y42, y43, y44, y54, y55, y58⟩ := rc0_list B wr.heap.size n
  refine ⟨_, by simpa using H, ?_⟩
  have R1 := R.l1
  have R2 := R.l2
  have R3 := R.l3
  have R4 := R.l4
  have R5 := R.l5
  constructor
  · intro x hx
    have : x = 0 ∨ x = 1 ∨ x = 2 ∨ x = 3 ∨ x = 4 ∨ x = 5 ∨ x = 6 ∨ x = 7 ∨ x = 8 ∨ x = 9 ∨ x = 10 := by omega
    rcases this with rfl | rfl | rfl | rfl | rfl | rfl | rfl | rfl | rfl | rfl | rfl <;> simp [Sto.put, R.d1, R.d2, R.d3, R.d4, R.d5]
  · intro x hx
    have : x = 0 ∨ x = 1 ∨ x = 2 ∨ x = 3 ∨ x = 4 ∨ x = 5 ∨ x = 6 ∨ x = 7 ∨ x = 8 ∨ x = 9 ∨ x = 10 := by omega
    rcases this with rfl | rfl | rfl | rfl | rfl | rfl | rfl | rfl | rfl | rfl | rfl <;> simp [Sto.put, tyOf, R.t1, R.t2, R.t3, R.t4, R.t5]
  · simp [Sto.put]
  · simpa [Sto.put] using z
  · simpa [Sto.put, sl, R1] using y0
  · simpa [Sto.put, sl] using y18
  · simpa [Sto.put, sl, R5] using y19
  · simpa [Sto.put, sl] using y20
  · simpa [Sto.put, sl] using y28
  · simpa [Sto.put, sl] using y40
  · simpa [Sto.put, sl] using y41
  · simpa [Sto.put, sl] using y42
  · simpa [Sto.put, sl] using y43
  · simpa [Sto.put, sl] using y44
  · simpa [Sto.put, sl, R4] using y54
  · simpa [Sto.put, sl, R2] using y55
  · simpa [Sto.put, sl, R3] using y58
  · simp only [Sto.put, Nat.reduceEqDiff, reduceIte]
    exact R.cO.congr fun k hk => by simp [hk]
  · simp only [Sto.put, Nat.reduceEqDiff, reduceIte]
    exact R.c2.congr fun k hk => by simp [hk]
  · simp only [Sto.put, Nat.reduceEqDiff, reduceIte]
    exact R.c3.congr fun k hk => by simp [hk]
  · simp only [Sto.put, Nat.reduceEqDiff, reduceIte]
    exact R.c4
  · simp only [Sto.put, Nat.reduceEqDiff, reduceIte]
    exact R.c5.congr fun k hk => by simp [hk]
  · simp only [Sto.put, Nat.reduceEqDiff, reduceIte]
    refine ⟨rfl, fun k hk => ?_⟩
    obtain rfl : k = 0 := by omega
    rfl
  · simp only [Sto.put, Nat.reduceEqDiff, reduceIte]
    exact Z29_tab n
  · simp only [Sto.put, Nat.reduceEqDiff, reduceIte]
    exact Tab.zero n
  · simp only [Sto.put, Nat.reduceEqDiff, reduceIte]
    exact Tab.zero n
  · simp only [Sto.put, Nat.reduceEqDiff, reduceIte]
    exact made_len _ 3
  · intro q hq
    simp only [Sto.put, Nat.reduceEqDiff, reduceIte]
    exact Z27_get 3 q hq
end Go.Proofs.Ybulkdasy
