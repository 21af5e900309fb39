/-
  A LAW OF OUR OWN FOR 'for s := range seq { .. }' WHERE THE ITERATOR WRITES CELLS OF ITS OWN BETWEEN TWO ROUNDS. At the wide fence.
-/
import Derived.Test.YbulkdaxuUnfold
import Derived.RangeFuncNested
import Derived.RangeFuncBound
import Derived.RangeFuncCalls
import Derived.RangeFuncLeaves
import Derived.Shelf.Abstract
import Derived.Shelf.RegionOpen
import Derived.OwnWalkIn
import Derived.TacticsInMore
import Derived.LoopNIn
import Derived.LoopIn
namespace Go.Proofs.Ybulkdaxu
open Go.RowKit Go.Shelf
set_option linter.unusedSimpArgs false
set_option linter.unusedVariables false

/-- B is A but for the block l and for new blocks. -/
structure Kb (l : Nat) (A B : World) : Prop where
  os : B.os = A.os
  tape : B.tape = A.tape
  output : B.output = A.output
  size : A.heap.size ≤ B.heap.size
  block : ∀ k, k < A.heap.size → k ≠ l → B.heap[k]? = A.heap[k]?
theorem Kb.refl (l : Nat) (A : World) : Kb l A A := ⟨rfl, rfl, rfl, Nat.le_refl _, fun _ _ _ => rfl⟩
theorem Kb.trans {l : Nat} {A B C : World} (h : Kb l A B) (k : Kb l B C) : Kb l A C :=
  ⟨k.os.trans h.os, k.tape.trans h.tape, k.output.trans h.output, Nat.le_trans h.size k.size, fun j hj hn => (k.block j (Nat.lt_of_lt_of_le hj h.size) hn).trans (h.block j hj hn)⟩
theorem Kb.of_below {l : Nat} {A B : World} (h : Below A.heap.size A B) : Kb l A B := ⟨h.os, h.tape, h.output, h.size, fun k hk _ => h.block k hk⟩
theorem Kb.put (l : Nat) (A : World) (o : Obj) : Kb l A (A.putObj l o) := ⟨rfl, rfl, rfl, by simp, fun k _ hn => World.putObj_heap_other hn⟩
theorem Kb.below {l n : Nat} {A B : World} (h : Kb l A B) (hn : n ≤ l) (hs : n ≤ A.heap.size) : Below n A B := ⟨h.os, h.tape, h.output, h.size, fun k hk => h.block k (by omega) (by omega)⟩
theorem Kb.cell {l : Nat} {A B : World} (h : Kb l A B) {p : Addr} (hp : p.block < A.heap.size) (hn : p.block ≠ l) : B.cell? p = A.cell? p := World.cell?_of_block (w := A) (h.block p.block hp hn)
theorem Kb.frozen {l : Nat} {A B : World} (h : Kb l A B) {p : Addr} (hp : p.block < A.heap.size) (hn : p.block ≠ l) : B.frozen? p = A.frozen? p := World.frozen?_of_block (w := A) (h.block p.block hp hn)

/-- What a round's body leaves. -/
def rPost (l : Nat) (I : World → Prop) (X : World → Prop) (W : World) : Exit → Act → World → Prop
  | .normal, _, W' => Kb l W W' ∧ W'.heap[l]? = W.heap[l]? ∧ I W'
  | .ret, _, W' => W'.heap[l]? = W.heap[l]? ∧ W'.heap[l - 1]? = W.heap[l - 1]? ∧ X W'
  | _, _, _ => False

/-- The iterator's contract: whatever J depends on blocks below the heap's size alone. -/
def SeqC (P : Program) (gf : Nat) (lb : Array Value) (V : Nat → Value → World → Prop) (S : Nat → Prop) (w : World) : Prop :=
  ∀ (l : Nat) (J : Nat → World → Prop) (Jx : World → Prop) (W : World), l + 1 = W.heap.size → Below w.heap.size w W → w.heap.size ≤ l →
    (∀ j A B, J j A → Below W.heap.size A B → J j B) → (∀ j A, J j A → ∀ p : Addr, p.block = l → A.cell? p = none) →
    (∀ j v W1, J j W1 → V j v W1 → W.heap.size ≤ W1.heap.size → YieldAt Fence.wide 0 P l #[v] W1 fun e W' => (e = .returned (.bool true) ∧ J (j + 1) W' ∧ Kb l W1 W') ∨ (e = .returned (.bool false) ∧ Jx W')) →
    J 0 W → CallsIn Fence.wide 0 P gf (#[.func (.yield l) #[] #[]] ++ lb) W fun e W' => (∃ v, e = .returned v) ∧ ((∃ j, S j ∧ J j W') ∨ Jx W')

theorem range_own {P : Program} {g : Operand} {p : Tmp} {assign body : Code} {Q : Exit → Act → World → Prop} {a : Act} {w : World}
    {gf : Nat} {lb : Array Value} (hg : a.eval g = .func (.func gf) #[] lb) (eg : ∀ args w, (callFunc gf args).run P w = .ok (.enter gf args) w)
    {V : Nat → Value → World → Prop} {S : Nat → Prop} (hseq : SeqC P gf lb V S w)
    (I : Nat → World → Prop) (X : World → Prop) (hI : ∀ j A B, I j A → Below w.heap.size A B → I j B) (hX : ∀ A B, X A → Kb (w.heap.size + 1) A B → X B) (h0 : I 0 w)
    (hround : ∀ (j : Nat) (v : Value) (W : World), I j W → V j v W → w.heap.size + 1 < W.heap.size → (∀ p : Addr, p.block = w.heap.size + 1 → W.cell? p = none) →
      assign.wpIn (Fence.wide.inRound (w.heap.size + 1)) 0 P (Exit.then (fun a1 W1 => Kb (w.heap.size + 1) W W1 ∧ W1.heap[w.heap.size + 1]? = W.heap[w.heap.size + 1]? ∧ ∀ W2, Kb (w.heap.size + 1) W1 W2 → body.wpIn (Fence.wide.inRound (w.heap.size + 1)) 0 P (rPost (w.heap.size + 1) (I (j + 1)) X W2) a1 W2) (fun _ _ _ => False))
        { tmps := (#[p].zip #[v]).foldl (fun t (p, v) => t.setIfInBounds p v) a.tmps, defers := [] } W)
    (hdone : ∀ (j : Nat) (W : World), S j → I j W → W.heap[w.heap.size]? = some (.deferred (some [])) → Q .normal { a with defers := { target := .collected w.heap.size, args := #[] } :: a.defers } W)
    (hret : ∀ (W : World), X W → W.heap[w.heap.size]? = some (.deferred (some [])) → Q .ret { a with defers := { target := .collected w.heap.size, args := #[] } :: a.defers } W) :
    (Code.rangeFunc g #[p] assign body).wp P Q a w := by
  refine (wpIn_wide (n := 0)).1 (wpIn_rangeFunc ?_)
  intro fn hfn
  obtain ⟨rec, hrec⟩ : ∃ rec : LoopState → Option Code → Loop, rec = fun st pe => { state := st, pending := pe, fn, tmps := a.tmps, params := #[p], assign, body, defers := w.heap.size } := ⟨_, rfl⟩
  obtain ⟨W0, hW0⟩ : ∃ W0, (w.alloc (.deferred (some []))).alloc (.loop (rec .ready none)) = W0 := ⟨_, rfl⟩
  have hs0 : W0.heap.size = w.heap.size + 1 + 1 := by rw [← hW0]; simp
  have hB0 : Below w.heap.size w W0 := by rw [← hW0]; exact below_alloc2 _ _ _
  have hL0 : W0.heap[w.heap.size + 1]? = some (.loop (rec .ready none)) := by
    rw [← hW0]; have := World.alloc_heap_new (w.alloc (.deferred (some []))) (.loop (rec .ready none)); rwa [World.size_alloc] at this
  have hD0 : W0.heap[w.heap.size]? = some (.deferred (some [])) := by
    rw [← hW0]; exact (Below.heap_alloc _ _ _ (by simp)).trans (World.alloc_heap_new w _)
  refine ⟨w.heap.size + 1, [{ target := .collected w.heap.size, args := #[] }], W0, { target := .fn (.func gf) lb, args := #[.func (.yield (w.heap.size + 1)) #[] #[]] }, W0, gf, #[.func (.yield (w.heap.size + 1)) #[] #[]] ++ lb, W0, ?_, ?_, ?_, ?_, fun h => (by cases h), ?_⟩
  · rw [← hW0, hrec]; exact run_enterLoop_outer _ _ _ _ _
  · simp only [resolve, hg]
    simp [go_sem]
  · intro f' _; trivial
  · simp [invoke, go_sem, eg]
  · refine (hseq (w.heap.size + 1) (fun j W => I j W ∧ W.heap[w.heap.size + 1]? = some (.loop (rec .ready none)) ∧ W.heap[w.heap.size]? = some (.deferred (some [])))
      (fun W => X W ∧ W.heap[w.heap.size + 1]? = some (.loop (rec .done (some .ret))) ∧ W.heap[w.heap.size]? = some (.deferred (some []))) W0 (by omega) hB0 (by omega) ?_ ?_ ?_ ⟨hI 0 w W0 h0 hB0, hL0, hD0⟩).mono ?_
    · rintro j A B ⟨h1, h2, h3⟩ hAB
      exact ⟨hI j A B h1 (hAB.mono (by omega)), (hAB.block _ (by omega)).trans h2, (hAB.block _ (by omega)).trans h3⟩
    · rintro j A ⟨h1, h2, h3⟩ p hp
      simp [World.cell?, hp, h2]
    · rintro j v W ⟨h1, h2, h3⟩ hV hWs
      have hlt : w.heap.size + 1 < W.heap.size := by omega
      have hy := run_yield (P := P) (args := #[v]) h2 (by rw [hrec]; rfl)
      rw [hrec] at hy
      refine ⟨fn, _, assign, body, hy, roundIn_of_wpIn hfn (wpIn_mono (hround j v W h1 hV hlt (fun p hp => by simp [World.cell?, hp, h2])) ?_)⟩
      rintro e a1 W1 he
      cases e with
      | normal =>
        obtain ⟨k1, k2, k3⟩ := he
        have l1 : W1.heap[w.heap.size + 1]? = some (.loop (rec .ready none)) := k2.trans h2
        have lt1 : w.heap.size + 1 < W1.heap.size := (Array.getElem?_eq_some_iff.1 l1).1
        have d1 : W1.heap[w.heap.size]? = some (.deferred (some [])) := (k1.block _ (by omega) (by omega)).trans h3
        refine ⟨_, run_beginRound l1 (by rw [hrec]), ?_⟩
        have l2 : (W1.putObj (w.heap.size + 1) (.loop { rec .ready none with state := .busy })).heap[w.heap.size + 1]? = some (.loop { rec .ready none with state := .busy }) := World.putObj_heap_same lt1
        have d2 : (W1.putObj (w.heap.size + 1) (.loop { rec .ready none with state := .busy })).heap[w.heap.size]? = some (.deferred (some [])) := (World.putObj_heap_other (by omega)).trans d1
        refine wpIn_mono (k3 _ (Kb.put _ _ _)) ?_
        rintro e2 a2 W3 hp
        cases e2 with
        | normal =>
          obtain ⟨p1, p2, p3⟩ := hp
          have l3 := p2.trans l2
          have d3 := (p1.block _ (by simp; omega) (by omega)).trans d2
          have hr := run_endRound (P := P) none l3
          refine ⟨_, _, hr, .inl ⟨rfl, ⟨hI _ _ _ p3 ((Kb.put _ _ _).below (Nat.le_succ _) (by have := p1.size; simp at this; omega)), ?_, ?_⟩, ?_⟩⟩
          · rw [World.putObj_heap_same (Array.getElem?_eq_some_iff.1 l3).1, hrec]; rfl
          · exact (World.putObj_heap_other (by omega)).trans d3
          · exact ((k1.trans (Kb.put _ _ _)).trans p1).trans (Kb.put _ _ _)
        | ret =>
          obtain ⟨p1, p2, p3⟩ := hp
          have l3 := p1.trans l2
          have d3 : W3.heap[w.heap.size]? = some (.deferred (some [])) := p2.trans d2
          have hr := run_endRound (P := P) (some .ret) l3
          refine ⟨_, _, hr, .inr ⟨rfl, hX _ _ p3 (Kb.put _ _ _), ?_, ?_⟩⟩
          · rw [World.putObj_heap_same (Array.getElem?_eq_some_iff.1 l3).1, hrec]; rfl
          · exact (World.putObj_heap_other (by omega)).trans d3
        | exit id => exact hp.elim
        | goto t => exact hp.elim
        | panic ch => exact hp.elim
        | outgrown => exact hp.elim
      | ret => exact he.elim
      | exit id => exact he.elim
      | goto t => exact he.elim
      | panic ch => exact he.elim
      | outgrown => exact he.elim
    · rintro e W2 ⟨⟨v, rfl⟩, (⟨j, hS, h1, h2, h3⟩ | ⟨h1, h2, h3⟩)⟩
      · refine ⟨none, _, by have := run_endLoop (P := P) h2 (by rw [hrec]; simp); rw [hrec] at this; exact this, ?_⟩
        exact hdone j _ hS (hI _ _ _ h1 ((Kb.put _ _ _).below (Nat.le_succ _) (by have := (Array.getElem?_eq_some_iff.1 h2).1; omega))) ((World.putObj_heap_other (by omega)).trans h3)
      · refine ⟨some .ret, _, by have := run_endLoop (P := P) h2 (by rw [hrec]; simp); rw [hrec] at this; exact this, ?_⟩
        exact wpIn_ret (hret _ (hX _ _ h1 (Kb.put _ _ _)) ((World.putObj_heap_other (by omega)).trans h3))
end Go.Proofs.Ybulkdaxu
