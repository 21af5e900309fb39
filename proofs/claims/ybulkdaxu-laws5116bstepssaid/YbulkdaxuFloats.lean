import Derived.Test.YbulkdaxuPoint
namespace Go.Proofs.Ybulkdaxu
open Go.RowKit
set_option linter.unusedSimpArgs false
set_option linter.unusedVariables false

/-- A row of int64s of the call's own. -/
def IN (w : World) (b d : Nat) (x : Nat → Int) : Prop :=
  b < w.heap.size ∧ (∀ k, k < d → w.cell? ⟨b, k, none⟩ = some (.int .i64 (x k))) ∧ ∀ k, w.frozen? ⟨b, k, none⟩ = false
theorem IN.below {w w' : World} {b d : Nat} {x : Nat → Int} (h : IN w b d x) (hb : Below w.heap.size w w') : IN w' b d x :=
  ⟨Nat.lt_of_lt_of_le h.1 hb.size, fun k hk => (hb.cell (p := ⟨b, k, none⟩) h.1).trans (h.2.1 k hk), fun k => (hb.frozen (p := ⟨b, k, none⟩) h.1).trans (h.2.2 k)⟩
theorem IN.drewN {w : World} {b d : Nat} {x : Nat → Int} (h : IN w b d x) (n : Nat) : IN (w.drewN n) b d x := h
theorem IN.cast {w : World} {b d : Nat} {x y : Nat → Int} (h : IN w b d x) (e : ∀ k, k < d → x k = y k) : IN w b d y :=
  ⟨h.1, fun k hk => by rw [h.2.1 k hk, e k hk], h.2.2⟩
theorem IN.other {w : World} {b d : Nat} {x : Nat → Int} (h : IN w b d x) {p : Addr} (hp : b ≠ p.block) (u : Value) : IN (w.setCell p u) b d x := by
  refine ⟨by simpa using h.1, fun k hk => ?_, fun k => ?_⟩
  · rw [World.cell?_of_block (a := ⟨b, k, none⟩) (Below.heap_setCell w p u b hp)]; exact h.2.1 k hk
  · rw [World.frozen?_setCell]; exact h.2.2 k
theorem IN.put {w : World} {b d k : Nat} {x : Nat → Int} (h : IN w b d x) (hk : k < d) (a : Int) : IN (w.setCell ⟨b, k, none⟩ (.int .i64 a)) b d (up x k a) := by
  have c1 := h.2.1 k hk
  refine ⟨by simpa using h.1, fun j hj => ?_, fun j => by rw [World.frozen?_setCell]; exact h.2.2 j⟩
  unfold up
  by_cases e : j = k
  · subst e
    simp only [if_true]
    exact World.cell?_setCell_same' _ _ _ (by rw [c1]; rfl)
  · simp only [if_neg e]
    rw [World.cell?_setCell_other w _ (a := ⟨b, k, none⟩) (b := ⟨b, j, none⟩) (by intro he; cases he; exact e rfl)]
    exact h.2.1 j hj

theorem info2 : (Yba.prog.info? 2).map (fun i => (i.zero, i.size, i.bytes)) = some (some (.int .i64 0), 1, 8) := by kernel_rfl
def ZI (n : Nat) : List Value := (madeCells #[Value.int .i64 0] n).toList
theorem zi_get (n k : Nat) (hk : k < n) : (ZI n)[k]? = some (.int .i64 0) := by simp [ZI, madeCells, hk, Nat.mod_one]
theorem mk30 (n : Nat) (hn : n ≤ 600) (w : World) : (Instr.makeSlice 30 (.int .i64 n) (.int .i64 n)).run Yba.prog w = .ok (.slice (some ⟨w.heap.size, 0, none⟩) n n) (w.alloc (.cells (ZI n).toArray 2)) := by
  have := mk_any Yba.underlying30 info2 n (by omega) (by omega) w
  rw [Nat.mul_one] at this
  exact this
theorem zi_in (w : World) (n : Nat) : IN (w.alloc (.cells (ZI n).toArray 2)) w.heap.size n (fun _ => 0) := by
  have hg := heap_alloc_new w (.cells (ZI n).toArray 2)
  refine ⟨by simp, fun k hk => ?_, fun k => ?_⟩
  · have := zi_get n k hk
    simp only [World.cell?, hg]
    simpa using this
  · simp only [World.frozen?, hg]
    simp

set_option maxRecDepth 100000 in
set_option maxHeartbeats 1000000 in
theorem floats_any (w : World) (b d : Nat) (x : Nat → Int) (h : IN w b d x) (hx : ∀ k, k < d → 0 ≤ x k ∧ x k ≤ 16) (hd : d ≤ 3) :
    Calls Yba.prog 9 #[.slice (some ⟨b, 0, none⟩) d d] w fun e w' => ∃ v, e = .returned v ∧ Below w.heap.size w w' ∧ FN w.heap.size w' v d (fun k => x k * 2 ^ 45) := by
  have m23 := mk23 d (by omega)
  have Zz := Hid.mk (zf_fn w d)
  have H := Hid.mk h
  clear h
  go_enter Yba.func9, Yba.ntmps9
  go_wp2_with fail
  go_loopw [4] (fun v wr => ∃ k : Nat, k ≤ d ∧ v = .int .i64 (k : Int) ∧ Below w.heap.size w wr ∧ FN w.heap.size wr (.slice (some ⟨w.heap.size, 0, none⟩) d d) d (pre (fun k => x k * 2 ^ 45) k)) (fun v _ => d - (intOf v).toNat)
  case atStart =>
    refine ⟨0, by omega, rfl, (Below.refl _ _).alloc (Nat.le_refl _) _, ?_⟩
    rw [pre_zero]; exact Zz.out
  case round =>
    obtain ⟨k, hk, rfl, hB, hN⟩ := hrel
    have HN := Hid.mk hN
    obtain ⟨n1, n2, n3⟩ := hN.cells
    clear hN
    by_cases hkd : k < d
    · have hk0 : (0 : Int) ≤ (k : Int) := by omega
      have hk1 : (k : Int) < (d : Int) := by omega
      have f6 := n1 k hkd
      have c1 := (hB.cell (p := ⟨b, k, none⟩) H.out.1).trans (H.out.2.1 k hkd)
      have hxb := hx k hkd
      have hcv := fx_int (x k) (by omega) (by omega)
      go_wp2_with fail
      go_roundw
      case rel =>
        have K := HN.out.put hkd (x k * 2 ^ 45)
        rw [pre_succ (fun k => x k * 2 ^ 45) k] at K
        exact ⟨k + 1, by omega, by simp, hB.setCell (p := ⟨w.heap.size, k, none⟩) (Nat.le_refl _) _, K⟩
      case measure => simp only [intOf]; omega
    · have hi1 : ¬ (k : Int) < (d : Int) := by omega
      have HF : Hid (FN w.heap.size wr (.slice (some ⟨w.heap.size, 0, none⟩) d d) d (fun k => x k * 2 ^ 45)) := ⟨by obtain ⟨b, c, g1, g2, g3, g4, g5, g6⟩ := HN.out; exact ⟨b, c, g1, g2, by omega, g4, fun j hj => by rw [g5 j hj]; unfold pre; rw [if_pos (by omega)], g6⟩⟩
      go_wp2_with fail
      go_ret
      exact ⟨_, rfl, hB, HF.out⟩
end Go.Proofs.Ybulkdaxu
