import Derived.Test.YbulkdaxuSlabU0
namespace Go.Proofs.Ybulkdaxu
open Go.RowKit
set_option linter.unusedSimpArgs false
set_option linter.unusedVariables false

/-- The t-th zone offered. -/
def zZ (a0 : Int) (g wd : Nat → Int) (rev : Bool) (n t : Nat) : Zn := ⟨((oO rev n t : Nat) : Int) + 1, loZ a0 g wd (oO rev n t), hiZ a0 g wd (oO rev n t)⟩
/-- The zones that meet [A, B), ascending. -/
def SM (a0 : Int) (g wd : Nat → Int) (n : Nat) (A B : Int) : List Nat := (List.range n).filter (fun i => mt (loZ a0 g wd i) (hiZ a0 g wd i) A B)
theorem ss_zero (a0 : Int) (g wd : Nat → Int) (A B : Int) : SM a0 g wd 0 A B = [] := rfl
theorem ss_yes {a0 : Int} {g wd : Nat → Int} {n : Nat} {A B : Int} (h : mt (loZ a0 g wd n) (hiZ a0 g wd n) A B = true) : SM a0 g wd (n + 1) A B = SM a0 g wd n A B ++ [n] := by
  unfold SM; rw [List.range_succ, List.filter_append]; simp [h]
theorem ss_no {a0 : Int} {g wd : Nat → Int} {n : Nat} {A B : Int} (h : mt (loZ a0 g wd n) (hiZ a0 g wd n) A B = false) : SM a0 g wd (n + 1) A B = SM a0 g wd n A B := by
  unfold SM; rw [List.range_succ, List.filter_append]; simp [h]
theorem ss_len (a0 : Int) (g wd : Nat → Int) (n : Nat) (A B : Int) : (SM a0 g wd n A B).length ≤ n := by
  have := List.length_filter_le (fun i => mt (loZ a0 g wd i) (hiZ a0 g wd i) A B) (List.range n)
  simpa [SM] using this
theorem ss_lt {a0 : Int} {g wd : Nat → Int} {n : Nat} {A B : Int} {j : Nat} (hj : j < (SM a0 g wd n A B).length) : (SM a0 g wd n A B).getD j 0 < n := (flr_mem hj).1
section
variable (a0 : Int) (g wd : Nat → Int) (rev : Bool) (n : Nat) (A B : Int)
theorem zz_len : (flt n (zZ a0 g wd rev n) A B).length = (SM a0 g wd n A B).length :=
  fo_len rev n (fun i => mt (loZ a0 g wd i) (hiZ a0 g wd i) A B)
theorem zz_az (hg : ∀ j, 0 ≤ g j ∧ g j ≤ 255) (hw : ∀ j, 0 ≤ wd j ∧ wd j ≤ 255) :
    AZ (flt n (zZ a0 g wd rev n) A B).length (oO rev (SM a0 g wd n A B).length) (fun i => (zZ a0 g wd rev n ((flt n (zZ a0 g wd rev n) A B).getD i 0)).lo) (fun i => (zZ a0 g wd rev n ((flt n (zZ a0 g wd rev n) A B).getD i 0)).hi) (fun j => loZ a0 g wd ((SM a0 g wd n A B).getD j 0)) (fun j => hiZ a0 g wd ((SM a0 g wd n A B).getD j 0)) := by
  rw [zz_len]
  exact az_law rev n (fun i => mt (loZ a0 g wd i) (hiZ a0 g wd i) A B) (loZ a0 g wd) (hiZ a0 g wd) (fun i _ => z_lt hw i) (fun i j h _ => z_nx hg hw h)
theorem zz_rk {j : Nat} (hj : j < (SM a0 g wd n A B).length) : rkj n (zZ a0 g wd rev n) A B (oO rev (SM a0 g wd n A B).length) j = (((SM a0 g wd n A B).getD j 0 : Nat) : Int) + 1 := by
  unfold rkj
  rw [zz_len, if_neg (by omega)]
  show (((oO rev n ((flt n (zZ a0 g wd rev n) A B).getD (oO rev (SM a0 g wd n A B).length j) 0) : Nat) : Int) + 1) = _
  have := fo_get rev n (fun i => mt (loZ a0 g wd i) (hiZ a0 g wd i) A B) (oO rev (SM a0 g wd n A B).length j) (oO_lt hj)
  have e : oO rev n ((flt n (zZ a0 g wd rev n) A B).getD (oO rev (SM a0 g wd n A B).length j) 0) = (SM a0 g wd n A B).getD (oO rev (SM a0 g wd n A B).length (oO rev (SM a0 g wd n A B).length j)) 0 := this
  rw [e, oO_two hj]
theorem zz_rk0 (hj : (SM a0 g wd n A B).length = 0) (s : Nat → Nat) (j : Nat) : rkj n (zZ a0 g wd rev n) A B s j = 0 := by
  unfold rkj
  rw [zz_len, if_pos hj]
end
/-- A row of ints. -/
def fI (i : Nat) : List Value := [.int .i64 (i : Int)]
theorem fI_len (i : Nat) : (fI i).length = 1 := rfl
theorem fI_one (i : Nat) : ∀ u ∈ fI i, u.oneCell' = true := by
  intro u hu
  simp [fI] at hu
  subst hu; rfl
theorem newsI (w : World) (x : Nat) (e : TypeId) : ∀ (j : Nat) (u : Value), (fI x)[j]? = some u → (w.alloc (.cells #[.int .i64 (x : Int)] e)).cell? ((⟨w.heap.size, 0, none⟩ : Addr).add j) = some u := by
  intro j u hu
  rw [add_h]
  match j, hu with
  | 0, hu => simp [fI] at hu; subst hu; go_simp
  | j + 1, hu => simp [fI] at hu
theorem info3 : (Yba.prog.info? 3).map (fun i => (i.zero, i.size, i.bytes)) = some (some (.int .i64 0), 1, 8) := by kernel_rfl
theorem own_ints {w : World} {base : Nat} {v : Value} {xs : List Nat} (H : w.ownsRow base 3 1 v xs.length (xs.flatMap fI)) : ∃ (ao : Option Addr) (c : Nat), v = .slice ao xs.length c ∧ (0 < xs.length → ∃ gm, ao = some ⟨gm, 0, none⟩ ∧ gm < w.heap.size ∧ ∀ j, j < xs.length → w.cell? ⟨gm, j, none⟩ = some (.int .i64 ((xs.getD j 0 : Nat) : Int))) := by
  rcases own_cell fI 1 fI_len H with ⟨rfl, rfl⟩ | ⟨g, c, rfl, h1, _, h3, h4, _⟩
  · exact ⟨none, 0, rfl, fun x => by simp at x⟩
  · refine ⟨_, c, rfl, fun _ => ⟨g, rfl, h3, fun i hi => ?_⟩⟩
    have := h4 i (xs.getD i 0) 0 (.int .i64 ((xs.getD i 0 : Nat) : Int)) (by simp [List.getD_eq_getElem?_getD, hi]) rfl
    simpa using this
theorem gb_base {w w' : World} {base e k n : Nat} {v : Value} {xs : List Value} (O : w.ownsRow base e k v n xs) (G : w.grownBy w' v.ownBlock) (hb : base ≤ w.heap.size) : Below base w w' :=
  ⟨G.os, G.tape, G.output, G.size, fun i hi => G.block i (by omega) (fun e => by have := (O.lt i e.symm).1; omega)⟩
end Go.Proofs.Ybulkdaxu
