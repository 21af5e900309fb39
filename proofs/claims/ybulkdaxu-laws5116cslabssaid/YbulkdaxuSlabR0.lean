import Derived.Test.YbulkdaxuSlabQ
namespace Go.Proofs.Ybulkdaxu
open Go.RowKit
set_option linter.unusedSimpArgs false
set_option linter.unusedVariables false

theorem mk23b (n : Nat) (hn : n ≤ 600) (w : World) : (Instr.makeSlice 23 (.int .i64 (2 * (n : Int))) (.int .i64 (2 * (n : Int)))).run Yba.prog w = .ok (.slice (some ⟨w.heap.size, 0, none⟩) (2 * n) (2 * n)) (w.alloc (.cells (ZF (2 * n)).toArray 31)) := by
  have := mk_any Yba.underlying23 info31 (2 * n) (by omega) (by omega) w
  rw [show ((2 * n : Nat) : Int) = 2 * (n : Int) by omega, Nat.mul_one] at this
  exact this
/-- A box as two cells; a double as one. -/
def f2 (l u : Nat → Value) (i : Nat) : List Value := [l i, u i]
theorem f2_len (l u : Nat → Value) (i : Nat) : (f2 l u i).length = 2 := rfl
def f1 (h : Int → Nat) (x : Int) : List Value := [.float .f64 (h x)]
theorem f1_len (h : Int → Nat) (x : Int) : (f1 h x).length = 1 := rfl
theorem f1_one (h : Int → Nat) (x : Int) : ∀ u ∈ f1 h x, u.oneCell' = true := by
  intro u hu
  simp [f1] at hu
  subst hu; rfl
theorem news1 (h : Int → Nat) (w : World) (x : Int) (e : TypeId) : ∀ (j : Nat) (u : Value), (f1 h x)[j]? = some u → (w.alloc (.cells #[.float .f64 (h x)] e)).cell? ((⟨w.heap.size, 0, none⟩ : Addr).add j) = some u := by
  intro j u hu
  rw [add_h]
  match j, hu with
  | 0, hu => simp [f1] at hu; subst hu; go_simp
  | j + 1, hu => simp [f1] at hu
theorem f2_one {l u : Nat → Value} {i : Nat} {a b : Option Addr} {n c n' c' : Nat} (hl : l i = .slice a n c) (hu : u i = .slice b n' c') : ∀ x ∈ f2 l u i, x.oneCell' = true := by
  intro x hx
  simp [f2, hl, hu] at hx
  rcases hx with rfl | rfl <;> rfl
theorem news2 {l u : Nat → Value} {i : Nat} {x y : Value} (hl : l i = x) (hu : u i = y) (w : World) (e : TypeId) : ∀ (j : Nat) (v : Value), (f2 l u i)[j]? = some v → (w.alloc (.cells #[x, y] e)).cell? ((⟨w.heap.size, 0, none⟩ : Addr).add j) = some v := by
  subst hl hu
  intro j v hv
  rw [add_h]
  match j, hv with
  | 0, hv => simp [f2] at hv; subst hv; go_simp
  | 1, hv => simp [f2] at hv; subst hv; go_simp
  | j + 2, hv => simp [f2] at hv
theorem info27 : (Yba.prog.info? 27).map (fun i => (i.zero, i.size, i.bytes)) = some (some (.agg #[.slice none 0 0, .slice none 0 0]), 2, 48) := by kernel_rfl
/-- face = face[:0] -/
theorem own_cut0 {w : World} {base e k g n c : Nat} {xs : List Value} (H : w.ownsRow base e k (.slice (some ⟨g, 0, none⟩) n c) n xs) : w.ownsRow base e k (.slice (some ⟨g, 0, none⟩) 0 c) 0 [] := by
  refine ⟨by simp, ?_⟩
  rcases H.2 with ⟨h, _⟩ | ⟨g', c', cur, h1, h2, h3, h4, h5, h6, h7⟩
  · cases h
  · cases h1
    exact .inr ⟨g, c, cur, rfl, h2, h3, Nat.zero_le _, h5, h6, by simp⟩
/-- Rows of different kinds of elements lie apart. -/
theorem own_apart {w : World} {b1 b2 e1 e2 k1 k2 n1 n2 : Nat} {v1 v2 : Value} {xs1 xs2 : List Value} (H1 : w.ownsRow b1 e1 k1 v1 n1 xs1) (H2 : w.ownsRow b2 e2 k2 v2 n2 xs2) (hne : e1 ≠ e2) : v1.ownBlock = none ∨ v1.ownBlock ≠ v2.ownBlock := by
  rcases H1.2 with ⟨rfl, _⟩ | ⟨g, c, cur, rfl, _, h3, _⟩
  · exact .inl rfl
  · refine .inr fun he => ?_
    rcases H2.2 with ⟨rfl, _⟩ | ⟨g', c', cur', rfl, _, h3', _⟩
    · cases he
    · have : g = g' := by simpa [Value.ownBlock] using he
      subst this
      rw [h3] at h3'
      simp only [Option.some.injEq, Obj.cells.injEq] at h3'
      exact hne h3'.2.1
/-- One box in a row, as a row of boxes. -/
theorem own_bs {h : Int → Nat} {w : World} {d base g c i : Nat} {l u : Nat → Value} {lo hi : Int} (H : w.ownsRow base 27 2 (.slice (some ⟨g, 0, none⟩) 1 c) [i].length ([i].flatMap (f2 l u))) (C : CO h w d (l i) (u i) lo hi) : BS h w d g 1 (fun _ => lo) (fun _ => hi) := by
  rcases own_cell (f2 l u) 2 (f2_len l u) H with ⟨h1, _⟩ | ⟨g', c', h1, h2, h3, h4, h5, h6⟩
  · cases h1
  · cases h1
    refine ⟨fun _ => l i, fun _ => u i, ⟨h4, fun j hj => ?_, fun j hj => ?_⟩, fun j hj => C⟩
    · obtain rfl : j = 0 := by omega
      exact h5 0 i 0 (l i) rfl rfl
    · obtain rfl : j = 0 := by omega
      exact h5 0 i 1 (u i) rfl rfl
end Go.Proofs.Ybulkdaxu
