import Derived.Test.YbulkdaxuSlabS0
import Derived.Test.YbulkdaxuSlabV
import Derived.Maps.AppendAt
namespace Go.Proofs.Ybulkdaxu
open Go.RowKit
set_option linter.unusedSimpArgs false
set_option linter.unusedVariables false

/-- A part: rank, corners. -/
abbrev PT := Int × Value × Value
def fP (p : PT) : List Value := [.int .i64 p.1, p.2.1, p.2.2]
theorem fP_len (p : PT) : (fP p).length = 3 := rfl
/-- An offered zone: five cells. -/
def f5c (z : Nat → Zn) (l u : Nat → Value) (i : Nat) : List Value := [.int .i64 (z i).rk, l i, u i, .bool false, .int .i64 0]
theorem f5c_len (z : Nat → Zn) (l u : Nat → Value) (i : Nat) : (f5c z l u i).length = 5 := rfl
theorem info45 : (Yba.prog.info? 45).map (fun i => (i.zero, i.size, i.bytes)) = some (some (.agg #[.int .i64 0, .slice none 0 0, .slice none 0 0, .bool false, .int .i64 0]), 5, 72) := by kernel_rfl
theorem info48 : (Yba.prog.info? 48).map (fun i => (i.zero, i.size, i.bytes)) = some (some (.agg #[.int .i64 0, .slice none 0 0, .slice none 0 0]), 3, 56) := by kernel_rfl
theorem news5 {z : Nat → Zn} {l u : Nat → Value} {i : Nat} {x y : Value} (hl : l i = x) (hu : u i = y) (w : World) (e : TypeId) : ∀ (j : Nat) (v : Value), (f5c z l u i)[j]? = some v → (w.alloc (.cells #[.int .i64 (z i).rk, x, y, .bool false, .int .i64 0] e)).cell? ((⟨w.heap.size, 0, none⟩ : Addr).add j) = some v := by
  subst hl hu
  intro j v hv
  rw [add_h]
  match j, hv with
  | 0, hv => simp [f5c] at hv; subst hv; go_simp
  | 1, hv => simp [f5c] at hv; subst hv; go_simp
  | 2, hv => simp [f5c] at hv; subst hv; go_simp
  | 3, hv => simp [f5c] at hv; subst hv; go_simp
  | 4, hv => simp [f5c] at hv; subst hv; go_simp
  | j + 5, hv => simp [f5c] at hv
theorem f5c_one {z : Nat → Zn} {l u : Nat → Value} {i : Nat} {a b : Option Addr} {n c n' c' : Nat} (hl : l i = .slice a n c) (hu : u i = .slice b n' c') : ∀ x ∈ f5c z l u i, x.oneCell' = true := by
  intro x hx
  simp [f5c, hl, hu] at hx
  rcases hx with rfl | rfl | rfl | rfl | rfl <;> rfl
theorem newsP (r : Int) (x y : Value) (w : World) (e : TypeId) : ∀ (j : Nat) (v : Value), (fP (r, x, y))[j]? = some v → (w.alloc (.cells #[.int .i64 r, x, y] e)).cell? ((⟨w.heap.size, 0, none⟩ : Addr).add j) = some v := by
  intro j v hv
  rw [add_h]
  match j, hv with
  | 0, hv => simp [fP] at hv; subst hv; go_simp
  | 1, hv => simp [fP] at hv; subst hv; go_simp
  | 2, hv => simp [fP] at hv; subst hv; go_simp
  | j + 3, hv => simp [fP] at hv
theorem fP_one (r : Int) (a b : Option Addr) (n c n' c' : Nat) : ∀ x ∈ fP (r, .slice a n c, .slice b n' c'), x.oneCell' = true := by
  intro x hx
  simp [fP] at hx
  rcases hx with rfl | rfl | rfl <;> rfl

/-- The row's block holds no double ahead: no corner lies in it. -/
def NF (w : World) (v : Value) : Prop := ∀ g, v.ownBlock = some g → ∀ k x, w.cell? ⟨g, 0, none⟩ ≠ some (.float k x)
theorem own_nf {w : World} {base : Nat} {v : Value} {ps : List PT} (H : w.ownsRow base 48 3 v ps.length (ps.flatMap fP)) (hp : ps ≠ []) : NF w v := by
  intro g hg k x
  rcases own_cell fP 3 fP_len H with ⟨_, e⟩ | ⟨g', c, rfl, h1, h2, h3, h4, _⟩
  · exact absurd e hp
  · have : g' = g := by simpa [Value.ownBlock] using hg
    subst this
    match ps, hp with
    | p :: r, _ =>
      have := h4 0 p 0 (.int .i64 p.1) rfl rfl
      have h0 : w.cell? ⟨g', 0, none⟩ = some (.int .i64 p.1) := this
      rw [h0]
      intro e
      cases e
theorem HR.kept {h : Int → Nat} {w w' : World} {v pv : Value} {d : Nat} {x : Nat → Int} (H : HR h w v d x) (hd : 0 < d) (N : NF w pv) (g : w.grownBy w' pv.ownBlock) : HR h w' v d x := by
  obtain ⟨b, c, rfl, h1, h2, h3⟩ := H
  refine ⟨b, c, rfl, h1, Nat.lt_of_lt_of_le h2 g.size, fun k hk => ?_⟩
  rw [World.cell?_of_block (a := ⟨b, k, none⟩) (g.block b h2 ?_)]
  · exact h3 k hk
  · intro e
    exact N b e.symm _ _ (h3 0 hd)
theorem CO.kept {h : Int → Nat} {w w' : World} {l u pv : Value} {d : Nat} {lo hi : Int} (H : CO h w d l u lo hi) (hd : 0 < d) (N : NF w pv) (g : w.grownBy w' pv.ownBlock) : CO h w' d l u lo hi := ⟨H.1.kept hd N g, H.2.1.kept hd N g, H.2.2⟩
theorem HD.kept {h : Int → Nat} {w w' : World} {pv : Value} {d hb : Nat} (H : HD h w d hb) (hd : 0 < d) (N : NF w pv) (hne : some hb ≠ pv.ownBlock) (g : w.grownBy w' pv.ownBlock) : HD h w' d hb := by
  obtain ⟨h1, t1, t2, h2, h3, h4, h5⟩ := H
  refine ⟨Nat.lt_of_lt_of_le h1 g.size, t1, t2, ?_, ?_, h4.kept hd N g, h5.kept hd N g⟩
  · rw [World.cell?_of_block (a := ⟨hb, 0, none⟩) (g.block hb h1 hne)]; exact h2
  · rw [World.cell?_of_block (a := ⟨hb, 1, none⟩) (g.block hb h1 hne)]; exact h3
theorem R5.kept {w w' : World} {b n : Nat} {rk : Nat → Int} {l u : Nat → Value} {row : Option Nat} (H : R5 w b n rk l u) (hne : some b ≠ row) (g : w.grownBy w' row) : R5 w' b n rk l u := by
  have e : ∀ i, w'.cell? ⟨b, i, none⟩ = w.cell? ⟨b, i, none⟩ := fun i => World.cell?_of_block (a := ⟨b, i, none⟩) (g.block b H.lt hne)
  exact ⟨Nat.lt_of_lt_of_le H.lt g.size, fun i hi => (e _).trans (H.f0 i hi), fun i hi => (e _).trans (H.f1 i hi), fun i hi => (e _).trans (H.f2 i hi), fun i hi => (e _).trans (H.f3 i hi), fun i hi => (e _).trans (H.f4 i hi)⟩
theorem ZW.kept {h : Int → Nat} {w w' : World} {d : Nat} {v pv : Value} {n : Nat} {z : Nat → Zn} (H : ZW h w d v n z) (hd : 0 < d) (N : NF w pv) (hne : v.ownBlock = none ∨ v.ownBlock ≠ pv.ownBlock) (g : w.grownBy w' pv.ownBlock) : ZW h w' d v n z := by
  rcases H with H | ⟨b, c, l, u, rfl, h2, h3, h4, h5⟩
  · exact .inl H
  · refine .inr ⟨b, c, l, u, rfl, h2, h3, h4.kept ?_ g, fun i hi => (h5 i hi).kept hd N g⟩
    simpa [Value.ownBlock] using hne
theorem RT.kept {h : Int → Nat} {w w' : World} {b n : Nat} {t : Nat → Int} {row : Option Nat} (H : RT h w b n t) (hne : some b ≠ row) (g : w.grownBy w' row) : RT h w' b n t := by
  have e : ∀ i, w'.cell? ⟨b, i, none⟩ = w.cell? ⟨b, i, none⟩ := fun i => World.cell?_of_block (a := ⟨b, i, none⟩) (g.block b H.lt hne)
  exact ⟨Nat.lt_of_lt_of_le H.lt g.size, fun i hi => (e _).trans (H.f0 i hi), fun i hi => (e _).trans (H.f1 i hi), fun i hi => (e _).trans (H.f2 i hi)⟩
theorem gb_below {w w' : World} (row : Option Nat) (B : Below w.heap.size w w') : w.grownBy w' row := ⟨B.os, B.tape, B.output, B.size, fun k hk _ => B.block k hk⟩
theorem gb_trans {a b c : World} {r1 r2 : Option Nat} (h : a.grownBy b r1) (k : b.grownBy c r2) (hr : r2 = r1 ∨ ∃ g, r2 = some g ∧ a.heap.size ≤ g) : a.grownBy c r1 := by
  refine ⟨k.os.trans h.os, k.tape.trans h.tape, k.output.trans h.output, Nat.le_trans h.size k.size, fun i hi hne => (k.block i (Nat.lt_of_lt_of_le hi h.size) ?_).trans (h.block i hi hne)⟩
  rcases hr with rfl | ⟨g, rfl, hg⟩
  · exact hne
  · intro e; cases e; omega
theorem ZW.congr {h : Int → Nat} {w : World} {d : Nat} {v : Value} {n : Nat} {z z' : Nat → Zn} (H : ZW h w d v n z) (e : ∀ i, i < n → z' i = z i) : ZW h w d v n z' := by
  rcases H with H | ⟨b, c, l, u, rfl, h2, h3, h4, h5⟩
  · exact .inl H
  · refine .inr ⟨b, c, l, u, rfl, h2, h3, ⟨h4.lt, fun i hi => ?_, h4.f1, h4.f2, h4.f3, h4.f4⟩, fun i hi => by rw [e i hi]; exact h5 i hi⟩
    rw [h4.f0 i hi, e i hi]
theorem own_zw {h : Int → Nat} {w : World} {d base : Nat} {v : Value} {z : Nat → Zn} {l u : Nat → Value} {xs : List Nat} (H : w.ownsRow base 45 5 v xs.length (xs.flatMap (f5c z l u))) (C : ∀ i ∈ xs, CO h w d (l i) (u i) (z i).lo (z i).hi) : ZW h w d v xs.length (fun i => z (xs.getD i 0)) := by
  rcases own_cell (f5c z l u) 5 (f5c_len z l u) H with ⟨rfl, rfl⟩ | ⟨g, c, rfl, h1, h2, h3, h4, _⟩
  · exact .inl ⟨rfl, _, _, rfl⟩
  · rcases Nat.eq_zero_or_pos xs.length with e | e
    · rw [e]; exact .inl ⟨rfl, _, _, rfl⟩
    · have hg : ∀ i, i < xs.length → xs[i]? = some (xs.getD i 0) := fun i hi => by simp [List.getD_eq_getElem?_getD, hi]
      refine .inr ⟨g, c, fun i => l (xs.getD i 0), fun i => u (xs.getD i 0), rfl, h1, e, ⟨h3, fun i hi => h4 i _ 0 _ (hg i hi) rfl, fun i hi => h4 i _ 1 _ (hg i hi) rfl, fun i hi => h4 i _ 2 _ (hg i hi) rfl, fun i hi => h4 i _ 3 _ (hg i hi) rfl, fun i hi => h4 i _ 4 _ (hg i hi) rfl⟩, fun i hi => C _ ?_⟩
      have e : xs.getD i 0 = xs[i] := by simp [List.getD_eq_getElem?_getD, hi]
      rw [e]; exact List.getElem_mem hi
end Go.Proofs.Ybulkdaxu
