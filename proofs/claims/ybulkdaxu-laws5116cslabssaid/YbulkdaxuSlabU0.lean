import Derived.Test.YbulkdaxuSlabT
import Derived.Test.YbulkdaxuSlabW
namespace Go.Proofs.Ybulkdaxu
open Go.RowKit
set_option linter.unusedSimpArgs false
set_option linter.unusedVariables false

/-- A row of bytes that came in. -/
def Ar8 (w : World) (a : Option Addr) (len : Nat) (z : Nat → Int) : Prop :=
  len = 0 ∨ ∃ b off, a = some ⟨b, off, none⟩ ∧ b < w.heap.size ∧ ∀ j, j < len → w.cell? ⟨b, off + j, none⟩ = some (.int .u8 (z j))
/-- Where the next zone may begin. -/
def cu (a0 : Int) (g wd : Nat → Int) : Nat → Int
  | 0 => a0
  | i + 1 => cu a0 g wd i + g i + wd i + 1
def loZ (a0 : Int) (g wd : Nat → Int) (i : Nat) : Int := 2 * (cu a0 g wd i + g i)
def hiZ (a0 : Int) (g wd : Nat → Int) (i : Nat) : Int := 2 * cu a0 g wd (i + 1)
section
theorem cu_bd {a0 : Int} {g wd : Nat → Int} (hg : ∀ j, 0 ≤ g j ∧ g j ≤ 255) (hw : ∀ j, 0 ≤ wd j ∧ wd j ≤ 255) (i : Nat) : a0 ≤ cu a0 g wd i ∧ cu a0 g wd i ≤ a0 + 511 * i := by
  induction i with
  | zero => simp [cu]
  | succ i ih =>
    have := hg i
    have := hw i
    simp only [cu]
    omega
theorem cu_mono {a0 : Int} {g wd : Nat → Int} (hg : ∀ j, 0 ≤ g j ∧ g j ≤ 255) (hw : ∀ j, 0 ≤ wd j ∧ wd j ≤ 255) {i j : Nat} (h : i ≤ j) : cu a0 g wd i ≤ cu a0 g wd j := by
  induction j with
  | zero => obtain rfl : i = 0 := by omega
            exact Int.le_refl _
  | succ j ih =>
    rcases Nat.eq_or_lt_of_le h with e | e
    · rw [e]; exact Int.le_refl _
    · have := ih (by omega)
      have := hg j
      have := hw j
      simp only [cu]
      omega
theorem z_lt {a0 : Int} {g wd : Nat → Int} (hw : ∀ j, 0 ≤ wd j ∧ wd j ≤ 255) (i : Nat) : loZ a0 g wd i < hiZ a0 g wd i := by
  have := hw i
  unfold loZ hiZ
  simp only [cu]
  omega
theorem z_nx {a0 : Int} {g wd : Nat → Int} (hg : ∀ j, 0 ≤ g j ∧ g j ≤ 255) (hw : ∀ j, 0 ≤ wd j ∧ wd j ≤ 255) {i j : Nat} (h : i < j) : hiZ a0 g wd i ≤ loZ a0 g wd j := by
  have := cu_mono (a0 := a0) hg hw (i := i + 1) (j := j) h
  have := hg j
  unfold loZ hiZ
  omega
theorem z_bd {a0 : Int} {g wd : Nat → Int} (hg : ∀ j, 0 ≤ g j ∧ g j ≤ 255) (hw : ∀ j, 0 ≤ wd j ∧ wd j ≤ 255) (h0 : -128 ≤ a0 ∧ a0 ≤ 127) {n i : Nat} (hn : n ≤ 512) (hi : i < n) : (-1000000 ≤ loZ a0 g wd i ∧ loZ a0 g wd i ≤ 1000000) ∧ (-1000000 ≤ hiZ a0 g wd i ∧ hiZ a0 g wd i ≤ 1000000) ∧ (-1000000 ≤ 2 * cu a0 g wd i ∧ 2 * cu a0 g wd i ≤ 1000000) := by
  have h1 := cu_bd (a0 := a0) hg hw i
  have h2 := cu_bd (a0 := a0) hg hw (i + 1)
  have := hg i
  unfold loZ hiZ
  omega
end
theorem mk_cap {t e : TypeId} {z : Value} {sz by_ : Nat} (hu : Yba.prog.underlying t = some (.slice e)) (hi : (Yba.prog.info? e).map (fun i => (i.zero, i.size, i.bytes)) = some (some z, sz, by_))
    (n : Nat) (h : by_ * n ≤ 281474976710656) (hn : n ≤ 1000000) (w : World) :
    (Instr.makeSlice t (.int .i64 0) (.int .i64 n)).run Yba.prog w = .ok (.slice (some ⟨w.heap.size, 0, none⟩) 0 n) (w.alloc (.cells (madeCells z.cells (n * sz)).toList.toArray e)) := by
  obtain ⟨i, h1, h2, h3, h4⟩ := info_parts hi
  have hb : (i.bytes : Int) * n ≤ 281474976710656 := by rw [h4, ← Int.natCast_mul]; exact Int.ofNat_le.2 h
  have := run_make (P := Yba.prog) w t e i z hu h1 h2 .i64 .i64 (0 : Int) (n : Int) (by omega) (by omega) hb (by omega)
  rw [h3] at this
  rw [this]
  congr 1
/-- A zone offered, out of a list. -/
def f5p (p : PT) : List Value := [.int .i64 p.1, p.2.1, p.2.2, .bool false, .int .i64 0]
theorem f5p_len (p : PT) : (f5p p).length = 5 := rfl
theorem f5p_one (r : Int) (a b : Option Addr) (n c n' c' : Nat) : ∀ x ∈ f5p (r, .slice a n c, .slice b n' c'), x.oneCell' = true := by
  intro x hx
  simp [f5p] at hx
  rcases hx with rfl | rfl | rfl | rfl | rfl <;> rfl
theorem news5p (r : Int) (x y : Value) (w : World) (e : TypeId) : ∀ (j : Nat) (v : Value), (f5p (r, x, y))[j]? = some v → (w.alloc (.cells #[.int .i64 r, x, y, .bool false, .int .i64 0] e)).cell? ((⟨w.heap.size, 0, none⟩ : Addr).add j) = some v := by
  intro j v hv
  rw [add_h]
  match j, hv with
  | 0, hv => simp [f5p] at hv; subst hv; go_simp
  | 1, hv => simp [f5p] at hv; subst hv; go_simp
  | 2, hv => simp [f5p] at hv; subst hv; go_simp
  | 3, hv => simp [f5p] at hv; subst hv; go_simp
  | 4, hv => simp [f5p] at hv; subst hv; go_simp
  | j + 5, hv => simp [f5p] at hv
theorem own_zwp {h : Int → Nat} {w : World} {d base n : Nat} {v : Value} {z : Nat → Zn} {xs : List PT} (H : w.ownsRow base 45 5 v xs.length (xs.flatMap f5p)) (hn : xs.length = n) (C : ∀ t, t < n → ∃ l u, xs[t]? = some ((z t).rk, l, u) ∧ CO h w d l u (z t).lo (z t).hi) : ZW h w d v n z := by
  rcases own_cell f5p 5 f5p_len H with ⟨rfl, rfl⟩ | ⟨g, c, rfl, h1, h2, h3, h4, _⟩
  · have : n = 0 := by simpa using hn.symm
    subst this
    exact .inl ⟨rfl, _, _, rfl⟩
  · rcases Nat.eq_zero_or_pos n with e | e
    · rw [hn, e]; exact .inl ⟨rfl, _, _, rfl⟩
    · have cl : ∀ t, t < n → xs[t]? = some ((z t).rk, (xs.getD t (0, .bool false, .bool false)).2.1, (xs.getD t (0, .bool false, .bool false)).2.2) ∧ CO h w d (xs.getD t (0, .bool false, .bool false)).2.1 (xs.getD t (0, .bool false, .bool false)).2.2 (z t).lo (z t).hi := fun t ht => by
        obtain ⟨l, u, q1, q2⟩ := C t ht
        rw [List.getD_eq_getElem?_getD, q1]
        exact ⟨rfl, q2⟩
      rw [hn] at h1 ⊢
      refine .inr ⟨g, c, fun t => (xs.getD t (0, .bool false, .bool false)).2.1, fun t => (xs.getD t (0, .bool false, .bool false)).2.2, rfl, h1, e, ⟨h3, fun i hi => h4 i _ 0 _ (cl i hi).1 rfl, fun i hi => h4 i _ 1 _ (cl i hi).1 rfl, fun i hi => h4 i _ 2 _ (cl i hi).1 rfl, fun i hi => h4 i _ 3 _ (cl i hi).1 rfl, fun i hi => h4 i _ 4 _ (cl i hi).1 rfl⟩, fun i hi => (cl i hi).2⟩
/-- What a part of an owned row lets be read. -/
theorem own_part {w : World} {base : Nat} {v : Value} {xs : List PT} (H : w.ownsRow base 48 3 v xs.length (xs.flatMap fP)) {t : Nat} {p : PT} (ht : xs[t]? = some p) : ∃ g c, v = .slice (some ⟨g, 0, none⟩) xs.length c ∧ g < w.heap.size ∧ w.cell? ⟨g, t * 3, none⟩ = some (.int .i64 p.1) ∧ w.cell? ⟨g, t * 3 + 1, none⟩ = some p.2.1 ∧ w.cell? ⟨g, t * 3 + 2, none⟩ = some p.2.2 := by
  rcases own_cell fP 3 fP_len H with ⟨_, rfl⟩ | ⟨g, c, rfl, h1, h2, h3, h4, _⟩
  · simp at ht
  · exact ⟨g, c, rfl, h3, h4 t p 0 _ ht rfl, h4 t p 1 _ ht rfl, h4 t p 2 _ ht rfl⟩
end Go.Proofs.Ybulkdaxu
