/-
  A STORE OF NAMED BLOCKS. Each block of cells that the call itself has made bears a name (a number); two names never share a block ('inj').
  'Good w0 w S': in the world w every named block lies as the store S says; below w0's heap nothing has turned.
-/
import Derived.WalkKit
import Derived.Deep.RegionLaw
import Derived.Deep.QuietTactic
namespace Go.Proofs.Ybulkdasy
open Go.RowKit

structure Sto where
  dom : Nat → Prop
  loc : Nat → Nat
  cells : Nat → List Value
  ty : Nat → TypeId

def Sto.put (S : Sto) (x b : Nat) (cs : List Value) (t : TypeId) : Sto where
  dom := fun y => y = x ∨ S.dom y
  loc := fun y => if y = x then b else S.loc y
  cells := fun y => if y = x then cs else S.cells y
  ty := fun y => if y = x then t else S.ty y

def Sto.set (S : Sto) (x k : Nat) (v : Value) : Sto :=
  { S with cells := fun y => if y = x then (S.cells x).set k v else S.cells y }

structure Good (w0 w : World) (S : Sto) : Prop where
  below : Below w0.heap.size w0 w
  has : ∀ x, S.dom x → w.heap[S.loc x]? = some (.cells (S.cells x).toArray (S.ty x) (0, 0))
  base : ∀ x, S.dom x → w0.heap.size ≤ S.loc x
  inj : ∀ x y, S.dom x → S.dom y → S.loc x = S.loc y → x = y

/-- S' is S but for the name x. -/
def Off (x : Nat) (S S' : Sto) : Prop := ∀ y, y ≠ x → (S'.dom y ↔ S.dom y) ∧ S'.loc y = S.loc y ∧ S'.cells y = S.cells y ∧ S'.ty y = S.ty y

section
variable {w0 w : World} {S : Sto}

theorem Good.empty (w : World) (loc : Nat → Nat) : Good w w { dom := fun _ => False, loc := loc, cells := fun _ => [], ty := fun _ => 0 } :=
  ⟨Below.refl _ _, fun _ h => h.elim, fun _ h => h.elim, fun _ _ h => h.elim⟩

theorem Good.lt (h : Good w0 w S) {x : Nat} (hx : S.dom x) : S.loc x < w.heap.size := (Array.getElem?_eq_some_iff.1 (h.has x hx)).1

theorem Good.ne (h : Good w0 w S) {x y : Nat} (hx : S.dom x) (hy : S.dom y) (hn : x ≠ y) : S.loc x ≠ S.loc y := fun e => hn (h.inj x y hx hy e)

theorem Good.cell (h : Good w0 w S) (x k : Nat) {v : Value} (hx : S.dom x) (hk : (S.cells x)[k]? = some v) : w.cell? ⟨S.loc x, k, none⟩ = some v := by
  simp [World.cell?, h.has x hx, hk]

theorem Good.free (h : Good w0 w S) (x k : Nat) (hx : S.dom x) : w.frozen? ⟨S.loc x, k, none⟩ = false := by
  simp [World.frozen?, h.has x hx]

theorem Good.drew (h : Good w0 w S) : Good w0 w.drew S := ⟨h.below.drew, h.has, h.base, h.inj⟩

theorem Good.drewN (h : Good w0 w S) (n : Nat) : Good w0 (w.drewN n) S :=
  ⟨⟨h.below.os, h.below.tape, h.below.output, h.below.size, h.below.block⟩, h.has, h.base, h.inj⟩

theorem Good.alloc (h : Good w0 w S) (o : Obj) : Good w0 (w.alloc o) S :=
  ⟨h.below.alloc h.below.size o, fun x hx => by rw [Below.heap_alloc _ _ _ (h.lt hx)]; exact h.has x hx, h.base, h.inj⟩

theorem Good.new (h : Good w0 w S) (x : Nat) (cs : List Value) (t : TypeId) : Good w0 (w.alloc (.cells cs.toArray t)) (S.put x w.heap.size cs t) := by
  have hl : ∀ y, S.dom y → S.loc y < w.heap.size := fun y hy => h.lt hy
  refine ⟨h.below.alloc h.below.size _, fun y hy => ?_, fun y hy => ?_, fun y z hy hz e => ?_⟩
  · by_cases e : y = x
    · simp only [Sto.put, e, if_pos]; exact heap_alloc_new w _
    · have hy' : S.dom y := by simpa [Sto.put, e] using hy
      simp only [Sto.put, if_neg e]; rw [Below.heap_alloc _ _ _ (h.lt hy')]; exact h.has y hy'
  · by_cases e : y = x
    · simp only [Sto.put, e, if_pos]; exact h.below.size
    · have hy' : S.dom y := by simpa [Sto.put, e] using hy
      simp only [Sto.put, if_neg e]; exact h.base y hy'
  · by_cases ey : y = x <;> by_cases ez : z = x
    · rw [ey, ez]
    · have hz' : S.dom z := by simpa [Sto.put, ez] using hz
      have := hl z hz'
      simp [Sto.put, ey, ez] at e; omega
    · have hy' : S.dom y := by simpa [Sto.put, ey] using hy
      have := hl y hy'
      simp [Sto.put, ey, ez] at e; omega
    · have hy' : S.dom y := by simpa [Sto.put, ey] using hy
      have hz' : S.dom z := by simpa [Sto.put, ez] using hz
      simp [Sto.put, ey, ez] at e
      exact h.inj y z hy' hz' e

/-- A block's whole contents are turned. -/
theorem Good.turn (h : Good w0 w S) {w' : World} (x : Nat) (hx : S.dom x) (cs : List Value)
    (hb : Below w0.heap.size w w') (hh : w'.heap[S.loc x]? = some (.cells cs.toArray (S.ty x) (0, 0))) (ho : ∀ k, k < w.heap.size → k ≠ S.loc x → w'.heap[k]? = w.heap[k]?) :
    Good w0 w' { S with cells := fun y => if y = x then cs else S.cells y } := by
  refine ⟨h.below.trans hb, fun y hy => ?_, h.base, h.inj⟩
  by_cases e : y = x
  · subst e; simpa using hh
  · simp only [if_neg e]
    rw [ho _ (h.lt hy) (h.ne hy hx e)]
    exact h.has y hy

theorem heap_setCell_at (w : World) (b k : Nat) (v : Value) (cs : List Value) (t : TypeId) (fr : Nat × Nat) (h : w.heap[b]? = some (.cells cs.toArray t fr)) :
    (w.setCell ⟨b, k, none⟩ v).heap[b]? = some (.cells (cs.set k v).toArray t fr) := by
  simp [World.setCell, Array.getElem?_modify, h]

theorem Good.setCell (h : Good w0 w S) (x k : Nat) (hx : S.dom x) (v : Value) : Good w0 (w.setCell ⟨S.loc x, k, none⟩ v) (S.set x k v) :=
  h.turn x hx _ ((Below.refl _ _).setCell (h.base x hx) v) (heap_setCell_at w _ k v _ _ _ (h.has x hx)) (fun _ _ hj => Below.heap_setCell _ _ _ _ hj)

/-- The name x now stands for a new block. -/
theorem Good.moved (h : Good w0 w S) {w' : World} (x b : Nat) (cs : List Value) (t : TypeId)
    (hb : Below w0.heap.size w w') (hnew : w.heap.size ≤ b) (hh : w'.heap[b]? = some (.cells cs.toArray t (0, 0))) (ho : ∀ k, k < w.heap.size → w'.heap[k]? = w.heap[k]?) :
    Good w0 w' (S.put x b cs t) := by
  have hl : ∀ y, S.dom y → S.loc y < w.heap.size := fun y hy => h.lt hy
  refine ⟨h.below.trans hb, fun y hy => ?_, fun y hy => ?_, fun y z hy hz e => ?_⟩
  · by_cases e : y = x
    · simp only [Sto.put, e, if_pos]; exact hh
    · have hy' : S.dom y := by simpa [Sto.put, e] using hy
      simp only [Sto.put, if_neg e]; rw [ho _ (h.lt hy')]; exact h.has y hy'
  · by_cases e : y = x
    · simp only [Sto.put, e, if_pos]; exact Nat.le_trans h.below.size hnew
    · have hy' : S.dom y := by simpa [Sto.put, e] using hy
      simp only [Sto.put, if_neg e]; exact h.base y hy'
  · by_cases ey : y = x <;> by_cases ez : z = x
    · rw [ey, ez]
    · have hz' : S.dom z := by simpa [Sto.put, ez] using hz
      have := hl z hz'
      simp [Sto.put, ey, ez] at e; omega
    · have hy' : S.dom y := by simpa [Sto.put, ey] using hy
      have := hl y hy'
      simp [Sto.put, ey, ez] at e; omega
    · have hy' : S.dom y := by simpa [Sto.put, ey] using hy
      have hz' : S.dom z := by simpa [Sto.put, ez] using hz
      simp [Sto.put, ey, ez] at e
      exact h.inj y z hy' hz' e

/-- A block that bears no name yet is given one. -/
theorem Good.name (h : Good w0 w S) (x b : Nat) (cs : List Value) (t : TypeId) (hb : w0.heap.size ≤ b) (hn : ∀ y, S.dom y → S.loc y ≠ b) (hh : w.heap[b]? = some (.cells cs.toArray t (0, 0))) :
    Good w0 w (S.put x b cs t) := by
  refine ⟨h.below, fun y hy => ?_, fun y hy => ?_, fun y z hy hz e => ?_⟩
  · by_cases e : y = x
    · simp only [Sto.put, e, if_pos]; exact hh
    · have hy' : S.dom y := by simpa [Sto.put, e] using hy
      simp only [Sto.put, if_neg e]; exact h.has y hy'
  · by_cases e : y = x
    · simp only [Sto.put, e, if_pos]; exact hb
    · have hy' : S.dom y := by simpa [Sto.put, e] using hy
      simp only [Sto.put, if_neg e]; exact h.base y hy'
  · by_cases ey : y = x <;> by_cases ez : z = x
    · rw [ey, ez]
    · have hz' : S.dom z := by simpa [Sto.put, ez] using hz
      have := hn z hz'
      simp [Sto.put, ey, ez] at e; omega
    · have hy' : S.dom y := by simpa [Sto.put, ey] using hy
      have := hn y hy'
      simp [Sto.put, ey, ez] at e; omega
    · have hy' : S.dom y := by simpa [Sto.put, ey] using hy
      have hz' : S.dom z := by simpa [Sto.put, ez] using hz
      simp [Sto.put, ey, ez] at e
      exact h.inj y z hy' hz' e

/-- Nothing that was there has turned. -/
theorem Good.grown (h : Good w0 w S) {w' : World} (hb : Below w.heap.size w w') : Good w0 w' S :=
  ⟨h.below.trans (hb.mono h.below.size), fun x hx => by rw [hb.block _ (h.lt hx)]; exact h.has x hx, h.base, h.inj⟩

theorem Off.put (S : Sto) (x b : Nat) (cs : List Value) (t : TypeId) : Off x S (S.put x b cs t) := by
  intro y hy
  simp [Sto.put, hy]

theorem Off.cells (S : Sto) (x : Nat) (cs : List Value) : Off x S { S with cells := fun y => if y = x then cs else S.cells y } := by
  intro y hy
  simp [hy]

theorem Off.set (S : Sto) (x k : Nat) (v : Value) : Off x S (S.set x k v) := by
  intro y hy
  simp [Sto.set, hy]

/-- A slice of one-cell elements of type 3 (int) that may grow: nil and empty, or at the head of the block named x. -/
def Row (S : Sto) (x : Nat) (v : Value) (xs : List Value) : Prop :=
  (v = .slice none 0 0 ∧ xs = []) ∨
  (S.dom x ∧ ∃ sp : List Value, v = .slice (some ⟨S.loc x, 0, none⟩) xs.length (xs.length + sp.length) ∧ S.cells x = xs ++ sp ∧ S.ty x = 3 ∧ xs.length + sp.length ≤ maxLen)

theorem Row.nil (S : Sto) (x : Nat) : Row S x (.slice none 0 0) [] := .inl ⟨rfl, rfl⟩

theorem Row.off {x y : Nat} {S S' : Sto} {v : Value} {xs : List Value} (h : Row S x v xs) (ho : Off y S S') (hn : x ≠ y) : Row S' x v xs := by
  obtain ⟨o1, o2, o3, o4⟩ := ho x hn
  rcases h with h | ⟨hd, sp, h1, h2, h3, h4⟩
  · exact .inl h
  · exact .inr ⟨o1.2 hd, sp, by rw [o2]; exact h1, by rw [o3]; exact h2, by rw [o4]; exact h3, h4⟩

theorem Row.cell {x : Nat} {v : Value} {xs : List Value} (h : Row S x v xs) (hG : Good w0 w S) {k : Nat} {u : Value} (hu : xs[k]? = some u) :
    ∃ cap, v = .slice (some ⟨S.loc x, 0, none⟩) xs.length cap ∧ w.cell? ⟨S.loc x, k, none⟩ = some u := by
  rcases h with ⟨_, rfl⟩ | ⟨hd, sp, h1, h2, h3, h4⟩
  · simp at hu
  · exact ⟨_, h1, hG.cell x k hd (by rw [h2, List.getElem?_append_left (List.getElem?_eq_some_iff.1 hu).1]; exact hu)⟩

/-- The value of a row tells its length. -/
theorem Row.form {x : Nat} {v : Value} {xs : List Value} (h : Row S x v xs) : ∃ a c, v = .slice a xs.length c := by
  rcases h with ⟨h, rfl⟩ | ⟨_, sp, h, _⟩
  · exact ⟨none, 0, h⟩
  · exact ⟨_, _, h⟩

/-- ONE ELEMENT APPENDED TO A ROW. -/
theorem run_append_row {P : Program} {i : TypeInfo} (hi : P.info? 3 = some i) (hz : i.zero = some (.int .i64 0)) (hs : i.size = 1) (hby : i.bytes = 8)
    (t ty : TypeId) (ht : P.underlying t = some (.slice 3)) (hG : Good w0 w S) (x : Nat) (v : Value) (xs : List Value) (hR : Row S x v xs)
    (a : Addr) (u : Value) (c : Nat) (hu : w.cell? a = some u) (h1 : u.oneCell' = true) (hlen : xs.length + 1 ≤ 1099511627776) (ha : a.spot = none) :
    ∃ v' w' S', (Builtin.append_ #[t, t] ty #[v, .slice (some a) 1 c]).run P w = .ok v' w' ∧ Good w0 w' S' ∧ Row S' x v' (xs ++ [u]) ∧ Off x S S' := by
  have hnews : ∀ j y, [u][j]? = some y → w.cell? (a.add j) = some y := by
    intro j y hj
    cases j with
    | zero =>
      simp at hj; subst hj
      have : a.add 0 = a := by
        cases a with
        | mk b o s => simp at ha; subst ha; simp [Addr.add]
      rw [this]; exact hu
    | succ j => simp at hj
  have hone : ∀ y ∈ [u], y.oneCell' = true := by intro y hy; simp at hy; subst hy; exact h1
  have hcap := fun (n o : Nat) (hn : n ≤ maxLen) => grownCap_le_maxLen w n o 3 hn
  have hge := fun (n o : Nat) => grownCap_ge w n o 3
  -- the new block
  have fresh : ∀ (olds : List Value) (o : Nat), olds.length + 1 ≤ 1099511627776 → ∃ S', Good w0 (w.drew.alloc (.cells (olds.toArray ++ [u].toArray ++ Builtin.zeroCells (Value.int .i64 0).cells (grownCap w (olds.length + 1) o 3 - (olds.length + 1))) 3)) S' ∧
      Row S' x (.slice (some ⟨w.heap.size, 0, none⟩) (olds.length + 1) (grownCap w (olds.length + 1) o 3)) (olds ++ [u]) ∧ Off x S S' := by
    intro olds o hl
    have h1 := hge (olds.length + 1) o
    have h2 := hcap (olds.length + 1) o (by unfold maxLen; omega)
    refine ⟨S.put x w.heap.size (olds ++ [u] ++ (Builtin.zeroCells (Value.int .i64 0).cells (grownCap w (olds.length + 1) o 3 - (olds.length + 1))).toList) 3, ?_, ?_, Off.put _ _ _ _ _⟩
    · have := hG.drew.new x (olds ++ [u] ++ (Builtin.zeroCells (Value.int .i64 0).cells (grownCap w (olds.length + 1) o 3 - (olds.length + 1))).toList) 3
      have e : (olds ++ [u] ++ (Builtin.zeroCells (Value.int .i64 0).cells (grownCap w (olds.length + 1) o 3 - (olds.length + 1))).toList).toArray = olds.toArray ++ [u].toArray ++ Builtin.zeroCells (Value.int .i64 0).cells (grownCap w (olds.length + 1) o 3 - (olds.length + 1)) := by
        apply Array.toList_inj.1
        simp
      rw [e] at this
      exact this
    · have hzc : (Builtin.zeroCells (Value.int .i64 0).cells (grownCap w (olds.length + 1) o 3 - (olds.length + 1))).size = grownCap w (olds.length + 1) o 3 - (olds.length + 1) := by
        rw [size_zeroCells]; simp [Value.cells]
      refine .inr ⟨by simp [Sto.put], (Builtin.zeroCells (Value.int .i64 0).cells (grownCap w (olds.length + 1) o 3 - (olds.length + 1))).toList, ?_, by simp [Sto.put], by simp [Sto.put], ?_⟩
      · simp only [Sto.put, if_pos, List.length_append, List.length_cons, List.length_nil, Array.length_toList, hzc]
        congr 1
        omega
      · simp only [List.length_append, List.length_cons, List.length_nil, Array.length_toList, hzc]
        omega
  rcases hR with ⟨rfl, rfl⟩ | ⟨hd, sp, rfl, h2, h3, h4⟩
  · have hr := run_append_nil (P := P) w t ty 3 i (.int .i64 0) ht hi hz a 1 c [u] (by simp [hs]) hnews (by omega) (by omega) (by rw [hby]; omega)
    obtain ⟨S', g1, g2, g3⟩ := fresh [] 0 (by simp)
    exact ⟨_, _, S', hr, by simpa using g1, by simpa using g2, g3⟩
  · have hh := hG.has x hd
    rw [h2, h3] at hh
    by_cases hroom : xs.length + 1 ≤ xs.length + sp.length
    · have hr := run_append_room (P := P) w t ty 3 i ht hi (S.loc x) xs.length (xs.length + sp.length) (xs ++ sp).toArray hh a 1 c [u] (by simp [hs]) hnews hone hroom (by simp [hs]; omega)
      obtain ⟨s0, sp', rfl⟩ : ∃ s0 sp', sp = s0 :: sp' := by
        cases sp with
        | nil => exact absurd hroom (by simp)
        | cons a b => exact ⟨a, b, rfl⟩
      have hcs : (List.take (xs.length * i.size) (xs ++ s0 :: sp').toArray.toList ++ [u] ++ List.drop (xs.length * i.size + [u].length) (xs ++ s0 :: sp').toArray.toList) = xs ++ [u] ++ sp' := by
        simp [hs, List.drop_append]
      rw [hcs] at hr
      refine ⟨_, _, { S with cells := fun y => if y = x then xs ++ [u] ++ sp' else S.cells y }, hr, hG.turn x hd _ ?_ ?_ ?_, ?_, Off.cells _ _ _⟩
      · refine ⟨rfl, rfl, rfl, by simp [World.setRow], fun k hk => setRow_other w _ k _ ?_⟩
        have := hG.base x hd
        omega
      · rw [h3]; exact setRow_heap w _ _ _ 3 _ hh
      · exact fun k _ hk => setRow_other w _ k _ hk
      · refine .inr ⟨hd, sp', ?_, by simp, h3, ?_⟩
        · simp only [List.length_append, List.length_cons, List.length_nil]
          congr 1
          omega
        · simp only [List.length_append, List.length_cons, List.length_nil] at h4 ⊢
          omega
    · have hold : ∀ j y, xs[j]? = some y → w.cell? ((⟨S.loc x, 0, none⟩ : Addr).add j) = some y := by
        intro j y hj
        have : (⟨S.loc x, 0, none⟩ : Addr).add j = ⟨S.loc x, j, none⟩ := by rw [Addr.add_lit, Nat.zero_add]
        rw [this]
        exact hG.cell x j hd (by rw [h2, List.getElem?_append_left (List.getElem?_eq_some_iff.1 hj).1]; exact hj)
      have hr := run_append_grow (P := P) w t ty 3 i (.int .i64 0) ht hi hz ⟨S.loc x, 0, none⟩ xs.length (xs.length + sp.length) xs (by simp [hs]) hold a 1 c [u] (by simp [hs]) hnews (by omega) (by omega)
        (growslice_fits (by omega) (by rw [hby]; omega))
      obtain ⟨S', g1, g2, g3⟩ := fresh xs (xs.length + sp.length) hlen
      exact ⟨_, _, S', hr, g1, g2, g3⟩

theorem wp_append_row {P : Program} {i : TypeInfo} (hi : P.info? 3 = some i) (hz : i.zero = some (.int .i64 0)) (hs : i.size = 1) (hby : i.bytes = 8)
    {o : Oper} {a : Act} {K : Act → World → Prop} {Q : Exit → Act → World → Prop} (s y : Operand) (t : TypeId)
    (ho : o.op = .call { callee := .builtin .append, args := #[s, y], argTypes := #[t, t] }) (ht : P.underlying t = some (.slice 3))
    (hG : Good w0 w S) (x : Nat) (v : Value) (xs : List Value) (hs' : a.eval s = v) (hR : Row S x v xs)
    (ad : Addr) (u : Value) (c : Nat) (hy : a.eval y = .slice (some ad) 1 c) (hu : w.cell? ad = some u) (h1 : u.oneCell' = true) (hlen : xs.length + 1 ≤ 1099511627776) (ha : ad.spot = none)
    (h : ∀ v' w' S', Good w0 w' S' → Row S' x v' (xs ++ [u]) → Off x S S' → K (a.put o.dst v') w') : o.wp P a w K Q := by
  obtain ⟨v', w', S', hr, h2, h3, h4⟩ := run_append_row (P := P) hi hz hs hby t o.type ht hG x v xs hR ad u c hu h1 hlen ha
  unfold Oper.wp execOp
  simp only [ho, resolve, invoke, builtin, Sem.run_bind, Sem.run_pure, Result.andThen_ok, List.map_toArray, List.map_cons, List.map_nil, hs', hy, hr]
  exact h v' w' S' h2 h3 h4

theorem wpList_append_row {P : Program} {i : TypeInfo} (hi : P.info? 3 = some i) (hz : i.zero = some (.int .i64 0)) (hs : i.size = 1) (hby : i.bytes = 8)
    {ops : Array Oper} {rest : List Oper} {o : Oper} {a : Act} {Q : Exit → Act → World → Prop} (hgd : o.guard = none) (s y : Operand) (t : TypeId)
    (ho : o.op = .call { callee := .builtin .append, args := #[s, y], argTypes := #[t, t] }) (ht : P.underlying t = some (.slice 3))
    (hG : Good w0 w S) (x : Nat) (v : Value) (xs : List Value) (hs' : a.eval s = v) (hR : Row S x v xs)
    (ad : Addr) (u : Value) (c : Nat) (hy : a.eval y = .slice (some ad) 1 c) (hu : w.cell? ad = some u) (h1 : u.oneCell' = true) (hlen : xs.length + 1 ≤ 1099511627776) (ha : ad.spot = none)
    (h : ∀ v' w' S', Good w0 w' S' → Row S' x v' (xs ++ [u]) → Off x S S' → wpList P ops Q rest (a.put o.dst v') w') : wpList P ops Q (o :: rest) a w :=
  wpList_plain hgd fun _ hK => wp_append_row hi hz hs hby s y t ho ht hG x v xs hs' hR ad u c hy hu h1 hlen ha fun v' w' S' h2 h3 h4 => hK _ _ (h v' w' S' h2 h3 h4)

/-- The same as one step of a region that draws its order. -/
theorem step_append_row {P : Program} {i : TypeInfo} (hi : P.info? 3 = some i) (hz : i.zero = some (.int .i64 0)) (hs : i.size = 1) (hby : i.bytes = 8)
    {ops : Array Oper} {o : Oper} {a : Act} {K : Act → World → Prop} {Q : Exit → Act → World → Prop} {E : Prop} (hgd : o.guard = none) (s y : Operand) (t : TypeId)
    (ho : o.op = .call { callee := .builtin .append, args := #[s, y], argTypes := #[t, t] }) (ht : P.underlying t = some (.slice 3))
    (hG : Good w0 w S) (x : Nat) (v : Value) (xs : List Value) (hs' : a.eval s = v) (hR : Row S x v xs)
    (ad : Addr) (u : Value) (c : Nat) (hy : a.eval y = .slice (some ad) 1 c) (hu : w.cell? ad = some u) (h1 : u.oneCell' = true) (hlen : xs.length + 1 ≤ 1099511627776) (ha : ad.spot = none)
    (h : ∀ v' w' S', Good w0 w' S' → Row S' x v' (xs ++ [u]) → Off x S S' → K (a.put o.dst v') w') :
    if Region.wanted o (yielded ops a.tmps) = true then o.wp P a w K Q else E := by
  have hw : Region.wanted o (yielded ops a.tmps) = true := by simp [Region.wanted, hgd]
  rw [if_pos hw]
  exact wp_append_row hi hz hs hby s y t ho ht hG x v xs hs' hR ad u c hy hu h1 hlen ha h
end
end Go.Proofs.Ybulkdasy
