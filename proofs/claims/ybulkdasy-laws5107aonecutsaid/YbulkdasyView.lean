/-
  What the store holds of a runSpace that zzs5107abuild has made: a view by plain functions and lists.
  NAMES: 0 the struct · 1 ops · 2 proc · 3 rank · 4 object · 5 judged · 6 version · 7 receipts · 8 inWay · 9 held · 10 heldBy · 11 release · 12 deadline · 13 after · 14 waiting · 16 cutting · 17 events · 18 order · 19 holders · 20+q heldBy[q] · 30+e after[e].
-/
import Derived.Test.YbulkdasyBase
namespace Go.Proofs.Ybulkdasy
open Go.RowKit

def ints (xs : List Int) : List Value := xs.map (Value.int .i64)
theorem ints_snoc (xs : List Int) (u : Int) : ints xs ++ [Value.int .i64 u] = ints (xs ++ [u]) := by simp [ints]
theorem ints_len (xs : List Int) : (ints xs).length = xs.length := by simp [ints]
theorem ints_get {xs : List Int} {k : Nat} {u : Int} (h : xs[k]? = some u) : (ints xs)[k]? = some (.int .i64 u) := by simp [ints, h]

def sl (L : Nat → Nat) (x n : Nat) : Value := .slice (some ⟨L x, 0, none⟩) n n

structure RC (R : List Value) (L : Nat → Nat) (n : Nat) (cut ev ord hold : Value) (st : Int) : Prop where
  len : R.length = 75
  ops : R[0]? = some (sl L 1 n)
  ver : R[18]? = some (sl L 6 1)
  jud : R[19]? = some (sl L 5 n)
  rcp : R[20]? = some (sl L 7 n)
  cut : R[28]? = some cut
  rel : R[34]? = some (sl L 11 (2 * n))
  dl : R[35]? = some (sl L 12 (2 * n))
  aft : R[36]? = some (sl L 13 (2 * n))
  wt : R[37]? = some (sl L 14 (2 * n))
  ev : R[38]? = some ev
  ord : R[39]? = some ord
  inw : R[40]? = some (sl L 8 n)
  held : R[41]? = some (sl L 9 n)
  hby : R[42]? = some (sl L 10 3)
  hold : R[43]? = some hold
  stm : R[44]? = some (.int .i64 st)
  obj : R[54]? = some (sl L 4 n)
  prc : R[55]? = some (sl L 2 n)
  rnk : R[58]? = some (sl L 3 n)

theorem gset {R : List Value} {i k : Nat} {u v : Value} (h : R[k]? = some u) (hn : i ≠ k) : (R.set i v)[k]? = some u := by rw [List.getElem?_set_ne hn]; exact h
section
variable {R : List Value} {L : Nat → Nat} {n : Nat} {cut ev ord hold : Value} {st : Int}
theorem RC.setCut (h : RC R L n cut ev ord hold st) (v : Value) : RC (R.set 28 v) L n v ev ord hold st :=
  ⟨by simpa using h.len, gset h.ops (by decide), gset h.ver (by decide), gset h.jud (by decide), gset h.rcp (by decide), by simp [h.len], gset h.rel (by decide), gset h.dl (by decide), gset h.aft (by decide), gset h.wt (by decide), gset h.ev (by decide), gset h.ord (by decide), gset h.inw (by decide), gset h.held (by decide), gset h.hby (by decide), gset h.hold (by decide), gset h.stm (by decide), gset h.obj (by decide), gset h.prc (by decide), gset h.rnk (by decide)⟩
theorem RC.setEv (h : RC R L n cut ev ord hold st) (v : Value) : RC (R.set 38 v) L n cut v ord hold st :=
  ⟨by simpa using h.len, gset h.ops (by decide), gset h.ver (by decide), gset h.jud (by decide), gset h.rcp (by decide), gset h.cut (by decide), gset h.rel (by decide), gset h.dl (by decide), gset h.aft (by decide), gset h.wt (by decide), by simp [h.len], gset h.ord (by decide), gset h.inw (by decide), gset h.held (by decide), gset h.hby (by decide), gset h.hold (by decide), gset h.stm (by decide), gset h.obj (by decide), gset h.prc (by decide), gset h.rnk (by decide)⟩
theorem RC.setOrd (h : RC R L n cut ev ord hold st) (v : Value) : RC (R.set 39 v) L n cut ev v hold st :=
  ⟨by simpa using h.len, gset h.ops (by decide), gset h.ver (by decide), gset h.jud (by decide), gset h.rcp (by decide), gset h.cut (by decide), gset h.rel (by decide), gset h.dl (by decide), gset h.aft (by decide), gset h.wt (by decide), gset h.ev (by decide), by simp [h.len], gset h.inw (by decide), gset h.held (by decide), gset h.hby (by decide), gset h.hold (by decide), gset h.stm (by decide), gset h.obj (by decide), gset h.prc (by decide), gset h.rnk (by decide)⟩
theorem RC.setHold (h : RC R L n cut ev ord hold st) (v : Value) : RC (R.set 43 v) L n cut ev ord v st :=
  ⟨by simpa using h.len, gset h.ops (by decide), gset h.ver (by decide), gset h.jud (by decide), gset h.rcp (by decide), gset h.cut (by decide), gset h.rel (by decide), gset h.dl (by decide), gset h.aft (by decide), gset h.wt (by decide), gset h.ev (by decide), gset h.ord (by decide), gset h.inw (by decide), gset h.held (by decide), gset h.hby (by decide), by simp [h.len], gset h.stm (by decide), gset h.obj (by decide), gset h.prc (by decide), gset h.rnk (by decide)⟩
theorem RC.setStm (h : RC R L n cut ev ord hold st) (v : Int) : RC (R.set 44 (.int .i64 v)) L n cut ev ord hold v :=
  ⟨by simpa using h.len, gset h.ops (by decide), gset h.ver (by decide), gset h.jud (by decide), gset h.rcp (by decide), gset h.cut (by decide), gset h.rel (by decide), gset h.dl (by decide), gset h.aft (by decide), gset h.wt (by decide), gset h.ev (by decide), gset h.ord (by decide), gset h.inw (by decide), gset h.held (by decide), gset h.hby (by decide), gset h.hold (by decide), by simp [h.len], gset h.obj (by decide), gset h.prc (by decide), gset h.rnk (by decide)⟩
theorem RC.loc (h : RC R L n cut ev ord hold st) {L' : Nat → Nat} (e : ∀ x, x < 16 → L' x = L x) : RC R L' n cut ev ord hold st :=
  ⟨h.len, by rw [sl, e 1 (by decide)]; exact h.ops, by rw [sl, e 6 (by decide)]; exact h.ver, by rw [sl, e 5 (by decide)]; exact h.jud, by rw [sl, e 7 (by decide)]; exact h.rcp, h.cut, by rw [sl, e 11 (by decide)]; exact h.rel, by rw [sl, e 12 (by decide)]; exact h.dl, by rw [sl, e 13 (by decide)]; exact h.aft, by rw [sl, e 14 (by decide)]; exact h.wt, h.ev, h.ord, by rw [sl, e 8 (by decide)]; exact h.inw, by rw [sl, e 9 (by decide)]; exact h.held, by rw [sl, e 10 (by decide)]; exact h.hby, h.hold, h.stm, by rw [sl, e 4 (by decide)]; exact h.obj, by rw [sl, e 2 (by decide)]; exact h.prc, by rw [sl, e 3 (by decide)]; exact h.rnk⟩
end

def RcpT (L : List Value) (n : Nat) (u : Nat → Value) : Prop :=
  L.length = n * 3 ∧ ∀ k, k < n → (∃ v, L[k * 3]? = some (.int .i64 v)) ∧ L[k * 3 + 1]? = some (u k) ∧ L[k * 3 + 2]? = some (.bool false)

/-- The plain state. -/
structure PS where
  n : Nat
  fen : Nat → Int
  call : Nat → Int
  ret : Nat → Int
  proc : Nat → Int
  rank : Nat → Int
  rcp : Nat → Value
  cutV : Value
  cut : List Int
  inw : Nat → Int
  held : Nat → Int
  hbV : Nat → Value
  hb : Nat → List Int
  rel : Nat → Int
  dl : Nat → Int
  wt : Nat → Int
  aftV : Nat → Value
  aft : Nat → List Int
  evV : Value
  ev : List Int
  ordV : Value
  ord : List Int
  holdV : Value
  hold : List Int
  st : Int

def tyOf (x : Nat) : TypeId := if x = 0 then 60 else if x = 1 then 80 else if x = 7 then 29 else if x = 10 then 27 else if x = 13 then 27 else 3

structure VA (S : Sto) (p : PS) : Prop where
  dom : ∀ x, x < 15 → S.dom x
  ty : ∀ x, x < 15 → S.ty x = tyOf x
  r : RC (S.cells 0) S.loc p.n p.cutV p.evV p.ordV p.holdV p.st
  ops : OpsT (S.cells 1) p.n p.fen p.call p.ret
  proc : Tab (S.cells 2) p.n p.proc
  rank : Tab (S.cells 3) p.n p.rank
  obj : Tab (S.cells 4) p.n (fun _ => 0)
  jud : Tab (S.cells 5) p.n (fun _ => 1)
  ver : Tab (S.cells 6) 1 (fun _ => 1)
  rcp : RcpT (S.cells 7) p.n p.rcp
  inw : Tab (S.cells 8) p.n p.inw
  held : Tab (S.cells 9) p.n p.held
  hbl : (S.cells 10).length = 3
  hbv : ∀ q, q < 3 → (S.cells 10)[q]? = some (p.hbV q)
  hbr : ∀ q, q < 3 → Row S (20 + q) (p.hbV q) (ints (p.hb q))
  rel : Tab (S.cells 11) (2 * p.n) p.rel
  dl : Tab (S.cells 12) (2 * p.n) p.dl
  wt : Tab (S.cells 14) (2 * p.n) p.wt
  afl : (S.cells 13).length = 2 * p.n
  afv : ∀ e, e < 2 * p.n → (S.cells 13)[e]? = some (p.aftV e)
  afr : ∀ e, e < 2 * p.n → Row S (30 + e) (p.aftV e) (ints (p.aft e))
  ev : Row S 17 p.evV (ints p.ev)
  ord : Row S 18 p.ordV (ints p.ord)
  hold : Row S 19 p.holdV (ints p.hold)
  cut : Row S 16 p.cutV (ints p.cut)

/-- A row that the store's change does not touch. -/
theorem Row.same {S S' : Sto} {x : Nat} {v : Value} {xs : List Value} (h : Row S x v xs) (h1 : S.dom x → S'.dom x) (h2 : S'.loc x = S.loc x) (h3 : S'.cells x = S.cells x) (h4 : S'.ty x = S.ty x) : Row S' x v xs := by
  rcases h with h | ⟨hd, sp, a, b, c, d⟩
  · exact .inl h
  · exact .inr ⟨h1 hd, sp, by rw [h2]; exact a, by rw [h3]; exact b, by rw [h4]; exact c, d⟩

/-- The rows stay where the store turns at a fixed name alone. -/
theorem Row.fixed {S : Sto} {x y k : Nat} {v u : Value} {xs : List Value} (h : Row S x v xs) (hn : x ≠ y) : Row (S.set y k u) x v xs :=
  h.same id rfl (by simp [Sto.set, hn]) rfl

section
variable {S : Sto} {p : PS}

theorem VA.setRel (h : VA S p) {e : Nat} (he : e < 2 * p.n) (v : Int) : VA (S.set 11 e (.int .i64 v)) { p with rel := upd p.rel e v } := by
  refine ⟨h.dom, h.ty, h.r, h.ops, h.proc, h.rank, h.obj, h.jud, h.ver, h.rcp, h.inw, h.held, h.hbl, h.hbv, fun q hq => (h.hbr q hq).fixed (by omega), ?_, h.dl, h.wt, h.afl, h.afv, fun e he => (h.afr e he).fixed (by omega), h.ev.fixed (by omega), h.ord.fixed (by omega), h.hold.fixed (by omega), h.cut.fixed (by omega)⟩
  simpa [Sto.set] using h.rel.set he v
theorem VA.setDl (h : VA S p) {e : Nat} (he : e < 2 * p.n) (v : Int) : VA (S.set 12 e (.int .i64 v)) { p with dl := upd p.dl e v } := by
  refine ⟨h.dom, h.ty, h.r, h.ops, h.proc, h.rank, h.obj, h.jud, h.ver, h.rcp, h.inw, h.held, h.hbl, h.hbv, fun q hq => (h.hbr q hq).fixed (by omega), h.rel, ?_, h.wt, h.afl, h.afv, fun e he => (h.afr e he).fixed (by omega), h.ev.fixed (by omega), h.ord.fixed (by omega), h.hold.fixed (by omega), h.cut.fixed (by omega)⟩
  simpa [Sto.set] using h.dl.set he v
theorem VA.setWt (h : VA S p) {e : Nat} (he : e < 2 * p.n) (v : Int) : VA (S.set 14 e (.int .i64 v)) { p with wt := upd p.wt e v } := by
  refine ⟨h.dom, h.ty, h.r, h.ops, h.proc, h.rank, h.obj, h.jud, h.ver, h.rcp, h.inw, h.held, h.hbl, h.hbv, fun q hq => (h.hbr q hq).fixed (by omega), h.rel, h.dl, ?_, h.afl, h.afv, fun e he => (h.afr e he).fixed (by omega), h.ev.fixed (by omega), h.ord.fixed (by omega), h.hold.fixed (by omega), h.cut.fixed (by omega)⟩
  simpa [Sto.set] using h.wt.set he v
theorem VA.setInw (h : VA S p) {e : Nat} (he : e < p.n) (v : Int) : VA (S.set 8 e (.int .i64 v)) { p with inw := upd p.inw e v } := by
  refine ⟨h.dom, h.ty, h.r, h.ops, h.proc, h.rank, h.obj, h.jud, h.ver, h.rcp, ?_, h.held, h.hbl, h.hbv, fun q hq => (h.hbr q hq).fixed (by omega), h.rel, h.dl, h.wt, h.afl, h.afv, fun e he => (h.afr e he).fixed (by omega), h.ev.fixed (by omega), h.ord.fixed (by omega), h.hold.fixed (by omega), h.cut.fixed (by omega)⟩
  simpa [Sto.set] using h.inw.set he v
theorem VA.setHeld (h : VA S p) {e : Nat} (he : e < p.n) (v : Int) : VA (S.set 9 e (.int .i64 v)) { p with held := upd p.held e v } := by
  refine ⟨h.dom, h.ty, h.r, h.ops, h.proc, h.rank, h.obj, h.jud, h.ver, h.rcp, h.inw, ?_, h.hbl, h.hbv, fun q hq => (h.hbr q hq).fixed (by omega), h.rel, h.dl, h.wt, h.afl, h.afv, fun e he => (h.afr e he).fixed (by omega), h.ev.fixed (by omega), h.ord.fixed (by omega), h.hold.fixed (by omega), h.cut.fixed (by omega)⟩
  simpa [Sto.set] using h.held.set he v
theorem VA.setStm (h : VA S p) (v : Int) : VA (S.set 0 44 (.int .i64 v)) { p with st := v } := by
  refine ⟨h.dom, h.ty, ?_, h.ops, h.proc, h.rank, h.obj, h.jud, h.ver, h.rcp, h.inw, h.held, h.hbl, h.hbv, fun q hq => (h.hbr q hq).fixed (by omega), h.rel, h.dl, h.wt, h.afl, h.afv, fun e he => (h.afr e he).fixed (by omega), h.ev.fixed (by omega), h.ord.fixed (by omega), h.hold.fixed (by omega), h.cut.fixed (by omega)⟩
  simpa [Sto.set] using h.r.setStm v

/-- What the change of a row's name leaves of the view. -/
theorem Off.cellsOf {x : Nat} {S S' : Sto} (h : Off x S S') {y : Nat} (hy : y ≠ x) : S'.cells y = S.cells y := (h y hy).2.2.1
theorem Off.locOf {x : Nat} {S S' : Sto} (h : Off x S S') {y : Nat} (hy : y ≠ x) : S'.loc y = S.loc y := (h y hy).2.1

theorem VA.setEv {S' : Sto} (h : VA S p) (ho : Off 17 S S') {v : Value} {xs : List Int} (hr : Row S' 17 v (ints xs)) : VA (S'.set 0 38 v) { p with evV := v, ev := xs } := by
  have c := fun y (hy : y < 16) => ho.cellsOf (y := y) (by omega)
  refine ⟨fun x hx => ((ho x (by omega)).1).2 (h.dom x hx), fun x hx => (ho x (by omega)).2.2.2.trans (h.ty x hx), ?_, by simpa [Sto.set, c] using h.ops, by simpa [Sto.set, c] using h.proc, by simpa [Sto.set, c] using h.rank, by simpa [Sto.set, c] using h.obj, by simpa [Sto.set, c] using h.jud, by simpa [Sto.set, c] using h.ver, by simpa [Sto.set, c] using h.rcp, by simpa [Sto.set, c] using h.inw, by simpa [Sto.set, c] using h.held, by simpa [Sto.set, c] using h.hbl, by simpa [Sto.set, c] using h.hbv,
    fun q hq => ((h.hbr q hq).off ho (by omega)).fixed (by omega), by simpa [Sto.set, c] using h.rel, by simpa [Sto.set, c] using h.dl, by simpa [Sto.set, c] using h.wt, by simpa [Sto.set, c] using h.afl, by simpa [Sto.set, c] using h.afv, fun e he => ((h.afr e he).off ho (by omega)).fixed (by omega), hr.fixed (by omega), (h.ord.off ho (by omega)).fixed (by omega), (h.hold.off ho (by omega)).fixed (by omega), (h.cut.off ho (by omega)).fixed (by omega)⟩
  simpa [Sto.set, c] using (h.r.setEv v).loc (L' := S'.loc) (fun x hx => ho.locOf (by omega))
theorem VA.setOrd {S' : Sto} (h : VA S p) (ho : Off 18 S S') {v : Value} {xs : List Int} (hr : Row S' 18 v (ints xs)) : VA (S'.set 0 39 v) { p with ordV := v, ord := xs } := by
  have c := fun y (hy : y < 16) => ho.cellsOf (y := y) (by omega)
  refine ⟨fun x hx => ((ho x (by omega)).1).2 (h.dom x hx), fun x hx => (ho x (by omega)).2.2.2.trans (h.ty x hx), ?_, by simpa [Sto.set, c] using h.ops, by simpa [Sto.set, c] using h.proc, by simpa [Sto.set, c] using h.rank, by simpa [Sto.set, c] using h.obj, by simpa [Sto.set, c] using h.jud, by simpa [Sto.set, c] using h.ver, by simpa [Sto.set, c] using h.rcp, by simpa [Sto.set, c] using h.inw, by simpa [Sto.set, c] using h.held, by simpa [Sto.set, c] using h.hbl, by simpa [Sto.set, c] using h.hbv,
    fun q hq => ((h.hbr q hq).off ho (by omega)).fixed (by omega), by simpa [Sto.set, c] using h.rel, by simpa [Sto.set, c] using h.dl, by simpa [Sto.set, c] using h.wt, by simpa [Sto.set, c] using h.afl, by simpa [Sto.set, c] using h.afv, fun e he => ((h.afr e he).off ho (by omega)).fixed (by omega), (h.ev.off ho (by omega)).fixed (by omega), hr.fixed (by omega), (h.hold.off ho (by omega)).fixed (by omega), (h.cut.off ho (by omega)).fixed (by omega)⟩
  simpa [Sto.set, c] using (h.r.setOrd v).loc (L' := S'.loc) (fun x hx => ho.locOf (by omega))
theorem VA.setHold {S' : Sto} (h : VA S p) (ho : Off 19 S S') {v : Value} {xs : List Int} (hr : Row S' 19 v (ints xs)) : VA (S'.set 0 43 v) { p with holdV := v, hold := xs } := by
  have c := fun y (hy : y < 16) => ho.cellsOf (y := y) (by omega)
  refine ⟨fun x hx => ((ho x (by omega)).1).2 (h.dom x hx), fun x hx => (ho x (by omega)).2.2.2.trans (h.ty x hx), ?_, by simpa [Sto.set, c] using h.ops, by simpa [Sto.set, c] using h.proc, by simpa [Sto.set, c] using h.rank, by simpa [Sto.set, c] using h.obj, by simpa [Sto.set, c] using h.jud, by simpa [Sto.set, c] using h.ver, by simpa [Sto.set, c] using h.rcp, by simpa [Sto.set, c] using h.inw, by simpa [Sto.set, c] using h.held, by simpa [Sto.set, c] using h.hbl, by simpa [Sto.set, c] using h.hbv,
    fun q hq => ((h.hbr q hq).off ho (by omega)).fixed (by omega), by simpa [Sto.set, c] using h.rel, by simpa [Sto.set, c] using h.dl, by simpa [Sto.set, c] using h.wt, by simpa [Sto.set, c] using h.afl, by simpa [Sto.set, c] using h.afv, fun e he => ((h.afr e he).off ho (by omega)).fixed (by omega), (h.ev.off ho (by omega)).fixed (by omega), (h.ord.off ho (by omega)).fixed (by omega), hr.fixed (by omega), (h.cut.off ho (by omega)).fixed (by omega)⟩
  simpa [Sto.set, c] using (h.r.setHold v).loc (L' := S'.loc) (fun x hx => ho.locOf (by omega))
theorem VA.setCut {S' : Sto} (h : VA S p) (ho : Off 16 S S') {v : Value} {xs : List Int} (hr : Row S' 16 v (ints xs)) : VA (S'.set 0 28 v) { p with cutV := v, cut := xs } := by
  have c := fun y (hy : y < 16) => ho.cellsOf (y := y) (by omega)
  refine ⟨fun x hx => ((ho x (by omega)).1).2 (h.dom x hx), fun x hx => (ho x (by omega)).2.2.2.trans (h.ty x hx), ?_, by simpa [Sto.set, c] using h.ops, by simpa [Sto.set, c] using h.proc, by simpa [Sto.set, c] using h.rank, by simpa [Sto.set, c] using h.obj, by simpa [Sto.set, c] using h.jud, by simpa [Sto.set, c] using h.ver, by simpa [Sto.set, c] using h.rcp, by simpa [Sto.set, c] using h.inw, by simpa [Sto.set, c] using h.held, by simpa [Sto.set, c] using h.hbl, by simpa [Sto.set, c] using h.hbv,
    fun q hq => ((h.hbr q hq).off ho (by omega)).fixed (by omega), by simpa [Sto.set, c] using h.rel, by simpa [Sto.set, c] using h.dl, by simpa [Sto.set, c] using h.wt, by simpa [Sto.set, c] using h.afl, by simpa [Sto.set, c] using h.afv, fun e he => ((h.afr e he).off ho (by omega)).fixed (by omega), (h.ev.off ho (by omega)).fixed (by omega), (h.ord.off ho (by omega)).fixed (by omega), (h.hold.off ho (by omega)).fixed (by omega), hr.fixed (by omega)⟩
  simpa [Sto.set, c] using (h.r.setCut v).loc (L' := S'.loc) (fun x hx => ho.locOf (by omega))

def updV (f : Nat → Value) (e : Nat) (v : Value) : Nat → Value := fun k => if k = e then v else f k
def updL (f : Nat → List Int) (e : Nat) (v : List Int) : Nat → List Int := fun k => if k = e then v else f k

theorem VA.setAft {S' : Sto} (h : VA S p) {e : Nat} (he : e < 2 * p.n) (ho : Off (30 + e) S S') {v : Value} {xs : List Int} (hr : Row S' (30 + e) v (ints xs)) : VA (S'.set 13 e v) { p with aftV := updV p.aftV e v, aft := updL p.aft e xs } := by
  have c := fun y (hy : y < 16) => ho.cellsOf (y := y) (by omega)
  refine ⟨fun x hx => ((ho x (by omega)).1).2 (h.dom x hx), fun x hx => (ho x (by omega)).2.2.2.trans (h.ty x hx), ?_, by simpa [Sto.set, c] using h.ops, by simpa [Sto.set, c] using h.proc, by simpa [Sto.set, c] using h.rank, by simpa [Sto.set, c] using h.obj, by simpa [Sto.set, c] using h.jud, by simpa [Sto.set, c] using h.ver, by simpa [Sto.set, c] using h.rcp, by simpa [Sto.set, c] using h.inw, by simpa [Sto.set, c] using h.held, by simpa [Sto.set, c] using h.hbl, by simpa [Sto.set, c] using h.hbv,
    fun q hq => ((h.hbr q hq).off ho (by omega)).fixed (by omega), by simpa [Sto.set, c] using h.rel, by simpa [Sto.set, c] using h.dl, by simpa [Sto.set, c] using h.wt, by simpa [Sto.set, c] using h.afl, ?_, ?_, (h.ev.off ho (by omega)).fixed (by omega), (h.ord.off ho (by omega)).fixed (by omega), (h.hold.off ho (by omega)).fixed (by omega), (h.cut.off ho (by omega)).fixed (by omega)⟩
  · simpa [Sto.set, c] using h.r.loc (L' := S'.loc) (fun x hx => ho.locOf (by omega))
  · intro k hk
    have hl : (S'.cells 13).length = _ := (congrArg List.length (c 13 (by omega))).trans h.afl
    simp only [Sto.set, if_pos, List.getElem?_set, hl, updV]
    by_cases ek : k = e
    · subst ek; simp [he]
    · rw [if_neg (fun x => ek x.symm), if_neg ek]
      simpa [c] using h.afv k hk
  · intro k hk
    simp only [updV, updL]
    by_cases ek : k = e
    · subst ek; simpa using hr.fixed (y := 13) (by omega)
    · rw [if_neg ek, if_neg ek]
      exact ((h.afr k hk).off ho (by omega)).fixed (by omega)

theorem VA.setHb {S' : Sto} (h : VA S p) {e : Nat} (he : e < 3) (ho : Off (20 + e) S S') {v : Value} {xs : List Int} (hr : Row S' (20 + e) v (ints xs)) : VA (S'.set 10 e v) { p with hbV := updV p.hbV e v, hb := updL p.hb e xs } := by
  have c := fun y (hy : y < 16) => ho.cellsOf (y := y) (by omega)
  refine ⟨fun x hx => ((ho x (by omega)).1).2 (h.dom x hx), fun x hx => (ho x (by omega)).2.2.2.trans (h.ty x hx), ?_, by simpa [Sto.set, c] using h.ops, by simpa [Sto.set, c] using h.proc, by simpa [Sto.set, c] using h.rank, by simpa [Sto.set, c] using h.obj, by simpa [Sto.set, c] using h.jud, by simpa [Sto.set, c] using h.ver, by simpa [Sto.set, c] using h.rcp, by simpa [Sto.set, c] using h.inw, by simpa [Sto.set, c] using h.held, by simpa [Sto.set, c] using h.hbl, ?_,
    ?_, by simpa [Sto.set, c] using h.rel, by simpa [Sto.set, c] using h.dl, by simpa [Sto.set, c] using h.wt, by simpa [Sto.set, c] using h.afl, by simpa [Sto.set, c] using h.afv, fun k hk => ((h.afr k hk).off ho (by omega)).fixed (by omega), (h.ev.off ho (by omega)).fixed (by omega), (h.ord.off ho (by omega)).fixed (by omega), (h.hold.off ho (by omega)).fixed (by omega), (h.cut.off ho (by omega)).fixed (by omega)⟩
  · simpa [Sto.set, c] using h.r.loc (L' := S'.loc) (fun x hx => ho.locOf (by omega))
  · intro k hk
    have hl : (S'.cells 10).length = _ := (congrArg List.length (c 10 (by omega))).trans h.hbl
    simp only [Sto.set, if_pos, List.getElem?_set, hl, updV]
    by_cases ek : k = e
    · subst ek; simp [he]
    · rw [if_neg (fun x => ek x.symm), if_neg ek]
      simpa [c] using h.hbv k hk
  · intro k hk
    simp only [updV, updL]
    by_cases ek : k = e
    · subst ek; simpa using hr.fixed (y := 10) (by omega)
    · rw [if_neg ek, if_neg ek]
      exact ((h.hbr k hk).off ho (by omega)).fixed (by omega)
end
end Go.Proofs.Ybulkdasy
