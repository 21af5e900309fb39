/-
  schedulable at two cuts without a way.
-/
import Derived.Test.YbulkdasyFeas
import Derived.Test.YbulkdasyMid
namespace Go.Proofs.Ybulkdasy
open Go.RowKit
set_option linter.unusedSimpArgs false
set_option linter.unusedVariables false

theorem VA.off {S S' : Sto} {p : PS} (h : VA S p) {x : Nat} (ho : Off x S S') (hx : 23 ≤ x ∧ x < 30) : VA S' p := by
  have c := fun y (hy : y < 16) => ho.cellsOf (y := y) (by omega)
  refine ⟨fun x hx => ((ho x (by omega)).1).2 (h.dom x hx), fun x hx => (ho x (by omega)).2.2.2.trans (h.ty x hx), ?_, by rw [c 1 (by omega)]; exact h.ops, by rw [c 2 (by omega)]; exact h.proc, by rw [c 3 (by omega)]; exact h.rank, by rw [c 4 (by omega)]; exact h.obj, by rw [c 5 (by omega)]; exact h.jud, by rw [c 6 (by omega)]; exact h.ver, by rw [c 7 (by omega)]; exact h.rcp, by rw [c 8 (by omega)]; exact h.inw, by rw [c 9 (by omega)]; exact h.held, by rw [c 10 (by omega)]; exact h.hbl, by rw [c 10 (by omega)]; exact h.hbv,
    fun q hq => (h.hbr q hq).off ho (by omega), by rw [c 11 (by omega)]; exact h.rel, by rw [c 12 (by omega)]; exact h.dl, by rw [c 14 (by omega)]; exact h.wt, by rw [c 13 (by omega)]; exact h.afl, by rw [c 13 (by omega)]; exact h.afv, fun e he => (h.afr e he).off ho (by omega), h.ev.off ho (by omega), h.ord.off ho (by omega), h.hold.off ho (by omega), h.cut.off ho (by omega)⟩
  rw [c 0 (by omega)]
  exact h.r.loc (L' := S'.loc) (fun x hx => ho.locOf (by omega))

set_option maxHeartbeats 2000000 in
theorem receipt_any {w0 w : World} {S : Sto} {p : PS} (hG : Good w0 w S) (hV : VA S p) (hn : p.n ≤ 300) (i : Nat) (hi : i < p.n) :
    Calls Yba.prog 19 #[.pointer (some ⟨S.loc 0, 0, none⟩), .int .i64 i] w fun en w' => en = .returned (.pointer (some ⟨S.loc 7, i * 3, none⟩)) ∧ ∃ k, w' = w.drewN k := by
  have D := hV.dom
  have g1 := hG.cell 0 54 (D 0 (by omega)) hV.r.obj
  have g2 := hG.cell 4 i (D 4 (by omega)) (hV.obj.at hi)
  have g3 := hG.cell 0 19 (D 0 (by omega)) hV.r.jud
  have g4 := hG.cell 5 i (D 5 (by omega)) (hV.jud.at hi)
  have g5 := hG.cell 0 18 (D 0 (by omega)) hV.r.ver
  have g6 := hG.cell 6 0 (D 6 (by omega)) (hV.ver.at (k := 0) (by omega))
  have g7 := hG.cell 0 20 (D 0 (by omega)) hV.r.rcp
  have hii : (i : Int) < (p.n : Int) := by omega
  simp only [sl] at g1 g3 g5 g7
  clear hG hV D
  go_enter Yba.func19, Yba.ntmps19
  go_wp2_with fail
  go_quiet (fail)
  go_wp2_with fail
  go_ret
  exact ⟨rfl, _, rfl⟩

/-- The release that schedulable gives the cut of i. -/
def relOf (fen call : Nat → Int) (i : Nat) : Int := if fen i = 2 then call i else -1

/-- What the two rounds over cutting leave, after k of them. -/
structure QTwo (n i j : Nat) (fen call ret proc rank : Nat → Int) (cv : Value) (k : Nat) (p : PS) : Prop where
  qn : p.n = n
  qfen : p.fen = fen
  qcall : p.call = call
  qret : p.ret = ret
  qproc : p.proc = proc
  qrank : p.rank = rank
  qrcp : p.rcp = fun _ => .slice none 0 0
  qcutV : p.cutV = cv
  qcut : p.cut = natI [i, j]
  qordV : p.ordV = .slice none 0 0
  qord : p.ord = []
  qholdV : p.holdV = .slice none 0 0
  qhold : p.hold = []
  qst : p.st = (k : Int) + 1
  qev : p.ev = natI ([n + i, n + j].take k)
  a0 : k = 0 → p.aftV (n + i) = .slice none 0 0
  a1 : k ≤ 1 → p.aftV (n + j) = .slice none 0 0
  b1 : 1 ≤ k → p.rel (n + i) = relOf fen call i ∧ p.dl (n + i) = ret i ∧ p.wt (n + i) = 0
  b2 : k = 1 → p.aft (n + i) = []
  b3 : k = 2 → p.aft (n + i) = (if proc i = proc j then natI [n + j] else []) ∧ p.rel (n + j) = relOf fen call j ∧ p.dl (n + j) = ret j ∧ p.wt (n + j) = (if proc i = proc j then 1 else 0) ∧ p.aft (n + j) = []
/-! ### The contracts where the receiver's block and the numbers are spelt as the caller has them -/
theorem add_at {w0 w : World} {S : Sto} {p : PS} (hG : Good w0 w S) (hV : VA S p) (hn : p.n ≤ 300) (b : Nat) (hb : S.loc 0 = b) (x : Int) (e : Nat) (hx : x = (e : Int)) (he : e < 2 * p.n) (hev : p.ev.length ≤ 1000000) (hnil : p.aftV e = .slice none 0 0) (r d : Int) :
    Calls Yba.prog 17 #[.pointer (some ⟨b, 34, none⟩), .int .i64 x, .int .i64 r, .int .i64 d] w fun en w' => en = .returned (.tuple #[]) ∧ ∃ S' v, Good w0 w' S' ∧ Fix S S' ∧
      VA S' { p with evV := v, ev := p.ev ++ [(e : Int)], rel := upd p.rel e r, dl := upd p.dl e d, wt := upd p.wt e 0, aftV := updV p.aftV e (.slice none 0 0), aft := updL p.aft e [] } := by
  subst hx hb
  exact add_any hG hV hn e he hev hnil r d
theorem require_at {w0 w : World} {S : Sto} {p : PS} (hG : Good w0 w S) (hV : VA S p) (hn : p.n ≤ 300) (b : Nat) (hb : S.loc 0 = b) (x y : Int) (a c : Nat) (hx : x = (a : Int)) (hy : y = (c : Int)) (ha : a < 2 * p.n) (hc : c < 2 * p.n) (hl : (p.aft a).length ≤ 1000000) (hw : -1000000 ≤ p.wt c ∧ p.wt c ≤ 1000000) :
    Calls Yba.prog 18 #[.pointer (some ⟨b, 34, none⟩), .int .i64 x, .int .i64 y] w fun en w' => en = .returned (.tuple #[]) ∧ ∃ S' v, Good w0 w' S' ∧ Fix S S' ∧
      VA S' { p with wt := upd p.wt c (p.wt c + 1), aftV := updV p.aftV a v, aft := updL p.aft a (p.aft a ++ [(c : Int)]) } := by
  subst hx hy hb
  exact require_any hG hV hn a c ha hc hl hw
theorem receipt_at {w0 w : World} {S : Sto} {p : PS} (hG : Good w0 w S) (hV : VA S p) (hn : p.n ≤ 300) (b : Nat) (hb : S.loc 0 = b) (i : Nat) (hi : i < p.n) :
    Calls Yba.prog 19 #[.pointer (some ⟨b, 0, none⟩), .int .i64 i] w fun en w' => en = .returned (.pointer (some ⟨S.loc 7, i * 3, none⟩)) ∧ ∃ k, w' = w.drewN k := by
  subst hb
  exact receipt_any hG hV hn i hi
theorem feasible_at {w0 w : World} {S : Sto} {p : PS} (hG : Good w0 w S) (hV : VA S p) (hn : p.n ≤ 300) (b : Nat) (hb : S.loc 0 = b) (evN : List Nat) (aN : Nat → List Nat) (hne : evN ≠ []) (hev : p.ev = natI evN) (haft : ∀ e, e ∈ evN → p.aft e = natI (aN e))
    (ho1 : p.ordV = .slice none 0 0) (ho2 : p.ord = []) (hlt : ∀ e, e ∈ evN → e < 2 * p.n) (wf : WF evN aN) (hwt : ∀ f, f ∈ evN → p.wt f = (unp evN [] aN f : Int)) (hwb : ∀ f, f ∈ evN → p.wt f ≤ 1000000) (hlen : evN.length ≤ 1000) (hal : ∀ e, e ∈ evN → (aN e).length ≤ 1000000) :
    Calls Yba.prog 26 #[.pointer (some ⟨b, 34, none⟩)] w fun en w' => en = .returned (.bool (feas p.rel p.dl p.wt aN evN)) ∧ ∃ S' v o r t, Good w0 w' S' ∧ Fix S S' ∧ VA S' { p with ordV := v, ord := o, rel := r, wt := t } := by
  subst hb
  exact feasible_any hG hV hn evN aN hne hev haft ho1 ho2 hlt wf hwt hwb hlen hal
theorem QTwo.step0 {n i j : Nat} {fen call ret proc rank : Nat → Int} {cv : Value} {p : PS} (Q : QTwo n i j fen call ret proc rank cv 0 p) (hij : i ≠ j) (v : Value) (r : Int) (hr : relOf fen call i = r) :
    QTwo n i j fen call ret proc rank cv 1 { p with evV := v, ev := p.ev ++ [((n + i : Nat) : Int)], rel := upd p.rel (n + i) r, dl := upd p.dl (n + i) (ret i), wt := upd p.wt (n + i) 0, aftV := updV p.aftV (n + i) (.slice none 0 0), aft := updL p.aft (n + i) [], st := 2 } := by
  have hne : n + j ≠ n + i := by omega
  refine ⟨Q.qn, Q.qfen, Q.qcall, Q.qret, Q.qproc, Q.qrank, Q.qrcp, Q.qcutV, Q.qcut, Q.qordV, Q.qord, Q.qholdV, Q.qhold, by simp, ?_, fun h => by omega, ?_, ?_, ?_, fun h => by omega⟩
  · dsimp only; rw [Q.qev]; simp [natI]
  · intro _; simp only [updV, if_neg hne]; exact Q.a1 (by omega)
  · intro _; exact ⟨by simp [upd, hr], by simp [upd], by simp [upd]⟩
  · intro _; simp [updL]
theorem QTwo.step1 {n i j : Nat} {fen call ret proc rank : Nat → Int} {cv : Value} {p : PS} (Q : QTwo n i j fen call ret proc rank cv 1 p) (hij : i ≠ j) (hp : proc i ≠ proc j) (v : Value) (r : Int) (hr : relOf fen call j = r) :
    QTwo n i j fen call ret proc rank cv 2 { p with evV := v, ev := p.ev ++ [((n + j : Nat) : Int)], rel := upd p.rel (n + j) r, dl := upd p.dl (n + j) (ret j), wt := upd p.wt (n + j) 0, aftV := updV p.aftV (n + j) (.slice none 0 0), aft := updL p.aft (n + j) [], st := 3 } := by
  have hne : n + i ≠ n + j := by omega
  obtain ⟨b1, b2, b3⟩ := Q.b1 (by omega)
  have b4 := Q.b2 rfl
  refine ⟨Q.qn, Q.qfen, Q.qcall, Q.qret, Q.qproc, Q.qrank, Q.qrcp, Q.qcutV, Q.qcut, Q.qordV, Q.qord, Q.qholdV, Q.qhold, by simp, ?_, fun h => by omega, fun h => by omega, ?_, fun h => by omega, ?_⟩
  · dsimp only; rw [Q.qev]; simp [natI]
  · intro _; exact ⟨by simp [upd, hij]; exact b1, by simp [upd, hij]; exact b2, by simp [upd, hij]; exact b3⟩
  · intro _; exact ⟨by simp [updL, hij, hp]; exact b4, by simp [upd, hr], by simp [upd], by simp [upd, hp], by simp [updL]⟩
theorem QTwo.step1s {n i j : Nat} {fen call ret proc rank : Nat → Int} {cv : Value} {p : PS} (Q : QTwo n i j fen call ret proc rank cv 1 p) (hij : i ≠ j) (hp : proc i = proc j) (v u : Value) (r : Int) (hr : relOf fen call j = r) :
    QTwo n i j fen call ret proc rank cv 2 { p with evV := v, ev := p.ev ++ [((n + j : Nat) : Int)], rel := upd p.rel (n + j) r, dl := upd p.dl (n + j) (ret j), wt := upd (upd p.wt (n + j) 0) (n + j) (upd p.wt (n + j) 0 (n + j) + 1), aftV := updV (updV p.aftV (n + j) (.slice none 0 0)) (n + i) u, aft := updL (updL p.aft (n + j) []) (n + i) (updL p.aft (n + j) [] (n + i) ++ [((n + j : Nat) : Int)]), st := 3 } := by
  have hne : n + i ≠ n + j := by omega
  have hne' : n + j ≠ n + i := by omega
  obtain ⟨b1, b2, b3⟩ := Q.b1 (by omega)
  have b4 := Q.b2 rfl
  refine ⟨Q.qn, Q.qfen, Q.qcall, Q.qret, Q.qproc, Q.qrank, Q.qrcp, Q.qcutV, Q.qcut, Q.qordV, Q.qord, Q.qholdV, Q.qhold, by simp, ?_, fun h => by omega, fun h => by omega, ?_, fun h => by omega, ?_⟩
  · dsimp only; rw [Q.qev]; simp [natI]
  · intro _; exact ⟨by simp [upd, hij]; exact b1, by simp [upd, hij]; exact b2, by simp [upd, hij]; exact b3⟩
  · intro _; exact ⟨by simp [updL, hij, hp, b4, natI], by simp [upd, hr], by simp [upd], by simp [upd, hp], by simp [updL, Ne.symm hij]⟩
def aTwo (a b : Nat) (c : Prop) [Decidable c] : Nat → List Nat := fun e => if e = a then (if c then [b] else []) else []
theorem feas_two_apart (rel dl wt : Nat → Int) (aft : Nat → List Nat) (a b : Nat) (ha : wt a = 0) (hb : wt b = 0) (h1 : aft a = []) (h2 : aft b = []) :
    feas rel dl wt aft [a, b] = decide (rel a < dl a ∧ rel b < dl b) := by
  simp only [feas, ord0, outer, inner, List.filter, ha, hb, beq_self_eq_true, List.length_cons, List.length_nil, List.getElem?_cons_zero, List.getElem?_cons_succ, List.getElem?_nil, h1, h2, List.foldl_nil]
  by_cases q1 : dl a ≤ rel a
  · rw [if_pos q1]; symm; rw [decide_eq_false_iff_not]; omega
  · rw [if_neg q1]
    by_cases q2 : dl b ≤ rel b
    · simp only [if_pos q2]; symm; rw [decide_eq_false_iff_not]; omega
    · simp only [if_neg q2]; symm; simp; omega
theorem wf_two {a b : Nat} (hne : a ≠ b) (c : Prop) [Decidable c] : WF [a, b] (aTwo a b c) := by
  refine ⟨by simp [hne], ?_⟩
  intro e he f hf
  unfold aTwo at hf
  split at hf
  · split at hf
    · simp at hf; simp [hf]
    · simp at hf
  · simp at hf
theorem unp_two {a b : Nat} (hne : a ≠ b) (c : Prop) [Decidable c] : unp [a, b] [] (aTwo a b c) a = 0 ∧ unp [a, b] [] (aTwo a b c) b = if c then 1 else 0 := by
  have hne' : b ≠ a := fun h => hne h.symm
  constructor
  · by_cases h : c <;> simp [unp, aTwo, h, hne']
  · by_cases h : c <;> simp [unp, aTwo, h, hne']
theorem feas_two_path (rel dl wt : Nat → Int) (a b : Nat) (c : Prop) [Decidable c] (hc : c) (hne : a ≠ b) (hwt : ∀ f, f ∈ [a, b] → wt f = (unp [a, b] [] (aTwo a b c) f : Int)) :
    feas rel dl wt (aTwo a b c) [a, b] = decide (rel a < dl a ∧ max (rel a) (rel b) < dl b) := by
  have hp : Path [a, b] (aTwo a b c) [a, b] := by
    refine ⟨fun x => Iff.rfl, by simp [hne], rfl, ?_, ?_⟩
    · intro i j hi hj h
      have hi' : i = 0 ∨ i = 1 := by simp at hi; omega
      have hj' : j = 0 ∨ j = 1 := by simp at hj; omega
      rcases hi' with rfl | rfl <;> rcases hj' with rfl | rfl <;> simp [aTwo, hc, hne, Ne.symm hne] at h ⊢
    · intro i hi
      have : i = 0 := by simp at hi; omega
      subst this
      simp [aTwo, hc]
  rw [Bool.eq_iff_iff, feas_path (wf_two hne c) hp rel dl wt hwt, decide_eq_true_iff]
  constructor
  · intro h
    have h0 := h 0 (by simp)
    have h1 := h 1 (by simp)
    simp [top] at h0 h1
    omega
  · intro h j hj
    have hj' : j = 0 ∨ j = 1 := by simp at hj; omega
    rcases hj' with rfl | rfl
    · simp [top]; omega
    · simp [top]; omega
/-- What schedulable answers at two cuts. -/
def twoRes (fen call ret proc : Nat → Int) (i j : Nat) : Bool := decide (relOf fen call i < ret i ∧ (if proc i = proc j then max (relOf fen call i) (relOf fen call j) else relOf fen call j) < ret j)
set_option maxRecDepth 100000 in
set_option maxHeartbeats 16000000 in
theorem sched_two {w0 w : World} {S : Sto} {n i j : Nat} {fen call ret proc rank : Nat → Int} {cv : Value} (hG : Good w0 w S) (hV : VA S { ps0 n fen call ret proc rank with cutV := cv, cut := natI [i, j] }) (hn : n ≤ 300) (hi : i < n) (hj : j < n) (hij : i ≠ j)
    (hf : ∀ k, fen k = 2 ∨ fen k = 0) :
    Calls Yba.prog 9 #[.pointer (some ⟨S.loc 0, 0, none⟩)] w fun en w' => en = .returned (.bool (twoRes fen call ret proc i j)) ∧ ∃ S' p', Good w0 w' S' ∧ VA S' p' ∧ p'.holdV = .slice none 0 0 ∧ S'.loc 0 = S.loc 0 := by
  have G0 := hG.new 27 [.pointer (some ⟨S.loc 0, 0, none⟩)] 25
  have V0 := hV.off (Off.put S 27 w.heap.size [.pointer (some ⟨S.loc 0, 0, none⟩)] 25) (by omega)
  have e0 : (S.put 27 w.heap.size [.pointer (some ⟨S.loc 0, 0, none⟩)] 25).loc 0 = S.loc 0 := by simp [Sto.put]
  have l27 : (S.put 27 w.heap.size [.pointer (some ⟨S.loc 0, 0, none⟩)] 25).loc 27 = w.heap.size := by simp [Sto.put]
  have d27 : (S.put 27 w.heap.size [.pointer (some ⟨S.loc 0, 0, none⟩)] 25).dom 27 := by simp [Sto.put]
  have b27 : (S.put 27 w.heap.size [.pointer (some ⟨S.loc 0, 0, none⟩)] 25).cells 27 = [.pointer (some ⟨S.loc 0, 0, none⟩)] := by simp [Sto.put]
  generalize S.put 27 w.heap.size [.pointer (some ⟨S.loc 0, 0, none⟩)] 25 = S0 at G0 V0 e0 l27 d27 b27
  have hl0 := hG.lt (hV.dom 0 (by omega))
  clear hG hV
  rw [← e0] at G0 b27 ⊢
  have hcR := V0.cut
  dsimp only at hcR
  obtain ⟨cc, hcv, _⟩ := hcR.ncell G0 (k := 0) (u := i) rfl
  have c28 := G0.cell 0 28 (V0.dom 0 (by omega)) V0.r.cut
  dsimp only at c28
  rw [hcv] at c28
  have Hd16c : S0.dom 16 ∧ (S0.cells 16)[0]? = some (.int .i64 (i : Int)) := by
    rcases hcR with ⟨h1, h2⟩ | ⟨h1, sp, _, h2, _⟩
    · simp [ints, natI] at h2
    · exact ⟨h1, by rw [h2]; rfl⟩
  have Hd16 : Hid (S0.dom 16) := Hd16c.1
  have Hc16 : Hid ((S0.cells 16)[0]? = some (.int .i64 (i : Int))) := Hd16c.2
  clear Hd16c
  have HG0 : Hid (Good w0 _ S0) := G0
  have HV0 : Hid (VA S0 _) := V0
  have Hcv : Hid (cv = _) := hcv
  have Hl27 : Hid (S0.loc 27 = w.heap.size) := l27
  have Hb27 : Hid (S0.cells 27 = _) := b27
  clear G0 V0 hcv hcR l27 b27 e0
  go_enter Yba.func9, Yba.ntmps9
  go_wp2_with fail
  refine (clear_any HG0.out HV0.out rfl rfl).mono ?_
  rintro e w1 ⟨rfl, S1, G1, V1, F1⟩
  have D1 := V1.dom
  have c28b := G1.cell 0 28 (D1 0 (by omega)) V1.r.cut
  have c44 := G1.cell 0 44 (D1 0 (by omega)) V1.r.stm
  have f1 : ∀ k, w1.frozen? ⟨S1.loc 0, k, none⟩ = false := fun k => G1.free 0 k (D1 0 (by omega))
  have cb := G1.cell 27 0 ((F1.keep 27 (by omega)).1.2 d27) (v := .pointer (some ⟨S0.loc 0, 0, none⟩)) (by rw [(F1.keep 27 (by omega)).2.2.1, Hb27.out]; rfl)
  dsimp only [ps0] at c28b c44
  have nb : S1.loc 0 ≠ S1.loc 27 := G1.ne (D1 0 (by omega)) ((F1.keep 27 (by omega)).1.2 d27) (by omega)
  rw [F1.loc 0 (by omega)] at c28b c44 f1 nb
  rw [(F1.keep 27 (by omega)).2.1, Hl27.out] at cb nb
  rw [Hcv.out] at c28b
  have HG1 : Hid (Good w0 w1 S1) := G1
  have HV1 : Hid (VA S1 _) := V1
  have HF1 : Hid (Fix S0 S1) := F1
  clear G1 V1 F1 c28
  go_wp2_with fail
  go_loopw [53] (fun x wr => ∃ (k : Nat) (T : Sto) (p : PS), k ≤ 2 ∧ x = .int .i64 k ∧ Good w0 wr T ∧ Fix S0 T ∧ VA T p ∧ QTwo n i j fen call ret proc rank cv k p) (fun x _ => 2 - (intOf x).toNat)
  case atStart =>
    have G2 := HG1.out.setCell 0 44 (D1 0 (by omega)) (.int .i64 1)
    rw [HF1.out.loc 0 (by omega)] at G2
    have V2 := HV1.out.setStm 1
    refine ⟨0, _, _, by omega, rfl, G2, HF1.out.trans (Fix.set _ 0 _ _ (by omega)), V2, ?_⟩
    constructor <;> first | rfl | (intro h; first | rfl | (exfalso; omega))
  case round =>
    obtain ⟨k, T, p, hk, rfl, hT, hF, V, Q⟩ := hrel
    have D := V.dom
    have dT27 := (hF.keep 27 (by omega)).1.2 d27
    have cb := hT.cell 27 0 dT27 (v := .pointer (some ⟨S0.loc 0, 0, none⟩)) (by rw [(hF.keep 27 (by omega)).2.2.1, Hb27.out]; rfl)
    rw [(hF.keep 27 (by omega)).2.1, Hl27.out] at cb
    have nb : T.loc 0 ≠ T.loc 27 := hT.ne (D 0 (by omega)) dT27 (by omega)
    rw [hF.loc 0 (by omega), (hF.keep 27 (by omega)).2.1, Hl27.out] at nb
    have c55 := hT.cell 0 55 (D 0 (by omega)) V.r.prc
    have c0 := hT.cell 0 0 (D 0 (by omega)) V.r.ops
    simp only [sl] at c55 c0
    rw [hF.loc 0 (by omega), Q.qn] at c55 c0
    have hcR := V.cut
    rw [Q.qcut] at hcR
    have HT : Hid (Good w0 wr T) := hT
    have HV : Hid (VA T p) := V
    have HF : Hid (Fix S0 T) := hF
    have HQ : Hid (QTwo n i j fen call ret proc rank cv k p) := Q
    clear hT V hF Q c28b c44 f1
    have hk3 : k = 0 ∨ k = 1 ∨ k = 2 := by omega
    rcases hk3 with rfl | rfl | rfl
    · obtain ⟨_, _, c16⟩ := hcR.ncell HT.out (k := 0) (u := i) rfl
      rw [(HF.out.keep 16 (by omega)).2.1] at c16
      have cp := HT.out.cell 2 i (D 2 (by omega)) (HV.out.proc.at (k := i) (by rw [HQ.out.qn]; omega))
      obtain ⟨o6, o8, o9, _⟩ := HV.out.ops.2 i (by rw [HQ.out.qn]; omega)
      have e6 := HT.out.cell 1 _ (D 1 (by omega)) o6
      have e8 := HT.out.cell 1 _ (D 1 (by omega)) o8
      have e9 := HT.out.cell 1 _ (D 1 (by omega)) o9
      rw [HQ.out.qproc] at cp
      rw [HQ.out.qfen] at e6
      rw [HQ.out.qcall] at e8
      rw [HQ.out.qret] at e9
      have hii : (i : Int) < (n : Int) := by omega
      clear o6 o8 o9 hcR
      rcases hf i with hfi | hfi
      · as_aux_lemma =>
          have hro : relOf fen call i = call i := by simp [relOf, hfi]
          have Hro : Hid (relOf fen call i = call i) := hro
          clear hro
          go_wp2_with fail
          go_quiet (fail)
          go_wp2_with fail
          refine (add_at (HT.out.drewN _) HV.out (by rw [HQ.out.qn]; exact hn) _ (HF.out.loc 0 (by omega)) _ (n + i) (by omega) (by rw [HQ.out.qn]; omega) (by rw [HQ.out.qev]; simp [natI]) (HQ.out.a0 rfl) _ _).mono ?_
          rintro e w2 ⟨rfl, T2, v2, G2, F2, V2⟩
          have F3 := HF.out.trans F2
          have dT27' := (F3.keep 27 (by omega)).1.2 d27
          have cb2 := G2.cell 27 0 dT27' (v := .pointer (some ⟨S0.loc 0, 0, none⟩)) (by rw [(F3.keep 27 (by omega)).2.2.1, Hb27.out]; rfl)
          rw [(F3.keep 27 (by omega)).2.1, Hl27.out] at cb2
          clear c16 cp e6 e8 e9 cb c55 c0
          have HG2 : Hid (Good w0 w2 T2) := G2
          have HV2 : Hid (VA T2 _) := V2
          have HF3 : Hid (Fix S0 T2) := F3
          clear G2 V2 F2 F3
          go_wp2_with fail
          go_quiet (fail)
          go_wp2_with fail
          refine (receipt_at (HG2.out.drewN _) HV2.out (by dsimp only; rw [HQ.out.qn]; exact hn) _ (HF3.out.loc 0 (by omega)) i (by dsimp only; rw [HQ.out.qn]; omega)).mono ?_
          rintro e w3 ⟨rfl, nq3, rfl⟩
          have D2 := HV2.out.dom
          have x44 := HG2.out.cell 0 44 (D2 0 (by omega)) HV2.out.r.stm
          have y0 : ∀ k, w2.frozen? ⟨T2.loc 0, k, none⟩ = false := fun k => HG2.out.free 0 k (D2 0 (by omega))
          obtain ⟨_, r1, r2⟩ := HV2.out.rcp.2 i (by dsimp only; rw [HQ.out.qn]; omega)
          have x71 := HG2.out.cell 7 _ (D2 7 (by omega)) r1
          have x72 := HG2.out.cell 7 _ (D2 7 (by omega)) r2
          have n7 : T2.loc 0 ≠ T2.loc 7 := HG2.out.ne (D2 0 (by omega)) (D2 7 (by omega)) (by omega)
          dsimp only at x44 x71 x72
          rw [HF3.out.loc 0 (by omega)] at x44 y0 n7
          rw [HQ.out.qst] at x44
          rw [HQ.out.qrcp] at x71
          clear r1 r2
          go_wp2_with fail
          refine wp_loop_rounds 1 ?_
          rw [rounds_succ]
          go_wp2_with fail
          go_roundw
          case rel =>
            refine ⟨1, T2.set 0 44 (.int .i64 2), _, by omega, rfl, ?_, HF3.out.trans (Fix.set _ 0 _ _ (by omega)), HV2.out.setStm 2, HQ.out.step0 hij _ _ Hro.out⟩
            rw [← HF3.out.loc 0 (by omega)]
            exact (HG2.out.drewN _).setCell 0 44 (D2 0 (by omega)) _
          case measure => simp [intOf]
      · as_aux_lemma =>
          have hro : relOf fen call i = -1 := by simp [relOf, hfi]
          have Hro : Hid (relOf fen call i = -1) := hro
          clear hro
          go_wp2_with fail
          go_quiet (fail)
          go_wp2_with fail
          refine (add_at (HT.out.drewN _) HV.out (by rw [HQ.out.qn]; exact hn) _ (HF.out.loc 0 (by omega)) _ (n + i) (by omega) (by rw [HQ.out.qn]; omega) (by rw [HQ.out.qev]; simp [natI]) (HQ.out.a0 rfl) _ _).mono ?_
          rintro e w2 ⟨rfl, T2, v2, G2, F2, V2⟩
          have F3 := HF.out.trans F2
          have dT27' := (F3.keep 27 (by omega)).1.2 d27
          have cb2 := G2.cell 27 0 dT27' (v := .pointer (some ⟨S0.loc 0, 0, none⟩)) (by rw [(F3.keep 27 (by omega)).2.2.1, Hb27.out]; rfl)
          rw [(F3.keep 27 (by omega)).2.1, Hl27.out] at cb2
          clear c16 cp e6 e8 e9 cb c55 c0
          have HG2 : Hid (Good w0 w2 T2) := G2
          have HV2 : Hid (VA T2 _) := V2
          have HF3 : Hid (Fix S0 T2) := F3
          clear G2 V2 F2 F3
          go_wp2_with fail
          go_quiet (fail)
          go_wp2_with fail
          refine (receipt_at (HG2.out.drewN _) HV2.out (by dsimp only; rw [HQ.out.qn]; exact hn) _ (HF3.out.loc 0 (by omega)) i (by dsimp only; rw [HQ.out.qn]; omega)).mono ?_
          rintro e w3 ⟨rfl, nq3, rfl⟩
          have D2 := HV2.out.dom
          have x44 := HG2.out.cell 0 44 (D2 0 (by omega)) HV2.out.r.stm
          have y0 : ∀ k, w2.frozen? ⟨T2.loc 0, k, none⟩ = false := fun k => HG2.out.free 0 k (D2 0 (by omega))
          obtain ⟨_, r1, r2⟩ := HV2.out.rcp.2 i (by dsimp only; rw [HQ.out.qn]; omega)
          have x71 := HG2.out.cell 7 _ (D2 7 (by omega)) r1
          have x72 := HG2.out.cell 7 _ (D2 7 (by omega)) r2
          have n7 : T2.loc 0 ≠ T2.loc 7 := HG2.out.ne (D2 0 (by omega)) (D2 7 (by omega)) (by omega)
          dsimp only at x44 x71 x72
          rw [HF3.out.loc 0 (by omega)] at x44 y0 n7
          rw [HQ.out.qst] at x44
          rw [HQ.out.qrcp] at x71
          clear r1 r2
          go_wp2_with fail
          refine wp_loop_rounds 1 ?_
          rw [rounds_succ]
          go_wp2_with fail
          go_roundw
          case rel =>
            refine ⟨1, T2.set 0 44 (.int .i64 2), _, by omega, rfl, ?_, HF3.out.trans (Fix.set _ 0 _ _ (by omega)), HV2.out.setStm 2, HQ.out.step0 hij _ _ Hro.out⟩
            rw [← HF3.out.loc 0 (by omega)]
            exact (HG2.out.drewN _).setCell 0 44 (D2 0 (by omega)) _
          case measure => simp [intOf]
    · obtain ⟨_, _, c16⟩ := hcR.ncell HT.out (k := 1) (u := j) rfl
      rw [(HF.out.keep 16 (by omega)).2.1] at c16
      have cp := HT.out.cell 2 j (D 2 (by omega)) (HV.out.proc.at (k := j) (by rw [HQ.out.qn]; omega))
      obtain ⟨o6, o8, o9, _⟩ := HV.out.ops.2 j (by rw [HQ.out.qn]; omega)
      have e6 := HT.out.cell 1 _ (D 1 (by omega)) o6
      have e8 := HT.out.cell 1 _ (D 1 (by omega)) o8
      have e9 := HT.out.cell 1 _ (D 1 (by omega)) o9
      rw [HQ.out.qproc] at cp
      rw [HQ.out.qfen] at e6
      rw [HQ.out.qcall] at e8
      rw [HQ.out.qret] at e9
      have hii : (j : Int) < (n : Int) := by omega
      have hi0 : (i : Int) < (n : Int) := by omega
      clear o6 o8 o9 hcR
      rcases hf j with hfi | hfi
      · have hro : relOf fen call j = call j := by simp [relOf, hfi]
        have Hro : Hid (relOf fen call j = call j) := hro
        clear hro
        go_wp2_with fail
        go_quiet (fail)
        go_wp2_with fail
        refine (add_at (HT.out.drewN _) HV.out (by rw [HQ.out.qn]; exact hn) _ (HF.out.loc 0 (by omega)) _ (n + j) (by omega) (by rw [HQ.out.qn]; omega) (by rw [HQ.out.qev]; simp [natI]) (HQ.out.a1 (by omega)) _ _).mono ?_
        rintro e w2 ⟨rfl, T2, v2, G2, F2, V2⟩
        have F3 := HF.out.trans F2
        have dT27' := (F3.keep 27 (by omega)).1.2 d27
        have cb2 := G2.cell 27 0 dT27' (v := .pointer (some ⟨S0.loc 0, 0, none⟩)) (by rw [(F3.keep 27 (by omega)).2.2.1, Hb27.out]; rfl)
        rw [(F3.keep 27 (by omega)).2.1, Hl27.out] at cb2
        clear c16 cp e6 e8 e9 cb c55 c0
        have HG2 : Hid (Good w0 w2 T2) := G2
        have HV2 : Hid (VA T2 _) := V2
        have HF3 : Hid (Fix S0 T2) := F3
        clear G2 V2 F2 F3
        have D2 := HV2.out.dom
        have z55 := HG2.out.cell 0 55 (D2 0 (by omega)) HV2.out.r.prc
        have z28 := HG2.out.cell 0 28 (D2 0 (by omega)) HV2.out.r.cut
        have z0 := HG2.out.cell 0 0 (D2 0 (by omega)) HV2.out.r.ops
        have zR := HV2.out.cut
        dsimp only at z55 z28 z0 zR
        rw [HQ.out.qcut] at zR
        obtain ⟨_, _, z16⟩ := zR.ncell HG2.out (k := 0) (u := i) rfl
        have zp := HG2.out.cell 2 i (D2 2 (by omega)) (HV2.out.proc.at (k := i) (by dsimp only; rw [HQ.out.qn]; omega))
        dsimp only at zp
        simp only [sl] at z55 z0
        rw [HF3.out.loc 0 (by omega), HQ.out.qn] at z55 z0
        rw [HF3.out.loc 0 (by omega), HQ.out.qcutV, Hcv.out] at z28
        rw [(HF3.out.keep 16 (by omega)).2.1] at z16
        rw [HQ.out.qproc] at zp
        clear zR D2
        by_cases hpp : proc i = proc j
        · as_aux_lemma =>
            have hpb : (proc i == proc j) = true := by simp [hpp]
            have Hpp : Hid (proc i = proc j) := hpp
            clear hpp
            go_wp2_with fail
            go_quiet (fail)
            go_wp2_with fail
            have hw0 : IntKind.i64.wrap 0 = 0 := by rw [IntKind.wrap_i64]; omega
            have hw1 : IntKind.i64.wrap ((n : Int) + (i : Int)) = (n : Int) + (i : Int) := by rw [IntKind.wrap_i64]; omega
            go_region_held3 (fun x => x.cell? ⟨w.heap.size, 0, none⟩ = some (.pointer (some ⟨S0.loc 0, 0, none⟩)) ∧ x.cell? ⟨S0.loc 0, 0, none⟩ = some (.slice (some ⟨T2.loc 1, 0, none⟩) n n) ∧ x.cell? ⟨S0.loc 0, 28, none⟩ = some (.slice (some ⟨S0.loc 16, 0, none⟩) 2 cc) ∧ x.cell? ⟨S0.loc 16, 0, none⟩ = some (.int .i64 (i : Int))) (go_keep) (first | (go_at_call 18; refine (require_at (HG2.out.drewN _) HV2.out (by dsimp only; rw [HQ.out.qn]; exact hn) _ (HF3.out.loc 0 (by omega)) _ _ (n + i) (n + j) (by omega) (by omega) (by dsimp only; rw [HQ.out.qn]; omega) (by dsimp only; rw [HQ.out.qn]; omega) (by dsimp only; simp [updL, hij, HQ.out.b2 rfl]) (by dsimp only; simp [upd])).mono ?_; rintro e w4 ⟨rfl, T4, v4, G4, F4, V4⟩; have F5 := HF3.out.trans F4; have D4 := V4.dom; have u1 := G4.cell 27 0 ((F5.keep 27 (by omega)).1.2 d27) (v := .pointer (some ⟨S0.loc 0, 0, none⟩)) (by rw [(F5.keep 27 (by omega)).2.2.1, Hb27.out]; rfl); rw [(F5.keep 27 (by omega)).2.1, Hl27.out] at u1; have u2 := G4.cell 0 0 (D4 0 (by omega)) V4.r.ops; have u3 := G4.cell 0 28 (D4 0 (by omega)) V4.r.cut; simp only [sl] at u2; dsimp only at u2 u3; rw [F5.loc 0 (by omega), HQ.out.qn, F4.loc 1 (by omega)] at u2; rw [F5.loc 0 (by omega), HQ.out.qcutV, Hcv.out] at u3; have u4 := G4.cell 16 0 ((F5.keep 16 (by omega)).1.2 Hd16.out) (v := .int .i64 (i : Int)) (by rw [(F5.keep 16 (by omega)).2.2.1]; exact Hc16.out); rw [(F5.keep 16 (by omega)).2.1] at u4; have HG4 : Hid (Good w0 w4 T4) := G4; have HV4 : Hid (VA T4 _) := V4; have HF5 : Hid (Fix S0 T4) := F5; clear G4 V4 F4 F5))
            go_wp2_with fail
            refine (receipt_at HG4.out HV4.out (by dsimp only; rw [HQ.out.qn]; exact hn) _ (HF5.out.loc 0 (by omega)) j (by dsimp only; rw [HQ.out.qn]; omega)).mono ?_
            rintro e w3 ⟨rfl, nq3, rfl⟩
            have DX := HV4.out.dom
            have x44 := HG4.out.cell 0 44 (DX 0 (by omega)) HV4.out.r.stm
            have y0 : ∀ k, w4.frozen? ⟨T4.loc 0, k, none⟩ = false := fun k => HG4.out.free 0 k (DX 0 (by omega))
            obtain ⟨_, r1, r2⟩ := HV4.out.rcp.2 j (by dsimp only; rw [HQ.out.qn]; omega)
            have x71 := HG4.out.cell 7 _ (DX 7 (by omega)) r1
            have x72 := HG4.out.cell 7 _ (DX 7 (by omega)) r2
            have n7 : T4.loc 0 ≠ T4.loc 7 := HG4.out.ne (DX 0 (by omega)) (DX 7 (by omega)) (by omega)
            dsimp only at x44 x71 x72
            rw [HF5.out.loc 0 (by omega)] at x44 y0 n7
            rw [HQ.out.qst] at x44
            rw [HQ.out.qrcp] at x71
            clear r1 r2
            go_wp2_with fail
            refine wp_loop_rounds 1 ?_
            rw [rounds_succ]
            go_wp2_with fail
            go_roundw
            case rel =>
              refine ⟨2, T4.set 0 44 (.int .i64 3), _, by omega, rfl, ?_, HF5.out.trans (Fix.set _ 0 _ _ (by omega)), HV4.out.setStm 3, HQ.out.step1s hij Hpp.out _ _ _ Hro.out⟩
              rw [← HF5.out.loc 0 (by omega)]
              exact (HG4.out.drewN _).setCell 0 44 (DX 0 (by omega)) _
            case measure => simp [intOf]
        · as_aux_lemma =>
            have hpb : (proc i == proc j) = false := by simp [hpp]
            have Hpp : Hid (proc i ≠ proc j) := hpp
            clear hpp
            go_wp2_with fail
            go_quiet (fail)
            go_wp2_with fail
            refine (receipt_at (HG2.out.drewN _) HV2.out (by dsimp only; rw [HQ.out.qn]; exact hn) _ (HF3.out.loc 0 (by omega)) j (by dsimp only; rw [HQ.out.qn]; omega)).mono ?_
            rintro e w3 ⟨rfl, nq3, rfl⟩
            have DX := HV2.out.dom
            have x44 := HG2.out.cell 0 44 (DX 0 (by omega)) HV2.out.r.stm
            have y0 : ∀ k, w2.frozen? ⟨T2.loc 0, k, none⟩ = false := fun k => HG2.out.free 0 k (DX 0 (by omega))
            obtain ⟨_, r1, r2⟩ := HV2.out.rcp.2 j (by dsimp only; rw [HQ.out.qn]; omega)
            have x71 := HG2.out.cell 7 _ (DX 7 (by omega)) r1
            have x72 := HG2.out.cell 7 _ (DX 7 (by omega)) r2
            have n7 : T2.loc 0 ≠ T2.loc 7 := HG2.out.ne (DX 0 (by omega)) (DX 7 (by omega)) (by omega)
            dsimp only at x44 x71 x72
            rw [HF3.out.loc 0 (by omega)] at x44 y0 n7
            rw [HQ.out.qst] at x44
            rw [HQ.out.qrcp] at x71
            clear r1 r2
            go_wp2_with fail
            refine wp_loop_rounds 1 ?_
            rw [rounds_succ]
            go_wp2_with fail
            go_roundw
            case rel =>
              refine ⟨2, T2.set 0 44 (.int .i64 3), _, by omega, rfl, ?_, HF3.out.trans (Fix.set _ 0 _ _ (by omega)), HV2.out.setStm 3, HQ.out.step1 hij Hpp.out _ _ Hro.out⟩
              rw [← HF3.out.loc 0 (by omega)]
              exact (HG2.out.drewN _).setCell 0 44 (DX 0 (by omega)) _
            case measure => simp [intOf]
      · have hro : relOf fen call j = -1 := by simp [relOf, hfi]
        have Hro : Hid (relOf fen call j = -1) := hro
        clear hro
        go_wp2_with fail
        go_quiet (fail)
        go_wp2_with fail
        refine (add_at (HT.out.drewN _) HV.out (by rw [HQ.out.qn]; exact hn) _ (HF.out.loc 0 (by omega)) _ (n + j) (by omega) (by rw [HQ.out.qn]; omega) (by rw [HQ.out.qev]; simp [natI]) (HQ.out.a1 (by omega)) _ _).mono ?_
        rintro e w2 ⟨rfl, T2, v2, G2, F2, V2⟩
        have F3 := HF.out.trans F2
        have dT27' := (F3.keep 27 (by omega)).1.2 d27
        have cb2 := G2.cell 27 0 dT27' (v := .pointer (some ⟨S0.loc 0, 0, none⟩)) (by rw [(F3.keep 27 (by omega)).2.2.1, Hb27.out]; rfl)
        rw [(F3.keep 27 (by omega)).2.1, Hl27.out] at cb2
        clear c16 cp e6 e8 e9 cb c55 c0
        have HG2 : Hid (Good w0 w2 T2) := G2
        have HV2 : Hid (VA T2 _) := V2
        have HF3 : Hid (Fix S0 T2) := F3
        clear G2 V2 F2 F3
        have D2 := HV2.out.dom
        have z55 := HG2.out.cell 0 55 (D2 0 (by omega)) HV2.out.r.prc
        have z28 := HG2.out.cell 0 28 (D2 0 (by omega)) HV2.out.r.cut
        have z0 := HG2.out.cell 0 0 (D2 0 (by omega)) HV2.out.r.ops
        have zR := HV2.out.cut
        dsimp only at z55 z28 z0 zR
        rw [HQ.out.qcut] at zR
        obtain ⟨_, _, z16⟩ := zR.ncell HG2.out (k := 0) (u := i) rfl
        have zp := HG2.out.cell 2 i (D2 2 (by omega)) (HV2.out.proc.at (k := i) (by dsimp only; rw [HQ.out.qn]; omega))
        dsimp only at zp
        simp only [sl] at z55 z0
        rw [HF3.out.loc 0 (by omega), HQ.out.qn] at z55 z0
        rw [HF3.out.loc 0 (by omega), HQ.out.qcutV, Hcv.out] at z28
        rw [(HF3.out.keep 16 (by omega)).2.1] at z16
        rw [HQ.out.qproc] at zp
        clear zR D2
        by_cases hpp : proc i = proc j
        · as_aux_lemma =>
            have hpb : (proc i == proc j) = true := by simp [hpp]
            have Hpp : Hid (proc i = proc j) := hpp
            clear hpp
            go_wp2_with fail
            go_quiet (fail)
            go_wp2_with fail
            have hw0 : IntKind.i64.wrap 0 = 0 := by rw [IntKind.wrap_i64]; omega
            have hw1 : IntKind.i64.wrap ((n : Int) + (i : Int)) = (n : Int) + (i : Int) := by rw [IntKind.wrap_i64]; omega
            go_region_held3 (fun x => x.cell? ⟨w.heap.size, 0, none⟩ = some (.pointer (some ⟨S0.loc 0, 0, none⟩)) ∧ x.cell? ⟨S0.loc 0, 0, none⟩ = some (.slice (some ⟨T2.loc 1, 0, none⟩) n n) ∧ x.cell? ⟨S0.loc 0, 28, none⟩ = some (.slice (some ⟨S0.loc 16, 0, none⟩) 2 cc) ∧ x.cell? ⟨S0.loc 16, 0, none⟩ = some (.int .i64 (i : Int))) (go_keep) (first | (go_at_call 18; refine (require_at (HG2.out.drewN _) HV2.out (by dsimp only; rw [HQ.out.qn]; exact hn) _ (HF3.out.loc 0 (by omega)) _ _ (n + i) (n + j) (by omega) (by omega) (by dsimp only; rw [HQ.out.qn]; omega) (by dsimp only; rw [HQ.out.qn]; omega) (by dsimp only; simp [updL, hij, HQ.out.b2 rfl]) (by dsimp only; simp [upd])).mono ?_; rintro e w4 ⟨rfl, T4, v4, G4, F4, V4⟩; have F5 := HF3.out.trans F4; have D4 := V4.dom; have u1 := G4.cell 27 0 ((F5.keep 27 (by omega)).1.2 d27) (v := .pointer (some ⟨S0.loc 0, 0, none⟩)) (by rw [(F5.keep 27 (by omega)).2.2.1, Hb27.out]; rfl); rw [(F5.keep 27 (by omega)).2.1, Hl27.out] at u1; have u2 := G4.cell 0 0 (D4 0 (by omega)) V4.r.ops; have u3 := G4.cell 0 28 (D4 0 (by omega)) V4.r.cut; simp only [sl] at u2; dsimp only at u2 u3; rw [F5.loc 0 (by omega), HQ.out.qn, F4.loc 1 (by omega)] at u2; rw [F5.loc 0 (by omega), HQ.out.qcutV, Hcv.out] at u3; have u4 := G4.cell 16 0 ((F5.keep 16 (by omega)).1.2 Hd16.out) (v := .int .i64 (i : Int)) (by rw [(F5.keep 16 (by omega)).2.2.1]; exact Hc16.out); rw [(F5.keep 16 (by omega)).2.1] at u4; have HG4 : Hid (Good w0 w4 T4) := G4; have HV4 : Hid (VA T4 _) := V4; have HF5 : Hid (Fix S0 T4) := F5; clear G4 V4 F4 F5))
            go_wp2_with fail
            refine (receipt_at HG4.out HV4.out (by dsimp only; rw [HQ.out.qn]; exact hn) _ (HF5.out.loc 0 (by omega)) j (by dsimp only; rw [HQ.out.qn]; omega)).mono ?_
            rintro e w3 ⟨rfl, nq3, rfl⟩
            have DX := HV4.out.dom
            have x44 := HG4.out.cell 0 44 (DX 0 (by omega)) HV4.out.r.stm
            have y0 : ∀ k, w4.frozen? ⟨T4.loc 0, k, none⟩ = false := fun k => HG4.out.free 0 k (DX 0 (by omega))
            obtain ⟨_, r1, r2⟩ := HV4.out.rcp.2 j (by dsimp only; rw [HQ.out.qn]; omega)
            have x71 := HG4.out.cell 7 _ (DX 7 (by omega)) r1
            have x72 := HG4.out.cell 7 _ (DX 7 (by omega)) r2
            have n7 : T4.loc 0 ≠ T4.loc 7 := HG4.out.ne (DX 0 (by omega)) (DX 7 (by omega)) (by omega)
            dsimp only at x44 x71 x72
            rw [HF5.out.loc 0 (by omega)] at x44 y0 n7
            rw [HQ.out.qst] at x44
            rw [HQ.out.qrcp] at x71
            clear r1 r2
            go_wp2_with fail
            refine wp_loop_rounds 1 ?_
            rw [rounds_succ]
            go_wp2_with fail
            go_roundw
            case rel =>
              refine ⟨2, T4.set 0 44 (.int .i64 3), _, by omega, rfl, ?_, HF5.out.trans (Fix.set _ 0 _ _ (by omega)), HV4.out.setStm 3, HQ.out.step1s hij Hpp.out _ _ _ Hro.out⟩
              rw [← HF5.out.loc 0 (by omega)]
              exact (HG4.out.drewN _).setCell 0 44 (DX 0 (by omega)) _
            case measure => simp [intOf]
        · as_aux_lemma =>
            have hpb : (proc i == proc j) = false := by simp [hpp]
            have Hpp : Hid (proc i ≠ proc j) := hpp
            clear hpp
            go_wp2_with fail
            go_quiet (fail)
            go_wp2_with fail
            refine (receipt_at (HG2.out.drewN _) HV2.out (by dsimp only; rw [HQ.out.qn]; exact hn) _ (HF3.out.loc 0 (by omega)) j (by dsimp only; rw [HQ.out.qn]; omega)).mono ?_
            rintro e w3 ⟨rfl, nq3, rfl⟩
            have DX := HV2.out.dom
            have x44 := HG2.out.cell 0 44 (DX 0 (by omega)) HV2.out.r.stm
            have y0 : ∀ k, w2.frozen? ⟨T2.loc 0, k, none⟩ = false := fun k => HG2.out.free 0 k (DX 0 (by omega))
            obtain ⟨_, r1, r2⟩ := HV2.out.rcp.2 j (by dsimp only; rw [HQ.out.qn]; omega)
            have x71 := HG2.out.cell 7 _ (DX 7 (by omega)) r1
            have x72 := HG2.out.cell 7 _ (DX 7 (by omega)) r2
            have n7 : T2.loc 0 ≠ T2.loc 7 := HG2.out.ne (DX 0 (by omega)) (DX 7 (by omega)) (by omega)
            dsimp only at x44 x71 x72
            rw [HF3.out.loc 0 (by omega)] at x44 y0 n7
            rw [HQ.out.qst] at x44
            rw [HQ.out.qrcp] at x71
            clear r1 r2
            go_wp2_with fail
            refine wp_loop_rounds 1 ?_
            rw [rounds_succ]
            go_wp2_with fail
            go_roundw
            case rel =>
              refine ⟨2, T2.set 0 44 (.int .i64 3), _, by omega, rfl, ?_, HF3.out.trans (Fix.set _ 0 _ _ (by omega)), HV2.out.setStm 3, HQ.out.step1 hij Hpp.out _ _ Hro.out⟩
              rw [← HF3.out.loc 0 (by omega)]
              exact (HG2.out.drewN _).setCell 0 44 (DX 0 (by omega)) _
            case measure => simp [intOf]
    · as_aux_lemma =>
        have c43 := HT.out.cell 0 43 (D 0 (by omega)) HV.out.r.hold
        have f0 : ∀ k, wr.frozen? ⟨T.loc 0, k, none⟩ = false := fun k => HT.out.free 0 k (D 0 (by omega))
        rw [HF.out.loc 0 (by omega)] at c43 f0
        rw [HQ.out.qholdV] at c43
        clear c55 c0 hcR
        go_wp2_with fail
        refine wp_loop_rounds 1 ?_
        rw [rounds_succ]
        go_wp2_with fail
        go_region
        go_wp2_with fail
        have G5 := HT.out.setCell 0 43 (D 0 (by omega)) (.slice none 0 0)
        rw [HF.out.loc 0 (by omega)] at G5
        have V5 := HV.out.setHold (Off.refl 19 T) (v := .slice none 0 0) (xs := []) (Row.nil _ _)
        obtain ⟨q1, q2, q3⟩ := HQ.out.b1 (by omega)
        obtain ⟨q4, q5, q6, q7, q8⟩ := HQ.out.b3 rfl
        have hne : n + i ≠ n + j := by omega
        have hmem : ∀ f, f ∈ [n + i, n + j] → f = n + i ∨ f = n + j := by intro f hf; simpa using hf
        have hwt : ∀ f, f ∈ [n + i, n + j] → p.wt f = (unp [n + i, n + j] [] (aTwo (n + i) (n + j) (proc i = proc j)) f : Int) := by
          intro f hf
          obtain ⟨u1, u2⟩ := unp_two hne (proc i = proc j)
          rcases hmem f hf with rfl | rfl
          · rw [u1, q3]; rfl
          · rw [u2, q7]; split <;> rfl
        refine (feasible_at (G5.drew) V5 (by dsimp only; rw [HQ.out.qn]; exact hn) _ (HF.out.loc 0 (by omega)) [n + i, n + j] (aTwo (n + i) (n + j) (proc i = proc j)) (by simp) (by dsimp only; rw [HQ.out.qev]; rfl) ?_ HQ.out.qordV HQ.out.qord ?_ (wf_two hne _) hwt ?_ (by simp) ?_).mono ?_
        · intro e he
          dsimp only
          rcases hmem e he with rfl | rfl
          · rw [q4]; simp [aTwo]; split <;> rfl
          · rw [q8]; simp [aTwo, Ne.symm hij]; rfl
        · intro e he
          dsimp only
          rw [HQ.out.qn]
          rcases hmem e he with rfl | rfl <;> omega
        · intro f hf
          dsimp only
          rcases hmem f hf with rfl | rfl
          · rw [q3]; omega
          · rw [q7]; split <;> omega
        · intro e he
          unfold aTwo
          split
          · split <;> simp
          · simp
        rintro e w6 ⟨rfl, T6, v6, o6, r6, t6, G6, F6, V6⟩
        go_wp2_with fail
        go_ret
        refine ⟨?_, T6, _, G6, V6, rfl, ?_⟩
        · by_cases hpp : proc i = proc j
          · have := feas_two_path p.rel p.dl p.wt (n + i) (n + j) (proc i = proc j) hpp hne hwt
            rw [q1, q2, q5, q6] at this
            exact congrArg (fun x => Ending.returned (.bool x)) (by rw [this, twoRes]; simp only [if_pos hpp])
          · have := feas_two_apart p.rel p.dl p.wt (aTwo (n + i) (n + j) (proc i = proc j)) (n + i) (n + j) q3 (by rw [q7, if_neg hpp]) (by simp [aTwo, hpp]) (by simp [aTwo, Ne.symm hij])
            rw [q1, q2, q5, q6] at this
            exact congrArg (fun x => Ending.returned (.bool x)) (by rw [this, twoRes]; simp only [if_neg hpp])
        · exact (F6.loc 0 (by omega)).trans (HF.out.loc 0 (by omega))
end Go.Proofs.Ybulkdasy
