/-
  The plain state of schedulable at one cut: events and a list of edges.
-/
import Derived.Test.YbulkdasyHold
import Derived.Test.YbulkdasySort
import Derived.Test.YbulkdasyTwo
namespace Go.Proofs.Ybulkdasy
open Go.RowKit
set_option linter.unusedSimpArgs false
set_option linter.unusedVariables false
/-! ### The graph as a list of edges -/
def outs (E : List (Nat × Nat)) (e : Nat) : List Nat := (E.filter (fun x => x.1 == e)).map (fun x => x.2)
def ins (E : List (Nat × Nat)) (f : Nat) : Nat := (E.filter (fun x => x.2 == f)).length
theorem outs_snoc (E : List (Nat × Nat)) (a c e : Nat) : outs (E ++ [(a, c)]) e = if e = a then outs E e ++ [c] else outs E e := by
  unfold outs
  by_cases h : e = a
  · subst h; simp
  · have : (a == e) = false := by simp; exact fun q => h q.symm
    simp [h, List.filter_append, List.filter_cons, this]
theorem ins_snoc (E : List (Nat × Nat)) (a c f : Nat) : ins (E ++ [(a, c)]) f = if f = c then ins E f + 1 else ins E f := by
  unfold ins
  by_cases h : f = c
  · subst h; simp
  · have : (c == f) = false := by simp; exact fun q => h q.symm
    simp [h, List.filter_append, List.filter_cons, this]
theorem mem_outs {E : List (Nat × Nat)} {e f : Nat} : f ∈ outs E e ↔ (e, f) ∈ E := by
  unfold outs
  simp only [List.mem_map, List.mem_filter, beq_iff_eq]
  constructor
  · rintro ⟨⟨a, b⟩, ⟨h1, h2⟩, h3⟩
    simp only at h2 h3
    subst h2 h3; exact h1
  · intro h; exact ⟨(e, f), ⟨h, rfl⟩, rfl⟩
theorem outs_len (E : List (Nat × Nat)) (e : Nat) : (outs E e).length ≤ E.length := by
  unfold outs; rw [List.length_map]; exact List.length_filter_le _ _
theorem ins_len (E : List (Nat × Nat)) (e : Nat) : ins E e ≤ E.length := List.length_filter_le _ _
theorem sum_add (l : List Nat) (g h : Nat → Nat) : (l.map (fun e => g e + h e)).sum = (l.map g).sum + (l.map h).sum := by
  induction l with
  | nil => rfl
  | cons a l ih => simp only [List.map_cons, List.sum_cons, ih]; omega
theorem sum_one (l : List Nat) (hl : l.Nodup) (a c : Nat) (ha : a ∈ l) : (l.map (fun e => if a = e then c else 0)).sum = c := by
  induction l with
  | nil => cases ha
  | cons b l ih =>
    obtain ⟨h1, h2⟩ := List.nodup_cons.1 hl
    simp only [List.map_cons, List.sum_cons]
    by_cases q : a = b
    · subst q
      have hz : (l.map (fun e => if a = e then c else 0)).sum = 0 := by
        have : l.map (fun e => if a = e then c else 0) = l.map (fun _ => 0) := List.map_congr_left (fun x hx => if_neg (fun (q : a = x) => h1 (by rw [q]; exact hx)))
        rw [this]
        clear this ih h1 h2 hl ha
        induction l with
        | nil => rfl
        | cons b l ih => simpa using ih
      rw [hz, if_pos rfl]; rfl
    · rw [if_neg q, ih h2 (by rcases List.mem_cons.1 ha with h | h; exact absurd h q; exact h)]; omega
theorem unp_outs (ev : List Nat) (hnd : ev.Nodup) (E : List (Nat × Nat)) (hE : ∀ x, x ∈ E → x.1 ∈ ev) (f : Nat) : unp ev [] (outs E) f = ins E f := by
  have h0 : ev.filter (fun e => !([] : List Nat).contains e) = ev := by simp
  unfold unp
  rw [h0]
  clear h0
  induction E with
  | nil =>
    have : ev.map (fun e => (outs [] e).count f) = ev.map (fun _ => 0) := rfl
    rw [this]
    show _ = 0
    clear this hnd hE
    induction ev with
    | nil => rfl
    | cons b l ih => simpa using ih
  | cons x E ih =>
    obtain ⟨a, c⟩ := x
    have h1 : ∀ e, (outs ((a, c) :: E) e).count f = (if a = e then (if c = f then 1 else 0) else 0) + (outs E e).count f := by
      intro e
      unfold outs
      by_cases q : a = e
      · subst q
        by_cases r : c = f
        · subst r; simp; omega
        · simp [r, List.count_cons]
      · simp [q, List.filter_cons]
    have h2 : ins ((a, c) :: E) f = (if c = f then 1 else 0) + ins E f := by
      unfold ins
      by_cases r : c = f
      · subst r; simp; omega
      · simp [r, List.filter_cons]
    simp only [h1]
    rw [sum_add, sum_one ev hnd a _ (hE (a, c) (by simp)), ih (fun x hx => hE x (by simp [hx])), h2]
def chain (xs : List Nat) : List (Nat × Nat) := (List.range (xs.length - 1)).map (fun k => (xs.getD k 0, xs.getD (k + 1) 0))
theorem mem_chain {xs : List Nat} {a b : Nat} : (a, b) ∈ chain xs ↔ ∃ k, k + 1 < xs.length ∧ xs.getD k 0 = a ∧ xs.getD (k + 1) 0 = b := by
  unfold chain
  simp only [List.mem_map, List.mem_range, Prod.mk.injEq]
  constructor
  · rintro ⟨k, h1, h2, h3⟩; exact ⟨k, by omega, h2, h3⟩
  · rintro ⟨k, h1, h2, h3⟩; exact ⟨k, by omega, h2, h3⟩
theorem chain_len (xs : List Nat) : (chain xs).length ≤ xs.length := by unfold chain; simp
theorem chain_snoc (xs : List Nat) (a b : Nat) : chain (xs ++ [a] ++ [b]) = chain (xs ++ [a]) ++ [(a, b)] := by
  unfold chain
  have e1 : (xs ++ [a] ++ [b]).length - 1 = xs.length + 1 := by simp
  have e2 : (xs ++ [a]).length - 1 = xs.length := by simp
  rw [e1, e2, List.range_succ, List.map_append]
  congr 1
  · refine List.map_congr_left (fun k hk => ?_)
    have hk' := List.mem_range.1 hk
    have q1 : (xs ++ [a] ++ [b]).getD k 0 = (xs ++ [a]).getD k 0 := by
      rw [List.getD_eq_getElem?_getD, List.getD_eq_getElem?_getD, List.getElem?_append_left (by simp; omega)]
    have q2 : (xs ++ [a] ++ [b]).getD (k + 1) 0 = (xs ++ [a]).getD (k + 1) 0 := by
      rw [List.getD_eq_getElem?_getD, List.getD_eq_getElem?_getD, List.getElem?_append_left (by simp; omega)]
    rw [q1, q2]
  · simp
theorem chain_one (b : Nat) : chain [b] = [] := rfl
theorem chain_take (ys : List Nat) (k : Nat) (hk : k + 1 < ys.length) : chain (ys.take (k + 2)) = chain (ys.take (k + 1)) ++ [(ys.getD k 0, ys.getD (k + 1) 0)] := by
  have e1 : ys.take (k + 2) = ys.take k ++ [ys.getD k 0] ++ [ys.getD (k + 1) 0] := by
    rw [List.take_succ_eq_append_getElem (by omega), List.take_succ_eq_append_getElem (by omega)]; simp [show k < ys.length by omega, hk]
  have e2 : ys.take (k + 1) = ys.take k ++ [ys.getD k 0] := by
    rw [List.take_succ_eq_append_getElem (by omega)]; simp [show k < ys.length by omega]
  rw [e1, e2, chain_snoc]
/-! ### The plain state of schedulable at one cut -/
def nilS : Value := .slice none 0 0
structure QB (n i : Nat) (fen call ret proc rank : Nat → Int) (rv cv : Value) (p : PS) : Prop where
  qn : p.n = n
  qfen : p.fen = fen
  qcall : p.call = call
  qret : p.ret = ret
  qproc : p.proc = proc
  qrank : p.rank = rank
  qrcp : p.rcp i = rv
  qcutV : p.cutV = cv
  qcut : p.cut = natI [i]
  qordV : p.ordV = .slice none 0 0
  qord : p.ord = []
structure QG (n i : Nat) (call ret : Nat → Int) (r0 : Int) (vs ev : List Nat) (E : List (Nat × Nat)) (p : PS) : Prop where
  gev : p.ev = natI ev
  gnd : ev.Nodup
  gmem : ∀ e, e ∈ ev ↔ e = n + i ∨ e ∈ vs
  glen : ev.length ≤ vs.length + 1
  gaft : ∀ e, e ∈ ev → p.aft e = natI (outs E e)
  gwt : ∀ e, e ∈ ev → p.wt e = (ins E e : Int)
  gnil : ∀ e, e ∉ ev → p.aftV e = .slice none 0 0
  gE : ∀ x, x ∈ E → x.1 ∈ ev ∧ x.2 ∈ ev
  grel : p.rel (n + i) = r0 ∧ ∀ u, u ∈ vs → p.rel u = call u
  gdl : p.dl (n + i) = ret i ∧ ∀ u, u ∈ vs → p.dl u = never
structure QH (n : Nat) (proc : Nat → Int) (vs : List Nat) (hl : Nat → List Nat) (hs : List Nat) (p : PS) : Prop where
  hheld : ∀ u, p.held u = 1 ↔ u ∈ vs
  hb : ∀ q, p.hb q = natI (hl q)
  hnd : ∀ q, (hl q).Nodup
  hmem : ∀ q u, u ∈ hl q ↔ u ∈ vs ∧ proc u = (q : Int)
  hlen : ∀ q, (hl q).length ≤ vs.length
  hhold : p.hold = natI hs
  hsnd : hs.Nodup
  hsmem : ∀ q, q ∈ hs ↔ hl q ≠ []
  hslen : hs.length ≤ vs.length
theorem QG.same {n i : Nat} {call ret : Nat → Int} {r0 : Int} {vs vs' ev : List Nat} {E : List (Nat × Nat)} {p : PS} (h : QG n i call ret r0 vs ev E p) (hm : ∀ u, u ∈ vs' ↔ u ∈ vs) (hl : vs.length ≤ vs'.length) : QG n i call ret r0 vs' ev E p :=
  ⟨h.gev, h.gnd, fun e => by rw [h.gmem, hm], by have := h.glen; omega, h.gaft, h.gwt, h.gnil, h.gE, ⟨h.grel.1, fun u hu => h.grel.2 u ((hm u).1 hu)⟩, ⟨h.gdl.1, fun u hu => h.gdl.2 u ((hm u).1 hu)⟩⟩
theorem QH.same {n : Nat} {proc : Nat → Int} {vs vs' : List Nat} {hl : Nat → List Nat} {hs : List Nat} {p : PS} (h : QH n proc vs hl hs p) (hm : ∀ u, u ∈ vs' ↔ u ∈ vs) (hle : vs.length ≤ vs'.length) : QH n proc vs' hl hs p :=
  ⟨fun u => by rw [h.hheld, hm], h.hb, h.hnd, fun q u => by rw [h.hmem, hm], fun q => by have := h.hlen q; omega, h.hhold, h.hsnd, h.hsmem, by have := h.hslen; omega⟩
theorem QG.req {n i : Nat} {call ret : Nat → Int} {r0 : Int} {vs ev : List Nat} {E : List (Nat × Nat)} {p : PS} (h : QG n i call ret r0 vs ev E p) (a c : Nat) (ha : a ∈ ev) (hc : c ∈ ev) (v : Value) :
    QG n i call ret r0 vs ev (E ++ [(a, c)]) { p with wt := upd p.wt c (p.wt c + 1), aftV := updV p.aftV a v, aft := updL p.aft a (p.aft a ++ [(c : Int)]) } := by
  refine ⟨h.gev, h.gnd, h.gmem, h.glen, ?_, ?_, ?_, ?_, h.grel, h.gdl⟩
  · intro e he
    dsimp only
    rw [outs_snoc]
    unfold updL
    by_cases q : e = a
    · subst q
      rw [if_pos rfl, if_pos rfl, h.gaft e he, natI_snoc]
    · rw [if_neg q, if_neg q, h.gaft e he]
  · intro e he
    dsimp only
    rw [ins_snoc]
    unfold upd
    by_cases q : e = c
    · subst q
      rw [if_pos rfl, if_pos rfl, h.gwt e he]; omega
    · rw [if_neg q, if_neg q, h.gwt e he]
  · intro e he
    dsimp only
    unfold updV
    rw [if_neg (fun (q : e = a) => he (by rw [q]; exact ha))]
    exact h.gnil e he
  · intro x hx
    rcases List.mem_append.1 hx with hx | hx
    · exact h.gE x hx
    · rw [List.mem_singleton.1 hx]; exact ⟨ha, hc⟩
theorem outs_none {E : List (Nat × Nat)} {e : Nat} (h : ∀ x, x ∈ E → x.1 ≠ e) : outs E e = [] := by
  unfold outs
  rw [List.filter_eq_nil_iff.2 (fun x hx => by simp; exact h x hx)]; rfl
theorem ins_none {E : List (Nat × Nat)} {e : Nat} (h : ∀ x, x ∈ E → x.2 ≠ e) : ins E e = 0 := by
  unfold ins
  rw [List.filter_eq_nil_iff.2 (fun x hx => by simp; exact h x hx)]; rfl
theorem QG.addNew {n i : Nat} {call ret : Nat → Int} {r0 : Int} {vs ev : List Nat} {E : List (Nat × Nat)} {p : PS} (h : QG n i call ret r0 vs ev E p) (u : Nat) (hu : u ∉ ev) (hc : p.call = call) (st : Int) (v1 v2 v3 : Value) (ho : List Int) (q : Nat) :
    QG n i call ret r0 (vs ++ [u]) (ev ++ [u]) E { p with held := upd p.held u st, evV := v1, ev := p.ev ++ [(u : Int)], rel := upd p.rel u (p.call u), dl := upd p.dl u never, wt := upd p.wt u 0, aftV := updV p.aftV u (.slice none 0 0), aft := updL p.aft u [], holdV := v2, hold := ho, hbV := updV p.hbV q v3, hb := updL p.hb q (p.hb q ++ [(u : Int)]) } := by
  have hni : n + i ≠ u := fun q => hu ((h.gmem u).2 (.inl q.symm))
  have huv : u ∉ vs := fun q => hu ((h.gmem u).2 (.inr q))
  have hE : ∀ x, x ∈ E → x.1 ≠ u ∧ x.2 ≠ u := fun x hx => ⟨fun q => hu (q ▸ (h.gE x hx).1), fun q => hu (q ▸ (h.gE x hx).2)⟩
  refine ⟨?_, ?_, ?_, ?_, ?_, ?_, ?_, ?_, ?_, ?_⟩
  · dsimp only; rw [h.gev, natI_snoc]
  · refine List.nodup_append.2 ⟨h.gnd, by simp, ?_⟩
    intro a ha b hb
    rw [List.mem_singleton.1 hb]
    exact fun q => hu (q ▸ ha)
  · intro e
    rw [List.mem_append, h.gmem, List.mem_append]
    constructor
    · rintro ((h | h) | h)
      · exact .inl h
      · exact .inr (.inl h)
      · exact .inr (.inr h)
    · rintro (h | h | h)
      · exact .inl (.inl h)
      · exact .inl (.inr h)
      · exact .inr h
  · have := h.glen; simp; omega
  · intro e he
    dsimp only
    unfold updL
    by_cases q : e = u
    · rw [if_pos q, q, outs_none (fun x hx => (hE x hx).1)]; rfl
    · rw [if_neg q]
      rcases List.mem_append.1 he with he | he
      · exact h.gaft e he
      · exact absurd (List.mem_singleton.1 he) q
  · intro e he
    dsimp only
    unfold upd
    by_cases q : e = u
    · rw [if_pos q, q, ins_none (fun x hx => (hE x hx).2)]; rfl
    · rw [if_neg q]
      rcases List.mem_append.1 he with he | he
      · exact h.gwt e he
      · exact absurd (List.mem_singleton.1 he) q
  · intro e he
    have h1 : e ≠ u := fun q => he (by simp [q])
    have h2 : e ∉ ev := fun q => he (by simp [q])
    dsimp only
    unfold updV
    rw [if_neg h1]
    exact h.gnil e h2
  · intro x hx
    have := h.gE x hx
    simp [this.1, this.2]
  · refine ⟨?_, ?_⟩
    · dsimp only; unfold upd; rw [if_neg hni]; exact h.grel.1
    · intro e he
      dsimp only; unfold upd
      by_cases q : e = u
      · rw [if_pos q, hc, q]
      · rw [if_neg q]
        rcases List.mem_append.1 he with he | he
        · exact h.grel.2 e he
        · exact absurd (List.mem_singleton.1 he) q
  · refine ⟨?_, ?_⟩
    · dsimp only; unfold upd; rw [if_neg hni]; exact h.gdl.1
    · intro e he
      dsimp only; unfold upd
      by_cases q : e = u
      · rw [if_pos q]
      · rw [if_neg q]
        rcases List.mem_append.1 he with he | he
        · exact h.gdl.2 e he
        · exact absurd (List.mem_singleton.1 he) q
def updN (f : Nat → List Nat) (e : Nat) (v : List Nat) : Nat → List Nat := fun k => if k = e then v else f k
def hsNew (hl : Nat → List Nat) (hs : List Nat) (q : Nat) : List Nat := if hl q = [] then hs ++ [q] else hs
theorem QH.addNew {n : Nat} {proc : Nat → Int} {vs : List Nat} {hl : Nat → List Nat} {hs : List Nat} {p : PS} (h : QH n proc vs hl hs p) (u : Nat) (hu : u ∉ vs) (q : Nat) (hq : proc u = (q : Int)) (v1 v2 v3 : Value) :
    QH n proc (vs ++ [u]) (updN hl q (hl q ++ [u])) (hsNew hl hs q) { p with held := upd p.held u 1, evV := v1, ev := p.ev ++ [(u : Int)], rel := upd p.rel u (p.call u), dl := upd p.dl u never, wt := upd p.wt u 0, aftV := updV p.aftV u (.slice none 0 0), aft := updL p.aft u [], holdV := v2, hold := holdL (p.hb q) p.hold q, hbV := updV p.hbV q v3, hb := updL p.hb q (p.hb q ++ [(u : Int)]) } := by
  refine ⟨?_, ?_, ?_, ?_, ?_, ?_, ?_, ?_, ?_⟩
  · intro e
    dsimp only; unfold upd
    by_cases c : e = u
    · simp [c]
    · rw [if_neg c, h.hheld]; simp [c]
  · intro r
    dsimp only; unfold updL updN
    by_cases c : r = q
    · rw [if_pos c, if_pos c, h.hb, natI_snoc]
    · rw [if_neg c, if_neg c, h.hb]
  · intro r
    unfold updN
    by_cases c : r = q
    · rw [if_pos c]
      refine List.nodup_append.2 ⟨h.hnd q, by simp, ?_⟩
      intro a ha b hb
      rw [List.mem_singleton.1 hb]
      exact fun z => hu (z ▸ ((h.hmem q a).1 ha).1)
    · rw [if_neg c]; exact h.hnd r
  · intro r e
    unfold updN
    by_cases c : r = q
    · rw [if_pos c, List.mem_append, List.mem_append, h.hmem, List.mem_singleton, c]
      constructor
      · rintro (⟨h1, h2⟩ | h1)
        · exact ⟨.inl h1, h2⟩
        · exact ⟨.inr h1, by rw [h1]; exact hq⟩
      · rintro ⟨h1 | h1, h2⟩
        · exact .inl ⟨h1, h2⟩
        · exact .inr h1
    · rw [if_neg c, h.hmem, List.mem_append, List.mem_singleton]
      constructor
      · rintro ⟨h1, h2⟩; exact ⟨.inl h1, h2⟩
      · rintro ⟨h1 | h1, h2⟩
        · exact ⟨h1, h2⟩
        · rw [h1, hq] at h2; exact absurd (by omega) c
  · intro r
    unfold updN
    by_cases c : r = q
    · rw [if_pos c]; have := h.hlen q; simp; omega
    · rw [if_neg c]; have := h.hlen r; simp; omega
  · dsimp only
    unfold holdL hsNew
    rw [h.hb, h.hhold]
    by_cases c : hl q = []
    · rw [if_pos c, if_pos (by rw [c]; rfl), natI_snoc]
    · rw [if_neg c, if_neg (by intro z; exact c (by cases hh : hl q with | nil => rfl | cons a t => rw [hh] at z; simp [natI] at z))]
  · unfold hsNew
    by_cases c : hl q = []
    · rw [if_pos c]
      refine List.nodup_append.2 ⟨h.hsnd, by simp, ?_⟩
      intro a ha b hb
      rw [List.mem_singleton.1 hb]
      exact fun z => ((h.hsmem a).1 ha) (by rw [z]; exact c)
    · rw [if_neg c]; exact h.hsnd
  · intro r
    unfold hsNew updN
    by_cases c : hl q = []
    · rw [if_pos c, List.mem_append, List.mem_singleton, h.hsmem]
      by_cases d : r = q
      · simp [d]
      · simp [d]
    · rw [if_neg c, h.hsmem]
      by_cases d : r = q
      · simp [d, c]
      · simp [d]
  · unfold hsNew
    have := h.hslen
    by_cases c : hl q = []
    · rw [if_pos c]; simp; omega
    · rw [if_neg c]; simp; omega
theorem Row.keep {S S' : Sto} {x : Nat} {v : Value} {xs : List Value} (h : Row S x v xs) (F : Fix S S') (hx : x = 16 ∨ 23 ≤ x ∧ x < 30) : Row S' x v xs := by
  obtain ⟨k1, k2, k3, k4⟩ := F.keep x hx
  rcases h with ⟨h1, h2⟩ | ⟨h1, sp, h2, h3, h4, h5⟩
  · exact .inl ⟨h1, h2⟩
  · exact .inr ⟨k1.2 h1, sp, by rw [k2]; exact h2, by rw [k3]; exact h3, by rw [k4]; exact h4, h5⟩
def seen (proc : Nat → Int) (i : Nat) (ws : List Nat) : List Nat := ws.filter (fun u => decide (proc u ≠ proc i))
theorem seen_same {proc : Nat → Int} {i : Nat} {ws : List Nat} {k u : Nat} (hu : ws[k]? = some u) (h : proc u = proc i) : seen proc i (ws.take (k + 1)) = seen proc i (ws.take k) := by
  have hk := (List.getElem?_eq_some_iff.1 hu).1
  have he := (List.getElem?_eq_some_iff.1 hu).2
  unfold seen
  rw [List.take_succ_eq_append_getElem hk, List.filter_append, he]
  simp [h]
theorem seen_new {proc : Nat → Int} {i : Nat} {ws : List Nat} {k u : Nat} (hu : ws[k]? = some u) (h : proc u ≠ proc i) : seen proc i (ws.take (k + 1)) = seen proc i (ws.take k) ++ [u] := by
  have hk := (List.getElem?_eq_some_iff.1 hu).1
  have he := (List.getElem?_eq_some_iff.1 hu).2
  unfold seen
  rw [List.take_succ_eq_append_getElem hk, List.filter_append, he]
  simp [h]
theorem seen_len (proc : Nat → Int) (i : Nat) (ws : List Nat) : (seen proc i ws).length ≤ ws.length := List.length_filter_le _ _
theorem seen_mem {proc : Nat → Int} {i : Nat} {ws : List Nat} {u : Nat} (h : u ∈ seen proc i ws) : u ∈ ws := (List.mem_filter.1 h).1
/-- The variable last. -/
def lastI (vs : List Nat) : Int := match vs.getLast? with | none => -1 | some u => (u : Int)
theorem lastI_nil : lastI [] = -1 := rfl
theorem lastI_snoc (vs : List Nat) (a : Nat) : lastI (vs ++ [a]) = (a : Int) := by unfold lastI; simp
theorem snoc_of {vs : List Nat} (h : vs ≠ []) : ∃ l a, vs = l ++ [a] := ⟨vs.dropLast, vs.getLast h, (List.dropLast_concat_getLast h).symm⟩
theorem QB.inw {n i : Nat} {fen call ret proc rank : Nat → Int} {rv cv : Value} {p : PS} (h : QB n i fen call ret proc rank rv cv p) (f : Nat → Int) : QB n i fen call ret proc rank rv cv { p with inw := f } :=
  ⟨h.qn, h.qfen, h.qcall, h.qret, h.qproc, h.qrank, h.qrcp, h.qcutV, h.qcut, h.qordV, h.qord⟩
theorem QB.req {n i : Nat} {fen call ret proc rank : Nat → Int} {rv cv : Value} {p : PS} (h : QB n i fen call ret proc rank rv cv p) (f : Nat → Int) (g : Nat → Value) (k : Nat → List Int) : QB n i fen call ret proc rank rv cv { p with wt := f, aftV := g, aft := k } :=
  ⟨h.qn, h.qfen, h.qcall, h.qret, h.qproc, h.qrank, h.qrcp, h.qcutV, h.qcut, h.qordV, h.qord⟩
theorem QB.addNew {n i : Nat} {fen call ret proc rank : Nat → Int} {rv cv : Value} {p : PS} (h : QB n i fen call ret proc rank rv cv p) (a1 : Nat → Int) (a2 : Value) (a3 : List Int) (a4 a5 a6 : Nat → Int) (a7 : Nat → Value) (a8 : Nat → List Int) (a9 : Value) (a10 : List Int) (a11 : Nat → Value) (a12 : Nat → List Int) :
    QB n i fen call ret proc rank rv cv { p with held := a1, evV := a2, ev := a3, rel := a4, dl := a5, wt := a6, aftV := a7, aft := a8, holdV := a9, hold := a10, hbV := a11, hb := a12 } :=
  ⟨h.qn, h.qfen, h.qcall, h.qret, h.qproc, h.qrank, h.qrcp, h.qcutV, h.qcut, h.qordV, h.qord⟩
theorem QB.addCut {n i : Nat} {fen call ret proc rank : Nat → Int} {rv cv : Value} {p : PS} (h : QB n i fen call ret proc rank rv cv p) (a2 : Value) (a3 : List Int) (a4 a5 a6 : Nat → Int) (a7 : Nat → Value) (a8 : Nat → List Int) (s : Int) :
    QB n i fen call ret proc rank rv cv { p with evV := a2, ev := a3, rel := a4, dl := a5, wt := a6, aftV := a7, aft := a8, st := s } :=
  ⟨h.qn, h.qfen, h.qcall, h.qret, h.qproc, h.qrank, h.qrcp, h.qcutV, h.qcut, h.qordV, h.qord⟩
theorem QG.inw {n i : Nat} {call ret : Nat → Int} {r0 : Int} {vs ev : List Nat} {E : List (Nat × Nat)} {p : PS} (h : QG n i call ret r0 vs ev E p) (f : Nat → Int) : QG n i call ret r0 vs ev E { p with inw := f } :=
  ⟨h.gev, h.gnd, h.gmem, h.glen, h.gaft, h.gwt, h.gnil, h.gE, h.grel, h.gdl⟩
theorem QH.inw {n : Nat} {proc : Nat → Int} {vs : List Nat} {hl : Nat → List Nat} {hs : List Nat} {p : PS} (h : QH n proc vs hl hs p) (f : Nat → Int) : QH n proc vs hl hs { p with inw := f } :=
  ⟨h.hheld, h.hb, h.hnd, h.hmem, h.hlen, h.hhold, h.hsnd, h.hsmem, h.hslen⟩
theorem QH.req {n : Nat} {proc : Nat → Int} {vs : List Nat} {hl : Nat → List Nat} {hs : List Nat} {p : PS} (h : QH n proc vs hl hs p) (f : Nat → Int) (g : Nat → Value) (k : Nat → List Int) : QH n proc vs hl hs { p with wt := f, aftV := g, aft := k } :=
  ⟨h.hheld, h.hb, h.hnd, h.hmem, h.hlen, h.hhold, h.hsnd, h.hsmem, h.hslen⟩
/-- Where the cut itself has been added. -/
theorem QG.start {n i : Nat} {call ret : Nat → Int} {r0 : Int} {p : PS} (he : p.ev = []) (ha : ∀ e, p.aftV e = .slice none 0 0) (v : Value) (s : Int) :
    QG n i call ret r0 [] [n + i] [] { p with evV := v, ev := p.ev ++ [((n + i : Nat) : Int)], rel := upd p.rel (n + i) r0, dl := upd p.dl (n + i) (ret i), wt := upd p.wt (n + i) 0, aftV := updV p.aftV (n + i) (.slice none 0 0), aft := updL p.aft (n + i) [], st := s } := by
  refine ⟨by dsimp only; rw [he]; rfl, by simp, by simp, by simp, ?_, ?_, ?_, by simp, ⟨by simp [upd], by simp⟩, ⟨by simp [upd], by simp⟩⟩
  · intro e h; rw [List.mem_singleton.1 h]; simp [updL, outs, natI]
  · intro e h; rw [List.mem_singleton.1 h]; simp [upd, ins]
  · intro e h
    have : e ≠ n + i := fun q => h (by simp [q])
    simp only [updV, if_neg this]; exact ha e
theorem QH.start {n : Nat} {proc : Nat → Int} {p : PS} (hh : p.hold = []) (h0 : ∀ u, p.held u = 0) (hb : ∀ q, p.hb q = []) (a2 : Value) (a3 : List Int) (a4 a5 a6 : Nat → Int) (a7 : Nat → Value) (a8 : Nat → List Int) (s : Int) :
    QH n proc [] (fun _ => []) [] { p with evV := a2, ev := a3, rel := a4, dl := a5, wt := a6, aftV := a7, aft := a8, st := s } :=
  ⟨fun u => by dsimp only; rw [h0]; simp, fun q => by dsimp only; rw [hb]; rfl, by simp, by simp, by simp, by dsimp only; rw [hh]; rfl, by simp, by simp, by simp⟩
theorem hold_step {w0 w : World} {S : Sto} {p : PS} {n i : Nat} {fen call ret proc rank : Nat → Int} {rv cv : Value} {r0 : Int} {vs ev : List Nat} {E : List (Nat × Nat)} {hl : Nat → List Nat} {hs : List Nat}
    (hG : Good w0 w S) (hV : VA S p) (hn : n ≤ 300) (b : Nat) (hb : S.loc 0 = b) (Q : QB n i fen call ret proc rank rv cv p) (st : Int) (hst : p.st = st) (hg : QG n i call ret r0 vs ev E p) (hh : QH n proc vs hl hs p) (u : Nat) (hu : u < n) (hp : ∃ q : Nat, q < 3 ∧ proc u = (q : Int)) (hvl : vs.length ≤ 1000) :
    Calls Yba.prog 20 #[.pointer (some ⟨b, 0, none⟩), .int .i64 u, .int .i64 1] w fun en w' => en = .returned (.tuple #[]) ∧ ∃ S' p' ev' hl' hs', Good w0 w' S' ∧ Fix S S' ∧ VA S' p' ∧ QB n i fen call ret proc rank rv cv p' ∧ p'.st = st ∧ QG n i call ret r0 (vs ++ [u]) ev' E p' ∧ QH n proc (vs ++ [u]) hl' hs' p' := by
  subst hb
  obtain ⟨q, hq, hpq⟩ := hp
  by_cases hm : u ∈ vs
  · refine (hold_same hG hV (by rw [Q.qn]; exact hn) u (by rw [Q.qn]; exact hu) 1 ((hh.hheld u).2 hm)).mono ?_
    rintro en w' ⟨rfl, rfl⟩
    have hsame : ∀ x, x ∈ vs ++ [u] ↔ x ∈ vs := by
      intro x; simp only [List.mem_append, List.mem_singleton]
      exact ⟨fun h => h.elim id (fun h => h ▸ hm), .inl⟩
    exact ⟨rfl, S, p, ev, hl, hs, hG, Fix.refl S, hV, Q, hst, hg.same hsame (by simp), hh.same hsame (by simp)⟩
  · have hne : u ∉ ev := fun z => by
      rcases (hg.gmem u).1 z with h | h
      · omega
      · exact hm h
    refine (hold_new hG hV (by rw [Q.qn]; exact hn) u (by rw [Q.qn]; exact hu) 1 (fun z => hm ((hh.hheld u).1 z)) q hq (by rw [Q.qproc]; exact hpq) (hg.gnil u hne) (by rw [hg.gev, natI_len]; have := hg.glen; omega) (by rw [hh.hhold, natI_len]; have := hh.hslen; omega) (by rw [hh.hb, natI_len]; have := hh.hlen q; omega)).mono ?_
    rintro en w' ⟨rfl, S', v1, v2, v3, G, F, V⟩
    exact ⟨rfl, S', _, _, _, _, G, F, V, Q.addNew _ _ _ _ _ _ _ _ _ _ _ _, hst, hg.addNew u hne Q.qcall 1 v1 v2 v3 _ q, hh.addNew u hm q hpq v1 v2 v3⟩
end Go.Proofs.Ybulkdasy
