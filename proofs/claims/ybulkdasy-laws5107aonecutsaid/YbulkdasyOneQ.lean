/-
  The plain law at one cut: what feasible answers on the graph that schedulable lays; steps of the sorting loop.
-/
import Derived.Test.YbulkdasyOneP
namespace Go.Proofs.Ybulkdasy
open Go.RowKit
set_option linter.unusedSimpArgs false
set_option linter.unusedVariables false
theorem top_lt (rel : Nat → Int) (L : List Nat) (c : Int) : ∀ j, top rel L j < c ↔ ∀ k, k ≤ j → rel (L.getD k 0) < c := by
  intro j
  induction j with
  | zero =>
    constructor
    · intro h k hk
      have : k = 0 := by omega
      subst this; exact h
    · intro h; exact h 0 (by omega)
  | succ j ih =>
    simp only [top]
    constructor
    · intro h k hk
      by_cases q : k = j + 1
      · subst q; omega
      · exact ih.1 (by omega) k (by omega)
    · intro h
      have h1 := ih.2 (fun k hk => h k (by omega))
      have h2 := h (j + 1) (by omega)
      omega
theorem getD_of_mem {L : List Nat} {u : Nat} (h : u ∈ L) : ∃ k, k < L.length ∧ L.getD k 0 = u := by
  obtain ⟨k, hk, he⟩ := List.getElem_of_mem h
  exact ⟨k, hk, by simp [hk, he]⟩
theorem getD_left {L M : List Nat} {k : Nat} (h : k < L.length) : (L ++ M).getD k 0 = L.getD k 0 := by
  rw [List.getD_eq_getElem?_getD, List.getD_eq_getElem?_getD, List.getElem?_append_left h]
theorem getD_end (L : List Nat) (a : Nat) : (L ++ [a]).getD L.length 0 = a := by simp
/-- The order in which the law wants the updates. -/
def InOrder (proc rank : Nat → Int) (vs : List Nat) : Prop := ∀ a b, a < b → b < vs.length → vs.getD a 0 ≠ vs.getD b 0 ∧ ¬ (proc (vs.getD a 0) = proc (vs.getD b 0) ∧ rank (vs.getD a 0) > rank (vs.getD b 0))
theorem nodup_of_getD {L : List Nat} (h : ∀ a b, a < b → b < L.length → L.getD a 0 ≠ L.getD b 0) : L.Nodup := by
  rw [List.nodup_iff_pairwise_ne, List.pairwise_iff_getElem]
  intro i j hi hj hij
  have := h i j hij hj
  simpa [hi, hj] using this
theorem one_plain {n i : Nat} {call ret proc rank : Nat → Int} {r0 : Int} {vs ev hs : List Nat} {hl Y : Nat → List Nat} {E : List (Nat × Nat)} {rel dl wt : Nat → Int}
    (hvn : ∀ u, u ∈ vs → u < n) (gnd : ev.Nodup) (gmem : ∀ e, e ∈ ev ↔ e = n + i ∨ e ∈ vs) (hE : E = chain (vs ++ [n + i]) ++ hs.flatMap (fun q => chain (Y q))) (gE : ∀ x, x ∈ E → x.1 ∈ ev ∧ x.2 ∈ ev)
    (hY : ∀ q, q ∈ hs → (Y q).Perm (hl q) ∧ ∀ a b, a < b → b < (Y q).length → rank ((Y q).getD a 0) ≤ rank ((Y q).getD b 0))
    (hnd : ∀ q, (hl q).Nodup) (hmem : ∀ q u, u ∈ hl q ↔ u ∈ vs ∧ proc u = (q : Int)) (hsm : ∀ q, q ∈ hs ↔ hl q ≠ []) (hp : ∀ u, ∃ q : Nat, q < 3 ∧ proc u = (q : Int))
    (hinj : ∀ u v, u < n → v < n → proc u = proc v → rank u = rank v → u = v)
    (hwt : ∀ e, e ∈ ev → wt e = (ins E e : Int)) (hrel : rel (n + i) = r0 ∧ ∀ u, u ∈ vs → rel u = call u) (hdl : dl (n + i) = ret i ∧ ∀ u, u ∈ vs → dl u = never) (hcall : ∀ u, call u < never) :
    feas rel dl wt (outs E) ev = true ↔ InOrder proc rank vs ∧ r0 < ret i ∧ ∀ u, u ∈ vs → call u < ret i := by
  have wf : WF ev (outs E) := ⟨gnd, fun e _ f hf => (gE _ (mem_outs.1 hf)).2⟩
  have hwu : ∀ f, f ∈ ev → wt f = (unp ev [] (outs E) f : Int) := fun f hf => by rw [hwt f hf, unp_outs ev gnd E (fun x hx => (gE x hx).1)]
  have edge1 : ∀ k, k + 1 < vs.length → vs.getD (k + 1) 0 ∈ outs E (vs.getD k 0) := by
    intro k hk
    rw [mem_outs, hE]
    refine List.mem_append_left _ (mem_chain.2 ⟨k, by simp; omega, getD_left (by omega), getD_left hk⟩)
  have edge2 : ∀ q, q ∈ hs → ∀ k, k + 1 < (Y q).length → (Y q).getD (k + 1) 0 ∈ outs E ((Y q).getD k 0) := by
    intro q hq k hk
    rw [mem_outs, hE]
    exact List.mem_append_right _ (List.mem_flatMap.2 ⟨q, hq, mem_chain.2 ⟨k, hk, rfl, rfl⟩⟩)
  have vev : ∀ k, k < vs.length → vs.getD k 0 ∈ ev := fun k hk => (gmem _).2 (.inr (getD_mem hk))
  have Yvs : ∀ q, q ∈ hs → ∀ k, k < (Y q).length → (Y q).getD k 0 ∈ vs ∧ proc ((Y q).getD k 0) = (q : Int) := fun q hq k hk => (hmem q _).1 ((hY q hq).1.mem_iff.1 (getD_mem hk))
  by_cases hO : InOrder proc rank vs
  · have vnd : vs.Nodup := nodup_of_getD (fun a b h1 h2 => (hO a b h1 h2).1)
    have Lnd : (vs ++ [n + i]).Nodup := by
      refine List.nodup_append.2 ⟨vnd, by simp, ?_⟩
      intro a ha b hb
      rw [List.mem_singleton.1 hb]
      have := hvn a ha
      omega
    have Lmem : ∀ x, x ∈ vs ++ [n + i] ↔ x ∈ ev := by
      intro x; rw [gmem, List.mem_append, List.mem_singleton]; exact Or.comm
    have hpath : Path ev (outs E) (vs ++ [n + i]) := by
      refine ⟨Lmem, Lnd, Nat.le_antisymm (length_le_of_nodup Lnd (fun x hx => (Lmem x).1 hx)) (length_le_of_nodup gnd (fun x hx => (Lmem x).2 hx)), ?_, ?_⟩
      · intro a b ha hb h
        rw [mem_outs, hE] at h
        rcases List.mem_append.1 h with h | h
        · obtain ⟨k, hk, h1, h2⟩ := mem_chain.1 h
          have e1 := getD_inj Lnd (by omega) ha h1
          have e2 := getD_inj Lnd hk hb h2
          omega
        · obtain ⟨q, hq, h⟩ := List.mem_flatMap.1 h
          obtain ⟨k, hk, h1, h2⟩ := mem_chain.1 h
          obtain ⟨v1, p1⟩ := Yvs q hq k (by omega)
          obtain ⟨v2, p2⟩ := Yvs q hq (k + 1) hk
          have hr := (hY q hq).2 k (k + 1) (by omega) hk
          have Ynd : (Y q).Nodup := (hY q hq).1.nodup_iff.2 (hnd q)
          have hne : (Y q).getD k 0 ≠ (Y q).getD (k + 1) 0 := fun z => by have := getD_inj Ynd (by omega) hk z; omega
          rw [h1] at v1 p1 hr hne
          rw [h2] at v2 p2 hr hne
          have la : a < vs.length := by
            refine Nat.lt_of_not_le (fun z => ?_)
            have : a = vs.length := by simp at ha; omega
            rw [this, getD_end] at v1
            have := hvn _ v1; omega
          have lb : b < vs.length := by
            refine Nat.lt_of_not_le (fun z => ?_)
            have : b = vs.length := by simp at hb; omega
            rw [this, getD_end] at v2
            have := hvn _ v2; omega
          rw [getD_left la] at v1 p1 hr hne
          rw [getD_left lb] at v2 p2 hr hne
          refine Nat.lt_of_not_le (fun z => ?_)
          rcases Nat.lt_or_eq_of_le z with z | z
          · have h3 := (hO b a z la).2
            have h4 : rank (vs.getD b 0) = rank (vs.getD a 0) := by
              have : ¬ rank (vs.getD b 0) > rank (vs.getD a 0) := fun y => h3 ⟨by rw [p1, p2], y⟩
              omega
            exact hne (hinj _ _ (hvn _ v1) (hvn _ v2) (by rw [p1, p2]) h4.symm)
          · subst z; exact hne rfl
      · intro k hk
        rw [mem_outs, hE]
        exact List.mem_append_left _ (mem_chain.2 ⟨k, hk, rfl, rfl⟩)
    rw [feas_path wf hpath rel dl wt hwu]
    have hlast : ∀ k, k < vs.length → rel ((vs ++ [n + i]).getD k 0) = call (vs.getD k 0) := fun k hk => by rw [getD_left hk]; exact hrel.2 _ (getD_mem hk)
    constructor
    · intro h
      have h1 := h vs.length (by simp)
      rw [getD_end, hdl.1, top_lt] at h1
      refine ⟨hO, ?_, ?_⟩
      · have := h1 vs.length (by omega)
        rw [getD_end, hrel.1] at this
        exact this
      · intro u hu
        obtain ⟨k, hk, rfl⟩ := getD_of_mem hu
        have := h1 k (by omega)
        rw [hlast k hk] at this
        exact this
    · rintro ⟨_, h1, h2⟩ j hj
      rw [top_lt]
      intro k hk
      by_cases hjl : j = vs.length
      · rw [hjl, getD_end, hdl.1]
        by_cases hkl : k = vs.length
        · rw [hkl, getD_end, hrel.1]; exact h1
        · rw [hlast k (by omega)]; exact h2 _ (getD_mem (by omega))
      · have hjl' : j < vs.length := by simp at hj; omega
        rw [getD_left hjl', hdl.2 _ (getD_mem hjl'), hlast k (by omega)]
        exact hcall _
  · have hfalse : feas rel dl wt (outs E) ev = false := by
      have : ∃ a b, a < b ∧ b < vs.length ∧ (vs.getD a 0 = vs.getD b 0 ∨ proc (vs.getD a 0) = proc (vs.getD b 0) ∧ rank (vs.getD a 0) > rank (vs.getD b 0)) := by
        refine Classical.byContradiction (fun hc => hO ?_)
        intro a b h1 h2
        exact ⟨fun z => hc ⟨a, b, h1, h2, .inl z⟩, fun z => hc ⟨a, b, h1, h2, .inr z⟩⟩
      obtain ⟨a, b, hab, hb, h⟩ := this
      rcases h with heq | ⟨hpp, hrr⟩
      · refine feas_cyc wf rel dl wt hwu (fun c => ∃ k, a < k ∧ k ≤ b ∧ vs.getD k 0 = c) ?_ (vs.getD b 0) ⟨b, hab, Nat.le_refl _, rfl⟩
        rintro c ⟨k, h1, h2, rfl⟩
        refine ⟨vev k (by omega), vs.getD (k - 1) 0, ?_, ?_⟩
        · by_cases hk : k - 1 = a
          · exact ⟨b, hab, Nat.le_refl _, by rw [hk]; exact heq.symm⟩
          · exact ⟨k - 1, by omega, by omega, rfl⟩
        · have := edge1 (k - 1) (by omega)
          rw [show k - 1 + 1 = k by omega] at this
          exact this
      · obtain ⟨q, _, hq⟩ := hp (vs.getD a 0)
        have ma : vs.getD a 0 ∈ hl q := (hmem q _).2 ⟨getD_mem (by omega), hq⟩
        have mb : vs.getD b 0 ∈ hl q := (hmem q _).2 ⟨getD_mem hb, by rw [← hpp]; exact hq⟩
        have hqs : q ∈ hs := (hsm q).2 (List.ne_nil_of_mem ma)
        obtain ⟨s, hs1, hs2⟩ := getD_of_mem ((hY q hqs).1.mem_iff.2 ma)
        obtain ⟨t, ht1, ht2⟩ := getD_of_mem ((hY q hqs).1.mem_iff.2 mb)
        have hts : t < s := by
          refine Nat.lt_of_not_le (fun z => ?_)
          rcases Nat.lt_or_eq_of_le z with z | z
          · have := (hY q hqs).2 s t z ht1
            rw [hs2, ht2] at this; omega
          · subst z
            rw [hs2] at ht2
            rw [ht2] at hrr; omega
        refine feas_cyc wf rel dl wt hwu (fun c => (∃ k, a < k ∧ k ≤ b ∧ vs.getD k 0 = c) ∨ ∃ k, t < k ∧ k ≤ s ∧ (Y q).getD k 0 = c) ?_ (vs.getD b 0) (.inl ⟨b, hab, Nat.le_refl _, rfl⟩)
        rintro c (⟨k, h1, h2, rfl⟩ | ⟨k, h1, h2, rfl⟩)
        · refine ⟨vev k (by omega), vs.getD (k - 1) 0, ?_, ?_⟩
          · by_cases hk : k - 1 = a
            · exact .inr ⟨s, hts, Nat.le_refl _, by rw [hk]; exact hs2⟩
            · exact .inl ⟨k - 1, by omega, by omega, rfl⟩
          · have := edge1 (k - 1) (by omega)
            rw [show k - 1 + 1 = k by omega] at this
            exact this
        · refine ⟨(gmem _).2 (.inr (Yvs q hqs k (by omega)).1), (Y q).getD (k - 1) 0, ?_, ?_⟩
          · by_cases hk : k - 1 = t
            · exact .inl ⟨b, hab, Nat.le_refl _, by rw [hk]; exact ht2.symm⟩
            · exact .inr ⟨k - 1, by omega, by omega, rfl⟩
          · have := edge2 q hqs (k - 1) (by omega)
            rw [show k - 1 + 1 = k by omega] at this
            exact this
    rw [hfalse]
    constructor
    · intro h; cases h
    · intro h; exact absurd h.1 hO
theorem Row.cut0 {S : Sto} {x : Nat} {a : Option Addr} {l c : Nat} {xs : List Value} (h : Row S x (.slice a l c) xs) : Row S x (.slice a 0 c) [] := by
  rcases h with ⟨h1, h2⟩ | ⟨h1, sp, h2, h3, h4, h5⟩
  · injection h1 with h1 h2 h3
    subst h1 h3
    exact .inl ⟨rfl, rfl⟩
  · injection h2 with h2 h6 h7
    subst h2 h7
    refine .inr ⟨h1, xs ++ sp, ?_, by simpa using h3, h4, by simpa using h5⟩
    simp
theorem sort_at {w0 w : World} {S : Sto} {p : PS} (hG : Good w0 w S) (hV : VA S p) (m : Nat) (hm : p.n = m + 1) (hn : p.n ≤ 300) (q : Nat) (hq : q < 3) (xs : List Nat) (hx : p.hb q = natI xs) (hne : xs ≠ []) (hlt : ∀ u, u ∈ xs → u < p.n) (hlen : xs.length ≤ 1000)
    (d27 : S.dom 27) (b0 b27 : Nat) (h0 : S.loc 0 = b0) (h27 : S.loc 27 = b27) (c27 : S.cells 27 = [.pointer (some ⟨b0, 0, none⟩)]) :
    ∃ cap, p.hbV q = .slice (some ⟨S.loc (20 + q), 0, none⟩) xs.length cap ∧
    Calls Yba.prog 23 #[.slice (some ⟨S.loc (20 + q), 0, none⟩) xs.length cap, .func (.func 24) #[] #[.pointer (some ⟨b27, 0, none⟩)]] w fun e w' => e = .returned (.tuple #[]) ∧ ∃ (S' : Sto) (ys : List Nat), Good w0 w' S' ∧ Fix S S' ∧ S'.loc (20 + q) = S.loc (20 + q) ∧ VA S' { p with hb := updL p.hb q (natI ys) } ∧ ys.Perm xs ∧
      ∀ i j, i < j → j < ys.length → p.rank (ys.getD i 0) ≤ p.rank (ys.getD j 0) := by
  subst h0 h27
  exact sort_any hG hV m hm hn q hq xs hx hne hlt hlen d27 c27
theorem QB.hbs {n i : Nat} {fen call ret proc rank : Nat → Int} {rv cv : Value} {p : PS} (h : QB n i fen call ret proc rank rv cv p) (f : Nat → Value) (g : Nat → List Int) : QB n i fen call ret proc rank rv cv { p with hbV := f, hb := g } :=
  ⟨h.qn, h.qfen, h.qcall, h.qret, h.qproc, h.qrank, h.qrcp, h.qcutV, h.qcut, h.qordV, h.qord⟩
theorem QG.hbs {n i : Nat} {call ret : Nat → Int} {r0 : Int} {vs ev : List Nat} {E : List (Nat × Nat)} {p : PS} (h : QG n i call ret r0 vs ev E p) (f : Nat → Value) (g : Nat → List Int) : QG n i call ret r0 vs ev E { p with hbV := f, hb := g } :=
  ⟨h.gev, h.gnd, h.gmem, h.glen, h.gaft, h.gwt, h.gnil, h.gE, h.grel, h.gdl⟩
theorem QB.hb1 {n i : Nat} {fen call ret proc rank : Nat → Int} {rv cv : Value} {p : PS} (h : QB n i fen call ret proc rank rv cv p) (g : Nat → List Int) : QB n i fen call ret proc rank rv cv { p with hb := g } :=
  ⟨h.qn, h.qfen, h.qcall, h.qret, h.qproc, h.qrank, h.qrcp, h.qcutV, h.qcut, h.qordV, h.qord⟩
theorem QG.hb1 {n i : Nat} {call ret : Nat → Int} {r0 : Int} {vs ev : List Nat} {E : List (Nat × Nat)} {p : PS} (h : QG n i call ret r0 vs ev E p) (g : Nat → List Int) : QG n i call ret r0 vs ev E { p with hb := g } :=
  ⟨h.gev, h.gnd, h.gmem, h.glen, h.gaft, h.gwt, h.gnil, h.gE, h.grel, h.gdl⟩
theorem QB.hold {n i : Nat} {fen call ret proc rank : Nat → Int} {rv cv : Value} {p : PS} (h : QB n i fen call ret proc rank rv cv p) (f : Value) (g : List Int) : QB n i fen call ret proc rank rv cv { p with holdV := f, hold := g } :=
  ⟨h.qn, h.qfen, h.qcall, h.qret, h.qproc, h.qrank, h.qrcp, h.qcutV, h.qcut, h.qordV, h.qord⟩
theorem QG.hold {n i : Nat} {call ret : Nat → Int} {r0 : Int} {vs ev : List Nat} {E : List (Nat × Nat)} {p : PS} (h : QG n i call ret r0 vs ev E p) (f : Value) (g : List Int) : QG n i call ret r0 vs ev E { p with holdV := f, hold := g } :=
  ⟨h.gev, h.gnd, h.gmem, h.glen, h.gaft, h.gwt, h.gnil, h.gE, h.grel, h.gdl⟩
/-- The edges behind j holders. -/
def edges (base : List (Nat × Nat)) (hs : List Nat) (Y : Nat → List Nat) (j : Nat) : List (Nat × Nat) := base ++ (hs.take j).flatMap (fun q => chain (Y q))
theorem edges_succ {base : List (Nat × Nat)} {hs : List Nat} {Y : Nat → List Nat} {j r : Nat} (hr : hs[j]? = some r) (hnd : hs.Nodup) (ys : List Nat) : edges base hs (updN Y r ys) (j + 1) = edges base hs Y j ++ chain ys := by
  have hk := (List.getElem?_eq_some_iff.1 hr).1
  have he := (List.getElem?_eq_some_iff.1 hr).2
  have hni : r ∉ hs.take j := by
    intro h
    obtain ⟨k, hk1, hk2⟩ := List.getElem_of_mem h
    rw [List.length_take] at hk1
    rw [List.getElem_take] at hk2
    have := (List.nodup_iff_pairwise_ne.1 hnd)
    rw [List.pairwise_iff_getElem] at this
    exact this k j (by omega) hk (by omega) (by rw [hk2, he])
  unfold edges
  rw [List.take_succ_eq_append_getElem hk, he, List.flatMap_append, ← List.append_assoc]
  congr 1
  · congr 1
    rw [List.flatMap_def, List.flatMap_def]
    congr 1
    refine List.map_congr_left (fun x hx => ?_)
    have : x ≠ r := fun z => hni (z ▸ hx)
    unfold updN
    rw [if_neg this]
  · simp [updN]
theorem not_mem_take {hs : List Nat} {j r : Nat} (hr : hs[j]? = some r) (hnd : hs.Nodup) : r ∉ hs.take j := by
  have hk := (List.getElem?_eq_some_iff.1 hr).1
  have he := (List.getElem?_eq_some_iff.1 hr).2
  intro h
  obtain ⟨k, hk1, hk2⟩ := List.getElem_of_mem h
  rw [List.length_take] at hk1
  rw [List.getElem_take] at hk2
  have := (List.nodup_iff_pairwise_ne.1 hnd)
  rw [List.pairwise_iff_getElem] at this
  exact this k j (by omega) hk (by omega) (by rw [hk2, he])
theorem mem_take_succ {hs : List Nat} {j r x : Nat} (hr : hs[j]? = some r) : x ∈ hs.take (j + 1) ↔ x ∈ hs.take j ∨ x = r := by
  have hk := (List.getElem?_eq_some_iff.1 hr).1
  have he := (List.getElem?_eq_some_iff.1 hr).2
  rw [List.take_succ_eq_append_getElem hk, he, List.mem_append, List.mem_singleton]
theorem Row.at_b {w0 w : World} {U : Sto} {x b l cap : Nat} {v : Value} {ys : List Nat} (hR : Row U x v (ints (natI ys))) (hG : Good w0 w U) (hv : v = .slice (some ⟨b, 0, none⟩) l cap) {k u : Nat} (hk : ys[k]? = some u) : U.loc x = b ∧ w.cell? ⟨b, k, none⟩ = some (.int .i64 (u : Int)) := by
  obtain ⟨c, h1, h2⟩ := hR.ncell hG hk
  rw [hv] at h1
  injection h1 with h1 _ _
  injection h1 with h1
  injection h1 with h1 _ _
  exact ⟨h1.symm, by rw [h1]; exact h2⟩
end Go.Proofs.Ybulkdasy
