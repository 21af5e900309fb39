/-
  The plain law of 'feasible': a queue that takes an event once nothing that waits is required ahead of it. No Go in sight.
-/
import Derived.Test.YbulkdasyBase
namespace Go.Proofs.Ybulkdasy

structure FS where
  rel : Nat → Int
  wt : Nat → Int
  ord : List Nat

def istep (e : Nat) (s : FS) (f : Nat) : FS where
  rel := upd s.rel f (max (s.rel f) (s.rel e))
  wt := upd s.wt f (s.wt f - 1)
  ord := if s.wt f - 1 = 0 then s.ord ++ [f] else s.ord
def inner (e : Nat) (fs : List Nat) (s : FS) : FS := fs.foldl (istep e) s
def outer (dl : Nat → Int) (aft : Nat → List Nat) (nev : Nat) : Nat → Nat → FS → Bool
  | 0, _, _ => false
  | fuel + 1, k, s => match s.ord[k]? with
    | none => s.ord.length == nev
    | some e => if dl e ≤ s.rel e then false else outer dl aft nev fuel (k + 1) (inner e (aft e) s)
def ord0 (wt : Nat → Int) (ev : List Nat) : List Nat := ev.filter (fun e => wt e == 0)
def feas (rel dl wt : Nat → Int) (aft : Nat → List Nat) (ev : List Nat) : Bool := outer dl aft ev.length (ev.length + 1) 0 ⟨rel, wt, ord0 wt ev⟩

/-- How many edges into f leave events that are not done. -/
def unp (ev done : List Nat) (aft : Nat → List Nat) (f : Nat) : Nat := ((ev.filter (fun e => !done.contains e)).map (fun e => (aft e).count f)).sum

structure WF (ev : List Nat) (aft : Nat → List Nat) : Prop where
  nd : ev.Nodup
  tgt : ∀ e, e ∈ ev → ∀ f, f ∈ aft e → f ∈ ev

structure J (ev : List Nat) (aft : Nat → List Nat) (done post : List Nat) (s : FS) : Prop where
  nd : s.ord.Nodup
  sub : ∀ f, f ∈ s.ord → f ∈ ev
  pre : done <+: s.ord
  wt : ∀ f, f ∈ ev → s.wt f = ((unp ev done aft f + post.count f : Nat) : Int)
  zero : ∀ f, f ∈ ev → (f ∈ s.ord ↔ s.wt f = 0)

theorem length_le_of_nodup {l m : List Nat} (h : l.Nodup) (hs : ∀ x, x ∈ l → x ∈ m) : l.length ≤ m.length := by
  induction l generalizing m with
  | nil => simp
  | cons a l ih =>
    have ha : a ∈ m := hs a (by simp)
    obtain ⟨h1, h2⟩ := List.nodup_cons.1 h
    have := ih (m := m.erase a) h2 (fun x hx => by
      have hne : x ≠ a := fun e => h1 (e ▸ hx)
      exact (List.mem_erase_of_ne hne).2 (hs x (by simp [hx])))
    rw [List.length_erase_of_mem ha] at this
    have : 0 < m.length := List.length_pos_of_mem ha
    simp only [List.length_cons]
    omega

section
variable {ev : List Nat} {aft : Nat → List Nat}

theorem J.len {done post : List Nat} {s : FS} (h : J ev aft done post s) : s.ord.length ≤ ev.length := length_le_of_nodup h.nd h.sub

theorem J.start (hw : WF ev aft) (rel wt : Nat → Int) (h : ∀ f, f ∈ ev → wt f = (unp ev [] aft f : Int)) : J ev aft [] [] ⟨rel, wt, ord0 wt ev⟩ where
  nd := hw.nd.sublist List.filter_sublist
  sub := fun f hf => (List.mem_filter.1 hf).1
  pre := List.nil_prefix
  wt := fun f hf => by simpa using h f hf
  zero := fun f hf => by simp [ord0, hf]

theorem unp_step (hw : WF ev aft) {done : List Nat} {e : Nat} (he : e ∈ ev) (hd : e ∉ done) (f : Nat) : unp ev done aft f = unp ev (done ++ [e]) aft f + (aft e).count f := by
  unfold unp
  have nd := hw.nd
  clear hw
  induction ev with
  | nil => simp at he
  | cons a l ih =>
    obtain ⟨h1, h2⟩ := List.nodup_cons.1 nd
    by_cases ea : a = e
    · subst ea
      have hl : ∀ x, x ∈ l → (!(done ++ [a]).contains x) = (!done.contains x) := by
        intro x hx
        have : x ≠ a := fun q => h1 (q ▸ hx)
        simp [this]
      have : l.filter (fun x => !(done ++ [a]).contains x) = l.filter (fun x => !done.contains x) := List.filter_congr hl
      simp only [List.filter_cons, this]
      simp [hd]
      omega
    · have he' : e ∈ l := by simpa [Ne.symm ea] using he
      have := ih he' h2
      by_cases ha : a ∈ done
      · simp [ha] at this ⊢
        exact this
      · simp [ha, ea] at this ⊢
        omega

theorem J.begun (hw : WF ev aft) {done : List Nat} {s : FS} (h : J ev aft done [] s) {e : Nat} (he : s.ord[done.length]? = some e) : J ev aft (done ++ [e]) (aft e) s := by
  obtain ⟨t, ht⟩ := h.pre
  have hmem : e ∈ s.ord := List.mem_of_getElem? he
  have hev := h.sub e hmem
  have hte : t[0]? = some e := by
    rw [← ht, List.getElem?_append_right (Nat.le_refl _)] at he
    simpa using he
  obtain ⟨t', rfl⟩ : ∃ t', t = e :: t' := by
    cases t with
    | nil => simp at hte
    | cons a b => simp at hte; exact ⟨b, by rw [hte]⟩
  have hnd : e ∉ done := by
    have := h.nd
    rw [← ht] at this
    exact fun q => (List.nodup_append.1 this).2.2 e q e (by simp) rfl
  refine ⟨h.nd, h.sub, ⟨t', by rw [← ht]; simp⟩, fun f hf => ?_, h.zero⟩
  rw [h.wt f hf, unp_step hw hev hnd f]
  simp

theorem J.istep {done post : List Nat} {s : FS} {f : Nat} (h : J ev aft done (f :: post) s) (hf : f ∈ ev) (e : Nat) : J ev aft done post (istep e s f) := by
  have hwf := h.wt f hf
  have hne : s.wt f ≠ 0 := by rw [hwf]; simp only [List.count_cons_self]; omega
  have hni : f ∉ s.ord := fun q => hne ((h.zero f hf).1 q)
  refine ⟨?_, ?_, ?_, ?_, ?_⟩
  · show (if s.wt f - 1 = 0 then s.ord ++ [f] else s.ord).Nodup
    split
    · rw [List.nodup_append]
      exact ⟨h.nd, by simp, fun a ha b hb => by simp at hb; subst hb; exact fun q => hni (q ▸ ha)⟩
    · exact h.nd
  · intro x hx
    have hx' : x ∈ (if s.wt f - 1 = 0 then s.ord ++ [f] else s.ord) := hx
    split at hx'
    · rcases List.mem_append.1 hx' with h1 | h1
      · exact h.sub x h1
      · simp at h1; exact h1 ▸ hf
    · exact h.sub x hx'
  · show done <+: (if s.wt f - 1 = 0 then s.ord ++ [f] else s.ord)
    split
    · exact h.pre.trans (List.prefix_append _ _)
    · exact h.pre
  · intro x hx
    show upd s.wt f (s.wt f - 1) x = _
    unfold upd
    by_cases e1 : x = f
    · subst e1
      rw [if_pos rfl, hwf, List.count_cons_self]
      omega
    · rw [if_neg e1, h.wt x hx, List.count_cons_of_ne (fun q => e1 q.symm)]
  · intro x hx
    show x ∈ (if s.wt f - 1 = 0 then s.ord ++ [f] else s.ord) ↔ upd s.wt f (s.wt f - 1) x = 0
    unfold upd
    by_cases e1 : x = f
    · subst e1
      rw [if_pos rfl]
      split
      · simp; assumption
      · simp [hni]; assumption
    · rw [if_neg e1, ← h.zero x hx]
      split
      · simp [e1]
      · rfl

theorem J.inner {done : List Nat} (e : Nat) : ∀ (fs : List Nat) {s : FS}, J ev aft done fs s → (∀ f, f ∈ fs → f ∈ ev) → J ev aft done [] (inner e fs s) := by
  intro fs
  induction fs with
  | nil => intro s h _; exact h
  | cons f fs ih =>
    intro s h hf
    exact ih (h.istep (hf f (by simp)) e) (fun x hx => hf x (by simp [hx]))

theorem J.round (hw : WF ev aft) {done : List Nat} {s : FS} (h : J ev aft done [] s) {e : Nat} (he : s.ord[done.length]? = some e) : J ev aft (done ++ [e]) [] (Ybulkdasy.inner e (aft e) s) :=
  J.inner e (aft e) (h.begun hw he) (hw.tgt e (h.sub e (List.mem_of_getElem? he)))

theorem inner_pre (e : Nat) (fs : List Nat) (s : FS) : s.ord <+: (inner e fs s).ord := by
  induction fs generalizing s with
  | nil => exact List.prefix_refl _
  | cons f fs ih =>
    refine List.IsPrefix.trans ?_ (ih (istep e s f))
    show s.ord <+: (if s.wt f - 1 = 0 then s.ord ++ [f] else s.ord)
    split
    · exact List.prefix_append _ _
    · exact List.prefix_refl _

theorem unp_pos {done : List Nat} {c f : Nat} (hc : c ∈ ev) (hd : c ∉ done) (hf : f ∈ aft c) : 0 < unp ev done aft f := by
  unfold unp
  have h1 : c ∈ ev.filter (fun e => !done.contains e) := by simp [hc, hd]
  have h2 : 0 < (aft c).count f := List.count_pos_iff.2 hf
  have h3 : (aft c).count f ≤ ((ev.filter (fun e => !done.contains e)).map (fun e => (aft e).count f)).sum := by
    generalize ev.filter (fun e => !done.contains e) = l at h1
    induction l with
    | nil => simp at h1
    | cons a l ih =>
      simp only [List.map_cons, List.sum_cons]
      rcases List.mem_cons.1 h1 with rfl | h
      · omega
      · have := ih h; omega
  omega

/-- EVENTS THAT WAIT ON ONE ANOTHER ARE NEVER TAKEN. -/
theorem outer_cyc (hw : WF ev aft) (dl : Nat → Int) (C : Nat → Prop) (hC : ∀ c, C c → c ∈ ev ∧ ∃ c', C c' ∧ c ∈ aft c') (c0 : Nat) (h0 : C c0) :
    ∀ (fuel k : Nat) (s : FS), J ev aft (s.ord.take k) [] s → k ≤ s.ord.length → (∀ c, C c → c ∉ s.ord) → outer dl aft ev.length fuel k s = false := by
  intro fuel
  induction fuel with
  | zero => intros; rfl
  | succ fuel ih =>
    intro k s hJ hk hn
    unfold outer
    cases hs : s.ord[k]? with
    | none =>
      simp only
      have hsub : ∀ x, x ∈ s.ord → x ∈ ev.erase c0 := by
        intro x hx
        have hne : x ≠ c0 := fun e => hn c0 h0 (e ▸ hx)
        exact (List.mem_erase_of_ne hne).2 (hJ.sub x hx)
      have h1 := length_le_of_nodup hJ.nd hsub
      have hmem := (hC c0 h0).1
      rw [List.length_erase_of_mem hmem] at h1
      have : 0 < ev.length := List.length_pos_of_mem hmem
      simp
      omega
    | some e =>
      simp only
      split
      · rfl
      · have hkl : k < s.ord.length := (List.getElem?_eq_some_iff.1 hs).1
        have htl : (s.ord.take k).length = k := by simp; omega
        have hR := hJ.round hw (e := e) (by rw [htl]; exact hs)
        obtain ⟨t, ht⟩ := inner_pre e (aft e) s
        have htake : (inner e (aft e) s).ord.take (k + 1) = s.ord.take k ++ [e] := by
          rw [← ht, List.take_append_of_le_length (by omega), List.take_succ_eq_append_getElem hkl]
          congr 1
          have := (List.getElem?_eq_some_iff.1 hs).2
          rw [this]
        refine ih (k + 1) _ (by rw [htake]; exact hR) (by rw [← ht]; simp; omega) ?_
        intro c hc hmem
        obtain ⟨hce, c', hc', hcc⟩ := hC c hc
        have hz := (hR.zero c hce).1 hmem
        have hnd : c' ∉ s.ord.take k ++ [e] := by
          intro q
          rcases List.mem_append.1 q with q | q
          · exact hn c' hc' (List.mem_of_mem_take q)
          · simp at q; exact hn c' hc' (q ▸ List.mem_of_getElem? hs)
        have hp := unp_pos (ev := ev) (aft := aft) (hC c' hc').1 hnd hcc
        rw [hR.wt c hce] at hz
        simp at hz
        omega

theorem feas_cyc (hw : WF ev aft) (rel dl wt : Nat → Int) (h : ∀ f, f ∈ ev → wt f = (unp ev [] aft f : Int)) (C : Nat → Prop) (hC : ∀ c, C c → c ∈ ev ∧ ∃ c', C c' ∧ c ∈ aft c') (c0 : Nat) (h0 : C c0) :
    feas rel dl wt aft ev = false := by
  have hJ := J.start hw rel wt h
  refine outer_cyc hw dl C hC c0 h0 _ 0 _ (by simpa using hJ) (Nat.zero_le _) ?_
  intro c hc hmem
  obtain ⟨hce, c', hc', hcc⟩ := hC c hc
  have hz := (hJ.zero c hce).1 hmem
  have hp := unp_pos (ev := ev) (aft := aft) (done := []) (hC c' hc').1 (by simp) hcc
  rw [hJ.wt c hce] at hz
  simp at hz
  omega

/-! ### A path through all events -/
def top (rel : Nat → Int) (L : List Nat) : Nat → Int
  | 0 => rel (L.getD 0 0)
  | k + 1 => max (top rel L k) (rel (L.getD (k + 1) 0))

theorem inner_rel (e : Nat) (fs : List Nat) (s : FS) (he : e ∉ fs) : (inner e fs s).rel e = s.rel e ∧ ∀ x, (inner e fs s).rel x = if x ∈ fs then max (s.rel x) (s.rel e) else s.rel x := by
  induction fs generalizing s with
  | nil => exact ⟨rfl, fun x => by simp [inner]⟩
  | cons f fs ih =>
    have hne : e ≠ f := fun q => he (by simp [q])
    have he' : e ∉ fs := fun q => he (by simp [q])
    have h0 : (istep e s f).rel e = s.rel e := by simp [istep, upd, hne]
    obtain ⟨h1, h2⟩ := ih (istep e s f) he'
    refine ⟨h1.trans h0, fun x => ?_⟩
    have h3 : (inner e (f :: fs) s).rel x = (inner e fs (istep e s f)).rel x := rfl
    rw [h3, h2 x, h0]
    by_cases ex : x = f
    · subst ex
      have : (istep e s x).rel x = max (s.rel x) (s.rel e) := by simp [istep, upd]
      rw [this]
      simp
    · have : (istep e s f).rel x = s.rel x := by simp [istep, upd, ex]
      rw [this]
      simp [ex]

/-- L lists the events along a path of edges, and every edge goes on along L. -/
structure Path (ev : List Nat) (aft : Nat → List Nat) (L : List Nat) : Prop where
  mem : ∀ x, x ∈ L ↔ x ∈ ev
  nd : L.Nodup
  len : L.length = ev.length
  fwd : ∀ i j, i < L.length → j < L.length → L.getD j 0 ∈ aft (L.getD i 0) → i < j
  nxt : ∀ i, i + 1 < L.length → L.getD (i + 1) 0 ∈ aft (L.getD i 0)

theorem getD_inj {L : List Nat} (h : L.Nodup) {i j : Nat} (hi : i < L.length) (hj : j < L.length) (e : L.getD i 0 = L.getD j 0) : i = j := by
  have h1 : L.getD i 0 = L[i] := by simp [hi]
  have h2 : L.getD j 0 = L[j] := by simp [hj]
  rw [h1, h2] at e
  clear h1 h2
  induction L generalizing i j with
  | nil => simp at hi
  | cons a l ih =>
    obtain ⟨n1, n2⟩ := List.nodup_cons.1 h
    cases i with
    | zero =>
      cases j with
      | zero => rfl
      | succ j => simp at e; exact absurd (e ▸ List.getElem_mem _) n1
    | succ i =>
      cases j with
      | zero => simp at e; exact absurd (e ▸ List.getElem_mem _) n1
      | succ j => simp at e hi hj; rw [ih n2 hi hj e]

theorem getD_mem {L : List Nat} {i : Nat} (hi : i < L.length) : L.getD i 0 ∈ L := by
  have h1 : L.getD i 0 = L[i] := by simp [hi]
  rw [h1]; exact List.getElem_mem hi

theorem unp_zero {done : List Nat} {f : Nat} (h : ∀ c, c ∈ ev → c ∉ done → f ∉ aft c) : unp ev done aft f = 0 := by
  unfold unp
  have : ∀ c, c ∈ ev.filter (fun e => !done.contains e) → (aft c).count f = 0 := by
    intro c hc
    obtain ⟨h1, h2⟩ := List.mem_filter.1 hc
    exact List.count_eq_zero.2 (h c h1 (by simpa using h2))
  generalize ev.filter (fun e => !done.contains e) = l at this
  induction l with
  | nil => rfl
  | cons a l ih =>
    simp only [List.map_cons, List.sum_cons, this a (by simp), Nat.zero_add]
    exact ih (fun c hc => this c (by simp [hc]))

/-- With the first k events of the path done just the next is free: the queue holds the first k + 1. -/
theorem path_ord {L : List Nat} (hp : Path ev aft L) {k : Nat} (hk : k < L.length) {s : FS} (hJ : J ev aft (L.take k) [] s) : s.ord = L.take (k + 1) := by
  have memdone : ∀ j, j < L.length → (L.getD j 0 ∈ L.take k ↔ j < k) := by
    intro j hj
    constructor
    · intro q
      obtain ⟨i, hi, e⟩ := List.mem_take_iff_getElem.1 q
      have hi' : i < L.length := by omega
      have e2 : L.getD i 0 = L[i] := by simp [hi']
      have := getD_inj hp.nd hi' hj (by rw [e2, e])
      omega
    · intro q
      have e2 : L.getD j 0 = L[j] := by simp [hj]
      rw [e2]
      exact List.mem_take_iff_getElem.2 ⟨j, by omega, rfl⟩
  have hmem : ∀ j, j < L.length → (L.getD j 0 ∈ s.ord ↔ j ≤ k) := by
    intro j hj
    have hev := (hp.mem _).1 (getD_mem hj)
    rw [hJ.zero _ hev, hJ.wt _ hev]
    simp only [List.count_nil, Nat.add_zero]
    constructor
    · intro hz
      apply Classical.byContradiction
      intro hgt
      have hj1 : j - 1 + 1 = j := by omega
      have hlt : j - 1 < L.length := by omega
      have := unp_pos (ev := ev) (aft := aft) (done := L.take k) (c := L.getD (j - 1) 0) (f := L.getD j 0) ((hp.mem _).1 (getD_mem hlt)) (fun q => by have := (memdone (j - 1) hlt).1 q; omega)
        (by have := hp.nxt (j - 1) (by omega); rwa [hj1] at this)
      omega
    · intro hle
      have : unp ev (L.take k) aft (L.getD j 0) = 0 := by
        refine unp_zero fun c hc hd hf => ?_
        have hcL := (hp.mem c).2 hc
        obtain ⟨i, hi, rfl⟩ := List.getElem_of_mem hcL
        have e2 : L.getD i 0 = L[i] := by simp [hi]
        rw [← e2] at hf hd
        have h1 := hp.fwd i j hi hj hf
        exact hd ((memdone i hi).2 (by omega))
      omega
  -- the queue begins with what is done
  obtain ⟨t, ht⟩ := hJ.pre
  have hkL : k < L.length := hk
  have hLk : L.getD k 0 = L[k] := by simp [hkL]
  have htk : L.take (k + 1) = L.take k ++ [L.getD k 0] := by rw [List.take_succ_eq_append_getElem hkL, hLk]
  rw [htk, ← ht]
  congr 1
  have nd2 := hJ.nd
  rw [← ht] at nd2
  obtain ⟨_, nt, dis⟩ := List.nodup_append.1 nd2
  have hall : ∀ x, x ∈ t → x = L.getD k 0 := by
    intro x hx
    have hxo : x ∈ s.ord := by rw [← ht]; simp [hx]
    have hxL := (hp.mem x).2 (hJ.sub x hxo)
    obtain ⟨j, hj, rfl⟩ := List.getElem_of_mem hxL
    have e2 : L.getD j 0 = L[j] := by simp [hj]
    rw [← e2] at hxo hx ⊢
    have h1 := (hmem j hj).1 hxo
    have h2 : ¬ j < k := fun q => dis _ ((memdone j hj).2 q) _ hx rfl
    have : j = k := by omega
    rw [this]
  have hin : L.getD k 0 ∈ t := by
    have h1 : L.getD k 0 ∈ s.ord := (hmem k hkL).2 (Nat.le_refl _)
    rw [← ht] at h1
    rcases List.mem_append.1 h1 with h1 | h1
    · exact absurd ((memdone k hkL).1 h1) (by omega)
    · exact h1
  cases t with
  | nil => simp at hin
  | cons a t =>
    have ha := hall a (by simp)
    cases t with
    | nil => rw [ha]
    | cons b t =>
      have hb := hall b (by simp)
      rw [ha, hb] at nt
      simp at nt

theorem top_ge (rel : Nat → Int) (L : List Nat) (k : Nat) : rel (L.getD k 0) ≤ top rel L k := by
  cases k with
  | zero => exact Int.le_refl _
  | succ k => simp only [top]; omega

/-- ALONG A PATH: true just where no event's window has closed when the latest release ahead of it has come. -/
theorem outer_path {L : List Nat} (hw : WF ev aft) (hp : Path ev aft L) (rel dl : Nat → Int) :
    ∀ (m k fuel : Nat) (s : FS), L.length - k = m → m < fuel → k ≤ L.length → J ev aft (L.take k) [] s → (k = L.length → s.ord = L) →
      (∀ j, k ≤ j → j < L.length → rel (L.getD j 0) ≤ s.rel (L.getD j 0) ∧ s.rel (L.getD j 0) ≤ max (rel (L.getD j 0)) (if k = 0 then rel (L.getD j 0) else top rel L (k - 1))) →
      (k < L.length → s.rel (L.getD k 0) = top rel L k) →
      (outer dl aft ev.length fuel k s = true ↔ ∀ j, k ≤ j → j < L.length → top rel L j < dl (L.getD j 0)) := by
  intro m
  induction m with
  | zero =>
    intro k fuel s hm hf hk hJ hend _ _
    obtain ⟨fuel, rfl⟩ : ∃ g, fuel = g + 1 := ⟨fuel - 1, by omega⟩
    have hkl : k = L.length := by omega
    have ho := hend hkl
    have hnone : s.ord[k]? = none := by rw [ho]; exact List.getElem?_eq_none (by omega)
    unfold outer
    rw [hnone]
    simp only [ho, hp.len, beq_self_eq_true, true_iff]
    intro j h1 h2
    rw [hp.len] at hkl
    omega
  | succ m ih =>
    intro k fuel s hm hf hk hJ _ hrel htop
    obtain ⟨fuel, rfl⟩ : ∃ g, fuel = g + 1 := ⟨fuel - 1, by omega⟩
    have hkL : k < L.length := by omega
    have ho := path_ord hp hkL hJ
    have hLk : L.getD k 0 = L[k] := by simp [hkL]
    have hsome : s.ord[k]? = some (L.getD k 0) := by
      rw [ho, List.getElem?_take_of_lt (by omega), hLk]
      exact List.getElem?_eq_getElem hkL
    have htk := htop hkL
    unfold outer
    rw [hsome]
    simp only
    rw [htk]
    split
    · rename_i hle
      constructor
      · intro q; cases q
      · intro q; have := q k (Nat.le_refl _) hkL; omega
    · rename_i hgt
      have hlt : (L.take k).length = k := by simp; omega
      have hR := hJ.round hw (e := L.getD k 0) (by rw [hlt]; exact hsome)
      have htake : L.take (k + 1) = L.take k ++ [L.getD k 0] := by rw [List.take_succ_eq_append_getElem hkL, hLk]
      rw [← htake] at hR
      have hself : L.getD k 0 ∉ aft (L.getD k 0) := fun q => by have := hp.fwd k k hkL hkL q; omega
      obtain ⟨r1, r2⟩ := inner_rel (L.getD k 0) (aft (L.getD k 0)) s hself
      have hend : k + 1 = L.length → (inner (L.getD k 0) (aft (L.getD k 0)) s).ord = L := by
        intro hkk
        have hL : L.take (k + 1) = L := by rw [hkk]; exact List.take_length
        obtain ⟨t, ht⟩ := hR.pre
        rw [hL] at ht
        have h1 := hR.len
        rw [← ht, List.length_append, hp.len] at h1
        have : t = [] := List.eq_nil_of_length_eq_zero (by omega)
        rw [← ht, this, List.append_nil]
      have hrel' : ∀ j, k + 1 ≤ j → j < L.length → rel (L.getD j 0) ≤ (inner (L.getD k 0) (aft (L.getD k 0)) s).rel (L.getD j 0) ∧
          (inner (L.getD k 0) (aft (L.getD k 0)) s).rel (L.getD j 0) ≤ max (rel (L.getD j 0)) (if k + 1 = 0 then rel (L.getD j 0) else top rel L (k + 1 - 1)) := by
        intro j h1 h2
        obtain ⟨a, b⟩ := hrel j (by omega) h2
        rw [r2, htk]
        have hmono : (if k = 0 then rel (L.getD j 0) else top rel L (k - 1)) ≤ max (rel (L.getD j 0)) (top rel L k) := by
          cases k with
          | zero => simp; omega
          | succ k => simp only [Nat.add_one_ne_zero, if_false, Nat.add_sub_cancel, top]; omega
        simp only [Nat.add_one_ne_zero, if_false, Nat.add_sub_cancel]
        split <;> omega
      have htop' : k + 1 < L.length → (inner (L.getD k 0) (aft (L.getD k 0)) s).rel (L.getD (k + 1) 0) = top rel L (k + 1) := by
        intro hk1
        have hn := hp.nxt k hk1
        obtain ⟨a, b⟩ := hrel (k + 1) (by omega) hk1
        rw [r2, if_pos hn, htk]
        have hmono : (if k = 0 then rel (L.getD (k + 1) 0) else top rel L (k - 1)) ≤ max (rel (L.getD (k + 1) 0)) (top rel L k) := by
          cases k with
          | zero => simp; omega
          | succ k => simp only [Nat.add_one_ne_zero, if_false, Nat.add_sub_cancel, top]; omega
        simp only [top]
        omega
      rw [ih (k + 1) fuel _ (by omega) (by omega) (by omega) hR hend hrel' htop']
      constructor
      · intro q j h1 h2
        by_cases e : j = k
        · subst e; omega
        · exact q j (by omega) h2
      · intro q j h1 h2
        exact q j (by omega) h2

theorem feas_path {L : List Nat} (hw : WF ev aft) (hp : Path ev aft L) (rel dl wt : Nat → Int) (h : ∀ f, f ∈ ev → wt f = (unp ev [] aft f : Int)) :
    feas rel dl wt aft ev = true ↔ ∀ j, j < L.length → top rel L j < dl (L.getD j 0) := by
  have hJ := J.start hw rel wt h
  have := outer_path hw hp rel dl (L.length - 0) 0 (ev.length + 1) ⟨rel, wt, ord0 wt ev⟩ rfl (by rw [hp.len]; omega) (Nat.zero_le _) (by simpa using hJ)
    (fun q => by
      have : ev = [] := List.eq_nil_of_length_eq_zero (by rw [← hp.len]; exact q.symm)
      have hL : L = [] := List.eq_nil_of_length_eq_zero q.symm
      subst this; rw [hL]; rfl)
    (fun j _ _ => ⟨Int.le_refl _, by simp⟩) (fun _ => rfl)
  unfold feas
  rw [this]
  constructor
  · intro q j hj; exact q j (Nat.zero_le _) hj
  · intro q j _ hj; exact q j hj
end
end Go.Proofs.Ybulkdasy
