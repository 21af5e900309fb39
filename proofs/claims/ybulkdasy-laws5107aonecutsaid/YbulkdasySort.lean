/-
  slices.SortFunc over one row of heldBy, by rank.
-/
import Derived.Test.YbulkdasyFeas
import Derived.Test.YbulkdasyShelf
import Derived.WalkLawsBesides
namespace Go.Proofs.Ybulkdasy
open Go.RowKit
set_option linter.unusedSimpArgs false
set_option linter.unusedVariables false
theorem compare_any (x y : Int) (w : World) : Calls Yba.prog 25 #[.int .i64 x, .int .i64 y] w fun e w' => e = .returned (.int .i64 (Lib.compareInt x y)) ∧ w' = w := by
  by_cases h1 : x < y
  · have e1 : Lib.compareInt x y = -1 := by simp [Lib.compareInt, h1]
    rw [e1]
    go_enter Yba.func25, Yba.ntmps25
    go_wp2
    go_ret
    exact ⟨rfl, rfl⟩
  · by_cases h2 : y < x
    · have e1 : Lib.compareInt x y = 1 := by simp [Lib.compareInt, h1, h2]
      rw [e1]
      go_enter Yba.func25, Yba.ntmps25
      go_wp2
      go_ret
      exact ⟨rfl, rfl⟩
    · have e1 : Lib.compareInt x y = 0 := by simp [Lib.compareInt, h1, h2]
      rw [e1]
      go_enter Yba.func25, Yba.ntmps25
      go_wp2
      go_ret
      exact ⟨rfl, rfl⟩
set_option maxHeartbeats 1000000 in
theorem closure_any (n b B rk u v : Nat) (ru rv : Int) (hn : n ≤ 300) (hu : u < n) (hv : v < n) (W : World) (h1 : W.cell? ⟨B, 0, none⟩ = some (.pointer (some ⟨b, 0, none⟩))) (h2 : W.cell? ⟨b, 58, none⟩ = some (.slice (some ⟨rk, 0, none⟩) n n))
    (h3 : W.cell? ⟨rk, u, none⟩ = some (.int .i64 ru)) (h4 : W.cell? ⟨rk, v, none⟩ = some (.int .i64 rv)) :
    Calls Yba.prog 24 #[.int .i64 (u : Int), .int .i64 (v : Int), .pointer (some ⟨B, 0, none⟩)] W fun e w' => e = .returned (.int .i64 (Lib.compareInt ru rv)) ∧ ∃ q, w' = W.drewN q := by
  have hui : (u : Int) < (n : Int) := by omega
  have hvi : (v : Int) < (n : Int) := by omega
  have hcon := fun w => compare_any ru rv w
  generalize Lib.compareInt ru rv = r at hcon ⊢
  go_enter Yba.func24, Yba.ntmps24
  go_wp2_with fail
  go_quiet ((go_at_call 25; exact Calls.quiet_of_same (hcon _)))
  go_wp2_with fail
  go_ret
  exact ⟨rfl, _, rfl⟩
theorem sw_other {α : Type} [Inhabited α] (enc : α → Value) (w : World) (blk off m : Nat) (dk : Array α) (os : Array Obj) (b : Nat) (hb : b < w.heap.size) (hn : b ≠ blk) : (sortWorld enc w blk off m dk os).heap[b]? = w.heap[b]? := by
  unfold sortWorld Sort.grow Sort.putRow Sort.mapBlock Sort.ahead
  simp only
  rw [Array.getElem?_append_left (by simpa using hb), Array.getElem?_modify, if_neg (fun h => hn h.symm)]
theorem sw_at {α : Type} [Inhabited α] (enc : α → Value) (w : World) (blk off m : Nat) (dk : Array α) (os : Array Obj) (c : Array Value) (e : TypeId) (fr : Nat × Nat) (h : w.heap[blk]? = some (.cells c e fr)) :
    (sortWorld enc w blk off m dk os).heap[blk]? = some (.cells (Sort.putCells enc off dk c) e fr) := by
  have hb : blk < w.heap.size := (Array.getElem?_eq_some_iff.1 h).1
  unfold sortWorld Sort.grow Sort.putRow Sort.mapBlock Sort.ahead
  simp only
  rw [Array.getElem?_append_left (by simpa using hb), Array.getElem?_modify, if_pos rfl, h]
  rfl
theorem sw_below {α : Type} [Inhabited α] (enc : α → Value) (w : World) (blk off m : Nat) (dk : Array α) (os : Array Obj) (B : Nat) (hB : B ≤ blk) (hs : B ≤ w.heap.size) : Below B w (sortWorld enc w blk off m dk os) := by
  refine ⟨rfl, rfl, rfl, ?_, fun k hk => sw_other enc w blk off m dk os k (by omega) (by omega)⟩
  unfold sortWorld Sort.grow Sort.putRow Sort.mapBlock Sort.ahead
  simp
theorem VA.sameHb {S S' : Sto} {p : PS} (h : VA S p) {e : Nat} (he : e < 3) (ho : Off (20 + e) S S') {xs : List Int} (hr : Row S' (20 + e) (p.hbV e) (ints xs)) : VA S' { p with hb := updL p.hb e xs } := by
  have c := fun y (hy : y < 16) => ho.cellsOf (y := y) (by omega)
  refine ⟨fun x hx => ((ho x (by omega)).1).2 (h.dom x hx), fun x hx => (ho x (by omega)).2.2.2.trans (h.ty x hx), ?_, by rw [c 1 (by omega)]; exact h.ops, by rw [c 2 (by omega)]; exact h.proc, by rw [c 3 (by omega)]; exact h.rank, by rw [c 4 (by omega)]; exact h.obj, by rw [c 5 (by omega)]; exact h.jud, by rw [c 6 (by omega)]; exact h.ver, by rw [c 7 (by omega)]; exact h.rcp, by rw [c 8 (by omega)]; exact h.inw, by rw [c 9 (by omega)]; exact h.held, by rw [c 10 (by omega)]; exact h.hbl, by rw [c 10 (by omega)]; exact h.hbv,
    ?_, by rw [c 11 (by omega)]; exact h.rel, by rw [c 12 (by omega)]; exact h.dl, by rw [c 14 (by omega)]; exact h.wt, by rw [c 13 (by omega)]; exact h.afl, by rw [c 13 (by omega)]; exact h.afv, fun k hk => (h.afr k hk).off ho (by omega), h.ev.off ho (by omega), h.ord.off ho (by omega), h.hold.off ho (by omega), h.cut.off ho (by omega)⟩
  · rw [c 0 (by omega)]
    exact h.r.loc (L' := S'.loc) (fun x hx => ho.locOf (by omega))
  · intro k hk
    simp only [updL]
    by_cases ek : k = e
    · subst ek; simpa using hr
    · rw [if_neg ek]; exact (h.hbr k hk).off ho (by omega)
def encF (m : Nat) (u : Fin (m + 1)) : Value := .int .i64 (u.val : Int)
def cfR (m : Nat) (rank : Nat → Int) (x y : Fin (m + 1)) : Int := Lib.compareInt (rank x.val) (rank y.val)
theorem ltR (m : Nat) (rank : Nat → Int) (x y : Fin (m + 1)) : ltOf (cfR m rank) x y = decide (rank x.val < rank y.val) := by
  unfold ltOf cfR Lib.compareInt
  by_cases h1 : rank x.val < rank y.val
  · simp [h1]
  · by_cases h2 : rank y.val < rank x.val <;> simp [h1, h2]
theorem swoR (m : Nat) (rank : Nat → Int) : Sort.SWO (ltOf (cfR m rank)) where
  irrefl x := by rw [ltR]; simp
  trans x y z h1 h2 := by rw [ltR] at *; simp at *; omega
  ntrans x y z h1 h2 := by rw [ltR] at *; simp at *; omega

def toF (m : Nat) (xs : List Nat) : List (Fin (m + 1)) := xs.map (Fin.ofNat (m + 1))
theorem toF_val {m : Nat} {xs : List Nat} (h : ∀ u, u ∈ xs → u < m + 1) : (toF m xs).map (fun u => u.val) = xs := by
  unfold toF
  rw [List.map_map]
  have : ∀ u, u ∈ xs → ((fun (u : Fin (m + 1)) => u.val) ∘ Fin.ofNat (m + 1)) u = u := fun u hu => by simp [Fin.ofNat, Nat.mod_eq_of_lt (h u hu)]
  exact (List.map_congr_left this).trans (List.map_id _)
theorem put_list {m : Nat} (d : Array (Fin (m + 1))) (cs sp : List Value) (hl : cs.length = d.size) :
    (Sort.putCells (encF m) 0 d (cs ++ sp).toArray).toList = ints (natI (d.toList.map (fun u => u.val))) ++ sp := by
  apply List.ext_getElem?
  intro k
  unfold Sort.putCells
  simp only [Array.toList_mapIdx, List.getElem?_mapIdx, Nat.zero_le, true_and, Nat.zero_add, Nat.sub_zero]
  have hlen : (ints (natI (d.toList.map (fun u => u.val)))).length = cs.length := by simp [ints, natI, hl]
  by_cases hk : k < d.size
  · have h1 : (cs ++ sp)[k]? = some (cs[k]'(by omega)) := by rw [List.getElem?_append_left (by omega)]; exact List.getElem?_eq_getElem _
    have h2 : (ints (natI (d.toList.map (fun u => u.val))) ++ sp)[k]? = some (encF m d[k]!) := by
      rw [List.getElem?_append_left (by rw [hlen, hl]; exact hk)]
      simp [ints, natI, encF, hk]
    rw [h1, h2]
    simp only [Option.map_some, if_pos hk]
  · have h2 : (ints (natI (d.toList.map (fun u => u.val))) ++ sp)[k]? = sp[k - cs.length]? := by
      rw [List.getElem?_append_right (by rw [hlen, hl]; omega), hlen]
    rw [h2, List.getElem?_append_right (by omega)]
    cases h : sp[k - cs.length]? with
    | none => rfl
    | some x => simp [hk]

/-- ONE OF heldBy's ROWS SORTED BY RANK. -/
theorem sort_any {w0 w : World} {S : Sto} {p : PS} (hG : Good w0 w S) (hV : VA S p) (m : Nat) (hm : p.n = m + 1) (hn : p.n ≤ 300) (q : Nat) (hq : q < 3) (xs : List Nat) (hx : p.hb q = natI xs) (hne : xs ≠ []) (hlt : ∀ u, u ∈ xs → u < p.n) (hlen : xs.length ≤ 1000)
    (d27 : S.dom 27) (c27 : S.cells 27 = [.pointer (some ⟨S.loc 0, 0, none⟩)]) :
    ∃ cap, p.hbV q = .slice (some ⟨S.loc (20 + q), 0, none⟩) xs.length cap ∧
    Calls Yba.prog 23 #[.slice (some ⟨S.loc (20 + q), 0, none⟩) xs.length cap, .func (.func 24) #[] #[.pointer (some ⟨S.loc 27, 0, none⟩)]] w fun e w' => e = .returned (.tuple #[]) ∧ ∃ (S' : Sto) (ys : List Nat), Good w0 w' S' ∧ Fix S S' ∧ S'.loc (20 + q) = S.loc (20 + q) ∧ VA S' { p with hb := updL p.hb q (natI ys) } ∧ ys.Perm xs ∧
      ∀ i j, i < j → j < ys.length → p.rank (ys.getD i 0) ≤ p.rank (ys.getD j 0) := by
  have hR := hV.hbr q hq
  rw [hx] at hR
  rcases hR with ⟨_, h⟩ | ⟨hd, sp, h1, h2, h3, h4⟩
  · exact absurd (by simpa [ints, natI] using h) hne
  · have hxl : (ints (natI xs)).length = xs.length := by rw [ints_len, natI_len]
    rw [hxl] at h1 h4
    refine ⟨_, h1, ?_⟩
    have D := hV.dom
    have hlt' : ∀ u, u ∈ xs → u < m + 1 := fun u hu => by rw [← hm]; exact hlt u hu
    have hval := toF_val hlt'
    have hds : (toF m xs).toArray.size = xs.length := by simp [toF]
    have hhp := hG.has (20 + q) hd
    have eg : ∀ args w, (callFunc 24 args).run Yba.prog w = .ok (.enter 24 args) w := enters_of Yba.func24 (by kernel_rfl) rfl
    have hH : Sort.Holds (encF m) w (S.loc (20 + q)) 0 (toF m xs).toArray := by
      intro j hj
      rw [hds] at hj
      refine ⟨?_, ?_⟩
      · rw [Nat.zero_add]
        refine hG.cell (20 + q) j hd ?_
        rw [h2, List.getElem?_append_left (by rw [hxl]; exact hj)]
        have hj2 : j < (toF m xs).length := by simpa [toF] using hj
        have e1 : (toF m xs).toArray[j]! = (toF m xs)[j] := by simp [hj2]
        have e2 : ((toF m xs)[j]).val = xs[j] := by
          have := congrArg (fun l => l[j]?) hval
          simp only [List.getElem?_map, List.getElem?_eq_getElem hj2, List.getElem?_eq_getElem hj, Option.map_some] at this
          exact Option.some.inj this
        rw [e1, encF, e2]
        exact natI_get (List.getElem?_eq_getElem hj)
      · rw [Nat.zero_add]; exact hG.free (20 + q) j hd
    have hcmp : CmpReads Yba.prog 24 #[.pointer (some ⟨S.loc 27, 0, none⟩)] (encF m) (cfR m p.rank) (S.loc (20 + q)) 0 (toF m xs).toArray.size w := by
      intro k os dk hsz x y
      have oth : ∀ z, S.dom z → z ≠ 20 + q → ∀ o v, (S.cells z)[o]? = some v → (sortWorld (encF m) w (S.loc (20 + q)) 0 k dk os).cell? ⟨S.loc z, o, none⟩ = some v := by
        intro z hz hzq o v hv
        have e := sw_other (encF m) w (S.loc (20 + q)) 0 k dk os (S.loc z) (hG.lt hz) (hG.ne hz hd hzq)
        rw [World.cell?_of_block (w := w) (a := ⟨S.loc z, o, none⟩) e]
        exact hG.cell z o hz hv
      have hxn : x.val < p.n := by rw [hm]; exact x.isLt
      have hyn : y.val < p.n := by rw [hm]; exact y.isLt
      exact closure_any p.n (S.loc 0) (S.loc 27) (S.loc 3) x.val y.val _ _ hn hxn hyn _ (oth 27 d27 (by omega) 0 _ (by rw [c27]; rfl)) (oth 0 (D 0 (by omega)) (by omega) 58 _ hV.r.rnk) (oth 3 (D 3 (by omega)) (by omega) _ _ (hV.rank.at hxn)) (oth 3 (D 3 (by omega)) (by omega) _ _ (hV.rank.at hyn))
    have hcon := Any.slices_SortFunc Yba.sort23 (encF m) (fun _ => rfl) (cfR m p.rank) (swoR m p.rank) 24 #[.pointer (some ⟨S.loc 27, 0, none⟩)] (S.loc (20 + q)) 0 (xs.length + sp.length) (toF m xs).toArray w eg hcmp.lays hH (hG.lt hd) (by rw [hds]; omega)
    rw [hds] at hcon
    refine Calls.mono (show Calls Yba.prog 23 _ _ _ from hcon) ?_
    rintro e w' ⟨rfl, d', k, os, hp, hs, rfl⟩
    obtain ⟨p1, p2, p3⟩ := hp
    have hsz : d'.size = xs.length := p1.trans hds
    have hcs : (Sort.putCells (encF m) 0 d' (ints (natI xs) ++ sp).toArray).toList = ints (natI (d'.toList.map (fun u => u.val))) ++ sp := put_list d' _ _ (by rw [hxl, hsz])
    have hat := sw_at (encF m) w (S.loc (20 + q)) 0 k d' os _ _ _ hhp
    rw [h2] at hat
    have hcs' : Sort.putCells (encF m) 0 d' (ints (natI xs) ++ sp).toArray = (ints (natI (d'.toList.map (fun u => u.val))) ++ sp).toArray := by rw [← hcs]
    rw [hcs'] at hat
    have G2 := hG.turn (20 + q) hd (ints (natI (d'.toList.map (fun u => u.val))) ++ sp) (sw_below (encF m) w (S.loc (20 + q)) 0 k d' os w0.heap.size (hG.base _ hd) hG.below.size) hat (fun j hj hjn => sw_other (encF m) w (S.loc (20 + q)) 0 k d' os j hj hjn)
    have ho : Off (20 + q) S { S with cells := fun y => if y = 20 + q then ints (natI (d'.toList.map (fun u => u.val))) ++ sp else S.cells y } := Off.cells _ _ _
    have hyl : (d'.toList.map (fun u => u.val)).length = xs.length := by simp [hsz]
    refine ⟨rfl, _, d'.toList.map (fun u => u.val), G2, Fix.off ho (by omega), rfl, ?_, ?_, ?_⟩
    · have hr2 : Row { S with cells := fun y => if y = 20 + q then ints (natI (d'.toList.map (fun u => u.val))) ++ sp else S.cells y } (20 + q) (p.hbV q) (ints (natI (d'.toList.map (fun u => u.val)))) := by
        refine .inr ⟨hd, sp, ?_, by simp, h3, ?_⟩
        · rw [ints_len, natI_len, hyl]; exact h1
        · rw [ints_len, natI_len, hyl]; exact h4
      exact VA.sameHb hV hq ho hr2
    · have e1 : d'.extract 0 xs.length = d' := by rw [← hsz]; simp
      have e2 : ((toF m xs).toArray.extract 0 xs.length).toList = toF m xs := by rw [← hds]; simp
      rw [e1, e2] at p3
      have := p3.map (fun u => u.val)
      rw [hval] at this
      exact this
    · intro i j hij hj
      have hj' : j < d'.size := by rw [hsz]; rw [hyl] at hj; exact hj
      have hi' : i < d'.size := by omega
      have := hs i j (Nat.zero_le _) hij (by rw [← hsz]; exact hj')
      rw [ltR] at this
      simp only [decide_eq_false_iff_not] at this
      have ei : (d'.toList.map (fun u => u.val)).getD i 0 = (d'[i]!).val := by simp [hi']
      have ej : (d'.toList.map (fun u => u.val)).getD j 0 = (d'[j]!).val := by simp [hj']
      rw [ei, ej]
      omega
end Go.Proofs.Ybulkdasy
