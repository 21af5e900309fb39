/-
  The timetable s small methods: clear, add, require.
-/
import Derived.Test.YbulkdasyView
import Derived.Deep.DeepCutAuto
import Derived.BigRegion
import Derived.BigQuiet
import Derived.Deep.RegionHeld3
namespace Go.Proofs.Ybulkdasy
open Go.RowKit
set_option linter.unusedSimpArgs false
set_option linter.unusedVariables false

theorem Off.refl (x : Nat) (S : Sto) : Off x S S := fun y _ => ⟨Iff.rfl, rfl, rfl, rfl⟩

/-- The fixed names lie where they lay; the names that no method of the timetable knows are as they were. -/
structure Fix (S S' : Sto) : Prop where
  loc : ∀ x, x < 16 → S'.loc x = S.loc x
  keep : ∀ x, (x = 16 ∨ 23 ≤ x ∧ x < 30) → (S'.dom x ↔ S.dom x) ∧ S'.loc x = S.loc x ∧ S'.cells x = S.cells x ∧ S'.ty x = S.ty x
theorem Fix.refl (S : Sto) : Fix S S := ⟨fun _ _ => rfl, fun _ _ => ⟨Iff.rfl, rfl, rfl, rfl⟩⟩
theorem Fix.trans {S S' S'' : Sto} (h : Fix S S') (k : Fix S' S'') : Fix S S'' :=
  ⟨fun x hx => (k.loc x hx).trans (h.loc x hx), fun x hx => ⟨(k.keep x hx).1.trans (h.keep x hx).1, (k.keep x hx).2.1.trans (h.keep x hx).2.1, (k.keep x hx).2.2.1.trans (h.keep x hx).2.2.1, (k.keep x hx).2.2.2.trans (h.keep x hx).2.2.2⟩⟩
theorem Fix.off {x : Nat} {S S' : Sto} (h : Off x S S') (hx : 17 ≤ x ∧ x < 23 ∨ 30 ≤ x) : Fix S S' :=
  ⟨fun y hy => (h y (by omega)).2.1, fun y hy => h y (by omega)⟩
theorem Fix.set (S : Sto) (y k : Nat) (v : Value) (hy : y < 16) : Fix S (S.set y k v) :=
  ⟨fun _ _ => rfl, fun x hx => ⟨Iff.rfl, rfl, by simp [Sto.set, show x ≠ y by omega], rfl⟩⟩

theorem clear_any {w0 w : World} {S : Sto} {p : PS} (hG : Good w0 w S) (hV : VA S p) (h0 : p.evV = .slice none 0 0) (h1 : p.ev = []) :
    Calls Yba.prog 16 #[.pointer (some ⟨S.loc 0, 34, none⟩)] w fun e w' => e = .returned (.tuple #[]) ∧ ∃ S', Good w0 w' S' ∧ VA S' p ∧ Fix S S' := by
  have d0 := hV.dom 0 (by omega)
  have e38 := hG.cell 0 38 d0 hV.r.ev
  have f0 : ∀ k, w.frozen? ⟨S.loc 0, k, none⟩ = false := fun k => hG.free 0 k d0
  rw [h0] at e38
  go_enter Yba.func16, Yba.ntmps16
  go_wp2
  go_end0
  have V2 := hV.setEv (Off.refl 17 S) (v := .slice none 0 0) (xs := []) (Row.nil _ _)
  refine ⟨rfl, S.set 0 38 (.slice none 0 0), hG.setCell 0 38 d0 _, ?_, Fix.set _ _ _ _ (by omega)⟩
  have : { p with evV := .slice none 0 0, ev := [] } = p := by rw [← h0, ← h1]
  rw [this] at V2
  exact V2
theorem Row.ty_form {S : Sto} {x : Nat} {v : Value} {xs : List Int} (h : Row S x v (ints xs)) : ∃ a c, v = .slice a xs.length c := by
  obtain ⟨a, c, h⟩ := h.form
  rw [ints_len] at h
  exact ⟨a, c, h⟩

theorem cellNew (w : World) (v : Value) (t : TypeId) : (w.alloc (.cells #[v] t)).cell? ⟨w.heap.size, 0, none⟩ = some v := by
  have h := heap_alloc_new w (.cells #[v] t)
  simp only [World.cell?, h]
  rfl

set_option maxRecDepth 100000 in
set_option maxHeartbeats 2000000 in
theorem add_any {w0 w : World} {S : Sto} {p : PS} (hG : Good w0 w S) (hV : VA S p) (hn : p.n ≤ 300) (e : Nat) (he : e < 2 * p.n) (hev : p.ev.length ≤ 1000000) (hnil : p.aftV e = .slice none 0 0) (r d : Int) :
    Calls Yba.prog 17 #[.pointer (some ⟨S.loc 0, 34, none⟩), .int .i64 e, .int .i64 r, .int .i64 d] w fun en w' => en = .returned (.tuple #[]) ∧ ∃ S' v, Good w0 w' S' ∧ Fix S S' ∧
      VA S' { p with evV := v, ev := p.ev ++ [(e : Int)], rel := upd p.rel e r, dl := upd p.dl e d, wt := upd p.wt e 0, aftV := updV p.aftV e (.slice none 0 0), aft := updL p.aft e [] } := by
  obtain ⟨i0, hi, hz0, hz1, hz2⟩ := info_parts Yba.info3
  have d0 := hV.dom 0 (by omega)
  have e38 := hG.cell 0 38 d0 hV.r.ev
  have c1 : (w.alloc (.cells #[.int .i64 (e : Int)] 3)).cell? ⟨w.heap.size, 0, none⟩ = some (.int .i64 (e : Int)) := cellNew _ _ _
  have hev' : (ints p.ev).length + 1 ≤ 1099511627776 := by rw [ints_len]; omega
  go_enter Yba.func17, Yba.ntmps17
  go_wp2_with (at_builtin; refine wpList_append_row hi hz0 hz1 hz2 rfl _ _ 27 rfl Yba.underlying27 (hG.alloc _) 17 _ _ rfl hV.ev ⟨w.heap.size, 0, none⟩ (.int .i64 (e : Int)) _ rfl c1 rfl hev' rfl ?_)
  intro v1 w1 S1 hG1 hR1 hO1
  rw [ints_snoc] at hR1
  obtain ⟨va, vc, rfl⟩ := hR1.ty_form
  have F1 : Fix S S1 := Fix.off hO1 (by omega)
  have l1 := F1.loc
  have HF1 : Hid (Fix S S1) := F1
  clear F1
  have V1 := hV.setEv hO1 hR1
  have d1 : S1.dom 0 := ((hO1 0 (by omega)).1).2 d0
  have c38 := hG1.cell 0 38 d1 (v := p.evV) (by rw [hO1.cellsOf (by omega)]; exact hV.r.ev)
  have f38 := hG1.free 0 38 d1
  rw [l1 0 (by omega)] at c38 f38
  have G2 := hG1.setCell 0 38 d1 (.slice va (p.ev ++ [(e : Int)]).length vc)
  rw [l1 0 (by omega)] at G2
  clear hV hG e38 c1 hev' hR1
  go_upto_region 1 with fail
  rw [List.length_append, List.length_cons, List.length_nil] at G2 V1
  generalize w1.setCell { block := S.loc 0, off := 38 } (Value.slice va (p.ev.length + 1) vc) = W2 at G2 ⊢
  generalize hS2 : S1.set 0 38 (Value.slice va (p.ev.length + (0 + 1)) vc) = S2 at G2 V1
  have F2 : Fix S S2 := by rw [← hS2]; exact HF1.out.trans (Fix.set _ _ _ _ (by omega))
  have l2 := F2.loc
  have L2 : Hid (Fix S S2) := F2
  clear F2
  clear hS2 c38 f38 hG1 hO1 l1 d1 d0
  have D := V1.dom
  have g0 := G2.cell 0 34 (D 0 (by omega)) V1.r.rel
  have g1 := G2.cell 0 35 (D 0 (by omega)) V1.r.dl
  have g2 := G2.cell 0 36 (D 0 (by omega)) V1.r.aft
  have g3 := G2.cell 0 37 (D 0 (by omega)) V1.r.wt
  have g4 := G2.cell 11 e (D 11 (by omega)) (V1.rel.at he)
  have g5 := G2.cell 12 e (D 12 (by omega)) (V1.dl.at he)
  have g6 := G2.cell 13 e (D 13 (by omega)) (V1.afv e he)
  have g7 := G2.cell 14 e (D 14 (by omega)) (V1.wt.at he)
  have m1 : ∀ k, W2.frozen? ⟨S2.loc 11, k, none⟩ = false := fun k => G2.free 11 k (D 11 (by omega))
  have m2 : ∀ k, W2.frozen? ⟨S2.loc 12, k, none⟩ = false := fun k => G2.free 12 k (D 12 (by omega))
  have m3 : ∀ k, W2.frozen? ⟨S2.loc 13, k, none⟩ = false := fun k => G2.free 13 k (D 13 (by omega))
  have m4 : ∀ k, W2.frozen? ⟨S2.loc 14, k, none⟩ = false := fun k => G2.free 14 k (D 14 (by omega))
  have n1 : S2.loc 0 ≠ S2.loc 11 := G2.ne (D 0 (by omega)) (D 11 (by omega)) (by omega)
  have n2 : S2.loc 0 ≠ S2.loc 12 := G2.ne (D 0 (by omega)) (D 12 (by omega)) (by omega)
  have n3 : S2.loc 0 ≠ S2.loc 13 := G2.ne (D 0 (by omega)) (D 13 (by omega)) (by omega)
  have n4 : S2.loc 0 ≠ S2.loc 14 := G2.ne (D 0 (by omega)) (D 14 (by omega)) (by omega)
  have n5 : S2.loc 11 ≠ S2.loc 12 := G2.ne (D 11 (by omega)) (D 12 (by omega)) (by omega)
  have n6 : S2.loc 11 ≠ S2.loc 13 := G2.ne (D 11 (by omega)) (D 13 (by omega)) (by omega)
  have n7 : S2.loc 11 ≠ S2.loc 14 := G2.ne (D 11 (by omega)) (D 14 (by omega)) (by omega)
  have n8 : S2.loc 12 ≠ S2.loc 13 := G2.ne (D 12 (by omega)) (D 13 (by omega)) (by omega)
  have n9 : S2.loc 12 ≠ S2.loc 14 := G2.ne (D 12 (by omega)) (D 14 (by omega)) (by omega)
  have n10 : S2.loc 13 ≠ S2.loc 14 := G2.ne (D 13 (by omega)) (D 14 (by omega)) (by omega)
  have e0 : S.loc 0 = S2.loc 0 := (l2 0 (by omega)).symm
  rw [e0]
  simp only [sl] at g0 g1 g2 g3
  simp only [hnil] at g6
  dsimp only at g4 g5 g7
  clear e0 l2
  go_region
  all_goals
    go_upto_region 2 with fail
    go_region
  go_end0
  have V2 := (((V1.setRel he r).setDl he d).setAft he (Off.refl _ _) (v := .slice none 0 0) (xs := []) (Row.nil _ _)).setWt he 0
  have G3 := ((((G2.setCell 11 e (D 11 (by omega)) (.int .i64 r)).setCell 12 e (D 12 (by omega)) (.int .i64 d)).setCell 13 e (D 13 (by omega)) (.slice none 0 0)).setCell 14 e (D 14 (by omega)) (.int .i64 0)).drew.drew
  exact ⟨rfl, _, _, G3, (((L2.out.trans (Fix.set _ 11 _ _ (by omega))).trans (Fix.set _ 12 _ _ (by omega))).trans (Fix.set _ 13 _ _ (by omega))).trans (Fix.set _ 14 _ _ (by omega)), V2⟩
set_option maxRecDepth 100000 in
set_option maxHeartbeats 2000000 in
theorem require_any {w0 w : World} {S : Sto} {p : PS} (hG : Good w0 w S) (hV : VA S p) (hn : p.n ≤ 300) (a b : Nat) (ha : a < 2 * p.n) (hb : b < 2 * p.n) (hl : (p.aft a).length ≤ 1000000) (hw : -1000000 ≤ p.wt b ∧ p.wt b ≤ 1000000) :
    Calls Yba.prog 18 #[.pointer (some ⟨S.loc 0, 34, none⟩), .int .i64 a, .int .i64 b] w fun en w' => en = .returned (.tuple #[]) ∧ ∃ S' v, Good w0 w' S' ∧ Fix S S' ∧
      VA S' { p with wt := upd p.wt b (p.wt b + 1), aftV := updV p.aftV a v, aft := updL p.aft a (p.aft a ++ [(b : Int)]) } := by
  obtain ⟨i0, hi, hz0, hz1, hz2⟩ := info_parts Yba.info3
  have D := hV.dom
  have g2 := hG.cell 0 36 (D 0 (by omega)) hV.r.aft
  have g6 := hG.cell 13 a (D 13 (by omega)) (hV.afv a ha)
  have m3 : ∀ k, w.frozen? ⟨S.loc 13, k, none⟩ = false := fun k => hG.free 13 k (D 13 (by omega))
  have n3 : S.loc 0 ≠ S.loc 13 := hG.ne (D 0 (by omega)) (D 13 (by omega)) (by omega)
  have z0 := hG.lt (D 0 (by omega))
  have z13 := hG.lt (D 13 (by omega))
  have c1 : (w.alloc (.cells #[.int .i64 (b : Int)] 3)).cell? ⟨w.heap.size, 0, none⟩ = some (.int .i64 (b : Int)) := cellNew _ _ _
  have hl' : (ints (p.aft a)).length + 1 ≤ 1099511627776 := by rw [ints_len]; omega
  have hR := hV.afr a ha
  have hai : (a : Int) < 2 * (p.n : Int) := by omega
  have hbi : (b : Int) < 2 * (p.n : Int) := by omega
  simp only [sl] at g2
  have HG : Hid (Good w0 w S) := hG
  have HV : Hid (VA S p) := hV
  clear hG hV
  go_enter Yba.func18, Yba.ntmps18
  go_upto_region 0 with fail
  go_cut [] from 6 to 21 (fun wx => ∃ (S' : Sto) (v : Value), Good w0 wx S' ∧ Fix S S' ∧ VA S' { p with aftV := updV p.aftV a v, aft := updL p.aft a (p.aft a ++ [(b : Int)]) })
  case first =>
    go_region_law (refine step_append_row hi hz0 hz1 hz2 rfl (.tmp 17) (.tmp 19) 27 rfl Yba.underlying27 (HG.out.alloc _).drew (30 + a) (p.aftV a) (ints (p.aft a)) (by simp [Act.eval, Act.put]) hR ⟨w.heap.size, 0, none⟩ (.int .i64 (b : Int)) 1 (by simp [Act.eval, Act.put]) c1 rfl hl' rfl ?_; intro v1 w1 S1 hG1 hR1 hO1; rw [ints_snoc] at hR1; obtain ⟨va, vc, rfl⟩ := hR1.ty_form; have c13 := hG1.cell 13 a (((hO1 13 (by omega)).1).2 (D 13 (by omega))) (v := p.aftV a) (by rw [hO1.cellsOf (by omega)]; exact HV.out.afv a ha); have f13 := hG1.free 13 a (((hO1 13 (by omega)).1).2 (D 13 (by omega))); rw [hO1.locOf (y := 13) (by omega)] at c13 f13; have c36 := hG1.cell 0 36 (((hO1 0 (by omega)).1).2 (D 0 (by omega))) (v := .slice (some ⟨S.loc 13, 0, none⟩) (2 * p.n) (2 * p.n)) (by rw [hO1.cellsOf (by omega)]; exact HV.out.r.aft); rw [hO1.locOf (y := 0) (by omega)] at c36)
    all_goals
      go_wp2_with fail
      go_meet
      have G3 := hG1.setCell 13 a (((hO1 13 (by omega)).1).2 (D 13 (by omega))) (.slice va ((p.aft a).length + 1) vc)
      rw [hO1.locOf (y := 13) (by omega)] at G3
      have V3 := HV.out.setAft ha hO1 hR1
      rw [List.length_append, List.length_cons, List.length_nil] at V3
      exact ⟨_, _, G3, (Fix.off hO1 (by omega)).trans (Fix.set _ 13 _ _ (by omega)), V3⟩
  case rest =>
    obtain ⟨S2, v2, G2, F2, V2⟩ := hcut
    have e0 : S.loc 0 = S2.loc 0 := (F2.loc 0 (by omega)).symm
    have D2 := V2.dom
    have g3 := G2.cell 0 37 (D2 0 (by omega)) V2.r.wt
    have g7 := G2.cell 14 b (D2 14 (by omega)) (V2.wt.at hb)
    have m4 : ∀ k, wc.frozen? ⟨S2.loc 14, k, none⟩ = false := fun k => G2.free 14 k (D2 14 (by omega))
    simp only [sl] at g3
    dsimp only at g7
    rw [← e0] at g3
    clear g2 g6 m3 n3 c1 hR e0
    have HF : Hid (Fix S S2) := F2
    clear F2
    go_wp2
    go_end0
    have G3 := G2.setCell 14 b (D2 14 (by omega)) (.int .i64 (p.wt b + 1))
    exact ⟨rfl, _, v2, G3, HF.out.trans (Fix.set _ 14 _ _ (by omega)), V2.setWt hb (p.wt b + 1)⟩
end Go.Proofs.Ybulkdasy
