/-
  (*runSpace).hold.
-/
import Derived.Test.YbulkdasyTime
namespace Go.Proofs.Ybulkdasy
open Go.RowKit
set_option linter.unusedSimpArgs false
set_option linter.unusedVariables false
theorem add_at' {w0 w : World} {S : Sto} {p : PS} (hG : Good w0 w S) (hV : VA S p) (hn : p.n ≤ 300) (b : Nat) (hb : S.loc 0 = b) (x : Int) (e : Nat) (hx : x = (e : Int)) (he : e < 2 * p.n) (hev : p.ev.length ≤ 1000000) (hnil : p.aftV e = .slice none 0 0) (r d : Int) :
    Calls Yba.prog 17 #[.pointer (some ⟨b, 34, none⟩), .int .i64 x, .int .i64 r, .int .i64 d] w fun en w' => en = .returned (.tuple #[]) ∧ ∃ S' v, Good w0 w' S' ∧ Fix S S' ∧
      VA S' { p with evV := v, ev := p.ev ++ [(e : Int)], rel := upd p.rel e r, dl := upd p.dl e d, wt := upd p.wt e 0, aftV := updV p.aftV e (.slice none 0 0), aft := updL p.aft e [] } := by
  subst hx hb
  exact add_any hG hV hn e he hev hnil r d
/-- The greatest int: 'never'. -/
def never : Int := 9223372036854775807
def holdL (hb hold : List Int) (q : Nat) : List Int := if hb = [] then hold ++ [(q : Int)] else hold
theorem hold_same {w0 w : World} {S : Sto} {p : PS} (hG : Good w0 w S) (hV : VA S p) (hn : p.n ≤ 300) (u : Nat) (hu : u < p.n) (st : Int) (hh : p.held u = st) :
    Calls Yba.prog 20 #[.pointer (some ⟨S.loc 0, 0, none⟩), .int .i64 u, .int .i64 st] w fun en w' => en = .returned (.tuple #[]) ∧ w' = w := by
  have D := hV.dom
  have c41 := hG.cell 0 41 (D 0 (by omega)) hV.r.held
  have c9 := hG.cell 9 u (D 9 (by omega)) (hV.held.at hu)
  simp only [sl] at c41
  rw [hh] at c9
  clear hG hV D hh
  go_enter Yba.func20, Yba.ntmps20
  go_wp2_with fail
  exact bodyPost_ret (results_none rfl _ _ _) rfl ⟨rfl, rfl⟩

set_option maxRecDepth 100000 in
set_option maxHeartbeats 4000000 in
theorem hold_new {w0 w : World} {S : Sto} {p : PS} (hG : Good w0 w S) (hV : VA S p) (hn : p.n ≤ 300) (u : Nat) (hu : u < p.n) (st : Int) (hh : p.held u ≠ st) (q : Nat) (hq : q < 3) (hpq : p.proc u = (q : Int)) (hnil : p.aftV u = .slice none 0 0) (hev : p.ev.length ≤ 100000) (hho : p.hold.length ≤ 100000) (hhb : (p.hb q).length ≤ 100000) :
    Calls Yba.prog 20 #[.pointer (some ⟨S.loc 0, 0, none⟩), .int .i64 u, .int .i64 st] w fun en w' => en = .returned (.tuple #[]) ∧ ∃ S' v1 v2 v3, Good w0 w' S' ∧ Fix S S' ∧
      VA S' { p with held := upd p.held u st, evV := v1, ev := p.ev ++ [(u : Int)], rel := upd p.rel u (p.call u), dl := upd p.dl u never, wt := upd p.wt u 0, aftV := updV p.aftV u (.slice none 0 0), aft := updL p.aft u [], holdV := v2, hold := holdL (p.hb q) p.hold q, hbV := updV p.hbV q v3, hb := updL p.hb q (p.hb q ++ [(u : Int)]) } := by
  obtain ⟨i0, hi, hz0, hz1, hz2⟩ := info_parts Yba.info3
  have D := hV.dom
  have c41 := hG.cell 0 41 (D 0 (by omega)) hV.r.held
  have c9 := hG.cell 9 u (D 9 (by omega)) (hV.held.at hu)
  have f9 : ∀ k, w.frozen? ⟨S.loc 9, k, none⟩ = false := fun k => hG.free 9 k (D 9 (by omega))
  have hhb' : (p.held u == st) = false := by simp [hh]
  simp only [sl] at c41
  have G1 := hG.setCell 9 u (D 9 (by omega)) (.int .i64 st)
  have V1 := hV.setHeld hu st
  have HG1 : Hid (Good w0 _ _) := G1
  have HV1 : Hid (VA _ _) := V1
  have n9 : S.loc 0 ≠ S.loc 9 := hG.ne (D 0 (by omega)) (D 9 (by omega)) (by omega)
  have n19 : S.loc 1 ≠ S.loc 9 := hG.ne (D 1 (by omega)) (D 9 (by omega)) (by omega)
  have c0 := hG.cell 0 0 (D 0 (by omega)) hV.r.ops
  have c8 := hG.cell 1 _ (D 1 (by omega)) (hV.ops.2 u hu).2.1
  simp only [sl] at c0
  have hui : (u : Int) < (p.n : Int) := by omega
  clear hG hV G1 V1 hh
  go_enter Yba.func20, Yba.ntmps20
  go_wp2_with fail
  have G1 := HG1.out
  have d0 : Good w0 (w.setCell ⟨S.loc 9, u, none⟩ (.int .i64 st)) (S.set 9 u (.int .i64 st)) := G1
  have x0 : (w.setCell ⟨S.loc 9, u, none⟩ (.int .i64 st)).cell? ⟨S.loc 0, 0, none⟩ = some (.slice (some ⟨S.loc 1, 0, none⟩) p.n p.n) := d0.cell 0 0 (D 0 (by omega)) HV1.out.r.ops
  have x8 : (w.setCell ⟨S.loc 9, u, none⟩ (.int .i64 st)).cell? ⟨S.loc 1, u * 12 + 8, none⟩ = some (.int .i64 (p.call u)) := d0.cell 1 _ (D 1 (by omega)) (HV1.out.ops.2 u hu).2.1
  generalize w.setCell ⟨S.loc 9, u, none⟩ (.int .i64 st) = W1 at d0 x0 x8 ⊢
  have HG2 : Hid (Good w0 W1 _) := d0
  clear d0 G1 c41 c9 f9 c0 c8 HG1
  go_region_held3 (fun x => x.cell? ⟨S.loc 0, 0, none⟩ = some (.slice (some ⟨S.loc 1, 0, none⟩) p.n p.n) ∧ x.cell? ⟨S.loc 1, u * 12 + 8, none⟩ = some (.int .i64 (p.call u))) (go_keep) (first | (go_at_call 17; refine (add_at' HG2.out.drew HV1.out hn _ rfl _ u rfl (by dsimp only; omega) (by dsimp only; omega) hnil (p.call u) _).mono ?_; rintro e w2 ⟨rfl, T2, v, G2, F2, V2⟩; have D2 := V2.dom; have y0 := G2.cell 0 0 (D2 0 (by omega)) V2.r.ops; have y8 := G2.cell 1 _ (D2 1 (by omega)) (V2.ops.2 u hu).2.1; simp only [sl] at y0; dsimp only at y0 y8; rw [F2.loc 0 (by omega), F2.loc 1 (by omega)] at y0; rw [F2.loc 1 (by omega)] at y8; simp only [Sto.set] at y0 y8; have HG3 : Hid (Good w0 w2 T2) := G2; have HV3 : Hid (VA T2 _) := V2; have HF3 : Hid (Fix _ T2) := F2; clear G2 V2 F2))
  have D3 := HV3.out.dom
  have HF4 : Hid (Fix S T2) := (Fix.set S 9 u _ (by omega)).trans HF3.out
  have c55 := HG3.out.cell 0 55 (D3 0 (by omega)) HV3.out.r.prc
  have c2 := HG3.out.cell 2 u (D3 2 (by omega)) (HV3.out.proc.at hu)
  have c42 := HG3.out.cell 0 42 (D3 0 (by omega)) HV3.out.r.hby
  have c10 := HG3.out.cell 10 q (D3 10 (by omega)) (HV3.out.hbv q hq)
  have c43 := HG3.out.cell 0 43 (D3 0 (by omega)) HV3.out.r.hold
  have f2 : ∀ k, w2.frozen? ⟨T2.loc 0, k, none⟩ = false := fun k => HG3.out.free 0 k (D3 0 (by omega))
  have hRq := HV3.out.hbr q hq
  have hRh := HV3.out.hold
  simp only [sl] at c55 c42
  dsimp only at c55 c2 c42 c10 c43 hRq hRh
  rw [hpq] at c2
  rw [HF4.out.loc 0 (by omega)] at c55 c42 c43 f2
  obtain ⟨ha, hcc, hform⟩ := hRq.ty_form
  rw [hform] at c10
  have Hform : Hid (p.hbV q = _) := hform
  have hqi : (q : Int) < 3 := by omega
  clear hform hRq y0 y8 x0 x8 HG2 HV1 HF3
  go_upto_if 56 with fail
  go_cut [] from 7 to 86 (fun wx => ∃ (S' : Sto) (v2 : Value), Good w0 wx S' ∧ Fix S S' ∧ VA S' { p with held := upd p.held u st, evV := v, ev := p.ev ++ [(u : Int)], rel := upd p.rel u (p.call u), dl := upd p.dl u never, wt := upd p.wt u 0, aftV := updV p.aftV u (.slice none 0 0), aft := updL p.aft u [], holdV := v2, hold := holdL (p.hb q) p.hold q })
  case first =>
    by_cases hem : p.hb q = []
    · have hlen : (p.hb q).length = 0 := by rw [hem]; rfl
      have Hem : Hid (p.hb q = []) := hem
      have c1 : (w2.alloc (.cells #[.int .i64 (q : Int)] 3)).cell? ⟨w2.heap.size, 0, none⟩ = some (.int .i64 (q : Int)) := cellNew _ _ _
      have hl1 : (ints p.hold).length + 1 ≤ 1099511627776 := by rw [ints_len]; omega
      clear hem
      go_wp2_with (at_builtin; refine wpList_append_row hi hz0 hz1 hz2 rfl _ _ 27 rfl Yba.underlying27 (HG3.out.alloc _) 19 _ _ rfl hRh ⟨w2.heap.size, 0, none⟩ (.int .i64 (q : Int)) _ rfl c1 rfl hl1 rfl ?_)
      intro v1 w3 S3 hG3 hR3 hO3
      rw [ints_snoc] at hR3
      obtain ⟨va, vc, rfl⟩ := hR3.ty_form
      have V4 := HV3.out.setHold hO3 hR3
      have d3 : S3.dom 0 := ((hO3 0 (by omega)).1).2 (D3 0 (by omega))
      have x43 := hG3.cell 0 43 d3 (v := p.holdV) (by rw [hO3.cellsOf (by omega)]; exact HV3.out.r.hold)
      have y43 := hG3.free 0 43 d3
      have G4 := hG3.setCell 0 43 d3 (.slice va (p.hold ++ [(q : Int)]).length vc)
      rw [hO3.locOf (y := 0) (by omega), HF4.out.loc 0 (by omega)] at x43 y43 G4
      have Hlen : (p.hold ++ [(q : Int)]).length = p.hold.length + 1 := by simp
      rw [Hlen] at G4 V4
      have HG4 : Hid (Good w0 _ _) := G4
      have HV4 : Hid (VA _ _) := V4
      have HO : Hid (Off 19 T2 S3) := hO3
      clear G4 V4 hR3 c1 hl1 Hlen hO3 hG3 c43 f2 c55 c2 c42 c10
      go_wp2_with fail
      go_meet
      have V5 := HV4.out
      rw [show p.hold ++ [(q : Int)] = holdL (p.hb q) p.hold q from by rw [holdL, if_pos Hem.out]] at V5
      exact ⟨_, _, HG4.out, HF4.out.trans ((Fix.off HO.out (by omega)).trans (Fix.set _ 0 _ _ (by omega))), V5⟩
    · have hlen : ((p.hb q).length : Int) ≠ 0 := by
        have : (p.hb q).length ≠ 0 := fun h => hem (List.eq_nil_of_length_eq_zero h)
        omega
      have hlb : (((p.hb q).length : Int) == 0) = false := by simp; exact hem
      have Hem : Hid (¬ p.hb q = []) := hem
      clear hem hlen
      go_wp2_with fail
      go_meet
      have V5 := HV3.out
      have V6 : VA T2 { p with held := upd p.held u st, evV := v, ev := p.ev ++ [(u : Int)], rel := upd p.rel u (p.call u), dl := upd p.dl u never, wt := upd p.wt u 0, aftV := updV p.aftV u (.slice none 0 0), aft := updL p.aft u [], holdV := p.holdV, hold := holdL (p.hb q) p.hold q } := by
        rw [holdL, if_neg Hem.out]; exact V5
      exact ⟨_, _, HG3.out, HF4.out, V6⟩
  case rest =>
    obtain ⟨S5, v5, G5, F5, V5⟩ := hcut
    have D5 := V5.dom
    have c42b := G5.cell 0 42 (D5 0 (by omega)) V5.r.hby
    have c10b := G5.cell 10 q (D5 10 (by omega)) (V5.hbv q hq)
    have f10 : ∀ k, wc.frozen? ⟨S5.loc 10, k, none⟩ = false := fun k => G5.free 10 k (D5 10 (by omega))
    have hR5 := V5.hbr q hq
    have n10 : S5.loc 0 ≠ S5.loc 10 := G5.ne (D5 0 (by omega)) (D5 10 (by omega)) (by omega)
    have z0 := G5.lt (D5 0 (by omega))
    have z10 := G5.lt (D5 10 (by omega))
    simp only [sl] at c42b
    dsimp only at c42b c10b hR5
    rw [F5.loc 0 (by omega)] at c42b n10 z0
    have c1 : (wc.alloc (.cells #[.int .i64 (u : Int)] 3)).cell? ⟨wc.heap.size, 0, none⟩ = some (.int .i64 (u : Int)) := cellNew _ _ _
    have hl' : (ints (p.hb q)).length + 1 ≤ 1099511627776 := by rw [ints_len]; omega
    have HG5 : Hid (Good w0 wc S5) := G5
    have HV5 : Hid (VA S5 _) := V5
    have HF5 : Hid (Fix S S5) := F5
    clear G5 V5 F5 c55 c2 c42 c10 c43 f2 hRh HG3 HV3
    go_upto_region 6 with fail
    go_region_law (refine step_append_row hi hz0 hz1 hz2 rfl (.tmp 82) (.tmp 84) 27 rfl Yba.underlying27 (HG5.out.alloc _).drew (20 + q) (p.hbV q) (ints (p.hb q)) (by simp [Act.eval, Act.put]) hR5 ⟨wc.heap.size, 0, none⟩ (.int .i64 (u : Int)) 1 (by simp [Act.eval, Act.put]) c1 rfl hl' rfl ?_; intro v1 w6 S6 hG6 hR6 hO6; rw [ints_snoc] at hR6; obtain ⟨va, vc, rfl⟩ := hR6.ty_form; have k10 := hG6.cell 10 q (((hO6 10 (by omega)).1).2 (D5 10 (by omega))) (v := p.hbV q) (by rw [hO6.cellsOf (by omega)]; exact HV5.out.hbv q hq); have g10 := hG6.free 10 q (((hO6 10 (by omega)).1).2 (D5 10 (by omega))); rw [hO6.locOf (y := 10) (by omega)] at k10 g10; have k42 := hG6.cell 0 42 (((hO6 0 (by omega)).1).2 (D5 0 (by omega))) (v := .slice (some ⟨S5.loc 10, 0, none⟩) 3 3) (by rw [hO6.cellsOf (by omega)]; exact HV5.out.r.hby); rw [hO6.locOf (y := 0) (by omega), HF5.out.loc 0 (by omega)] at k42)
    all_goals
      go_wp2_with fail
      go_end0
      have G7 := hG6.setCell 10 q (((hO6 10 (by omega)).1).2 (D5 10 (by omega))) (.slice va ((p.hb q).length + 1) vc)
      rw [hO6.locOf (y := 10) (by omega)] at G7
      have V7 := HV5.out.setHb hq hO6 hR6
      rw [List.length_append, List.length_cons, List.length_nil] at V7
      exact ⟨rfl, _, _, _, _, G7, HF5.out.trans ((Fix.off hO6 (by omega)).trans (Fix.set _ 10 _ _ (by omega))), V7⟩
end Go.Proofs.Ybulkdasy
