/-
  The walk of (*timetable).feasible.
-/
import Derived.Test.YbulkdasyTime
import Derived.Test.YbulkdasyPlain
namespace Go.Proofs.Ybulkdasy
open Go.RowKit
set_option linter.unusedSimpArgs false
set_option linter.unusedVariables false
def natI (xs : List Nat) : List Int := xs.map (fun (k : Nat) => (k : Int))
theorem natI_len (xs : List Nat) : (natI xs).length = xs.length := by simp [natI]
theorem natI_snoc (xs : List Nat) (u : Nat) : natI xs ++ [(u : Int)] = natI (xs ++ [u]) := by simp [natI]
theorem natI_get {xs : List Nat} {k u : Nat} (h : xs[k]? = some u) : (ints (natI xs))[k]? = some (.int .i64 (u : Int)) := by simp [ints, natI, h]
theorem Row.nform {S : Sto} {x : Nat} {v : Value} {xs : List Nat} (h : Row S x v (ints (natI xs))) : ∃ a c, v = .slice a xs.length c := by
  obtain ⟨a, c, h⟩ := h.form
  rw [ints_len, natI_len] at h
  exact ⟨a, c, h⟩
theorem Row.ncell {w0 w : World} {S : Sto} {x : Nat} {v : Value} {xs : List Nat} (h : Row S x v (ints (natI xs))) (hG : Good w0 w S) {k u : Nat} (hu : xs[k]? = some u) :
    ∃ cap, v = .slice (some ⟨S.loc x, 0, none⟩) xs.length cap ∧ w.cell? ⟨S.loc x, k, none⟩ = some (.int .i64 (u : Int)) := by
  obtain ⟨cap, h1, h2⟩ := h.cell hG (natI_get hu)
  rw [ints_len, natI_len] at h1
  exact ⟨cap, h1, h2⟩

def ordK (wt : Nat → Int) (ev : List Nat) (k : Nat) : List Nat := (ev.take k).filter (fun e => wt e == 0)
theorem ordK_succ {wt : Nat → Int} {ev : List Nat} {k e : Nat} (h : ev[k]? = some e) : ordK wt ev (k + 1) = if wt e = 0 then ordK wt ev k ++ [e] else ordK wt ev k := by
  have hk := (List.getElem?_eq_some_iff.1 h).1
  have he := (List.getElem?_eq_some_iff.1 h).2
  unfold ordK
  rw [List.take_succ_eq_append_getElem hk, List.filter_append, he]
  by_cases q : wt e = 0 <;> simp [q]
theorem ordK_end (wt : Nat → Int) (ev : List Nat) : ordK wt ev ev.length = ord0 wt ev := by unfold ordK ord0; rw [List.take_length]
theorem ordK_len (wt : Nat → Int) (ev : List Nat) (k : Nat) : (ordK wt ev k).length ≤ ev.length := by
  unfold ordK
  have h1 := List.length_filter_le (fun e => wt e == 0) (ev.take k)
  have h2 : (ev.take k).length ≤ ev.length := by rw [List.length_take]; omega
  omega
theorem int_beq (a b : Nat) : ((a : Int) == (b : Int)) = (a == b) := by
  rw [Bool.eq_iff_iff]
  simp only [beq_iff_eq]
  omega
set_option maxRecDepth 100000 in
set_option maxHeartbeats 4000000 in
theorem feasible_any {w0 w : World} {S : Sto} {p : PS} (hG : Good w0 w S) (hV : VA S p) (hn : p.n ≤ 300) (evN : List Nat) (aN : Nat → List Nat) (hne : evN ≠ []) (hev : p.ev = natI evN) (haft : ∀ e, e ∈ evN → p.aft e = natI (aN e))
    (ho1 : p.ordV = .slice none 0 0) (ho2 : p.ord = []) (hlt : ∀ e, e ∈ evN → e < 2 * p.n) (wf : WF evN aN) (hwt : ∀ f, f ∈ evN → p.wt f = (unp evN [] aN f : Int)) (hwb : ∀ f, f ∈ evN → p.wt f ≤ 1000000) (hlen : evN.length ≤ 1000) (hal : ∀ e, e ∈ evN → (aN e).length ≤ 1000000) :
    Calls Yba.prog 26 #[.pointer (some ⟨S.loc 0, 34, none⟩)] w fun en w' => en = .returned (.bool (feas p.rel p.dl p.wt aN evN)) ∧ ∃ S' v o r t, Good w0 w' S' ∧ Fix S S' ∧ VA S' { p with ordV := v, ord := o, rel := r, wt := t } := by
  obtain ⟨i0, hi, hz0, hz1, hz2⟩ := info_parts Yba.info3
  have D := hV.dom
  have hevR := hV.ev
  rw [hev] at hevR
  obtain ⟨ec, evf, _⟩ := hevR.ncell hG (k := 0) (u := evN.head hne) (by cases evN with
    | nil => exact absurd rfl hne
    | cons a l => rfl)
  have g39 := hG.cell 0 39 (D 0 (by omega)) hV.r.ord
  have f0 : ∀ k, w.frozen? ⟨S.loc 0, k, none⟩ = false := fun k => hG.free 0 k (D 0 (by omega))
  have g38 := hG.cell 0 38 (D 0 (by omega)) hV.r.ev
  rw [ho1] at g39
  rw [evf] at g38
  have HG : Hid (Good w0 w S) := hG
  have HV : Hid (VA S p) := hV
  have Hev : Hid (p.ev = natI evN) := hev
  have Haft : Hid (∀ e, e ∈ evN → p.aft e = natI (aN e)) := haft
  have Hwt : Hid (∀ f, f ∈ evN → p.wt f = (unp evN [] aN f : Int)) := hwt
  have Hevf : Hid (p.evV = _) := evf
  clear hG hV hev haft hwt evf hevR
  go_enter Yba.func26, Yba.ntmps26
  go_wp2_with fail
  go_loopw [22] (fun i wr => ∃ (k : Nat) (T : Sto) (v : Value), k ≤ evN.length ∧ i = .int .i64 k ∧ Good w0 wr T ∧ Fix S T ∧ T.loc 17 = S.loc 17 ∧ VA T { p with ordV := v, ord := natI (ordK p.wt evN k) }) (fun i _ => evN.length - (intOf i).toNat)
  case atStart =>
    have G1 := HG.out.setCell 0 39 (D 0 (by omega)) (.slice none 0 0)
    have V1 := HV.out.setOrd (Off.refl 18 S) (v := .slice none 0 0) (xs := []) (Row.nil _ _)
    exact ⟨0, _, _, by omega, rfl, G1, Fix.set _ 0 _ _ (by omega), rfl, V1⟩
  case round =>
    obtain ⟨k, T, v, hk, rfl, hT, hF, l17, V⟩ := hrel
    by_cases hkl : k < evN.length
    · have hget := List.getElem?_eq_getElem hkl
      generalize evN[k] = e at hget
      have hmem := List.mem_of_getElem? hget
      have he := hlt e hmem
      have hR := V.ev
      dsimp only at hR
      rw [Hev.out] at hR
      obtain ⟨_, _, c17⟩ := hR.ncell hT hget
      have DT := V.dom
      have c37 := hT.cell 0 37 (DT 0 (by omega)) V.r.wt
      have cw := hT.cell 14 e (DT 14 (by omega)) (V.wt.at he)
      have c39 := hT.cell 0 39 (DT 0 (by omega)) V.r.ord
      have fT : ∀ k, wr.frozen? ⟨T.loc 0, k, none⟩ = false := fun k => hT.free 0 k (DT 0 (by omega))
      have hRo := V.ord
      simp only [sl] at c37
      dsimp only at c37 cw c39 hRo
      rw [l17] at c17
      rw [hF.loc 0 (by omega)] at c37 c39 fT
      have Hsucc := ordK_succ (wt := p.wt) hget
      have HS : Hid (ordK p.wt evN (k + 1) = if p.wt e = 0 then ordK p.wt evN k ++ [e] else ordK p.wt evN k) := Hsucc
      have HT : Hid (Good w0 wr T) := hT
      have HVT : Hid (VA T _) := V
      have HF : Hid (Fix S T) := hF
      have HL : Hid (T.loc 17 = S.loc 17) := l17
      clear Hsucc hT V hF l17 hR hget
      by_cases hz : p.wt e = 0
      · have hzb : (p.wt e == 0) = true := by simp [hz]
        have HZ : Hid (p.wt e = 0) := hz
        clear hz
        have c1 : (wr.alloc (.cells #[.int .i64 (e : Int)] 3)).cell? ⟨wr.heap.size, 0, none⟩ = some (.int .i64 (e : Int)) := cellNew _ _ _
        have hl1 : (ints (natI (ordK p.wt evN k))).length + 1 ≤ 1099511627776 := by rw [ints_len, natI_len]; have := ordK_len p.wt evN k; omega
        go_wp2_with (at_builtin; refine wpList_append_row hi hz0 hz1 hz2 rfl _ _ 27 rfl Yba.underlying27 (HT.out.alloc _) 18 _ _ rfl hRo ⟨wr.heap.size, 0, none⟩ (.int .i64 (e : Int)) _ rfl c1 rfl hl1 rfl ?_)
        intro v1 w1 S1 hG1 hR1 hO1
        rw [ints_snoc, natI_snoc] at hR1
        obtain ⟨va, vc, rfl⟩ := hR1.nform
        have V3 := HVT.out.setOrd hO1 hR1
        have d1 : S1.dom 0 := ((hO1 0 (by omega)).1).2 (DT 0 (by omega))
        have x39 := hG1.cell 0 39 d1 (v := v) (by rw [hO1.cellsOf (by omega)]; exact HVT.out.r.ord)
        have y39 := hG1.free 0 39 d1
        have G3 := hG1.setCell 0 39 d1 (.slice va (ordK p.wt evN k ++ [e]).length vc)
        rw [hO1.locOf (y := 0) (by omega), HF.out.loc 0 (by omega)] at x39 y39 G3
        have Hlen : (ordK p.wt evN k ++ [e]).length = (ordK p.wt evN k).length + 1 := by simp
        rw [Hlen] at G3 V3
        rw [show ordK p.wt evN k ++ [e] = ordK p.wt evN (k + 1) from by rw [HS.out, if_pos HZ.out]] at V3
        have G4 : Hid (Good w0 _ _) := G3
        have V4 : Hid (VA _ _) := V3
        have HO : Hid (Off 18 T S1) := hO1
        clear G3 V3 hR1 c37 cw c39 fT c17 hRo c1 hl1 Hlen hO1 hG1
        go_wp2_with fail
        go_roundw
        case rel =>
          exact ⟨k + 1, _, _, by omega, by go_num, G4.out, HF.out.trans ((Fix.off HO.out (by omega)).trans (Fix.set _ 0 _ _ (by omega))), (HO.out.locOf (y := 17) (by omega)).trans HL.out, V4.out⟩
        case measure => simp [intOf]; omega
      · have hzb : (p.wt e == 0) = false := by simp [hz]
        go_wp2_with fail
        go_roundw
        case rel =>
          have V3 := HVT.out
          have : ordK p.wt evN k = ordK p.wt evN (k + 1) := by rw [HS.out, if_neg hz]
          rw [this] at V3
          exact ⟨k + 1, T, v, by omega, by go_num, HT.out, HF.out, HL.out, V3⟩
        case measure => simp [intOf]; omega
    · obtain rfl : k = evN.length := by omega
      rw [ordK_end] at V
      have HT : Hid (Good w0 wr T) := hT
      have HVT : Hid (VA T _) := V
      have HF : Hid (Fix S T) := hF
      clear hT V hF l17 hkl hk g39 f0 g38
      go_wp2_with fail
      go_loopw [5] (fun i wr => ∃ (k : Nat) (s : FS) (T : Sto) (v : Value), k ≤ s.ord.length ∧ i = .int .i64 k ∧ Good w0 wr T ∧ Fix S T ∧ VA T { p with ordV := v, ord := natI s.ord, rel := s.rel, wt := s.wt } ∧
          J evN aN (s.ord.take k) [] s ∧ (∀ f, f ∈ evN → s.wt f ≤ 1000000) ∧ outer p.dl aN evN.length (evN.length + 1 - k) k s = feas p.rel p.dl p.wt aN evN) (fun i _ => evN.length + 1 - (intOf i).toNat)
      case atStart =>
        exact ⟨0, ⟨p.rel, p.wt, ord0 p.wt evN⟩, T, v, Nat.zero_le _, rfl, HT.out, HF.out, HVT.out, by simpa using J.start wf p.rel p.wt Hwt.out, hwb, rfl⟩
      case round =>
        obtain ⟨k, s, T2, v2, hk2, rfl, hT2, hF2, V2, hJ, hb, hout⟩ := hrel
        have hol := hJ.len
        have D2 := V2.dom
        have c39 := hT2.cell 0 39 (D2 0 (by omega)) V2.r.ord
        have hR2 := V2.ord
        dsimp only at c39 hR2
        rw [hF2.loc 0 (by omega)] at c39
        have HT2 : Hid (Good w0 wr T2) := hT2
        have HV2 : Hid (VA T2 _) := V2
        have HF2 : Hid (Fix S T2) := hF2
        have HJ : Hid (J evN aN (s.ord.take k) [] s) := hJ
        have Hout : Hid (outer p.dl aN evN.length (evN.length + 1 - k) k s = feas p.rel p.dl p.wt aN evN) := hout
        have Hb : Hid (∀ f, f ∈ evN → s.wt f ≤ 1000000) := hb
        clear hT2 V2 hF2 hJ hout hb HT HVT HF
        by_cases hkl : k < s.ord.length
        · have hget := List.getElem?_eq_getElem hkl
          generalize s.ord[k] = e at hget
          have hmem := HJ.out.sub e (List.mem_of_getElem? hget)
          have he := hlt e hmem
          obtain ⟨cc, rfl, c18⟩ := hR2.ncell HT2.out hget
          have c34 := HT2.out.cell 0 34 (D2 0 (by omega)) HV2.out.r.rel
          have c35 := HT2.out.cell 0 35 (D2 0 (by omega)) HV2.out.r.dl
          have c36 := HT2.out.cell 0 36 (D2 0 (by omega)) HV2.out.r.aft
          have c11 := HT2.out.cell 11 e (D2 11 (by omega)) (HV2.out.rel.at he)
          have c12 := HT2.out.cell 12 e (D2 12 (by omega)) (HV2.out.dl.at he)
          have c13 := HT2.out.cell 13 e (D2 13 (by omega)) (HV2.out.afv e he)
          simp only [sl] at c34 c35 c36
          rw [HF2.out.loc 0 (by omega)] at c34 c35 c36
          dsimp only at c34 c35 c36 c11 c12 c13
          have hei : (e : Int) < 2 * (p.n : Int) := by omega
          have hRa := HV2.out.afr e he
          dsimp only at hRa
          rw [Haft.out e hmem] at hRa
          obtain ⟨aa, ac, hav⟩ := hRa.nform
          rw [hav] at c13
          have Hav : Hid (p.aftV e = _) := hav
          have Hget : Hid (s.ord[k]? = some e) := hget
          have hal1 := hal e hmem
          have hstep : outer p.dl aN evN.length (evN.length + 1 - k) k s = if p.dl e ≤ s.rel e then false else outer p.dl aN evN.length (evN.length + 1 - (k + 1)) (k + 1) (inner e (aN e) s) := by
            rw [show evN.length + 1 - k = (evN.length + 1 - (k + 1)) + 1 from by omega, outer, Hget.out]
          have Hstep : Hid (outer p.dl aN evN.length (evN.length + 1 - k) k s = if p.dl e ≤ s.rel e then false else outer p.dl aN evN.length (evN.length + 1 - (k + 1)) (k + 1) (inner e (aN e) s)) := hstep
          clear hget hRa hav hR2 hstep
          go_wp2_with fail
          go_quiet (fail)
          by_cases hle : p.dl e ≤ s.rel e
          · have hled : decide (p.dl e ≤ s.rel e) = true := by simp [hle]
            go_wp2_with fail
            go_ret
            refine ⟨?_, T2, _, _, _, _, HT2.out.drewN _, HF2.out, HV2.out⟩
            rw [← Hout.out, Hstep.out, if_pos hle]
            rfl
          · have HJo := HJ.out.begun wf (e := e) (by rw [List.length_take, Nat.min_eq_left (by omega)]; exact Hget.out)
            have HJO : Hid (J evN aN (s.ord.take k ++ [e]) (aN e) s) := HJo
            clear c34 c35 c11 c12 c18 c39 HJo
            go_wp2_with fail
            go_loopw [84] (fun i wr => ∃ (j : Nat) (s' : FS) (T : Sto) (v : Value), j ≤ (aN e).length ∧ i = .int .i64 j ∧ Good w0 wr T ∧ Fix S T ∧ VA T { p with ordV := v, ord := natI s'.ord, rel := s'.rel, wt := s'.wt } ∧
              s' = inner e ((aN e).take j) s ∧ J evN aN (s.ord.take k ++ [e]) ((aN e).drop j) s' ∧ (∀ f, f ∈ evN → s'.wt f ≤ 1000000)) (fun i _ => (aN e).length - (intOf i).toNat)
            case atStart =>
              exact ⟨0, s, T2, _, Nat.zero_le _, rfl, HT2.out.drewN _, HF2.out, HV2.out, rfl, HJO.out, Hb.out⟩
            case round =>
              obtain ⟨j, s', T3, v3, hj, rfl, hT3, hF3, V3, hs', hJ3, hb3⟩ := hrel
              by_cases hjl : j < (aN e).length
              · have hgf := List.getElem?_eq_getElem hjl
                have hdrop : (aN e).drop j = (aN e)[j] :: (aN e).drop (j + 1) := List.drop_eq_getElem_cons hjl
                have htk : (aN e).take (j + 1) = (aN e).take j ++ [(aN e)[j]] := List.take_succ_eq_append_getElem hjl
                generalize (aN e)[j] = f at hgf hdrop htk
                have hfm := wf.tgt e hmem f (List.mem_of_getElem? hgf)
                have hf := hlt f hfm
                have hRa := V3.afr e he
                dsimp only at hRa
                rw [Haft.out e hmem] at hRa
                obtain ⟨cc3, hav3, c30⟩ := hRa.ncell hT3 hgf
                have haa : aa = some ⟨T3.loc (30 + e), 0, none⟩ ∧ ac = cc3 := by
                  have := Hav.out.symm.trans hav3
                  simpa using this
                obtain ⟨rfl, rfl⟩ := haa
                have D3 := V3.dom
                have c34 := hT3.cell 0 34 (D3 0 (by omega)) V3.r.rel
                have c37 := hT3.cell 0 37 (D3 0 (by omega)) V3.r.wt
                have c39 := hT3.cell 0 39 (D3 0 (by omega)) V3.r.ord
                have c11e := hT3.cell 11 e (D3 11 (by omega)) (V3.rel.at he)
                have c11f := hT3.cell 11 f (D3 11 (by omega)) (V3.rel.at hf)
                have c14f := hT3.cell 14 f (D3 14 (by omega)) (V3.wt.at hf)
                have f11 : ∀ k, wr.frozen? ⟨T3.loc 11, k, none⟩ = false := fun k => hT3.free 11 k (D3 11 (by omega))
                have f14 : ∀ k, wr.frozen? ⟨T3.loc 14, k, none⟩ = false := fun k => hT3.free 14 k (D3 14 (by omega))
                have n1 : T3.loc 0 ≠ T3.loc 11 := hT3.ne (D3 0 (by omega)) (D3 11 (by omega)) (by omega)
                have n2 : T3.loc 0 ≠ T3.loc 14 := hT3.ne (D3 0 (by omega)) (D3 14 (by omega)) (by omega)
                have n3 : T3.loc 11 ≠ T3.loc 14 := hT3.ne (D3 11 (by omega)) (D3 14 (by omega)) (by omega)
                simp only [sl] at c34 c37
                rw [hF3.loc 0 (by omega)] at c34 c37 c39 n1 n2
                dsimp only at c34 c37 c39 c11e c11f c14f
                have hfi : (f : Int) < 2 * (p.n : Int) := by omega
                have hbf := hb3 f hfm
                have hwf : 0 ≤ s'.wt f := by rw [hJ3.wt f hfm]; omega
                have HT3 : Hid (Good w0 wr T3) := hT3
                have HV3 : Hid (VA T3 _) := V3
                have HF3 : Hid (Fix S T3) := hF3
                have HJ3 : Hid (J evN aN (s.ord.take k ++ [e]) ((aN e).drop j) s') := hJ3
                have Hs' : Hid (s' = inner e ((aN e).take j) s) := hs'
                have Hb3 : Hid (∀ f, f ∈ evN → s'.wt f ≤ 1000000) := hb3
                have Hdrop : Hid ((aN e).drop j = f :: (aN e).drop (j + 1)) := hdrop
                have Htk : Hid ((aN e).take (j + 1) = (aN e).take j ++ [f]) := htk
                clear hT3 V3 hF3 hJ3 hs' hb3 hdrop htk hgf hRa hav3
                go_wp2_with fail
                go_region
                have hmx : (if s'.rel f < s'.rel e then s'.rel e else s'.rel f) = max (s'.rel f) (s'.rel e) := by split <;> omega
                generalize (if s'.rel f < s'.rel e then s'.rel e else s'.rel f) = mx at hmx ⊢
                have Hmx : Hid (mx = max (s'.rel f) (s'.rel e)) := hmx
                have G5 := (HT3.out.setCell 11 f (D3 11 (by omega)) (.int .i64 mx)).setCell 14 f (D3 14 (by omega)) (.int .i64 (s'.wt f - 1))
                have V5 := (HV3.out.setRel hf mx).setWt hf (s'.wt f - 1)
                dsimp only at V5
                have HG5 : Hid (Good w0 _ _) := G5
                have HV5 : Hid (VA _ _) := V5
                have hinn : Hid (istep e s' f = inner e ((aN e).take (j + 1)) s) := by
                  show _ = _
                  rw [Htk.out, Hs'.out]
                  simp [inner, List.foldl_append]
                have hJ6 : Hid (J evN aN (s.ord.take k ++ [e]) ((aN e).drop (j + 1)) (istep e s' f)) := by
                  have q := HJ3.out
                  rw [Hdrop.out] at q
                  exact q.istep hfm e
                have hb6 : Hid (∀ g, g ∈ evN → (istep e s' f).wt g ≤ 1000000) := by
                  intro g hg
                  show upd s'.wt f (s'.wt f - 1) g ≤ _
                  unfold upd
                  have := Hb3.out g hg
                  split <;> omega
                clear hmx G5 V5
                by_cases hz : s'.wt f - 1 = 0
                · have hzb : (s'.wt f - 1 == 0) = true := by simp [hz]
                  have hord : Hid ((istep e s' f).ord = s'.ord ++ [f]) := by
                    show _ = _
                    simp [istep, hz]
                  have hRo := HV5.out.ord
                  dsimp only at hRo
                  have hol3 := HJ3.out.len
                  have hl1 : (ints (natI s'.ord)).length + 1 ≤ 1099511627776 := by rw [ints_len, natI_len]; omega
                  clear hz
                  go_upto_region 20 with fail
                  have G6 : Good w0 ((wr.setCell ⟨T3.loc 11, f, none⟩ (.int .i64 mx)).setCell ⟨T3.loc 14, f, none⟩ (.int .i64 (s'.wt f - 1))).drew ((T3.set 11 f (Value.int IntKind.i64 mx)).set 14 f (Value.int IntKind.i64 (s'.wt f - 1))) := HG5.out.drew
                  have c39b := G6.cell 0 39 (D3 0 (by omega)) (v := v3) HV5.out.r.ord
                  have f39b := G6.free 0 39 (D3 0 (by omega))
                  simp only [Sto.set] at c39b f39b
                  rw [HF3.out.loc 0 (by omega)] at c39b f39b
                  generalize ((wr.setCell ⟨T3.loc 11, f, none⟩ (.int .i64 mx)).setCell ⟨T3.loc 14, f, none⟩ (.int .i64 (s'.wt f - 1))).drew = W5 at c39b f39b G6 ⊢
                  generalize hT6 : ((T3.set 11 f (Value.int IntKind.i64 mx)).set 14 f (Value.int IntKind.i64 (s'.wt f - 1))) = T6 at G6 HV5 hRo
                  have HF6 : Hid (Fix S T6) := by
                    show Fix S T6
                    rw [← hT6]; exact (HF3.out.trans (Fix.set _ 11 _ _ (by omega))).trans (Fix.set _ 14 _ _ (by omega))
                  have D6 : T6.dom 0 := HV5.out.dom 0 (by omega)
                  have HG6 : Hid (Good w0 W5 T6) := G6
                  have c1 : (W5.alloc (.cells #[.int .i64 (f : Int)] 3)).cell? ⟨W5.heap.size, 0, none⟩ = some (.int .i64 (f : Int)) := cellNew _ _ _
                  clear c34 c37 c39 c11e c11f c14f f11 f14 n1 n2 n3 G6 hT6
                  go_wp2_with (at_builtin; refine wpList_append_row hi hz0 hz1 hz2 rfl _ _ 27 rfl Yba.underlying27 (HG6.out.alloc _) 18 _ _ rfl hRo ⟨W5.heap.size, 0, none⟩ (.int .i64 (f : Int)) _ rfl c1 rfl hl1 rfl ?_)
                  intro v1 w1 S1 hG1 hR1 hO1
                  rw [ints_snoc, natI_snoc] at hR1
                  obtain ⟨va, vc, rfl⟩ := hR1.nform
                  have V7 := HV5.out.setOrd hO1 hR1
                  have d1 : S1.dom 0 := ((hO1 0 (by omega)).1).2 D6
                  have x39 := hG1.cell 0 39 d1 (v := v3) (by rw [hO1.cellsOf (by omega)]; exact HV5.out.r.ord)
                  have y39 := hG1.free 0 39 d1
                  have G7 := hG1.setCell 0 39 d1 (.slice va (s'.ord ++ [f]).length vc)
                  rw [hO1.locOf (y := 0) (by omega), HF6.out.loc 0 (by omega)] at x39 y39 G7
                  have Hlen : (s'.ord ++ [f]).length = s'.ord.length + 1 := by simp
                  rw [Hlen] at G7 V7
                  rw [show upd s'.rel f mx = (istep e s' f).rel from by rw [Hmx.out]; rfl, ← hord.out] at V7
                  have HG7 : Hid (Good w0 _ _) := G7
                  have HV7 : Hid (VA _ _) := V7
                  have HO : Hid (Off 18 T6 S1) := hO1
                  clear G7 V7 hR1 hRo c1 hl1 Hlen hO1 hG1 c39b f39b
                  go_wp2_with fail
                  go_roundw
                  case rel =>
                    exact ⟨j + 1, istep e s' f, _, _, by omega, by go_num, HG7.out, HF6.out.trans ((Fix.off HO.out (by omega)).trans (Fix.set _ 0 _ _ (by omega))), HV7.out, hinn.out, hJ6.out, hb6.out⟩
                  case measure => simp [intOf]; omega
                · have hzb : (s'.wt f - 1 == 0) = false := by simp [hz]
                  have hord : Hid ((istep e s' f).ord = s'.ord) := by
                    show _ = _
                    simp [istep, hz]
                  go_wp2_with fail
                  go_roundw
                  case rel =>
                    refine ⟨j + 1, istep e s' f, _, v3, by omega, by go_num, HG5.out.drew, (HF3.out.trans (Fix.set _ 11 _ _ (by omega))).trans (Fix.set _ 14 _ _ (by omega)), ?_, hinn.out, hJ6.out, hb6.out⟩
                    have q := HV5.out
                    rw [show upd s'.rel f mx = (istep e s' f).rel from by rw [Hmx.out]; rfl, ← hord.out] at q
                    exact q
                  case measure => simp [intOf]; omega
              · obtain rfl : j = (aN e).length := by omega
                rw [List.take_length] at hs'
                rw [List.drop_length] at hJ3
                subst hs'
                have HT3 : Hid (Good w0 wr T3) := hT3
                have HV3 : Hid (VA T3 _) := V3
                have HF3 : Hid (Fix S T3) := hF3
                have HJ3 : Hid (J evN aN (s.ord.take k ++ [e]) [] (inner e (aN e) s)) := hJ3
                have Hb3 : Hid (∀ f, f ∈ evN → (inner e (aN e) s).wt f ≤ 1000000) := hb3
                clear hT3 V3 hF3 hJ3 hb3
                go_wp2_with fail
                go_roundw
                case rel =>
                  have hkl' := hkl
                  obtain ⟨t, ht⟩ := inner_pre e (aN e) s
                  have htake : (inner e (aN e) s).ord.take (k + 1) = s.ord.take k ++ [e] := by
                    rw [← ht, List.take_append_of_le_length (by omega), List.take_succ_eq_append_getElem hkl]
                    congr 1
                    rw [(List.getElem?_eq_some_iff.1 Hget.out).2]
                  refine ⟨k + 1, inner e (aN e) s, T3, v3, by rw [← ht]; simp; omega, by go_num, HT3.out, HF3.out, HV3.out, by rw [htake]; exact HJ3.out, Hb3.out, ?_⟩
                  rw [← Hout.out, Hstep.out, if_neg (by omega)]
                case measure => simp [intOf]; omega
        · have hkk : k = s.ord.length := by omega
          have c38 := HT2.out.cell 0 38 (D2 0 (by omega)) HV2.out.r.ev
          dsimp only at c38
          rw [HF2.out.loc 0 (by omega), Hevf.out] at c38
          obtain ⟨va, vc, rfl⟩ := hR2.nform
          have hfin : feas p.rel p.dl p.wt aN evN = (s.ord.length == evN.length) := by
            rw [← Hout.out, show evN.length + 1 - k = (evN.length - k) + 1 from by omega, outer, List.getElem?_eq_none (by omega)]
          have Hfin : Hid (feas p.rel p.dl p.wt aN evN = (s.ord.length == evN.length)) := hfin
          clear hfin hkk
          go_wp2_with fail
          go_quiet (fail)
          go_wp2_with fail
          go_ret
          refine ⟨?_, T2, _, _, _, _, HT2.out.drewN _, HF2.out, HV2.out⟩
          rw [Hfin.out]
          exact congrArg (fun x => Ending.returned (.bool x)) (int_beq _ _)
end Go.Proofs.Ybulkdasy
