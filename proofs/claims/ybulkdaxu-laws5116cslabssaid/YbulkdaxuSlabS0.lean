import Derived.Test.YbulkdaxuSlabR0
namespace Go.Proofs.Ybulkdaxu
open Go.RowKit
set_option linter.unusedSimpArgs false
set_option linter.unusedVariables false

/-- The cells of a row, whatever they are. -/
def CE (w : World) (g m : Nat) (f : Nat → Value) : Prop := g < w.heap.size ∧ (∀ i, i < m → w.cell? ⟨g, i, none⟩ = some (f i)) ∧ ∀ k, w.frozen? ⟨g, k, none⟩ = false
def upv (x : Nat → Value) (k : Nat) (a : Value) : Nat → Value := fun j => if j = k then a else x j
theorem CE.below {w w' : World} {g m : Nat} {f : Nat → Value} (H : CE w g m f) (hb : Below w.heap.size w w') : CE w' g m f :=
  ⟨Nat.lt_of_lt_of_le H.1 hb.size, fun k hk => (hb.cell (p := ⟨g, k, none⟩) H.1).trans (H.2.1 k hk), fun k => (hb.frozen (p := ⟨g, k, none⟩) H.1).trans (H.2.2 k)⟩
theorem CE.put {w : World} {g m k : Nat} {f : Nat → Value} (H : CE w g m f) (hk : k < m) (a : Value) : CE (w.setCell ⟨g, k, none⟩ a) g m (upv f k a) := by
  refine ⟨by simpa using H.1, fun j hj => ?_, fun j => by rw [World.frozen?_setCell]; exact H.2.2 j⟩
  unfold upv
  by_cases e : j = k
  · subst e
    rw [if_pos rfl]
    exact World.cell?_setCell_same' _ _ _ (by rw [H.2.1 j hj]; rfl)
  · rw [if_neg e, World.cell?_setCell_other w _ (a := ⟨g, k, none⟩) (b := ⟨g, j, none⟩) (by intro he; cases he; exact e rfl)]
    exact H.2.1 j hj
def ZB (n : Nat) : List Value := (madeCells #[Value.slice none 0 0, Value.slice none 0 0] (n * 2)).toList
theorem zb_get (n k : Nat) (hk : k < n * 2) : (ZB n)[k]? = some (.slice none 0 0) := by
  rcases Nat.mod_two_eq_zero_or_one k with h | h <;> simp [ZB, madeCells, hk, h]
theorem mk86 (n : Nat) (hn : n ≤ 600) (w : World) : (Instr.makeSlice 86 (.int .i64 n) (.int .i64 n)).run Yba.prog w = .ok (.slice (some ⟨w.heap.size, 0, none⟩) n n) (w.alloc (.cells (ZB n).toArray 27)) := by
  have := mk_any Yba.underlying86 info27 n (by omega) (by omega) w
  exact this
theorem zb_ce (w : World) (n : Nat) : CE (w.alloc (.cells (ZB n).toArray 27)) w.heap.size (n * 2) (fun _ => .slice none 0 0) := by
  have hg := heap_alloc_new w (.cells (ZB n).toArray 27)
  refine ⟨by simp, fun k hk => ?_, fun k => ?_⟩
  · have := zb_get n k hk
    simp only [World.cell?, hg]
    simpa using this
  · simp only [World.frozen?, hg]
    simp
theorem rng_getD (l : List Int) : (List.range l.length).map (fun i => l.getD i 0) = l := by
  apply List.ext_getElem
  · simp
  · intro i h1 h2
    simp [List.getD_eq_getElem?_getD, h2]
theorem own_rt {h : Int → Nat} {w : World} {base : Nat} {v : Value} {xs : List Int} (H : w.ownsRow base 74 3 v xs.length (xs.flatMap (f3 h))) (hx : xs ≠ []) : ∃ g c, v = .slice (some ⟨g, 0, none⟩) xs.length c ∧ base ≤ g ∧ RT h w g xs.length (fun i => xs.getD i 0) := by
  rcases own_cell (f3 h) 3 (f3_len h) H with ⟨_, e⟩ | ⟨g, c, rfl, h1, h2, h3, h4, _⟩
  · exact absurd e hx
  · have hg : ∀ i, i < xs.length → xs[i]? = some (xs.getD i 0) := fun i hi => by simp [List.getD_eq_getElem?_getD, hi]
    exact ⟨g, c, rfl, h2, h3, fun i hi => h4 i _ 0 _ (hg i hi) rfl, fun i hi => h4 i _ 1 _ (hg i hi) rfl, fun i hi => h4 i _ 2 _ (hg i hi) rfl⟩
theorem ZW.unify {h : Int → Nat} {w : World} {d : Nat} {v : Value} {n : Nat} {z : Nat → Zn} (H : ZW h w d v n z) : ∃ (zz : Option Addr) (c : Nat) (lz uz : Nat → Value), v = .slice zz n c ∧ (0 < n → ∃ b, zz = some ⟨b, 0, none⟩ ∧ n ≤ c ∧ R5 w b n (fun i => (z i).rk) lz uz) ∧ ∀ i, i < n → CO h w d (lz i) (uz i) (z i).lo (z i).hi := by
  rcases H with ⟨rfl, a, c, rfl⟩ | ⟨b, c, l, u, rfl, hc, hn, R, C⟩
  · exact ⟨a, c, fun _ => .bool false, fun _ => .bool false, rfl, fun h => by omega, fun i hi => by omega⟩
  · exact ⟨_, c, l, u, rfl, fun _ => ⟨b, rfl, hc, R⟩, C⟩

set_option maxRecDepth 100000 in
set_option maxHeartbeats 2000000 in
theorem slabs_any (h : Int → Nat) (K : FK h) (w : World) (d n : Nat) (l u ws : Value) (a b : Int) (z : Nat → Zn) (P : List Int → Prop) (hd : 0 < d) (hd2 : d ≤ 2) (hn : n ≤ 512) (G : CO h w d l u a b) (Z : ZW h w d ws n z)
    (HW : ∀ w1 zb zc, CO h w1 d l u a b → BS h w1 d zb n (fun i => (z i).lo) (fun i => (z i).hi) → Calls Yba.prog 31 #[.agg #[l, u], .slice (some ⟨zb, 0, none⟩) n zc] w1 fun e w' => ∃ v at_, e = .returned (.tuple #[.int .i64 0, v]) ∧ w'.ownsRow w1.heap.size 31 1 v at_.length (at_.flatMap (f1 h)) ∧ P at_ ∧ Below w1.heap.size w1 w')
    (HP : ∀ at_, P at_ → at_.length ≤ 1200 ∧ (∀ i, i < (at_ ++ [b]).length → a < (at_ ++ [b]).getD i 0 ∧ (at_ ++ [b]).getD i 0 ≤ b) ∧ (∀ i, i + 1 < (at_ ++ [b]).length → (at_ ++ [b]).getD i 0 ≤ (at_ ++ [b]).getD (i + 1) 0)) :
    Calls Yba.prog 20 #[.agg #[l, u], ws] w fun e w' => ∃ v at_, e = .returned (.tuple #[.int .i64 0, v]) ∧ P at_ ∧ w'.ownsRow w.heap.size 74 3 v (ju (met n z) a (at_ ++ [b]) []).length ((ju (met n z) a (at_ ++ [b]) []).flatMap (f3 h)) ∧ Below w.heap.size w w' := by
  have HZ0 := Hid.mk Z
  obtain ⟨zz, zc, lz, uz, rfl, hzr, hzc⟩ := Z.unify
  have HG := Hid.mk G
  obtain ⟨G1, G2, G3, G4⟩ := G
  obtain ⟨b1, c1, rfl, x1, y1, q1⟩ := G1
  obtain ⟨b2, c2, rfl, x2, y2, q2⟩ := G2
  obtain ⟨W, hW⟩ : ∃ W, W = (w.alloc (.cells #[.slice (some ⟨b1, 0, none⟩) d c1, .slice (some ⟨b2, 0, none⟩) d c2] 27)).alloc (.cells (ZB n).toArray 27) := ⟨_, rfl⟩
  have BW : Below w.heap.size w W := by rw [hW]; exact below_alloc2 _ _ _
  have sW : W.heap.size = w.heap.size + 1 + 1 := by rw [hW]; simp
  have a0 : W.cell? ⟨w.heap.size, 0, none⟩ = some (.slice (some ⟨b1, 0, none⟩) d c1) := by rw [hW]; go_simp
  have a1 : W.cell? ⟨w.heap.size, 1, none⟩ = some (.slice (some ⟨b2, 0, none⟩) d c2) := by rw [hW]; go_simp
  have CE0 : CE W (w.heap.size + 1) (n * 2) (fun _ => .slice none 0 0) := by
    have := zb_ce (w.alloc (.cells #[.slice (some ⟨b1, 0, none⟩) d c1, .slice (some ⟨b2, 0, none⟩) d c2] 27)) n
    rw [hW]
    simpa using this
  have e1 : W.cell? ⟨b1, 0, none⟩ = some (.float .f64 (h a)) := (BW.cell (p := ⟨b1, 0, none⟩) y1).trans (q1 0 hd)
  have e2 : W.cell? ⟨b2, 0, none⟩ = some (.float .f64 (h b)) := (BW.cell (p := ⟨b2, 0, none⟩) y2).trans (q2 0 hd)
  have HBW := Hid.mk BW
  have HsW := Hid.mk sW
  have HCE := Hid.mk CE0
  have He1 := Hid.mk e1
  have He2 := Hid.mk e2
  have HHP := Hid.mk HP
  have HHW := Hid.mk HW
  have HR5 := Hid.mk hzr
  have HCZ := Hid.mk hzc
  have hd1 : (0 : Int) < (d : Int) := by omega
  have M := mk86 n (by omega)
  clear q1 q2 BW sW Z e1 e2 HP HW hzr hzc CE0
  go_enter Yba.func20, Yba.ntmps20
  go_wp2_with fail
  rw [← hW]
  clear hW M
  go_loopw [17] (fun vk wr => ∃ k : Nat, k ≤ n ∧ vk = .int .i64 (k : Int) ∧ Below (w.heap.size + 1) W wr ∧ ∃ f, CE wr (w.heap.size + 1) (n * 2) f ∧ ∀ i, i < k → f (i * 2) = lz i ∧ f (i * 2 + 1) = uz i) (fun vk _ => n - (intOf vk).toNat)
  case atStart => exact ⟨0, Nat.zero_le _, rfl, Below.refl _ _, _, HCE.out, fun i hi => by omega⟩
  case round =>
    obtain ⟨k, hk, rfl, hB, f, hF, hf⟩ := hrel
    have HB := Hid.mk hB
    have HFF := Hid.mk hF
    have Hf := Hid.mk hf
    have hs := hB.size
    have sw := HsW.out
    clear hB hF hf
    by_cases hkn : k < n
    · have hk' : (k : Int) < (n : Int) := by omega
      have hk0 : (0 : Int) ≤ (k : Int) := by omega
      obtain ⟨b5, rfl, hc5, R⟩ := HR5.out (by omega)
      have BWr : Below w.heap.size w wr := HBW.out.trans (HB.out.mono (by omega))
      have R' := R.below BWr
      have C' := (HCZ.out k hkn).below BWr
      obtain ⟨xb, xc, ex, _⟩ := C'.1
      obtain ⟨yb, yc, ey, _⟩ := C'.2.1
      have f0 := R'.f0 k hkn
      have f1' := R'.f1 k hkn
      have f2' := R'.f2 k hkn
      have f3' := R'.f3 k hkn
      have f4' := R'.f4 k hkn
      rw [ex] at f1'
      rw [ey] at f2'
      have zlt := HFF.out.1
      have BV := (Below.refl wr.heap.size wr).alloc (Nat.le_refl _) (.cells #[.int .i64 (z k).rk, .slice (some ⟨xb, 0, none⟩) d xc, .slice (some ⟨yb, 0, none⟩) d yc, .bool false, .int .i64 0] 45)
      obtain ⟨X, hX⟩ : ∃ X, X = wr.alloc (.cells #[.int .i64 (z k).rk, .slice (some ⟨xb, 0, none⟩) d xc, .slice (some ⟨yb, 0, none⟩) d yc, .bool false, .int .i64 0] 45) := ⟨_, rfl⟩
      have t1 : X.cell? ⟨wr.heap.size, 1, none⟩ = some (.slice (some ⟨xb, 0, none⟩) d xc) := by rw [hX]; go_simp
      have t2 : X.cell? ⟨wr.heap.size, 2, none⟩ = some (.slice (some ⟨yb, 0, none⟩) d yc) := by rw [hX]; go_simp
      rw [← hX] at BV
      have d0 := (HFF.out.below BV).2.1 (k * 2) (by omega)
      have d1 := (HFF.out.below BV).2.1 (k * 2 + 1) (by omega)
      have dz := (HFF.out.below BV).2.2
      have HE := Hid.mk (((HFF.out.below BV).put (k := k * 2) (by omega) (.slice (some ⟨xb, 0, none⟩) d xc)).put (k := k * 2 + 1) (by omega) (.slice (some ⟨yb, 0, none⟩) d yc))
      have HBV := Hid.mk (((HB.out.trans (BV.mono (by omega))).setCell (p := ⟨w.heap.size + 1, k * 2, none⟩) (by simp) (.slice (some ⟨xb, 0, none⟩) d xc)).setCell (p := ⟨w.heap.size + 1, k * 2 + 1, none⟩) (by simp) (.slice (some ⟨yb, 0, none⟩) d yc))
      have PZ : Hid (∀ i, i < k + 1 → upv (upv f (k * 2) (.slice (some ⟨xb, 0, none⟩) d xc)) (k * 2 + 1) (.slice (some ⟨yb, 0, none⟩) d yc) (i * 2) = lz i ∧ upv (upv f (k * 2) (.slice (some ⟨xb, 0, none⟩) d xc)) (k * 2 + 1) (.slice (some ⟨yb, 0, none⟩) d yc) (i * 2 + 1) = uz i) := ⟨fun i hi => by
        unfold upv
        by_cases e : i = k
        · subst e
          rw [if_neg (by omega), if_pos rfl, if_pos rfl, ex, ey]; exact ⟨rfl, rfl⟩
        · have := Hf.out i (by omega)
          rw [if_neg (by omega), if_neg (by omega), if_neg (by omega), if_neg (by omega)]; exact this⟩
      clear R' C' R BWr BV ex ey sw
      go_upto_region 5 with fail
      rw [← hX]
      clear hX f0 f1' f2' f3' f4'
      go_wp2_with fail
      go_roundw
      case rel => exact ⟨k + 1, by omega, by go_num, HBV.out, _, HE.out, PZ.out⟩
      case measure => simp only [intOf]; omega
    · obtain rfl : k = n := by omega
      have hk' : ¬ (k : Int) < (k : Int) := by omega
      have BWr : Below w.heap.size w wr := HBW.out.trans (HB.out.mono (by omega))
      have r0 := (HB.out.cell (p := ⟨w.heap.size, 0, none⟩) (by simp)).trans a0
      have r1 := (HB.out.cell (p := ⟨w.heap.size, 1, none⟩) (by simp)).trans a1
      have BSr : BS h wr d (w.heap.size + 1) k (fun i => (z i).lo) (fun i => (z i).hi) := by
        refine ⟨lz, uz, ⟨HFF.out.1, fun i hi => ?_, fun i hi => ?_⟩, fun i hi => (HCZ.out i hi).below BWr⟩
        · rw [HFF.out.2.1 (i * 2) (by omega), (Hf.out i hi).1]
        · rw [HFF.out.2.1 (i * 2 + 1) (by omega), (Hf.out i hi).2]
      have CA := HHW.out wr (w.heap.size + 1) k (HG.out.below BWr) BSr
      have HBWr := Hid.mk BWr
      have HCA := Hid.mk CA
      clear BWr BSr CA sw
      go_wp2_with fail
      refine HCA.out.mono ?_
      rintro e w2 ⟨v9, at_, rfl, own9, hP, B2⟩
      have HB2 := Hid.mk (HBWr.out.trans (B2.mono HBWr.out.size))
      have HP1 := Hid.mk hP
      obtain ⟨hal, hup1, hup2⟩ := HHP.out at_ hP
      have Hup1 := Hid.mk hup1
      have Hup2 := Hid.mk hup2
      have s2 := B2.size
      have zl2 := HFF.out.1
      have p0 := (B2.cell (p := ⟨w.heap.size, 0, none⟩) (by simp; omega)).trans r0
      have p1 := (B2.cell (p := ⟨w.heap.size, 1, none⟩) (by simp; omega)).trans r1
      have p2 : w2.cell? ⟨b1, 0, none⟩ = some (.float .f64 (h a)) := ((B2.cell (p := ⟨b1, 0, none⟩) (by simp; omega)).trans (HB.out.cell (p := ⟨b1, 0, none⟩) (by simp; omega))).trans He1.out
      have p3 : w2.cell? ⟨b2, 0, none⟩ = some (.float .f64 (h b)) := ((B2.cell (p := ⟨b2, 0, none⟩) (by simp; omega)).trans (HB.out.cell (p := ⟨b2, 0, none⟩) (by simp; omega))).trans He2.out
      have HA9 : Hid (∃ (g9 : Option Addr) (c9 : Nat), v9 = .slice g9 at_.length c9 ∧ (0 < at_.length → ∃ g, g9 = some ⟨g, 0, none⟩ ∧ at_.length ≤ c9 ∧ g < w2.heap.size ∧ ∀ i, i < at_.length → w2.cell? ⟨g, i, none⟩ = some (.float .f64 (h (at_.getD i 0))))) := ⟨by
        rcases own_cell (f1 h) 1 (f1_len h) own9 with ⟨rfl, rfl⟩ | ⟨g, c, rfl, h1, _, h3, h4, _⟩
        · exact ⟨none, 0, rfl, fun x => by simp at x⟩
        · exact ⟨_, c, rfl, fun _ => ⟨g, rfl, h1, h3, fun i hi => by
            have := h4 i (at_.getD i 0) 0 (.float .f64 (h (at_.getD i 0))) (by simp [List.getD_eq_getElem?_getD, hi]) rfl
            simpa using this⟩⟩⟩
      obtain ⟨g9, c9, rfl, hg9⟩ := HA9.out
      have Hg9 := Hid.mk hg9
      clear HCA B2 own9 hP hup1 hup2 r0 r1 HA9 hg9 HFF Hf HB
      dsimp only
      go_wp2_with fail
      go_loopw [5, 36] (fun v5 vk wr => ∃ j : Nat, j ≤ at_.length ∧ vk = .int .i64 (j : Int) ∧ wr.ownsRow w2.heap.size 74 3 v5 (at_.take j).length ((at_.take j).flatMap (f3 h)) ∧ Below w2.heap.size w2 wr) (fun _ vk _ => at_.length - (intOf vk).toNat)
      case atStart => exact ⟨0, Nat.zero_le _, rfl, World.ownsRow_nil _ _ _ _, Below.refl _ _⟩
      case round =>
        obtain ⟨j, hj, rfl, hO, hB⟩ := hrel
        have HB := Hid.mk hB
        have HO := Hid.mk hO
        have hs := hB.size
        clear hB hO
        obtain ⟨i, hi, hz0, hz1, hz2⟩ := info_parts info74
        by_cases hjn : j < at_.length
        · have hj' : (j : Int) < (at_.length : Int) := by omega
          have hj0 : (0 : Int) ≤ (j : Int) := by omega
          obtain ⟨g, rfl, hgc, hgl, hgcell⟩ := Hg9.out (by omega)
          have cc := (HB.out.cell (p := ⟨g, j, none⟩) hgl).trans (hgcell j hjn)
          have htk : Hid (at_.take (j + 1) = at_.take j ++ [at_.getD j 0]) := ⟨by rw [List.take_succ_eq_append_getElem hjn, gd _ _ hjn]⟩
          have htl : (at_.take j).length ≤ 1200 := by simp; omega
          clear hgcell
          generalize at_.take j = T at *
          generalize at_.getD j 0 = q at *
          go_wp2_with (at_builtin; refine wpList_append_own _ rfl _ _ 68 rfl w2.heap.size 74 i (.agg #[.float .f64 0, .int .i64 0, .bool false]) 3 24 Yba.underlying68 hi hz0 hz1 hz2 rfl (by decide) _ T.length (T.flatMap (f3 h)) rfl (HO.out.alloc _) ⟨wr.heap.size, 0, none⟩ 1 1 (f3 h q) rfl rfl (news3 _ _ _ _) (f3_one _ _) (by simp only [maxLen]; omega) (by omega) (by simp; omega) ?_)
          intro v' w4 hown' hgrow _
          have HO4 := Hid.mk (own_app (f3 h) hown')
          have HF4 := Hid.mk ((HB.out.alloc HB.out.size (Obj.cells #[Value.float FloatKind.f64 (h q), Value.int IntKind.i64 0, Value.bool false] 74)).grown hgrow (by simp; omega) (fun g hg => (HO.out.lt g hg).1))
          clear hown' hgrow
          go_wp2_with fail
          go_roundw
          case rel => exact ⟨j + 1, by omega, by go_num, by rw [htk.out]; exact HO4.out, HF4.out⟩
          case measure => simp only [intOf]; omega
        · obtain rfl : j = at_.length := by omega
          have hj' : ¬ (at_.length : Int) < (at_.length : Int) := by omega
          rw [List.take_length] at HO
          have p0' := (HB.out.cell (p := ⟨w.heap.size, 0, none⟩) (by simp; omega)).trans p0
          have p1' := (HB.out.cell (p := ⟨w.heap.size, 1, none⟩) (by simp; omega)).trans p1
          have p2' := (HB.out.cell (p := ⟨b1, 0, none⟩) (by simp; omega)).trans p2
          have p3' := (HB.out.cell (p := ⟨b2, 0, none⟩) (by simp; omega)).trans p3
          clear p0 p1 p2 p3
          go_wp2_with (at_builtin; refine wpList_append_own _ rfl _ _ 68 rfl w2.heap.size 74 i (.agg #[.float .f64 0, .int .i64 0, .bool false]) 3 24 Yba.underlying68 hi hz0 hz1 hz2 rfl (by decide) _ at_.length (at_.flatMap (f3 h)) rfl (HO.out.alloc _) ⟨wr.heap.size, 0, none⟩ 1 1 (f3 h b) rfl rfl (news3 _ _ _ _) (f3_one _ _) (by simp only [maxLen]; omega) (by omega) (by simp; omega) ?_)
          intro v' w4 hown' hgrow _
          have O4 := own_app (f3 h) hown'
          have F4 := (HB.out.alloc HB.out.size (Obj.cells #[Value.float FloatKind.f64 (h b), Value.int IntKind.i64 0, Value.bool false] 74)).grown hgrow (by simp; omega) (fun g hg => (HO.out.lt g hg).1)
          have q0 := (F4.cell (p := ⟨w.heap.size, 0, none⟩) (by simp; omega)).trans ((HB.out.cell (p := ⟨w.heap.size, 0, none⟩) (by simp; omega)).symm.trans p0')
          have q2 := (F4.cell (p := ⟨b1, 0, none⟩) (by simp; omega)).trans ((HB.out.cell (p := ⟨b1, 0, none⟩) (by simp; omega)).symm.trans p2')
          obtain ⟨gc, cc, rfl, hgb, RTc⟩ := own_rt O4 (by simp)
          have BF : Below w.heap.size w w4 := HB2.out.trans (F4.mono (by omega))
          have l4 : (at_ ++ [b]).length = at_.length + 1 := by simp
          rw [l4] at RTc
          have JO := join_any h K w4 d gc cc k (at_.length + 1) (.slice zz k zc) z (fun i => (at_ ++ [b]).getD i 0) a (ju (met k z) a (at_ ++ [b]) []) hd (by omega) (by omega) (HZ0.out.below BF) RTc (fun i hi => by have := Hup1.out i (by omega); unfold RG at *; omega) G3 (fun hp => by have := Hup1.out 0 (by omega); omega) (fun i hi => Hup2.out i (by omega)) (by rw [← l4, rng_getD])
          have HJO := Hid.mk JO
          have HBF := Hid.mk BF
          clear hown' hgrow O4 RTc F4 BF JO p0' p1' p2' p3'
          go_wp2_with fail
          refine HJO.out.mono ?_
          rintro e w5 ⟨v, rfl, own5, B5⟩
          have HO5 := Hid.mk (own5.mono HBF.out.size)
          have HB5 := Hid.mk (HBF.out.trans (B5.mono HBF.out.size))
          clear HJO own5 B5
          dsimp only
          go_wp2_with fail
          go_ret2
          exact ⟨_, at_, rfl, HP1.out, HO5.out, HB5.out⟩

theorem slabs_few (h : Int → Nat) (K : FK h) (w : World) (d n : Nat) (l u ws : Value) (a b : Int) (z : Nat → Zn) (hd : 0 < d) (hd2 : d ≤ 2) (hn : n < 2) (G : CO h w d l u a b) (Z : ZW h w d ws n z) (hab : a < b) :
    Calls Yba.prog 20 #[.agg #[l, u], ws] w fun e w' => ∃ (v : Value) (R : List Int), e = .returned (.tuple #[.int .i64 0, v]) ∧ R.length < 2 ∧ w'.ownsRow w.heap.size 74 3 v R.length (R.flatMap (f3 h)) ∧ Below w.heap.size w w' := by
  refine (slabs_any h K w d n l u ws a b z (fun at_ => at_ = []) hd hd2 (by omega) G Z (fun w1 zb zc _ _ => (walls_few w1 l u _ n zc hn).mono ?_) ?_).mono ?_
  · rintro e w' ⟨rfl, B⟩
    exact ⟨_, [], rfl, World.ownsRow_nil _ _ _ _, rfl, B⟩
  · rintro at_ rfl
    refine ⟨by simp, fun i hi => ?_, fun i hi => ?_⟩
    · obtain rfl : i = 0 := by simp at hi; exact hi
      exact ⟨hab, Int.le_refl _⟩
    · simp at hi
  · rintro e w' ⟨v, at_, rfl, rfl, O, B⟩
    refine ⟨v, _, rfl, ?_, O, B⟩
    simp only [List.nil_append, ju]
    split
    · simp
    · simp
end Go.Proofs.Ybulkdaxu
