import Derived.Test.YbulkdaxuSlabT0
import Derived.Test.YbulkdaxuSlabS
namespace Go.Proofs.Ybulkdaxu
open Go.RowKit
set_option linter.unusedSimpArgs false
set_option linter.unusedVariables false

theorem NF.below {w w' : World} {v : Value} {base e k n : Nat} {xs : List Value} (N : NF w v) (O : w.ownsRow base e k v n xs) (B : Below w.heap.size w w') : NF w' v := by
  intro g hg q x
  rw [B.cell (p := ⟨g, 0, none⟩) (O.lt g hg).2]
  exact N g hg q x
theorem RT.congr {h : Int → Nat} {w : World} {b n : Nat} {t t' : Nat → Int} (H : RT h w b n t) (e : ∀ i, i < n → t i = t' i) : RT h w b n t' :=
  ⟨H.lt, fun i hi => by rw [← e i hi]; exact H.f0 i hi, H.f1, H.f2⟩
theorem nomeet_any (h : Int → Nat) (K : FK h) (w : World) (d n g : Nat) (ws l u : Value) (z : Nat → Zn) (a b : Int) (hd : 0 < d) (hd2 : d ≤ 2) (hn : n ≤ 600) (Z : ZW h w d ws n z) (G : CO h w d l u a b) (hg : g < w.heap.size) (g0 : w.cell? ⟨g, 0, none⟩ = some l) (g1 : w.cell? ⟨g, 1, none⟩ = some u) :
    Calls Yba.prog 17 #[ws, .func (.func 18) #[] #[.pointer (some ⟨g, 0, none⟩)]] w fun e w' => e = .returned (.bool (anyB n (fun i => !mt (z i).lo (z i).hi a b))) ∧ Below w.heap.size w w' := by
  rcases Z with ⟨rfl, x, c, rfl⟩ | ⟨zb, c, lz, uz, rfl, hc, hn0, R, C⟩
  · exact cont5_nil w x c 18 _
  · refine cont5_any w zb c n 18 _ (fun i => (z i).rk) lz uz (fun i => !mt (z i).lo (z i).hi a b) hn ec18 R ?_
    intro i w' hi hb
    exact clo18 h K w' d g (lz i) (uz i) l u (z i).rk (z i).lo (z i).hi a b hd hd2 ((C i hi).below hb) (G.below hb) (Nat.lt_of_lt_of_le hg hb.size) ((hb.cell (p := ⟨g, 0, none⟩) hg).trans g0) ((hb.cell (p := ⟨g, 1, none⟩) hg).trans g1)
theorem anyB_false {n : Nat} {p : Nat → Bool} (h : anyB n p = false) : ∀ i, i < n → p i = false := by
  intro i hi
  unfold anyB at h
  rw [List.any_eq_false] at h
  have := h i (List.mem_range.2 hi)
  simpa using this

def EV (v : Int) : Prop := ∃ k, v = 2 * k
structure HPre (h : Int → Nat) (d hb : Nat) (w : World) (n base : Nat) (l u ws pv : Value) (a b : Int) (z : Nat → Zn) (ps : List PT) (s : Nat → Nat) (L U : Nat → Int) : Prop where
  hn : n ≤ 512
  H : HD h w d hb
  G : CO h w d l u a b
  ab : a < b
  ea : EV a
  eb : EV b
  ra : R2 a
  rb : R2 b
  Z : ZW h w d ws n z
  hz : ∀ i, i < n → R2 (z i).lo ∧ R2 (z i).hi ∧ EV (z i).lo
  O : w.ownsRow base 48 3 pv ps.length (ps.flatMap fP)
  hps : ps.length ≤ 2000
  hps2 : 2 ≤ (flt n z a b).length → ps.length ≤ 1000
  N : NF w pv
  n1 : some hb ≠ pv.ownBlock
  n2 : ws.ownBlock = none ∨ ws.ownBlock ≠ pv.ownBlock
  hbase : base ≤ w.heap.size
  A : AZ (flt n z a b).length s (fun i => (z ((flt n z a b).getD i 0)).lo) (fun i => (z ((flt n z a b).getD i 0)).hi) L U
def rkj (n : Nat) (z : Nat → Zn) (a b : Int) (s : Nat → Nat) (j : Nat) : Int := if (flt n z a b).length = 0 then 0 else (z ((flt n z a b).getD (s j) 0)).rk
def HPost (h : Int → Nat) (d : Nat) (w : World) (n base : Nat) (pv : Value) (a b : Int) (z : Nat → Zn) (ps : List PT) (s : Nat → Nat) (L : Nat → Int) (e : Ending) (w' : World) : Prop :=
  ∃ v' Q, e = .returned v' ∧ w'.ownsRow base 48 3 v' (ps ++ Q).length ((ps ++ Q).flatMap fP) ∧ Q.length = max (flt n z a b).length 1 ∧
    (∀ j, j < Q.length → ∃ l' u', Q[j]? = some (rkj n z a b s j, l', u') ∧ CO h w' d l' u' (Ej (flt n z a b).length a b L j) (Ej (flt n z a b).length a b L (j + 1))) ∧
    w.grownBy w' pv.ownBlock ∧ (v'.ownBlock = pv.ownBlock ∨ ∃ g, v'.ownBlock = some g ∧ w.heap.size ≤ g)
theorem HPre.hm {h : Int → Nat} {d hb : Nat} {w : World} {n base : Nat} {l u ws pv : Value} {a b : Int} {z : Nat → Zn} {ps : List PT} {s : Nat → Nat} {L U : Nat → Int} (X : HPre h d hb w n base l u ws pv a b z ps s L U) : ∀ j, j < (flt n z a b).length → max (L j) a < min (U j) b := by
  intro j hj
  have h1 := X.A.s1 j hj
  have e1 := X.A.lo _ h1
  have e2 := X.A.hi _ h1
  rw [X.A.s2 j hj] at e1 e2
  rw [← e1, ← e2]
  have := (flt_at h1).2
  unfold mt at this
  exact of_decide_eq_true this

theorem near_b (h : Int → Nat) (K : FK h) (w : World) (d hb n : Nat) (l u ws : Value) (a b : Int) (z : Nat → Zn) (hd : 0 < d) (hd2 : d ≤ 2) (hn : n ≤ 1) (H : HD h w d hb) (G : CO h w d l u a b) (hab : a < b) (ea : EV a) (eb : EV b) (g1 : R2 a) (g2 : R2 b)
    (Z : ZW h w d ws n z) (hz : ∀ i, i < n → R2 (z i).lo ∧ R2 (z i).hi ∧ mt (z i).lo (z i).hi a b = true) :
    Calls Yba.prog 21 #[.pointer (some ⟨hb, 0, none⟩), .agg #[l, u], ws] w fun e w' => e = .returned (.tuple #[.int .i64 (if n = 0 then 0 else (z 0).rk), .bool (decide (0 < n))]) ∧ Below w.heap.size w w' := by
  obtain ⟨x, rfl⟩ := ea
  obtain ⟨y, rfl⟩ := eb
  have e : 2 * y = 2 * x + 2 * (y - x) := by omega
  rw [e] at G g2 hz
  exact near_any h K w d hb n l u ws (2 * x) (y - x) z hd hd2 hn H G (by omega) g1 g2 Z hz
theorem own_new_ne {w wr : World} {B base e k e' k' n n' : Nat} {v pv : Value} {xs ys : List Value} (H : wr.ownsRow B e k v n xs) (O : w.ownsRow base e' k' pv n' ys) (hB : w.heap.size ≤ B) : v.ownBlock = none ∨ v.ownBlock ≠ pv.ownBlock := by
  cases hv : v.ownBlock with
  | none => exact .inl rfl
  | some g =>
    refine .inr fun he => ?_
    have h1 := (H.lt g hv).1
    have h2 := (O.lt g he.symm).2
    omega
theorem own_old_ne {w : World} {base e' k' n' g : Nat} {pv : Value} {ys : List Value} (O : w.ownsRow base e' k' pv n' ys) (hB : w.heap.size ≤ g) : some g ≠ pv.ownBlock := by
  intro he
  have h2 := (O.lt g he.symm).2
  omega

set_option maxRecDepth 100000 in
set_option maxHeartbeats 16000000 in
theorem hand_go (h : Int → Nat) (K : FK h) (d hb : Nat) (w : World) (n base : Nat) (l u ws pv : Value) (a b : Int) (z : Nat → Zn) (ps : List PT) (s : Nat → Nat) (L U : Nat → Int) (hd : 0 < d) (hd2 : d ≤ 2) (X : HPre h d hb w n base l u ws pv a b z ps s L U)
    (REC : 2 ≤ (flt n z a b).length → ∀ w' n' base' l' u' ws' pv' a' b' z' ps' s' L' U', HPre h d hb w' n' base' l' u' ws' pv' a' b' z' ps' s' L' U' → (flt n' z' a' b').length ≤ 1 → Calls Yba.prog 12 #[.pointer (some ⟨hb, 0, none⟩), pv', .agg #[l', u'], ws'] w' (HPost h d w' n' base' pv' a' b' z' ps' s' L')) :
    Calls Yba.prog 12 #[.pointer (some ⟨hb, 0, none⟩), pv, .agg #[l, u], ws] w (HPost h d w n base pv a b z ps s L) := by
  have HX := Hid.mk X
  obtain ⟨zz, zc, lz, uz, rfl, hzr, hzc⟩ := X.Z.unify
  have hn5 := X.hn
  obtain ⟨G1, G2, _, _⟩ := X.G
  obtain ⟨b1, c1, rfl, x1, y1, q1⟩ := G1
  obtain ⟨b2, c2, rfl, x2, y2, q2⟩ := G2
  obtain ⟨W, hW⟩ : ∃ W, W = w.alloc (.cells #[.slice (some ⟨b1, 0, none⟩) d c1, .slice (some ⟨b2, 0, none⟩) d c2] 27) := ⟨_, rfl⟩
  have BW : Below w.heap.size w W := by rw [hW]; exact (Below.refl _ _).alloc (Nat.le_refl _) _
  have sW : W.heap.size = w.heap.size + 1 := by rw [hW]; simp
  have a0 : W.cell? ⟨w.heap.size, 0, none⟩ = some (.slice (some ⟨b1, 0, none⟩) d c1) := by rw [hW]; go_simp
  have a1 : W.cell? ⟨w.heap.size, 1, none⟩ = some (.slice (some ⟨b2, 0, none⟩) d c2) := by rw [hW]; go_simp
  have Ha0 := Hid.mk a0
  have Ha1 := Hid.mk a1
  have NM := nomeet_any h K W d n w.heap.size _ _ _ z a b hd hd2 (by omega) (X.Z.below BW) (X.G.below BW) (by omega) a0 a1
  have HBW := Hid.mk BW
  have HsW := Hid.mk sW
  have HR5 := Hid.mk hzr
  have HCZ := Hid.mk hzc
  have HREC := Hid.mk REC
  have hd1 : (0 : Int) < (d : Int) := by omega
  clear q1 q2 BW sW X hzr hzc REC
  obtain ⟨B, hBe⟩ : ∃ B, B = anyB n (fun i => !mt (z i).lo (z i).hi a b) := ⟨_, rfl⟩
  rw [← hBe] at NM
  have HBe := Hid.mk hBe
  clear hBe
  go_enter Yba.func12, Yba.ntmps12
  go_wp2_with fail
  rw [← hW]
  clear hW
  refine NM.mono ?_
  rintro e w2 ⟨rfl, B2⟩
  have HB2 := Hid.mk B2
  have s2 := B2.size
  have sw := HsW.out
  have g0 := (B2.cell (p := ⟨w.heap.size, 0, none⟩) (by simp; omega)).trans a0
  have g1 := (B2.cell (p := ⟨w.heap.size, 1, none⟩) (by simp; omega)).trans a1
  clear NM B2 a0 a1
  dsimp only
  go_upto_if 22 with fail
  go_cut [9, 11] from 23 (fun v9 v11 wx => ZW h wx d v9 (flt n z a b).length (fun i => z ((flt n z a b).getD i 0)) ∧ (v9.ownBlock = none ∨ v9.ownBlock ≠ pv.ownBlock) ∧ Below W.heap.size W wx)
  case first =>
    cases B
    · have hall := anyB_false HBe.out.symm
      have ef : Hid (flt n z a b = List.range n) := ⟨flt_all (fun i hi => by have := hall i hi; simpa using this)⟩
      clear hall
      go_wp2_with fail
      go_meet
      refine ⟨?_, HX.out.n2, HB2.out⟩
      rw [ef.out, List.length_range]
      exact ((HX.out.Z.below HBW.out).below HB2.out).congr (fun i hi => by rw [rg_getD hi])
    · clear HBe
      go_wp2_with fail
      go_loopw [9, 25] (fun v9 vk wr => ∃ k : Nat, k ≤ n ∧ vk = .int .i64 (k : Int) ∧ wr.ownsRow w2.heap.size 45 5 v9 (flt k z a b).length ((flt k z a b).flatMap (f5c z lz uz)) ∧ Below w2.heap.size w2 wr) (fun _ vk _ => n - (intOf vk).toNat)
      case atStart => exact ⟨0, Nat.zero_le _, rfl, World.ownsRow_nil _ _ _ _, Below.refl _ _⟩
      case round =>
        obtain ⟨k, hk, rfl, hO, hB⟩ := hrel
        have HB := Hid.mk hB
        have HO := Hid.mk hO
        have hs := hB.size
        clear hB hO
        by_cases hkn : k < n
        · have hk' : (k : Int) < (n : Int) := by omega
          have hk0 : (0 : Int) ≤ (k : Int) := by omega
          obtain ⟨b5, rfl, hc5, R⟩ := HR5.out (by omega)
          have BWr : Below w.heap.size w wr := (HBW.out.trans (HB2.out.mono HBW.out.size)).trans (HB.out.mono (by omega))
          have R' := R.below BWr
          have C' := (HCZ.out k hkn).below BWr
          obtain ⟨xb, xc, ex, _⟩ := C'.1
          obtain ⟨yb, yc, ey, _⟩ := C'.2.1
          have f0 := R'.f0 k hkn
          have f1' := R'.f1 k hkn
          have f2' := R'.f2 k hkn
          have f3' := R'.f3 k hkn
          have f4' := R'.f4 k hkn
          rw [ex] at f1' C'
          rw [ey] at f2' C'
          have BV := (Below.refl wr.heap.size wr).alloc (Nat.le_refl _) (.cells #[.int .i64 (z k).rk, .slice (some ⟨xb, 0, none⟩) d xc, .slice (some ⟨yb, 0, none⟩) d yc, .bool false, .int .i64 0] 45)
          obtain ⟨X, hX⟩ : ∃ X, X = wr.alloc (.cells #[.int .i64 (z k).rk, .slice (some ⟨xb, 0, none⟩) d xc, .slice (some ⟨yb, 0, none⟩) d yc, .bool false, .int .i64 0] 45) := ⟨_, rfl⟩
          have y0 : X.cell? ⟨wr.heap.size, 0, none⟩ = some (.int .i64 (z k).rk) := by rw [hX]; go_simp
          have y1' : X.cell? ⟨wr.heap.size, 1, none⟩ = some (.slice (some ⟨xb, 0, none⟩) d xc) := by rw [hX]; go_simp
          have y2' : X.cell? ⟨wr.heap.size, 2, none⟩ = some (.slice (some ⟨yb, 0, none⟩) d yc) := by rw [hX]; go_simp
          have y3 : X.cell? ⟨wr.heap.size, 3, none⟩ = some (.bool false) := by rw [hX]; go_simp
          have y4 : X.cell? ⟨wr.heap.size, 4, none⟩ = some (.int .i64 0) := by rw [hX]; go_simp
          have sX : X.heap.size = wr.heap.size + 1 := by rw [hX]; simp
          rw [← hX] at BV
          have r0 := (BV.cell (p := ⟨w.heap.size, 0, none⟩) (by simp; omega)).trans ((HB.out.cell (p := ⟨w.heap.size, 0, none⟩) (by simp; omega)).trans g0)
          have r1 := (BV.cell (p := ⟨w.heap.size, 1, none⟩) (by simp; omega)).trans ((HB.out.cell (p := ⟨w.heap.size, 1, none⟩) (by simp; omega)).trans g1)
          have MT := meets_any h K X d _ _ _ _ _ _ a b hd hd2 (C'.below BV) (((HX.out.G.below BWr)).below BV)
          have Hex := Hid.mk ex
          have Hey := Hid.mk ey
          have HBV := Hid.mk BV
          have HMT := Hid.mk MT
          have HsX := Hid.mk sX
          clear R' C' R BWr BV ex ey MT sX
          go_upto_region 7 with fail
          rw [← hX]
          clear hX f0 f1' f2' f3' f4'
          go_wp2_with fail
          refine HMT.out.mono ?_
          rintro e w3 ⟨rfl, B3⟩
          have t0 := (B3.cell (p := ⟨wr.heap.size, 0, none⟩) (by have := HsX.out; simp; omega)).trans y0
          have t1 := (B3.cell (p := ⟨wr.heap.size, 1, none⟩) (by have := HsX.out; simp; omega)).trans y1'
          have t2 := (B3.cell (p := ⟨wr.heap.size, 2, none⟩) (by have := HsX.out; simp; omega)).trans y2'
          have t3 := (B3.cell (p := ⟨wr.heap.size, 3, none⟩) (by have := HsX.out; simp; omega)).trans y3
          have t4 := (B3.cell (p := ⟨wr.heap.size, 4, none⟩) (by have := HsX.out; simp; omega)).trans y4
          clear y0 y1' y2' y3 y4
          have HB3 := Hid.mk (HBV.out.trans (B3.mono HBV.out.size))
          have HF := Hid.mk (HB.out.trans (HB3.out.mono hs))
          have HO3 := Hid.mk (own_below HO.out HB3.out)
          have hs3 := HF.out.size
          clear r0 r1 HMT B3
          dsimp only
          obtain ⟨BM, hBM⟩ : ∃ BM, BM = mt (z k).lo (z k).hi a b := ⟨_, rfl⟩
          rw [← hBM]
          have HBM := Hid.mk hBM
          clear hBM
          cases BM
          · obtain ⟨ja, jc, rfl⟩ := own_len HO3.out
            go_wp2_with fail
            go_roundw
            case rel => exact ⟨k + 1, by omega, by go_num, by rw [flt_no HBM.out.symm]; exact HO3.out, HF.out⟩
            case measure => simp only [intOf]; omega
          · obtain ⟨i, hi, hz0, hz1, hz2⟩ := info_parts info45
            have hfl := flt_len k z a b
            go_wp2_with (at_builtin; refine wpList_append_own _ rfl _ _ 43 rfl w2.heap.size 45 i (.agg #[.int .i64 0, .slice none 0 0, .slice none 0 0, .bool false, .int .i64 0]) 5 72 Yba.underlying43 hi hz0 hz1 hz2 rfl (by decide) _ (flt k z a b).length ((flt k z a b).flatMap (f5c z lz uz)) rfl (HO3.out.alloc _) ⟨w3.heap.size, 0, none⟩ 1 1 (f5c z lz uz k) rfl rfl (news5 Hex.out Hey.out _ _) (f5c_one Hex.out Hey.out) (by simp [maxLen]; omega) (by omega) (by simp; omega) ?_)
            intro v' w4 hown' hgrow _
            have HO4 := Hid.mk (own_app (f5c z lz uz) hown')
            have HF4 := Hid.mk (((HF.out.alloc HF.out.size (Obj.cells #[.int .i64 (z k).rk, .slice (some ⟨xb, 0, none⟩) d xc, .slice (some ⟨yb, 0, none⟩) d yc, .bool false, .int .i64 0] 45)).grown hgrow (by simp; omega) (fun g hg => (HO3.out.lt g hg).1)))
            clear hown' hgrow
            go_wp2_with fail
            go_roundw
            case rel => exact ⟨k + 1, by omega, by go_num, by rw [flt_yes HBM.out.symm]; exact HO4.out, HF4.out⟩
            case measure => simp only [intOf]; omega
        · obtain rfl : k = n := by omega
          have hk' : ¬ ((k : Int) < (k : Int)) := by omega
          have BWr : Hid (Below w.heap.size w wr) := ⟨(HBW.out.trans (HB2.out.mono HBW.out.size)).trans (HB.out.mono (by omega))⟩
          have HBF := Hid.mk (HB2.out.trans (HB.out.mono HB2.out.size))
          go_wp2_with fail
          go_meet
          exact ⟨own_zw HO.out (fun i hi => (HCZ.out i (flt_mem hi).1).below BWr.out), own_new_ne HO.out HX.out.O (by omega), HBF.out⟩
  case rest =>
    obtain ⟨Zm, ne9, BX⟩ := hcut
    obtain ⟨m, hm⟩ : ∃ m, m = (flt n z a b).length := ⟨_, rfl⟩
    have Hm := Hid.mk hm
    rw [← hm] at Zm
    have hmn : m ≤ n := by rw [hm]; exact flt_len n z a b
    clear hm
    have BWx : Below w.heap.size w wc := HBW.out.trans (BX.mono HBW.out.size)
    have sx := BX.size
    have k0 := (BX.cell (p := ⟨w.heap.size, 0, none⟩) (by simp; omega)).trans Ha0.out
    have k1 := (BX.cell (p := ⟨w.heap.size, 1, none⟩) (by simp; omega)).trans Ha1.out
    have HBWx := Hid.mk BWx
    have HZm := Hid.mk Zm
    have Hne9 := Hid.mk ne9
    clear Zm ne9 BX BWx g0 g1
    by_cases hm2 : m < 2
    · have SL := slabs_few h K wc d m _ _ u9 a b _ hd hd2 hm2 (HX.out.G.below HBWx.out) HZm.out HX.out.ab
      have HSL := Hid.mk SL
      clear SL
      go_wp2_with fail
      refine HSL.out.mono ?_
      rintro e w4 ⟨v13, R, rfl, hR, own13, B4⟩
      obtain ⟨ja, jc, rfl⟩ := own_len own13
      have hR' : (R.length : Int) < 2 := by omega
      have B04 : Below w.heap.size w w4 := HBWx.out.trans (B4.mono HBWx.out.size)
      have s4 := B4.size
      have k0' := (B4.cell (p := ⟨w.heap.size, 0, none⟩) (by simp; omega)).trans k0
      have k1' := (B4.cell (p := ⟨w.heap.size, 1, none⟩) (by simp; omega)).trans k1
      have NR := near_b h K w4 d hb m _ _ u9 a b _ hd hd2 (by omega) (HX.out.H.below B04) (HX.out.G.below B04) HX.out.ab HX.out.ea HX.out.eb HX.out.ra HX.out.rb (HZm.out.below B4) (fun i hi => by
        have h1 := flt_at (n := n) (z := z) (a := a) (b := b) (i := i) (by rw [← Hm.out]; exact hi)
        have h2 := HX.out.hz _ h1.1
        exact ⟨h2.1, h2.2.1, h1.2⟩)
      obtain ⟨r, hr⟩ : ∃ r : Int, r = if m = 0 then 0 else (z ((flt n z a b).getD 0 0)).rk := ⟨_, rfl⟩
      rw [← hr] at NR
      have Hr := Hid.mk hr
      have HNR := Hid.mk NR
      have HB04 := Hid.mk B04
      clear HSL own13 B4 k0 k1 NR hr B04 hR
      dsimp only
      go_wp2_with fail
      refine HNR.out.mono ?_
      rintro e w5 ⟨rfl, B5⟩
      have B05 : Below w.heap.size w w5 := HB04.out.trans (B5.mono HB04.out.size)
      have s5 := B5.size
      have k0'' := (B5.cell (p := ⟨w.heap.size, 0, none⟩) (by simp; omega)).trans k0'
      have k1'' := (B5.cell (p := ⟨w.heap.size, 1, none⟩) (by simp; omega)).trans k1'
      have HB05 := Hid.mk B05
      have HO5 := Hid.mk (own_below HX.out.O B05)
      have hps := HX.out.hps
      have hbase := HX.out.hbase
      obtain ⟨i, hi, hz0, hz1, hz2⟩ := info_parts info48
      clear HNR B5 B05 k0' k1'
      dsimp only
      go_wp2_with (at_builtin; refine wpList_append_own_at _ rfl _ _ 46 rfl base 48 i (.agg #[.int .i64 0, .slice none 0 0, .slice none 0 0]) 3 56 Yba.underlying46 hi hz0 hz1 hz2 rfl (by decide) _ ps.length (ps.flatMap fP) rfl (HO5.out.alloc _) ⟨w5.heap.size, 0, none⟩ 1 1 (fP (r, .slice (some ⟨b1, 0, none⟩) d c1, .slice (some ⟨b2, 0, none⟩) d c2)) rfl rfl (newsP _ _ _ _ _) (fP_one _ _ _ _ _ _ _) (by simp only [maxLen]; omega) (by omega) (by simp; omega) ?_)
      intro v' w6 hown' hgrow _ hat
      have BA := HB05.out.alloc HB05.out.size (.cells #[.int .i64 r, .slice (some ⟨b1, 0, none⟩) d c1, .slice (some ⟨b2, 0, none⟩) d c2] 48)
      have HGB := Hid.mk (gb_trans (gb_below pv.ownBlock BA) hgrow (.inl rfl))
      have HCF := Hid.mk ((HX.out.G.below BA).kept hd (HX.out.N.below HX.out.O BA) hgrow)
      have HOF := Hid.mk (own_app fP hown')
      have Hat : Hid (v'.ownBlock = pv.ownBlock ∨ ∃ g, v'.ownBlock = some g ∧ w.heap.size ≤ g) := ⟨by
        rcases hat with h | h
        · exact .inl h
        · exact .inr ⟨_, h, by first | omega | (simp; omega)⟩⟩
      clear hown' hgrow hat BA k0'' k1''
      go_wp2_with fail
      go_ret
      refine ⟨v', [(r, _, _)], rfl, HOF.out, ?_, ?_, HGB.out, Hat.out⟩
      · rw [← Hm.out]; show 1 = max m 1; omega
      · intro j hj
        obtain rfl : j = 0 := by simpa using hj
        refine ⟨.slice (some ⟨b1, 0, none⟩) d c1, .slice (some ⟨b2, 0, none⟩) d c2, ?_, ?_⟩
        rotate_left
        · rw [← Hm.out]
          have e0 : Ej m a b L 0 = a := by simp [Ej]
          have e1 : Ej m a b L (0 + 1) = b := by unfold Ej; rw [if_neg (by omega), if_neg (by omega)]
          rw [e0, e1]
          exact HCF.out
        · have er : r = rkj n z a b s 0 := by
            rw [Hr.out]
            unfold rkj
            rw [← Hm.out]
            by_cases h0 : m = 0
            · rw [if_pos h0, if_pos h0]
            · have := HX.out.A.s1 0 (by rw [← Hm.out]; omega)
              rw [← Hm.out] at this
              have e0 : s 0 = 0 := by omega
              rw [if_neg h0, if_neg h0, e0]
          rw [← er]
          rfl
    · have hpos : 0 < m := by omega
      have AA : AZ m s (fun i => (z ((flt n z a b).getD i 0)).lo) (fun i => (z ((flt n z a b).getD i 0)).hi) L U := by rw [Hm.out]; exact HX.out.A
      have MM : ∀ j, j < m → max (L j) a < min (U j) b := by rw [Hm.out]; exact HX.out.hm
      have SL := slabs_many h K wc d m _ _ u9 a b _ s L U hd hd2 (by omega) (by omega) (HX.out.G.below HBWx.out) HZm.out HX.out.ab AA MM
      have HAA := Hid.mk AA
      have HMM := Hid.mk MM
      have HSL := Hid.mk SL
      clear SL AA MM
      go_wp2_with fail
      refine HSL.out.mono ?_
      rintro e w4 ⟨v13, rfl, own13, B4⟩
      have eL : (ends m L b).length = m := ends_len m L b hpos
      obtain ⟨gc, gcc, hv, hgc, RTc⟩ := own_rt own13 (by intro x; rw [x] at eL; simp at eL; omega)
      rw [eL] at hv RTc
      subst hv
      have RTE : RT h w4 gc m (fun i => Ej m a b L (i + 1)) := RTc.congr (fun i hi => by
        rw [ends_ej (a := a) hpos, gd _ _ (by simpa using hi)]; simp)
      have B04 : Below w.heap.size w w4 := HBWx.out.trans (B4.mono HBWx.out.size)
      have s4 := B4.size
      have k0' := (B4.cell (p := ⟨w.heap.size, 0, none⟩) (by simp; omega)).trans k0
      have k1' := (B4.cell (p := ⟨w.heap.size, 1, none⟩) (by simp; omega)).trans k1
      have k2' : w4.cell? ⟨b1, 0, none⟩ = some (.float .f64 (h a)) := by
        have := (HX.out.G.below B04).1.open.2.2 0 hd
        exact this
      have hm2' : ¬ (m : Int) < 2 := by omega
      have HRT := Hid.mk RTE
      have HB04 := Hid.mk B04
      have HZ4 := Hid.mk (HZm.out.below B4)
      have HN4 := Hid.mk (HX.out.N.below HX.out.O B04)
      have HO4 := Hid.mk (own_below HX.out.O B04)
      have pvlt := HX.out.O.lt
      have Hpv := Hid.mk pvlt
      have hsw4 := B04.size
      have hgcw : w.heap.size ≤ gc := by omega
      have HQ0 := Hid.mk k0'
      have HQ1 := Hid.mk k1'
      clear HSL own13 B4 k0 k1 RTc RTE B04 eL pvlt
      dsimp only
      go_wp2_with fail
      go_loopw [1, 16, 67] (fun v1 v16 vk wr => ∃ (k : Nat) (Q : List PT), k ≤ m ∧ vk = .int .i64 (k : Int) ∧ v16 = .float .f64 (h (Ej m a b L k)) ∧ wr.ownsRow base 48 3 v1 (ps ++ Q).length ((ps ++ Q).flatMap fP) ∧ Q.length = k ∧ (∀ j, j < k → ∃ l' u', Q[j]? = some (rkj n z a b s j, l', u') ∧ CO h wr d l' u' (Ej m a b L j) (Ej m a b L (j + 1))) ∧ w4.grownBy wr pv.ownBlock ∧ (v1.ownBlock = pv.ownBlock ∨ ∃ g, v1.ownBlock = some g ∧ w4.heap.size ≤ g) ∧ NF wr v1) (fun _ _ vk _ => m - (intOf vk).toNat)
      case atStart => exact ⟨0, [], Nat.zero_le _, rfl, rfl, by rw [List.append_nil]; exact HO4.out, rfl, fun j hj => by omega, gb_below _ (Below.refl _ _), .inl rfl, HN4.out⟩
      case round =>
        obtain ⟨k, Q, hk, rfl, rfl, hO, hQ, hQs, hG, hat, hN⟩ := hrel
        have HO := Hid.mk hO
        have HQ := Hid.mk hQ
        have HQs := Hid.mk hQs
        have HGr := Hid.mk hG
        have Hat := Hid.mk hat
        have HNr := Hid.mk hN
        have hs := hG.size
        clear hO hQ hQs hG hat hN k0' k1' k2'
        have nb1 : some w.heap.size ≠ pv.ownBlock := own_old_ne HX.out.O (Nat.le_refl _)
        have c0 : wr.cell? ⟨w.heap.size, 0, none⟩ = some (.slice (some ⟨b1, 0, none⟩) d c1) := (World.cell?_of_block (a := ⟨w.heap.size, 0, none⟩) (HGr.out.block w.heap.size (by omega) nb1)).trans HQ0.out
        have c1' : wr.cell? ⟨w.heap.size, 1, none⟩ = some (.slice (some ⟨b2, 0, none⟩) d c2) := (World.cell?_of_block (a := ⟨w.heap.size, 1, none⟩) (HGr.out.block w.heap.size (by omega) nb1)).trans HQ1.out
        by_cases hkm : k < m
        · have hk' : (k : Int) < (m : Int) := by omega
          have hk0 : (0 : Int) ≤ (k : Int) := by omega
          have RTr := HRT.out.kept (own_old_ne HX.out.O hgcw) HGr.out
          have f0 := RTr.f0 k hkm
          have f1' := RTr.f1 k hkm
          have f2' := RTr.f2 k hkm
          have gr := (HX.out.G.below HB04.out).kept hd HN4.out HGr.out
          obtain ⟨ej1, ej2, ej3⟩ := ej_lt HAA.out HMM.out HX.out.ab hkm
          have RE1 : RG (Ej m a b L k) ∧ RG (Ej m a b L (k + 1)) := by
            have h1 := gr.2.2.1
            have h2 := gr.2.2.2
            unfold RG at *; omega
          have BV := (Below.refl wr.heap.size wr).alloc (Nat.le_refl _) (.cells #[.float .f64 (h (Ej m a b L (k + 1))), .int .i64 0, .bool false] 74)
          obtain ⟨X, hX⟩ : ∃ X, X = wr.alloc (.cells #[.float .f64 (h (Ej m a b L (k + 1))), .int .i64 0, .bool false] 74) := ⟨_, rfl⟩
          have y0 : X.cell? ⟨wr.heap.size, 0, none⟩ = some (.float .f64 (h (Ej m a b L (k + 1)))) := by rw [hX]; go_simp
          have sX : X.heap.size = wr.heap.size + 1 := by rw [hX]; simp
          rw [← hX] at BV
          have r0 := (BV.cell (p := ⟨w.heap.size, 0, none⟩) (by simp; omega)).trans c0
          have r1 := (BV.cell (p := ⟨w.heap.size, 1, none⟩) (by simp; omega)).trans c1'
          have AC := across_any h K X d _ _ a b (Ej m a b L k) (Ej m a b L (k + 1)) hd hd2 (gr.below BV) RE1.1 RE1.2 (by omega)
          have HAC := Hid.mk AC
          have HBV := Hid.mk BV
          have HsX := Hid.mk sX
          have Hej1 := Hid.mk ej1
          have Hej2 := Hid.mk ej2
          have Hej3 := Hid.mk ej3
          clear RTr gr BV AC sX ej1 ej2 ej3 RE1
          go_upto_region 18 with fail
          rw [← hX]
          clear hX f0 f1' f2'
          go_wp2_with fail
          refine HAC.out.mono ?_
          rintro e w5 ⟨l', u', rfl, C5, B5⟩
          have Br5 := HBV.out.trans (B5.mono HBV.out.size)
          have y0' := (B5.cell (p := ⟨wr.heap.size, 0, none⟩) (by have := HsX.out; simp; omega)).trans y0
          have hs5 := Br5.size
          have sX5 : wr.heap.size < w5.heap.size := by have := HsX.out; have := B5.size; omega
          have ulo : ∀ g, u1.ownBlock = some g → g < wr.heap.size := fun g hg => (HO.out.lt g hg).2
          have kept1 : ∀ g, g < w4.heap.size → some g ≠ pv.ownBlock → some g ≠ u1.ownBlock := fun g h1 h2 h3 => by
            rcases Hat.out with e | ⟨g', e, hg'⟩
            · exact h2 (h3.trans e)
            · rw [e] at h3; cases h3; omega
          have efl := flt_sub HAA.out HMM.out hkm
          have hsk := HAA.out.s1 k hkm
          have hE : ∀ j, j ≤ m → EV (Ej m a b L j) := fun j hj => by
            unfold Ej
            by_cases h0 : j = 0
            · rw [if_pos h0]; exact HX.out.ea
            · rw [if_neg h0]
              by_cases h1 : j < m
              · rw [if_pos h1]
                have q1 := HAA.out.s1 j h1
                have q2 := HAA.out.lo _ q1
                rw [HAA.out.s2 j h1] at q2
                rw [← q2]
                exact (HX.out.hz _ (flt_at (by rw [← Hm.out]; exact q1)).1).2.2
              · rw [if_neg h1]; exact HX.out.eb
          have P : HPre h d hb w5 m base l' u' u9 u1 (Ej m a b L k) (Ej m a b L (k + 1)) (fun i => z ((flt n z a b).getD i 0)) (ps ++ Q) (fun i => i) (fun _ => (z ((flt n z a b).getD (s k) 0)).lo) (fun _ => (z ((flt n z a b).getD (s k) 0)).hi) := by
            refine ⟨by omega, ((HX.out.H.below HB04.out).kept hd HN4.out HX.out.n1 HGr.out).below Br5, C5, Hej2.out, hE k (by omega), hE (k + 1) (by omega), ?_, ?_, (HZ4.out.kept hd HN4.out Hne9.out HGr.out).below Br5, ?_, own_below HO.out Br5, ?_, ?_, HNr.out.below HO.out Br5, ?_, ?_, ?_, ?_⟩
            · have := HX.out.ra; have := HX.out.rb; have := Hej1.out; have := Hej2.out; have := Hej3.out; unfold R2 at *; omega
            · have := HX.out.ra; have := HX.out.rb; have := Hej1.out; have := Hej2.out; have := Hej3.out; unfold R2 at *; omega
            · intro i hi
              exact HX.out.hz _ (flt_at (by rw [← Hm.out]; exact hi)).1
            · have := HX.out.hps2 (by rw [← Hm.out]; omega); rw [List.length_append, HQ.out]; omega
            · intro h2; rw [efl] at h2; simp at h2
            · exact kept1 hb (by have := (HX.out.H.below HB04.out).1; omega) HX.out.n1
            · rcases HZ4.out with ⟨hm0, x, y, e⟩ | ⟨zb, zc', _, _, e, _, _, R9, _⟩
              · omega
              · have e9 : u9.ownBlock = some zb := by rw [e]; rfl
                refine .inr ?_
                rw [e9]
                rcases Hne9.out with h | h
                · rw [e9] at h; cases h
                · exact kept1 zb R9.lt (by rw [← e9]; exact h)
            · have := HX.out.hbase; omega
            · rw [efl]
              refine ⟨fun i hi => hi, fun i hi => rfl, fun i hi => ?_, fun i hi => ?_, fun i hi => ?_, fun i j hij hj => ?_⟩
              · obtain rfl : i = 0 := by simpa using hi
                rfl
              · obtain rfl : i = 0 := by simpa using hi
                rfl
              · have := HAA.out.lt k hkm
                have q2 := HAA.out.lo _ hsk
                have q3 := HAA.out.hi _ hsk
                rw [HAA.out.s2 k hkm] at q2 q3
                show (z ((flt n z a b).getD (s k) 0)).lo < (z ((flt n z a b).getD (s k) 0)).hi
                rw [q2, q3]; exact this
              · simp at hj; omega
          have RC := HREC.out (by rw [← Hm.out]; omega) w5 m base l' u' u9 u1 _ _ _ _ _ _ _ P (by rw [efl]; exact Nat.le_refl _)
          have HRC := Hid.mk RC
          have HBr5 := Hid.mk Br5
          have Hefl := Hid.mk efl
          have Hulo := Hid.mk ulo
          have HN5 := Hid.mk (HNr.out.below HO.out Br5)
          clear HAC B5 C5 P RC Br5 efl ulo hE kept1 r0 r1 y0
          dsimp only
          go_wp2_with fail
          refine HRC.out.mono ?_
          rintro e w6 ⟨v', Q', rfl, own', hQ', hp', gb', hat'⟩
          have nwr : some wr.heap.size ≠ u1.ownBlock := fun x => by have := Hulo.out _ x.symm; omega
          have y6 : w6.cell? ⟨wr.heap.size, 0, none⟩ = some (.float .f64 (h (Ej m a b L (k + 1)))) := (World.cell?_of_block (a := ⟨wr.heap.size, 0, none⟩) (gb'.block wr.heap.size sX5 nwr)).trans y0'
          have hQ1 : Q'.length = 1 := by rw [hQ', Hefl.out]; rfl
          obtain ⟨la, ua, hqa, ca⟩ := hp' 0 (by omega)
          have e0 : Ej (flt m (fun i => z ((flt n z a b).getD i 0)) (Ej m a b L k) (Ej m a b L (k + 1))).length (Ej m a b L k) (Ej m a b L (k + 1)) (fun _ => (z ((flt n z a b).getD (s k) 0)).lo) 0 = Ej m a b L k := rfl
          have e1 : Ej (flt m (fun i => z ((flt n z a b).getD i 0)) (Ej m a b L k) (Ej m a b L (k + 1))).length (Ej m a b L k) (Ej m a b L (k + 1)) (fun _ => (z ((flt n z a b).getD (s k) 0)).lo) (0 + 1) = Ej m a b L (k + 1) := by rw [Hefl.out]; rfl
          rw [e0, e1] at ca
          have er : rkj m (fun i => z ((flt n z a b).getD i 0)) (Ej m a b L k) (Ej m a b L (k + 1)) (fun i => i) 0 = rkj n z a b s k := by
            unfold rkj
            rw [Hefl.out, ← Hm.out, if_neg (by simp), if_neg (by omega)]
            rfl
          rw [er] at hqa
          have HOF : Hid (w6.ownsRow base 48 3 v' (ps ++ (Q ++ Q')).length ((ps ++ (Q ++ Q')).flatMap fP)) := ⟨by rw [← List.append_assoc]; exact own'⟩
          have HQF : Hid ((Q ++ Q').length = k + 1) := ⟨by rw [List.length_append, HQ.out, hQ1]⟩
          have HPF : Hid (∀ j, j < k + 1 → ∃ l' u', (Q ++ Q')[j]? = some (rkj n z a b s j, l', u') ∧ CO h w6 d l' u' (Ej m a b L j) (Ej m a b L (j + 1))) := ⟨fun j hj => by
            by_cases hjk : j < k
            · obtain ⟨x, y, h1, h2⟩ := HQs.out j hjk
              refine ⟨x, y, ?_, (h2.below HBr5.out).kept hd HN5.out gb'⟩
              rw [List.getElem?_append_left (by rw [HQ.out]; exact hjk)]
              exact h1
            · obtain rfl : j = k := by omega
              refine ⟨la, ua, ?_, ca⟩
              rw [List.getElem?_append_right (by rw [HQ.out]; exact Nat.le_refl _), HQ.out, Nat.sub_self]
              exact hqa⟩
          have HGF := Hid.mk (gb_trans (gb_trans HGr.out (gb_below pv.ownBlock HBr5.out) (.inl rfl)) gb' Hat.out)
          have HAF : Hid (v'.ownBlock = pv.ownBlock ∨ ∃ g, v'.ownBlock = some g ∧ w4.heap.size ≤ g) := ⟨by
            rcases hat' with e | ⟨g, e, hg⟩
            · rw [e]; exact Hat.out
            · exact .inr ⟨g, e, by omega⟩⟩
          have HNF := Hid.mk (own_nf own' (by intro x; have := congrArg List.length x; rw [List.length_append, hQ1] at this; simp at this))
          clear HRC own' hQ' hp' gb' hat' ca hqa e0 e1 er y0' c0 c1'
          dsimp only
          go_wp2_with fail
          go_roundw
          case rel => exact ⟨k + 1, Q ++ Q', by omega, by go_num, rfl, HOF.out, HQF.out, HPF.out, HGF.out, HAF.out, HNF.out⟩
          case measure => simp only [intOf]; omega
        · obtain rfl : k = m := by omega
          have hk' : ¬ (k : Int) < (k : Int) := by omega
          have HGF := Hid.mk (gb_trans (gb_below pv.ownBlock HB04.out) HGr.out (.inl rfl))
          have HAF : Hid (u1.ownBlock = pv.ownBlock ∨ ∃ g, u1.ownBlock = some g ∧ w.heap.size ≤ g) := ⟨by
            rcases Hat.out with e | ⟨g, e, hg⟩
            · exact .inl e
            · exact .inr ⟨g, e, by omega⟩⟩
          go_wp2_with fail
          go_ret
          refine ⟨u1, Q, rfl, HO.out, ?_, ?_, HGF.out, HAF.out⟩
          · rw [HQ.out, ← Hm.out]; omega
          · intro j hj
            rw [HQ.out] at hj
            rw [← Hm.out]
            exact HQs.out j hj
/-- The call below the first: at most one zone meets. -/
theorem hand_leaf (h : Int → Nat) (K : FK h) (d hb : Nat) (hd : 0 < d) (hd2 : d ≤ 2) : ∀ w' n' base' l' u' ws' pv' a' b' z' ps' s' L' U', HPre h d hb w' n' base' l' u' ws' pv' a' b' z' ps' s' L' U' → (flt n' z' a' b').length ≤ 1 → Calls Yba.prog 12 #[.pointer (some ⟨hb, 0, none⟩), pv', .agg #[l', u'], ws'] w' (HPost h d w' n' base' pv' a' b' z' ps' s' L') :=
  fun w' n' base' l' u' ws' pv' a' b' z' ps' s' L' U' X hm => hand_go h K d hb w' n' base' l' u' ws' pv' a' b' z' ps' s' L' U' hd hd2 X (fun h2 => by omega)
theorem hand_any (h : Int → Nat) (K : FK h) (d hb : Nat) (w : World) (n base : Nat) (l u ws pv : Value) (a b : Int) (z : Nat → Zn) (ps : List PT) (s : Nat → Nat) (L U : Nat → Int) (hd : 0 < d) (hd2 : d ≤ 2) (X : HPre h d hb w n base l u ws pv a b z ps s L U) :
    Calls Yba.prog 12 #[.pointer (some ⟨hb, 0, none⟩), pv, .agg #[l, u], ws] w (HPost h d w n base pv a b z ps s L) :=
  hand_go h K d hb w n base l u ws pv a b z ps s L U hd hd2 X (fun _ => hand_leaf h K d hb hd hd2)
end Go.Proofs.Ybulkdaxu
