import Derived.Test.YbulkdaxuSlabN
import Derived.Deep.Onto
namespace Go.Proofs.Ybulkdaxu
open Go.RowKit
set_option linter.unusedSimpArgs false
set_option linter.unusedVariables false

/-- A stretch: to, rank, spanned. -/
def f3 (h : Int → Nat) (t : Int) : List Value := [.float .f64 (h t), .int .i64 0, .bool false]
theorem f3_len (h : Int → Nat) (t : Int) : (f3 h t).length = 3 := rfl
/-- A row of stretches. -/
structure RT (h : Int → Nat) (w : World) (b n : Nat) (t : Nat → Int) : Prop where
  lt : b < w.heap.size
  f0 : ∀ i, i < n → w.cell? ⟨b, i * 3, none⟩ = some (.float .f64 (h (t i)))
  f1 : ∀ i, i < n → w.cell? ⟨b, i * 3 + 1, none⟩ = some (.int .i64 0)
  f2 : ∀ i, i < n → w.cell? ⟨b, i * 3 + 2, none⟩ = some (.bool false)
theorem RT.below {h : Int → Nat} {w w' : World} {b n : Nat} {t : Nat → Int} (H : RT h w b n t) (hb : Below w.heap.size w w') : RT h w' b n t :=
  ⟨Nat.lt_of_lt_of_le H.lt hb.size, fun i hi => (hb.cell (p := ⟨b, i * 3, none⟩) H.lt).trans (H.f0 i hi), fun i hi => (hb.cell (p := ⟨b, i * 3 + 1, none⟩) H.lt).trans (H.f1 i hi), fun i hi => (hb.cell (p := ⟨b, i * 3 + 2, none⟩) H.lt).trans (H.f2 i hi)⟩
/-- What joinUnmet makes of the stretches: the ends. -/
def ju (met : Int → Int → Bool) : Int → List Int → List Int → List Int
  | _, [], acc => acc
  | p, t :: ts, acc => if met p t then ju met t ts (acc ++ [t]) else if acc.isEmpty then ju met t ts acc else ju met t ts (acc.dropLast ++ [t])
/-- Whether a zone meets the stretch. -/
def met (n : Nat) (z : Nat → Zn) (p t : Int) : Bool := anyB n (fun i => mt (z i).lo (z i).hi p t)

theorem unmet_any (h : Int → Nat) (K : FK h) (w : World) (d n kb lb ub : Nat) (ws : Value) (z : Nat → Zn) (p q : Int) (hd : 0 < d) (hn : n ≤ 600) (Z : ZW h w d ws n z) (rp : RG p) (rq : RG q) (hk : kb < w.heap.size) (hl : lb < w.heap.size) (hu : ub < w.heap.size)
    (g0 : w.cell? ⟨kb, 0, none⟩ = some (.int .i64 0)) (g1 : w.cell? ⟨lb, 0, none⟩ = some (.float .f64 (h p))) (g2 : w.cell? ⟨ub, 0, none⟩ = some (.float .f64 (h q))) :
    Calls Yba.prog 17 #[ws, .func (.func 52) #[] #[.pointer (some ⟨kb, 0, none⟩), .pointer (some ⟨lb, 0, none⟩), .pointer (some ⟨ub, 0, none⟩)]] w fun e w' => e = .returned (.bool (met n z p q)) ∧ Below w.heap.size w w' := by
  rcases Z with ⟨rfl, a, c, rfl⟩ | ⟨b, c, l, u, rfl, hc, hn0, R, C⟩
  · exact cont5_nil w a c 52 _
  · refine cont5_any w b c n 52 _ (fun i => (z i).rk) l u (fun i => mt (z i).lo (z i).hi p q) hn ec52 R ?_
    intro i w' hi hb
    exact clo52 h K w' d kb lb ub (l i) (u i) (z i).rk (z i).lo (z i).hi p q hd ((C i hi).below hb) rp rq (Nat.lt_of_lt_of_le hk hb.size) (Nat.lt_of_lt_of_le hl hb.size) (Nat.lt_of_lt_of_le hu hb.size) ((hb.cell (p := ⟨kb, 0, none⟩) hk).trans g0) ((hb.cell (p := ⟨lb, 0, none⟩) hl).trans g1) ((hb.cell (p := ⟨ub, 0, none⟩) hu).trans g2)

theorem f3_one (h : Int → Nat) (t : Int) : ∀ u ∈ f3 h t, u.oneCell' = true := by
  intro u hu
  simp [f3] at hu
  rcases hu with rfl | rfl | rfl <;> rfl
theorem news3 (h : Int → Nat) (w : World) (t : Int) (e : TypeId) : ∀ (j : Nat) (u : Value), (f3 h t)[j]? = some u → (w.alloc (.cells #[.float .f64 (h t), .int .i64 0, .bool false] e)).cell? ((⟨w.heap.size, 0, none⟩ : Addr).add j) = some u := by
  intro j u hu
  rw [add_h]
  match j, hu with
  | 0, hu => simp [f3] at hu; subst hu; go_simp
  | 1, hu => simp [f3] at hu; subst hu; go_simp
  | 2, hu => simp [f3] at hu; subst hu; go_simp
  | j + 3, hu => simp [f3] at hu
theorem own_app {α : Type} (f : α → List Value) {w : World} {base e k : Nat} {v : Value} {xs : List α} {x : α} (H : w.ownsRow base e k v (xs.length + 1) (xs.flatMap f ++ f x)) : w.ownsRow base e k v (xs ++ [x]).length ((xs ++ [x]).flatMap f) := by
  simpa [List.flatMap_append] using H
theorem own_len {w : World} {base e k n : Nat} {v : Value} {xs : List Value} (H : w.ownsRow base e k v n xs) : ∃ a c, v = .slice a n c := by
  rcases H.2 with ⟨rfl, rfl⟩ | ⟨g, c, cur, rfl, _⟩
  · exact ⟨_, _, rfl⟩
  · exact ⟨_, _, rfl⟩
theorem info74 : (Yba.prog.info? 74).map (fun i => (i.zero, i.size, i.bytes)) = some (some (.agg #[.float .f64 0, .int .i64 0, .bool false]), 3, 24) := by kernel_rfl

set_option maxRecDepth 100000 in
set_option maxHeartbeats 8000000 in
theorem join_any (h : Int → Nat) (K : FK h) (w : World) (d b c n m : Nat) (ws : Value) (z : Nat → Zn) (t : Nat → Int) (s : Int) (R : List Int) (hd : 0 < d) (hn : n ≤ 600) (hm : m ≤ 1300) (Z : ZW h w d ws n z) (H : RT h w b m t) (rt : ∀ i, i < m → RG (t i)) (rf : RG s)
    (h0 : 0 < m → s ≤ t 0) (hup : ∀ i, i + 1 < m → t i ≤ t (i + 1)) (hR : R = ju (met n z) s ((List.range m).map t) []) :
    Calls Yba.prog 32 #[.slice (some ⟨b, 0, none⟩) m c, .float .f64 (h s), .int .i64 0, ws] w fun e w' => ∃ v, e = .returned v ∧ w'.ownsRow w.heap.size 74 3 v R.length (R.flatMap (f3 h)) ∧ Below w.heap.size w w' := by
  obtain ⟨W, hW⟩ : ∃ W, W = w.alloc (.cells #[.int .i64 0] 3) := ⟨_, rfl⟩
  have BW : Below w.heap.size w W := by rw [hW]; exact (Below.refl _ _).alloc (Nat.le_refl _) _
  have sW : W.heap.size = w.heap.size + 1 := by rw [hW]; simp
  have a0 : W.cell? ⟨w.heap.size, 0, none⟩ = some (.int .i64 0) := by rw [hW]; go_simp
  have HsW := Hid.mk sW
  have HBW := Hid.mk BW
  have HH := Hid.mk (H.below BW)
  have HZ := Hid.mk (Z.below BW)
  have HR := Hid.mk hR
  clear H Z BW sW hR
  go_enter Yba.func32, Yba.ntmps32
  go_wp2_with fail
  rw [← hW]
  clear hW
  go_loopw [1, 9, 17] (fun vf vj vk wr => ∃ (k : Nat) (p : Int) (acc : List Int), k ≤ m ∧ vf = .float .f64 (h p) ∧ vk = .int .i64 (k : Int) ∧ RG p ∧ (k < m → p ≤ t k) ∧ Below W.heap.size W wr ∧ wr.ownsRow W.heap.size 74 3 vj acc.length (acc.flatMap (f3 h)) ∧ acc.length ≤ k ∧ R = ju (met n z) p (((List.range m).map t).drop k) acc) (fun _ _ vk _ => m - (intOf vk).toNat)
  case atStart => exact ⟨0, s, [], Nat.zero_le _, rfl, rfl, rf, h0, Below.refl _ _, World.ownsRow_nil _ _ _ _, Nat.le_refl _, by rw [List.drop_zero]; exact HR.out⟩
  case round =>
    obtain ⟨k, p, acc, hk, rfl, rfl, rp, hpt, hB, own, hacc, hju⟩ := hrel
    have HB := Hid.mk hB
    have HO := Hid.mk own
    have HJ := Hid.mk hju
    clear hB own hju
    by_cases hkn : k < m
    · have hk' : (k : Int) < (m : Int) := by omega
      have hk0 : (0 : Int) ≤ (k : Int) := by omega
      have RR := HH.out.below HB.out
      have f0 := RR.f0 k hkn
      have f1 := RR.f1 k hkn
      have f2 := RR.f2 k hkn
      have blt := RR.lt
      have m1 := K.mn rp (rt k hkn)
      have m2 := K.mx rp (rt k hkn)
      rw [Int.min_eq_left (hpt hkn)] at m1
      rw [Int.max_eq_right (hpt hkn)] at m2
      have hs := HB.out.size
      have sw := HsW.out
      have g0 := (HB.out.cell (p := ⟨w.heap.size, 0, none⟩) (by simp; omega)).trans a0
      clear RR sw
      go_upto_region 5 with fail
      go_cut [12, 13, 17] from 17 to 56 (fun v1 v2 v3 wx => ∃ lb ub, v3 = .int .i64 (k : Int) ∧ v1 = .pointer (some ⟨lb, 0, none⟩) ∧ v2 = .pointer (some ⟨ub, 0, none⟩) ∧ wx.cell? ⟨lb, 0, none⟩ = some (.float .f64 (h p)) ∧ wx.cell? ⟨ub, 0, none⟩ = some (.float .f64 (h (t k))) ∧ lb < wx.heap.size ∧ ub < wx.heap.size ∧ wr.heap.size < wx.heap.size ∧ wx.cell? ⟨wr.heap.size, 0, none⟩ = some (.float .f64 (h (t k))) ∧ wx.cell? ⟨wr.heap.size, 1, none⟩ = some (.int .i64 0) ∧ wx.cell? ⟨wr.heap.size, 2, none⟩ = some (.bool false) ∧ Below wr.heap.size wr wx)
      case first =>
        go_region
        all_goals (go_wp2_with fail; go_meet)
        · exact ⟨_, _, rfl, rfl, rfl, by go_simp, by go_simp, by simp, by simp, by simp; omega, by go_simp, by go_simp, by go_simp, (((Below.refl _ _).alloc (Nat.le_refl _) _ |>.alloc (by simp) _).alloc (by simp; omega) _).drew⟩
        · exact ⟨_, _, rfl, rfl, rfl, by go_simp, by go_simp, by simp, by simp, by simp; omega, by go_simp, by go_simp, by go_simp, (((Below.refl _ _).alloc (Nat.le_refl _) _ |>.alloc (by simp) _).alloc (by simp; omega) _).drew⟩
      case rest =>
        obtain ⟨lb, ub, rfl, rfl, rfl, c1, c2, l1, l2, l3, s0, s1, s2, BX⟩ := hcut
        have k0 : wc.cell? ⟨w.heap.size, 0, none⟩ = some (.int .i64 0) := (BX.cell (p := ⟨w.heap.size, 0, none⟩) (by have := HsW.out; simp; omega)).trans g0
        have UM := unmet_any h K wc d n w.heap.size lb ub ws z p (t k) hd hn ((HZ.out.below HB.out).below BX) rp (rt k hkn) (by have := HsW.out; have := BX.size; omega) l1 l2 k0 c1 c2
        have HBX := Hid.mk BX
        have HUM := Hid.mk UM
        clear f0 f1 f2 m1 m2 g0 BX UM c1 c2 k0
        go_wp2_with fail
        refine HUM.out.mono ?_
        rintro e w2 ⟨rfl, B2⟩
        have HB2 := Hid.mk (HBX.out.trans (B2.mono HBX.out.size))
        have q0 := (B2.cell (p := ⟨wr.heap.size, 0, none⟩) l3).trans s0
        have q1 := (B2.cell (p := ⟨wr.heap.size, 1, none⟩) l3).trans s1
        have q2 := (B2.cell (p := ⟨wr.heap.size, 2, none⟩) l3).trans s2
        have l4 : wr.heap.size < w2.heap.size := Nat.lt_of_lt_of_le l3 B2.size
        have HO2 := Hid.mk (own_below HO.out HB2.out)
        have HF := Hid.mk (HB.out.trans (HB2.out.mono hs))
        clear B2 s0 s1 s2 HUM HBX l1 l2 l3
        dsimp only
        have hdr : Hid (((List.range m).map t).drop k = t k :: ((List.range m).map t).drop (k + 1)) := ⟨by rw [List.drop_eq_getElem_cons (by simpa using hkn)]; simp⟩
        cases hme : met n z p (t k)
        · by_cases hac : acc = []
          · subst hac
            obtain ⟨ja, jc, rfl⟩ := own_len HO2.out
            go_wp2_with fail
            go_roundw
            case rel => exact ⟨k + 1, t k, [], by omega, rfl, by go_num, rt k hkn, fun hk2 => hup k hk2, HF.out, HO2.out, by simp, by rw [HJ.out, hdr.out]; simp [ju, hme]⟩
            case measure => simp only [intOf]; omega
          · obtain ⟨ys, x, rfl⟩ : ∃ ys x, acc = ys ++ [x] := ⟨acc.dropLast, acc.getLast hac, (List.dropLast_concat_getLast hac).symm⟩
            rcases own_cell (f3 h) 3 (f3_len h) HO2.out with ⟨_, hE⟩ | ⟨g, gc, rfl, hgc, hgb, hgl, hcell, hfz⟩
            · exact absurd hE (by simp)
            have e0 : w2.cell? ⟨g, ys.length * 3, none⟩ = some (.float .f64 (h x)) := hcell ys.length x 0 (.float .f64 (h x)) (by simp) rfl
            have eL : (ys ++ [x]).length = ys.length + 1 := by simp
            have HO3 := Hid.mk (own_put (f3 h) 3 (f3_len h) (x' := t k) rfl rfl HO2.out)
            rw [eL] at HO3 hacc ⊢
            have HEL := Hid.mk eL
            have ng1 : ¬ g = wr.heap.size := by
              intro e
              have := (World.ownsRow.lt HO.out g (by rw [eL]; rfl)).2
              omega
            have ng2 : ¬ wr.heap.size = g := fun e => ng1 e.symm
            clear hcell eL
            go_wp2_with fail
            go_roundw
            case rel => exact ⟨k + 1, t k, ys ++ [t k], by omega, rfl, by go_num, rt k hkn, fun hk2 => hup k hk2, HF.out.setCell (p := ⟨g, ys.length * 3, none⟩) hgb _, HO3.out, by simp; omega, by rw [HJ.out, hdr.out]; simp [ju, hme]⟩
            case measure => simp only [intOf]; omega
        · obtain ⟨i, hi, hz0, hz1, hz2⟩ := info_parts info74
          go_wp2_with (at_builtin; refine wpList_append_own _ rfl _ _ 68 rfl W.heap.size 74 i (.agg #[.float .f64 0, .int .i64 0, .bool false]) 3 24 Yba.underlying68 hi hz0 hz1 hz2 rfl (by decide) _ acc.length (acc.flatMap (f3 h)) rfl (HO2.out.alloc _) ⟨w2.heap.size, 0, none⟩ 1 1 (f3 h (t k)) rfl rfl (news3 _ _ _ _) (f3_one _ _) (by simp [maxLen]; omega) (by omega) (by have := HF.out.size; simp; omega) ?_)
          intro v' w4 hown' hgrow _
          have HO4 := Hid.mk (own_app (f3 h) hown')
          have HF4 := Hid.mk (((HF.out.alloc HF.out.size (Obj.cells #[Value.float FloatKind.f64 (h (t k)), Value.int IntKind.i64 0, Value.bool false] 74)).grown hgrow (by have := HF.out.size; simp; omega) (fun g hg => (HO2.out.lt g hg).1)))
          clear hown' hgrow
          go_wp2_with fail
          go_roundw
          case rel => exact ⟨k + 1, t k, acc ++ [t k], by omega, rfl, by go_num, rt k hkn, fun hk2 => hup k hk2, HF4.out, HO4.out, by simp; omega, by rw [HJ.out, hdr.out]; simp [ju, hme]⟩
          case measure => simp only [intOf]; omega
    · obtain rfl : k = m := by omega
      have hk' : ¬ ((k : Int) < (k : Int)) := by omega
      obtain ⟨ja, jc, rfl⟩ := own_len HO.out
      have HFF := Hid.mk (HBW.out.trans (HB.out.mono HBW.out.size))
      go_wp2_with fail
      go_ret
      refine ⟨_, rfl, ?_, HFF.out⟩
      have e := HJ.out
      rw [List.drop_of_length_le (by simp)] at e
      have e2 : R = acc := e
      rw [e2]
      exact HO.out.mono HBW.out.size
end Go.Proofs.Ybulkdaxu
