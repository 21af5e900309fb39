import Derived.Test.YbulkdaxuSlabU1
import Derived.Deep.AppendLies
namespace Go.Proofs.Ybulkdaxu
open Go.RowKit
set_option linter.unusedSimpArgs false
set_option linter.unusedVariables false

theorem und55 : Yba.prog.underlying 55 = some (.slice 3) := by kernel_rfl
theorem gdp (xs : List PT) (t : Nat) (h : t < xs.length) : xs[t]? = some (xs.getD t (0, .bool false, .bool false)) := by
  rw [List.getD_eq_getElem?_getD, List.getElem?_eq_getElem h]; rfl
theorem own_nf5 {w : World} {base : Nat} {v : Value} {ps : List PT} (H : w.ownsRow base 45 5 v ps.length (ps.flatMap f5p)) (hp : ps ≠ []) : NF w v := by
  intro g hg k x
  rcases own_cell f5p 5 f5p_len H with ⟨_, e⟩ | ⟨g', c, rfl, h1, h2, h3, h4, _⟩
  · exact absurd e hp
  · have : g' = g := by simpa [Value.ownBlock] using hg
    subst this
    match ps, hp with
    | p :: r, _ =>
      have := h4 0 p 0 (.int .i64 p.1) rfl rfl
      have h0 : w.cell? ⟨g', 0, none⟩ = some (.int .i64 p.1) := this
      rw [h0]
      intro e
      cases e
theorem made_nf (w : World) (ZC : Array Value) (e : TypeId) (m c : Nat) (hz : ∀ x, ZC[0]? = some x → ∀ k y, x ≠ .float k y) : NF (w.alloc (.cells ZC e)) (.slice (some ⟨w.heap.size, 0, none⟩) m c) := by
  intro g hg k y h
  have : w.heap.size = g := by simpa [Value.ownBlock] using hg
  subst this
  have hg2 := heap_alloc_new w (.cells ZC e)
  simp only [World.cell?, hg2] at h
  exact hz _ h k y rfl
theorem mk_ex {t e : TypeId} {z : Value} {sz by_ : Nat} (hu : Yba.prog.underlying t = some (.slice e)) (hi : (Yba.prog.info? e).map (fun i => (i.zero, i.size, i.bytes)) = some (some z, sz, by_))
    (n : Nat) (h : by_ * n ≤ 281474976710656) (hn : n ≤ 1000000) : ∃ ZC : Array Value, ZC.size = n * sz ∧ Hid (∀ (i : Nat) (x : Value), ZC[i]? = some x → x = z.cells[i % z.cells.size]!) ∧ ∀ w : World, (Instr.makeSlice t (.int .i64 0) (.int .i64 n)).run Yba.prog w = .ok (.slice (some ⟨w.heap.size, 0, none⟩) 0 n) (w.alloc (.cells ZC e)) := by
  refine ⟨_, ?_, ⟨?_⟩, fun w => mk_cap hu hi n h hn w⟩
  · simp [madeCells]
  · intro i x hx
    have hi' : i < n * sz := by
      rcases Nat.lt_or_ge i (n * sz) with h | h
      · exact h
      · rw [Array.getElem?_eq_none (by simp [madeCells]; exact h)] at hx; cases hx
    simp [madeCells, hi'] at hx
    exact hx.symm
set_option maxRecDepth 100000 in
set_option maxHeartbeats 20000000 in
theorem slabs_law (h : Int → Nat) (K : FK h) (w : World) (a0 a3 a4 a7 : Int) (a5 a6 : Bool) (a1 a2 : Option Addr) (len1 cap1 len2 cap2 : Nat) (g wd : Nat → Int) (h0 : -128 ≤ a0 ∧ a0 ≤ 127) (h3 : -32768 ≤ a3 ∧ a3 ≤ 32767) (h4 : 0 ≤ a4 ∧ a4 ≤ 65535) (h7 : 0 ≤ a7 ∧ a7 ≤ 255)
    (r1 : Ar8 w a1 len1 g) (r2 : Ar8 w a2 len2 wd) (hg : ∀ j, 0 ≤ g j ∧ g j ≤ 255) (hw : ∀ j, 0 ≤ wd j ∧ wd j ≤ 255) :
    Calls Yba.prog 5 #[.int .i8 a0, .slice a1 len1 cap1, .slice a2 len2 cap2, .int .i16 a3, .int .u16 a4, .bool a5, .bool a6, .int .u8 a7] w fun e w' => e = .returned (.bool true) ∧ Below w.heap.size w w' := by
  obtain ⟨n, hn⟩ : ∃ n, n = if len2 < len1 then len2 else len1 := ⟨_, rfl⟩
  have hn1 : n ≤ len1 := by rw [hn]; split <;> omega
  have hn2 : n ≤ len2 := by rw [hn]; split <;> omega
  have Hn := Hid.mk hn
  have HR1 := Hid.mk r1
  have HR2 := Hid.mk r2
  have Hg := Hid.mk hg
  have Hw := Hid.mk hw
  clear hn r1 r2 hg hw
  obtain ⟨d, hdm⟩ : ∃ d, d = dm a5 := ⟨_, rfl⟩
  have CBX : Hid (∀ (w : World) (lo hi : Int), RG lo → RG hi → Calls Yba.prog 11 #[.float .f64 (h lo), .float .f64 (h hi), .bool a5] w fun e w' => ∃ l u, e = .returned (.agg #[l, u]) ∧ CO h w' d l u lo hi ∧ Below w.heap.size w w') := ⟨by rw [hdm]; exact fun w lo hi => cbox_any h K w a5 lo hi⟩
  have CIX : Hid (∀ (w : World) (l u : Value) (lo hi : Int), CO h w d l u lo hi → Calls Yba.prog 13 #[.agg #[l, u], .float .f64 (h lo), .float .f64 (h hi), .bool a5] w fun e w' => e = .returned (.bool true) ∧ Below w.heap.size w w') := ⟨by rw [hdm]; exact fun w l u lo hi => cis_any h K w a5 l u lo hi⟩
  have hd0 : 0 < d := by rw [hdm]; unfold dm; split <;> omega
  have hd2 : d ≤ 2 := by rw [hdm]; unfold dm; split <;> omega
  clear hdm
  have hc0 : floatOfInt .f64 a0 = h (2 * a0) := K.int a0 (by omega) (by omega)
  have hc3 : floatOfInt .f64 a3 = h (2 * a3) := K.int a3 (by omega) (by omega)
  have hc4 : floatOfInt .f64 a4 = h (2 * a4) := K.int a4 (by omega) (by omega)
  have Hc3 := Hid.mk hc3
  have Hc4 := Hid.mk hc4
  clear hc3 hc4
  go_enter Yba.func5, Yba.ntmps5
  go_upto_if 49 with fail
  go_cut [17] from 49 (fun v wx => v = .int .i64 (n : Int) ∧ wx = w)
  case first =>
    as_aux_lemma =>
      have e := Hn.out
      by_cases hlt : len2 < len1
      · have hlt' : (len2 : Int) < (len1 : Int) := by omega
        rw [if_pos hlt] at e
        subst e
        go_wp2_with fail
        go_meet
        exact ⟨rfl, rfl⟩
      · have hlt' : ¬ (len2 : Int) < (len1 : Int) := by omega
        rw [if_neg hlt] at e
        subst e
        go_wp2_with fail
        go_meet
        exact ⟨rfl, rfl⟩
  case rest =>
    as_aux_lemma =>
      obtain ⟨rfl, hww⟩ := hcut
      obtain rfl := hww.symm
      clear hww
      by_cases hbig : 512 < n
      · have hb' : (512 : Int) < (n : Int) := by omega
        go_wp2_with fail
        go_ret
        exact ⟨rfl, Below.refl _ _⟩
      · have hb' : ¬ (512 : Int) < (n : Int) := by omega
        have m23 := mk23 n (by omega)
        obtain ⟨W, hW⟩ : ∃ W, W = (w.alloc (.cells (ZF n).toArray 31)).alloc (.cells (ZF n).toArray 31) := ⟨_, rfl⟩
        have BW : Below w.heap.size w W := by rw [hW]; exact below_alloc2 _ _ _
        have sW : W.heap.size = w.heap.size + 1 + 1 := by rw [hW]; simp
        have N1 : HN h W w.heap.size n (fun _ => 0) := by
          rw [hW]; exact (zf_hn K w n).below ((Below.refl _ _).alloc (Nat.le_refl _) _)
        have N2 : HN h W (w.heap.size + 1) n (fun _ => 0) := by
          have := zf_hn K (w.alloc (.cells (ZF n).toArray 31)) n
          rw [hW]
          rwa [World.size_alloc] at this
        have HBW := Hid.mk BW
        have HsW := Hid.mk sW
        have HN1 := Hid.mk N1
        have HN2 := Hid.mk N2
        clear BW sW N1 N2
        go_upto_block 0 with fail
        rw [← hW]
        clear hW m23
        have HCU : Hid (∀ i, i < n → RG (loZ a0 g wd i) ∧ RG (hiZ a0 g wd i) ∧ RG (2 * cu a0 g wd i)) := ⟨fun i hi => by
          have := z_bd Hg.out Hw.out h0 (n := n) (by omega) hi
          unfold RG
          omega⟩
        have k1c := K.c1
        go_cut [20, 21, 22, 23] from 60 to 88 (fun v20 v21 v22 v23 wx => Below w.heap.size w wx ∧ wx.heap.size = w.heap.size + 1 + 1 ∧ HN h wx w.heap.size n (pre (loZ a0 g wd) n) ∧ HN h wx (w.heap.size + 1) n (pre (hiZ a0 g wd) n))
        case first =>
          as_aux_lemma =>
            go_wp2_with fail
            go_loopw [20, 21] (fun v20 vk wr => ∃ k : Nat, k ≤ n ∧ vk = .int .i64 (k : Int) ∧ v20 = .float .f64 (h (2 * cu a0 g wd k)) ∧ Below w.heap.size w wr ∧ wr.heap.size = w.heap.size + 1 + 1 ∧ HN h wr w.heap.size n (pre (loZ a0 g wd) k) ∧ HN h wr (w.heap.size + 1) n (pre (hiZ a0 g wd) k)) (fun _ vk _ => n - (intOf vk).toNat)
            case atStart =>
              refine ⟨0, Nat.zero_le _, rfl, rfl, HBW.out, HsW.out, ?_, ?_⟩
              · rw [pre_zero]; exact HN1.out
              · rw [pre_zero]; exact HN2.out
            case round =>
              as_aux_lemma =>
                obtain ⟨k, hk, rfl, rfl, hB, hsz, hN1, hN2⟩ := hrel
                have HB := Hid.mk hB
                have HM1 := Hid.mk hN1
                have HM2 := Hid.mk hN2
                have Hsz := Hid.mk hsz
                clear hB hsz hN1 hN2
                by_cases hkn : k < n
                · have hk' : (k : Int) < (n : Int) := by omega
                  have hk0 : (0 : Int) ≤ (k : Int) := by omega
                  have hk1 : (k : Int) < (len1 : Int) := by omega
                  have hk2 : (k : Int) < (len2 : Int) := by omega
                  obtain ⟨b1, o1, rfl, l1, q1⟩ : ∃ b off, a1 = some ⟨b, off, none⟩ ∧ b < w.heap.size ∧ ∀ j, j < len1 → w.cell? ⟨b, off + j, none⟩ = some (.int .u8 (g j)) := by
                    rcases HR1.out with h | h
                    · omega
                    · exact h
                  obtain ⟨b2, o2, rfl, l2, q2⟩ : ∃ b off, a2 = some ⟨b, off, none⟩ ∧ b < w.heap.size ∧ ∀ j, j < len2 → w.cell? ⟨b, off + j, none⟩ = some (.int .u8 (wd j)) := by
                    rcases HR2.out with h | h
                    · omega
                    · exact h
                  have f1' := (HB.out.cell (p := ⟨b1, o1 + k, none⟩) l1).trans (q1 k (by omega))
                  have f2' := (HB.out.cell (p := ⟨b2, o2 + k, none⟩) l2).trans (q2 k (by omega))
                  have gk := Hg.out k
                  have wk := Hw.out k
                  have ck := HCU.out k hkn
                  have i1 : floatOfInt .f64 (g k) = h (2 * g k) := K.int _ (by omega) (by omega)
                  have i2 : floatOfInt .f64 (wd k) = h (2 * wd k) := K.int _ (by omega) (by omega)
                  have rgk : RG (2 * g k) := by unfold RG; omega
                  have rwk : RG (2 * wd k) := by unfold RG; omega
                  have A1 : ∀ t w, (binOp .add t (.float .f64 (h (2 * cu a0 g wd k))) (.float .f64 (h (2 * g k)))).run Yba.prog w = .ok (.float .f64 (h (loZ a0 g wd k))) w := by
                    have e : loZ a0 g wd k = 2 * cu a0 g wd k + 2 * g k := by unfold loZ; omega
                    rw [e]; exact K.add ck.2.2 rgk
                  have A2 : ∀ t w, (binOp .add t (.float .f64 (h (loZ a0 g wd k))) (.float .f64 (h (2 * wd k)))).run Yba.prog w = .ok (.float .f64 (h (hiZ a0 g wd k - 2))) w := by
                    have e : hiZ a0 g wd k - 2 = loZ a0 g wd k + 2 * wd k := by unfold loZ hiZ; simp only [cu]; omega
                    rw [e]; exact K.add ck.1 rwk
                  have A3 : ∀ t w, (binOp .add t (.float .f64 (h (hiZ a0 g wd k - 2))) (.float .f64 4607182418800017408)).run Yba.prog w = .ok (.float .f64 (h (hiZ a0 g wd k))) w := by
                    intro t w
                    rw [← k1c]
                    have e : h (hiZ a0 g wd k) = h (hiZ a0 g wd k - 2 + 2) := by congr 1; omega
                    rw [e]
                    exact K.add (by have := ck.2.1; have := z_bd Hg.out Hw.out h0 (n := n) (by omega) hkn; unfold RG at *; omega) (by unfold RG; omega) t w
                  have d1 := HM1.out.2.1 k hkn
                  have d2 := HM2.out.2.1 k hkn
                  have z1 := HM1.out.2.2
                  have z2 := HM2.out.2.2
                  have P1 := Hid.mk ((HM1.out.put hkn (loZ a0 g wd k)).oth (p := ⟨w.heap.size + 1, k, none⟩) (by simp) (.float .f64 (h (hiZ a0 g wd k))))
                  have P2 := Hid.mk ((HM2.out.oth (p := ⟨w.heap.size, k, none⟩) (by simp) (.float .f64 (h (loZ a0 g wd k)))).put hkn (hiZ a0 g wd k))
                  have P3 := Hid.mk ((HB.out.setCell (p := ⟨w.heap.size, k, none⟩) (Nat.le_refl _) (.float .f64 (h (loZ a0 g wd k)))).setCell (p := ⟨w.heap.size + 1, k, none⟩) (by simp) (.float .f64 (h (hiZ a0 g wd k))))
                  have ez : Hid (hiZ a0 g wd k = 2 * cu a0 g wd (k + 1)) := ⟨rfl⟩
                  clear q1 q2 gk wk ck rgk rwk k1c
                  go_wp2_with fail
                  go_roundw
                  case rel =>
                    exact ⟨k + 1, by omega, by go_num, by rw [ez.out], P3.out, by simp [Hsz.out], by rw [← pre_succ]; exact P1.out, by rw [← pre_succ]; exact P2.out⟩
                  case measure => simp only [intOf]; omega
                · obtain rfl : n = k := by omega
                  have hk' : ¬ (n : Int) < (n : Int) := by omega
                  go_wp2_with fail
                  go_meet
                  exact ⟨HB.out, Hsz.out, HM1.out, HM2.out⟩
        case rest =>
          as_aux_lemma =>
            obtain ⟨hB, hsz, hN1, hN2⟩ := hcut
            have HB := Hid.mk hB
            have HM1 := Hid.mk hN1
            have HM2 := Hid.mk hN2
            have Hsz := Hid.mk hsz
            clear hB hsz hN1 hN2
            have hc3 := Hc3.out
            have hc4 := Hc4.out
            have rA : RG (2 * a3) := by unfold RG; omega
            have rB : RG (2 * a3 + 2 + 2 * a4) := by unfold RG; omega
            have C1 : ∀ t w, (binOp .add t (.float .f64 (h (2 * a3))) (.float .f64 4607182418800017408)).run Yba.prog w = .ok (.float .f64 (h (2 * a3 + 2))) w := by
              intro t w
              rw [← k1c]
              exact K.add rA (by unfold RG; omega) t w
            have C2 : ∀ t w, (binOp .add t (.float .f64 (h (2 * a3 + 2))) (.float .f64 (h (2 * a4)))).run Yba.prog w = .ok (.float .f64 (h (2 * a3 + 2 + 2 * a4))) w := K.add (by unfold RG; omega) (by unfold RG; omega)
            have CB := CBX.out wc (2 * a3) (2 * a3 + 2 + 2 * a4) rA rB
            have HCB := Hid.mk CB
            obtain ⟨A, hA⟩ : ∃ A, A = 2 * a3 := ⟨_, rfl⟩
            obtain ⟨B, hB⟩ : ∃ B, B = 2 * a3 + 2 + 2 * a4 := ⟨_, rfl⟩
            have eA : Hid (A = 2 * a3 ∧ B = 2 * a3 + 2 + 2 * a4) := ⟨hA, hB⟩
            clear CB
            go_wp2_with fail
            rw [← hB, ← hA] at HCB ⊢
            clear C1 C2 hc3 hc4 hc0 hA hB k1c
            refine HCB.out.mono ?_
            rintro e w2 ⟨l, u, rfl, G2, B2⟩
            have HG2 := Hid.mk G2
            obtain ⟨⟨gl, cl, rfl, _, _, _⟩, ⟨gu, cu', rfl, _, _, _⟩, _, _⟩ := G2
            have hs2 := B2.size
            have M1 := HM1.out.below B2
            have M2 := HM2.out.below B2
            have Bw2 := HB.out.trans (B2.mono HB.out.size)
            obtain ⟨ZC, sZC, HZC, mc⟩ := mk_ex Yba.underlying43 info45 n (by omega) (by omega)
            obtain ⟨X, hX⟩ : ∃ X, X = w2.alloc (.cells #[.slice (some ⟨gl, 0, none⟩) d cl, .slice (some ⟨gu, 0, none⟩) d cu'] 27) := ⟨_, rfl⟩
            have BX : Below w2.heap.size w2 X := by rw [hX]; exact (Below.refl _ _).alloc (Nat.le_refl _) _
            have sX : X.heap.size = w2.heap.size + 1 := by rw [hX]; simp
            have x0 : X.cell? ⟨w2.heap.size, 0, none⟩ = some (.slice (some ⟨gl, 0, none⟩) d cl) := by rw [hX]; go_simp
            have x1 : X.cell? ⟨w2.heap.size, 1, none⟩ = some (.slice (some ⟨gu, 0, none⟩) d cu') := by rw [hX]; go_simp
            have HM1x := Hid.mk (M1.below BX)
            have HM2x := Hid.mk (M2.below BX)
            have HGx := Hid.mk (HG2.out.below BX)
            have HBx := Hid.mk (Bw2.trans (BX.mono (by have := Bw2.size; omega)))
            have Hx0 := Hid.mk x0
            have Hx1 := Hid.mk x1
            have HsX := Hid.mk sX
            have Hs2 := Hid.mk hs2
            clear M1 M2 Bw2 BX sX B2 HCB x0 x1 HG2
            dsimp only
            go_upto_region 20 with fail
            rw [← hX]
            clear hX
            go_upto_block 2 with fail
            go_cut [27, 28, 29] from 102 to 128 (fun v27 v28 v29 wx => ∃ zs : List PT, wx.ownsRow X.heap.size 45 5 v27 zs.length (zs.flatMap f5p) ∧ zs.length = n ∧ (∀ t, t < n → ∃ l u, zs[t]? = some (((oO a6 n t : Nat) : Int) + 1, l, u) ∧ CO h wx d l u (loZ a0 g wd (oO a6 n t)) (hiZ a0 g wd (oO a6 n t))) ∧ Below X.heap.size X wx)
            case first =>
              as_aux_lemma =>
                have OW := World.ownsRow_made (base := X.heap.size) (e := 45) (size := 5) X ZC n (Nat.le_refl _) (by simp only [maxLen]; omega) sZC
                have BXA := (Below.refl X.heap.size X).alloc (Nat.le_refl _) (.cells ZC 45)
                have HOW := Hid.mk OW
                have HNF0 : Hid (NF (X.alloc (.cells ZC 45)) (.slice (some ⟨X.heap.size, 0, none⟩) 0 n)) := ⟨made_nf X ZC 45 0 n (fun x hx => by
                  have := HZC.out 0 x hx
                  subst this
                  intro k y e
                  cases e)⟩
                have HBXA := Hid.mk BXA
                clear OW BXA
                go_wp2_with fail
                go_loopw [27, 28] (fun v27 vk wr => ∃ (t : Nat) (zs : List PT), t ≤ n ∧ vk = .int .i64 (t : Int) ∧ wr.ownsRow X.heap.size 45 5 v27 zs.length (zs.flatMap f5p) ∧ NF wr v27 ∧ zs.length = t ∧ (∀ j, j < t → ∃ l u, zs[j]? = some (((oO a6 n j : Nat) : Int) + 1, l, u) ∧ CO h wr d l u (loZ a0 g wd (oO a6 n j)) (hiZ a0 g wd (oO a6 n j))) ∧ Below X.heap.size X wr) (fun _ vk _ => n - (intOf vk).toNat)
                case atStart => exact ⟨0, [], Nat.zero_le _, rfl, HOW.out, HNF0.out, rfl, fun j hj => by omega, HBXA.out⟩
                case round =>
                  as_aux_lemma =>
                    obtain ⟨t, zs, ht, rfl, hO, hN, hzl, hzs, hBr⟩ := hrel
                    have HN := Hid.mk hN
                    have hzl5 : zs.length ≤ 512 := by omega
                    have HO := Hid.mk hO
                    have Hzl := Hid.mk hzl
                    have Hzs := Hid.mk hzs
                    have HBr := Hid.mk hBr
                    have hsr := hBr.size
                    clear hO hN hzl hzs hBr
                    by_cases htn : t < n
                    · have ht' : (t : Int) < (n : Int) := by omega
                      have ht0 : (0 : Int) ≤ (t : Int) := by omega
                      go_upto_if 108 with fail
                      go_cut [29] from 102 to 128 (fun v wx => v = .int .i64 ((oO a6 n t : Nat) : Int) ∧ wx = wr)
                      case first =>
                        as_aux_lemma =>
                          cases a6
                          · go_wp2_with fail
                            go_meet
                            exact ⟨rfl, rfl⟩
                          · have eo : Hid (((oO true n t : Nat) : Int) = (n : Int) - 1 - (t : Int)) := ⟨by unfold oO; rw [if_pos rfl]; omega⟩
                            go_wp2_with fail
                            go_meet
                            exact ⟨by rw [eo.out], rfl⟩
                      case rest =>
                        as_aux_lemma =>
                          obtain ⟨rfl, hww⟩ := hcut
                          obtain rfl := hww.symm
                          clear hww
                          have hot := oO_lt (rev := a6) htn
                          obtain ⟨i, hi⟩ : ∃ i, i = oO a6 n t := ⟨_, rfl⟩
                          rw [← hi] at hot ⊢
                          have Hi := Hid.mk hi
                          clear hi
                          have hi0 : (0 : Int) ≤ (i : Int) := by omega
                          have hi1 : (i : Int) < (n : Int) := by omega
                          have c1 := (HBr.out.cell (p := ⟨w.heap.size, i, none⟩) (by have := HM1x.out.1; simp; omega)).trans (HM1x.out.2.1 i hot)
                          have c2 := (HBr.out.cell (p := ⟨w.heap.size + 1, i, none⟩) (by have := HM2x.out.1; simp; omega)).trans (HM2x.out.2.1 i hot)
                          have p1 : pre (loZ a0 g wd) n i = loZ a0 g wd i := by unfold pre; rw [if_pos hot]
                          have p2 : pre (hiZ a0 g wd) n i = hiZ a0 g wd i := by unfold pre; rw [if_pos hot]
                          rw [p1] at c1
                          rw [p2] at c2
                          have CBi := fun w' => CBX.out w' (loZ a0 g wd i) (hiZ a0 g wd i) (HCU.out i hot).1 (HCU.out i hot).2.1
                          have HCBi := Hid.mk CBi
                          clear p1 p2 CBi
                          generalize hlo : loZ a0 g wd i = lo at *
                          generalize hhi : hiZ a0 g wd i = hi at *
                          have Hlo := Hid.mk hlo
                          have Hhi := Hid.mk hhi
                          clear hlo hhi
                          go_upto_region 27 with fail
                          have hwr : IntKind.i64.wrap ((i : Int) + 1) = (i : Int) + 1 := wrap_small _ (by omega) (by omega)
                          obtain ⟨ii, hii, hz0, hz1, hz2⟩ := info_parts info45
                          go_region_held3 (fun z => z.cell? ⟨w.heap.size, i, none⟩ = some (.float .f64 (h (lo))) ∧ z.cell? ⟨w.heap.size + 1, i, none⟩ = some (.float .f64 (h (hi)))) (go_keep) (first
                            | (go_at_call 11; refine (HCBi.out wr.drew).mono ?_; rintro e w3 ⟨l, u, rfl, G3, B3⟩; have HG3 := Hid.mk G3; obtain ⟨⟨l3, cl3, rfl, _, _, _⟩, ⟨u3, cu3, rfl, _, _, _⟩, _, _⟩ := G3; have B3' := ((Below.refl wr.heap.size wr).drew).trans B3; have HB3 := Hid.mk B3'; have kc1 : w3.cell? ⟨w.heap.size, i, none⟩ = some (.float .f64 (h (lo))) := (B3'.cell (p := ⟨w.heap.size, i, none⟩) (by have := HM1x.out.1; simp; omega)).trans c1; have kc2 : w3.cell? ⟨w.heap.size + 1, i, none⟩ = some (.float .f64 (h (hi))) := (B3'.cell (p := ⟨w.heap.size + 1, i, none⟩) (by have := HM2x.out.1; simp; omega)).trans c2; have HO3 := Hid.mk (own_below HO.out B3'); have hs3 := B3'.size; clear B3 B3')
                            | (refine step_append_lies _ rfl (.tmp 113) (.tmp 127) 43 rfl X.heap.size 45 ii (.agg #[.int .i64 0, .slice none 0 0, .slice none 0 0, .bool false, .int .i64 0]) 5 72 Yba.underlying43 hii hz0 hz1 hz2 rfl (by decide) u27 zs.length (zs.flatMap f5p) (by simp [Act.eval, Act.put]) (HO3.out.alloc _) ⟨w3.heap.size, 0, none⟩ 1 1 (f5p ((i : Int) + 1, .slice (some ⟨l3, 0, none⟩) d cl3, .slice (some ⟨u3, 0, none⟩) d cu3)) (by simp [Act.eval, Act.put]) rfl (news5p _ _ _ _ _) (f5p_one _ _ _ _ _ _ _) (by decide) (by simp only [maxLen]; omega) (by omega) (by simp; omega) (w3.heap.size + 1) (by simp) ?_; intro g4 cap4 w4 hown' hgrow hat4 hlt4; have sx1 : w.heap.size + 1 < X.heap.size := (by have := HM2x.out.1; omega); have nr : ∀ b, b < X.heap.size → some b ≠ u27.ownBlock := (fun b hb e => by have := (HO3.out.lt b e.symm).1; omega); have BA4 := (Below.refl w3.heap.size w3).alloc (Nat.le_refl _) (.cells #[.int .i64 ((i : Int) + 1), .slice (some ⟨l3, 0, none⟩) d cl3, .slice (some ⟨u3, 0, none⟩) d cu3, .bool false, .int .i64 0] 45); have kd1 : w4.cell? ⟨w.heap.size, i, none⟩ = some (.float .f64 (h lo)) := hgrow.cell ((BA4.cell (p := ⟨w.heap.size, i, none⟩) (by simp; omega)).trans kc1) (nr _ (by simp; omega)); have kd2 : w4.cell? ⟨w.heap.size + 1, i, none⟩ = some (.float .f64 (h hi)) := hgrow.cell ((BA4.cell (p := ⟨w.heap.size + 1, i, none⟩) (by simp; omega)).trans kc2) (nr _ (by simp; omega)); have HO4 := Hid.mk (own_app f5p hown'); have HGw := Hid.mk hgrow; have HBA4 := Hid.mk BA4; clear hown' hgrow hat4 nr BA4 sx1))
                          have HB4 := Hid.mk (((HBr.out.trans (HB3.out.mono hsr)).trans (HBA4.out.mono (by omega))).grown HGw.out (by simp; omega) (fun g hg => (HO3.out.lt g hg).1))
                          have N4 : NF (w3.alloc (.cells #[.int .i64 ((i : Int) + 1), .slice (some ⟨l3, 0, none⟩) d cl3, .slice (some ⟨u3, 0, none⟩) d cu3, .bool false, .int .i64 0] 45)) u27 := (HN.out.below HO.out HB3.out).below HO3.out HBA4.out
                          have HNN : Hid (NF w4 (.slice (some ⟨g4, 0, none⟩) (zs.length + 1) cap4)) := ⟨own_nf5 HO4.out (by simp)⟩
                          have HZ4 : Hid (∀ j, j < t + 1 → ∃ l u, (zs ++ [((i : Int) + 1, Value.slice (some ⟨l3, 0, none⟩) d cl3, Value.slice (some ⟨u3, 0, none⟩) d cu3)])[j]? = some (((oO a6 n j : Nat) : Int) + 1, l, u) ∧ CO h w4 d l u (loZ a0 g wd (oO a6 n j)) (hiZ a0 g wd (oO a6 n j))) := ⟨fun j hj => by
                            by_cases hjt : j < t
                            · obtain ⟨l, u, q1, q2⟩ := Hzs.out j hjt
                              refine ⟨l, u, ?_, ((q2.below HB3.out).below HBA4.out).kept hd0 N4 HGw.out⟩
                              rw [List.getElem?_append_left (by rw [Hzl.out]; exact hjt)]
                              exact q1
                            · obtain rfl : j = t := by omega
                              refine ⟨.slice (some ⟨l3, 0, none⟩) d cl3, .slice (some ⟨u3, 0, none⟩) d cu3, ?_, ?_⟩
                              · rw [List.getElem?_append_right (by rw [Hzl.out]; exact Nat.le_refl _), Hzl.out, Nat.sub_self, ← Hi.out]
                                rfl
                              · rw [← Hi.out, Hlo.out, Hhi.out]
                                exact (HG3.out.below HBA4.out).kept hd0 N4 HGw.out⟩
                          have HL4 : Hid ((zs ++ [((i : Int) + 1, Value.slice (some ⟨l3, 0, none⟩) d cl3, Value.slice (some ⟨u3, 0, none⟩) d cu3)]).length = t + 1) := ⟨by rw [List.length_append, Hzl.out]; rfl⟩
                          clear N4 kc1 kc2 kd1 kd2 c1 c2 hwr
                          go_wp2_with fail
                          go_roundw
                          case rel => exact ⟨t + 1, _, by omega, by go_num, HO4.out, HNN.out, HL4.out, HZ4.out, HB4.out⟩
                          case measure => simp only [intOf]; omega
                    · obtain rfl : n = t := by omega
                      have ht' : ¬ (n : Int) < (n : Int) := by omega
                      go_wp2_with fail
                      go_meet
                      exact ⟨zs, HO.out, Hzl.out, Hzs.out, HBr.out⟩
            case rest =>
              as_aux_lemma =>
                obtain ⟨zs, hO, hzl, hzs, hBz⟩ := hcut
                generalize wc = V at *
                have HOz := Hid.mk hO
                have Hzl := Hid.mk hzl
                have Hzs := Hid.mk hzs
                have HBz := Hid.mk hBz
                have hsV := hBz.size
                clear hO hzl hzs hBz sZC HZC mc
                obtain ⟨p, hp, hp2⟩ : ∃ p : Nat, a7 % 3 = (p : Int) ∧ p ≤ 2 := ⟨(a7 % 3).toNat, by omega, by omega⟩
                obtain ⟨ZP, sZP, HZP, mp⟩ := mk_ex Yba.underlying46 info48 p (by omega) (by omega)
                have sx1 : w.heap.size + 1 < X.heap.size := by have := HM2x.out.1; omega
                go_upto_block 4 with fail
                have Hp := Hid.mk hp
                clear hp
                go_cut [31, 32] from 134 to 146 (fun v31 v32 wx => ∃ qs : List PT, wx.ownsRow V.heap.size 48 3 v31 qs.length (qs.flatMap fP) ∧ NF wx v31 ∧ qs.length = p ∧ (∀ j, j < p → ∃ l u, qs[j]? = some (-1 - (j : Int), l, u) ∧ CO h wx d l u 0 2) ∧ Below V.heap.size V wx)
                case first =>
                  as_aux_lemma =>
                    have OW := World.ownsRow_made (base := V.heap.size) (e := 48) (size := 3) V ZP p (Nat.le_refl _) (by simp only [maxLen]; omega) sZP
                    have BXA := (Below.refl V.heap.size V).alloc (Nat.le_refl _) (.cells ZP 48)
                    have HOW := Hid.mk OW
                    have HNF0 : Hid (NF (V.alloc (.cells ZP 48)) (.slice (some ⟨V.heap.size, 0, none⟩) 0 p)) := ⟨made_nf V ZP 48 0 p (fun x hx => by
                      have := HZP.out 0 x hx
                      subst this
                      intro k y e
                      cases e)⟩
                    have HBXA := Hid.mk BXA
                    clear OW BXA
                    go_wp2_with fail
                    go_loopw [31, 32] (fun v31 vk wr => ∃ (k : Nat) (qs : List PT), k ≤ p ∧ vk = .int .i64 (k : Int) ∧ wr.ownsRow V.heap.size 48 3 v31 qs.length (qs.flatMap fP) ∧ NF wr v31 ∧ qs.length = k ∧ (∀ j, j < k → ∃ l u, qs[j]? = some (-1 - (j : Int), l, u) ∧ CO h wr d l u 0 2) ∧ Below V.heap.size V wr) (fun _ vk _ => p - (intOf vk).toNat)
                    case atStart => exact ⟨0, [], Nat.zero_le _, rfl, HOW.out, HNF0.out, rfl, fun j hj => by omega, HBXA.out⟩
                    case round =>
                      as_aux_lemma =>
                        obtain ⟨k, qs, hk, rfl, hO, hN, hql, hqs, hBr⟩ := hrel
                        have HO := Hid.mk hO
                        have HN := Hid.mk hN
                        have Hql := Hid.mk hql
                        have Hqs := Hid.mk hqs
                        have HBr := Hid.mk hBr
                        have hsr := hBr.size
                        have hql5 : qs.length ≤ 2 := by omega
                        clear hO hN hql hqs hBr
                        by_cases hkp : k < p
                        · have hk' : (k : Int) < (p : Int) := by omega
                          have hk0 : (0 : Int) ≤ (k : Int) := by omega
                          have CB0 := CBX.out wr 0 2 (by unfold RG; omega) (by unfold RG; omega)
                          rw [K.c0, K.c1] at CB0
                          have HCB0 := Hid.mk CB0
                          have hwr : IntKind.i64.wrap (-1 - (k : Int)) = -1 - (k : Int) := by simp [IntKind.wrap, IntKind.bits, IntKind.signed]; omega
                          obtain ⟨ii, hii, hz0, hz1, hz2⟩ := info_parts info48
                          clear CB0
                          go_wp2_with fail
                          refine HCB0.out.mono ?_
                          rintro e w3 ⟨l, u, rfl, G3, B3⟩
                          have HG3 := Hid.mk G3
                          obtain ⟨⟨l3, cl3, rfl, _, _, _⟩, ⟨u3, cu3, rfl, _, _, _⟩, _, _⟩ := G3
                          have HB3 := Hid.mk B3
                          have HO3 := Hid.mk (own_below HO.out B3)
                          have hs3 := B3.size
                          clear B3 HCB0
                          dsimp only
                          go_wp2_with (at_builtin; refine wpList_append_own _ rfl _ _ 46 rfl V.heap.size 48 ii (.agg #[.int .i64 0, .slice none 0 0, .slice none 0 0]) 3 56 Yba.underlying46 hii hz0 hz1 hz2 rfl (by decide) _ qs.length (qs.flatMap fP) rfl (HO3.out.alloc _) ⟨w3.heap.size, 0, none⟩ 1 1 (fP (-1 - (k : Int), .slice (some ⟨l3, 0, none⟩) d cl3, .slice (some ⟨u3, 0, none⟩) d cu3)) rfl rfl (newsP _ _ _ _ _) (fP_one _ _ _ _ _ _ _) (by simp only [maxLen]; omega) (by omega) (by simp; omega) ?_)
                          intro v' w4 hown' hgrow _
                          have BA4 := (Below.refl w3.heap.size w3).alloc (Nat.le_refl _) (.cells #[.int .i64 (-1 - (k : Int)), .slice (some ⟨l3, 0, none⟩) d cl3, .slice (some ⟨u3, 0, none⟩) d cu3] 48)
                          have N4 := (HN.out.below HO.out HB3.out).below HO3.out BA4
                          have O4 := own_app fP hown'
                          have HO4 := Hid.mk O4
                          have HNN := Hid.mk (own_nf O4 (by simp))
                          have HB4 := Hid.mk (((HBr.out.trans (HB3.out.mono hsr)).trans (BA4.mono (by omega))).grown hgrow (by simp; omega) (fun g hg => (HO3.out.lt g hg).1))
                          have HL4 : Hid ((qs ++ [(-1 - (k : Int), Value.slice (some ⟨l3, 0, none⟩) d cl3, Value.slice (some ⟨u3, 0, none⟩) d cu3)]).length = k + 1) := ⟨by rw [List.length_append, Hql.out]; rfl⟩
                          have HZ4 : Hid (∀ j, j < k + 1 → ∃ l u, (qs ++ [(-1 - (k : Int), Value.slice (some ⟨l3, 0, none⟩) d cl3, Value.slice (some ⟨u3, 0, none⟩) d cu3)])[j]? = some (-1 - (j : Int), l, u) ∧ CO h w4 d l u 0 2) := ⟨fun j hj => by
                            by_cases hjt : j < k
                            · obtain ⟨l, u, q1, q2⟩ := Hqs.out j hjt
                              refine ⟨l, u, ?_, ((q2.below HB3.out).below BA4).kept hd0 N4 hgrow⟩
                              rw [List.getElem?_append_left (by rw [Hql.out]; exact hjt)]
                              exact q1
                            · obtain rfl : j = k := by omega
                              refine ⟨.slice (some ⟨l3, 0, none⟩) d cl3, .slice (some ⟨u3, 0, none⟩) d cu3, ?_, (HG3.out.below BA4).kept hd0 N4 hgrow⟩
                              rw [List.getElem?_append_right (by rw [Hql.out]; exact Nat.le_refl _), Hql.out, Nat.sub_self]
                              rfl⟩
                          clear N4 hown' hgrow BA4 O4 hwr
                          go_wp2_with fail
                          go_roundw
                          case rel => exact ⟨k + 1, _, by omega, by go_num, HO4.out, HNN.out, HL4.out, HZ4.out, HB4.out⟩
                          case measure => simp only [intOf]; omega
                        · obtain rfl : p = k := by omega
                          have hk' : ¬ (p : Int) < (p : Int) := by omega
                          go_wp2_with fail
                          go_meet
                          exact ⟨qs, HO.out, HN.out, Hql.out, Hqs.out, HBr.out⟩
                case rest =>
                  as_aux_lemma =>
                    obtain ⟨qs, hO, hN, hql, hqs, hBr⟩ := hcut
                    generalize wc = Y at *
                    have HO := Hid.mk hO
                    have HN := Hid.mk hN
                    have Hql := Hid.mk hql
                    have Hqs := Hid.mk hqs
                    have HBr := Hid.mk hBr
                    have hsY := hBr.size
                    clear hO hN hql hqs hBr sZP HZP mp
                    have CBh := CBX.out Y (-2000000000) 2000000000 (by unfold RG; omega) (by unfold RG; omega)
                    rw [K.cm, K.cp] at CBh
                    have HCBh := Hid.mk CBh
                    clear CBh
                    go_wp2_with fail
                    refine HCBh.out.mono ?_
                    rintro e w3 ⟨l, u, rfl, G3, B3⟩
                    have HG3 := Hid.mk G3
                    obtain ⟨⟨l3, cl3, rfl, _, _, _⟩, ⟨u3, cu3, rfl, _, _, _⟩, _, _⟩ := G3
                    have HB3 := Hid.mk B3
                    have hs3 := B3.size
                    clear B3 HCBh
                    dsimp only
                    go_upto_region 35 with fail
                    have hs3' : w3.heap.size < (w3.alloc (.cells #[.slice (some ⟨l3, 0, none⟩) d cl3, .slice (some ⟨u3, 0, none⟩) d cu3, .slice none 0 0, .slice none 0 0, .slice none 0 0, .slice none 0 0, .bool false, .int .i64 0, .slice none 0 0] 53)).heap.size := by simp
                    obtain ⟨Z, hZ⟩ : ∃ Z, Z = w3.alloc (.cells #[.slice (some ⟨l3, 0, none⟩) d cl3, .slice (some ⟨u3, 0, none⟩) d cu3, .slice none 0 0, .slice none 0 0, .slice none 0 0, .slice none 0 0, .bool false, .int .i64 0, .slice none 0 0] 53) := ⟨_, rfl⟩
                    have BZ : Below w3.heap.size w3 Z := by rw [hZ]; exact (Below.refl _ _).alloc (Nat.le_refl _) _
                    have z0 : Z.cell? ⟨w3.heap.size, 0, none⟩ = some (.slice (some ⟨l3, 0, none⟩) d cl3) := by rw [hZ]; go_simp
                    have z1 : Z.cell? ⟨w3.heap.size, 1, none⟩ = some (.slice (some ⟨u3, 0, none⟩) d cu3) := by rw [hZ]; go_simp
                    rw [← hZ] at hs3'
                    have G3Z := HG3.out.below BZ
                    have HDZ : HD h Z d w3.heap.size := ⟨hs3', _, _, z0, z1, G3Z.1, G3Z.2.1⟩
                    have BYZ : Below Y.heap.size Y Z := HB3.out.trans (BZ.mono (by omega))
                    have BVZ : Below V.heap.size V Z := HBr.out.trans (BYZ.mono (by omega))
                    have BXZ : Below X.heap.size X Z := HBz.out.trans (BVZ.mono (by omega))
                    have sZ := BYZ.size
                    have xg0 := (BXZ.cell (p := ⟨w2.heap.size, 0, none⟩) (by have := HsX.out; simp; omega)).trans Hx0.out
                    have xg1 := (BXZ.cell (p := ⟨w2.heap.size, 1, none⟩) (by have := HsX.out; simp; omega)).trans Hx1.out
                    have OZ := own_below HO.out BYZ
                    have NZ := HN.out.below HO.out BYZ
                    have ZZ : ZW h Z d u27 n (zZ a0 g wd a6 n) := (own_zwp (z := zZ a0 g wd a6 n) HOz.out Hzl.out Hzs.out).below BVZ
                    have eAB := eA.out
                    have PRE : HPre h d w3.heap.size Z n V.heap.size (.slice (some ⟨gl, 0, none⟩) d cl) (.slice (some ⟨gu, 0, none⟩) d cu') u27 u31 A B (zZ a0 g wd a6 n) qs (oO a6 (SM a0 g wd n A B).length) (fun j => loZ a0 g wd ((SM a0 g wd n A B).getD j 0)) (fun j => hiZ a0 g wd ((SM a0 g wd n A B).getD j 0)) := by
                      refine ⟨by omega, HDZ, HGx.out.below BXZ, by omega, ⟨a3, eAB.1⟩, ⟨a3 + 1 + a4, by omega⟩, by unfold R2; omega, by unfold R2; omega, ZZ, fun i hi => ?_, OZ, by rw [Hql.out]; omega, fun _ => by rw [Hql.out]; omega, NZ, ?_, ?_, by omega, zz_az a0 g wd a6 n A B Hg.out Hw.out⟩
                      · have q := z_bd (a0 := a0) Hg.out Hw.out h0 (n := n) (by omega) (oO_lt (rev := a6) hi)
                        refine ⟨?_, ?_, ⟨_, rfl⟩⟩
                        · show R2 (loZ a0 g wd (oO a6 n i)); unfold R2; omega
                        · show R2 (hiZ a0 g wd (oO a6 n i)); unfold R2; omega
                      · exact own_old_ne HO.out (by omega)
                      · cases hu : u27.ownBlock with
                        | none => exact .inl rfl
                        | some b =>
                          refine .inr fun e => ?_
                          have h1 := (HOz.out.lt b hu).2
                          have h2 := (OZ.lt b e.symm).1
                          omega
                    have HG := hand_any h K d w3.heap.size Z n V.heap.size _ _ u27 u31 A B _ qs _ _ _ hd0 hd2 PRE
                    have HHG := Hid.mk HG
                    have HBXZ := Hid.mk BXZ
                    have HBYZ := Hid.mk BYZ
                    have HOZ := Hid.mk OZ
                    have HNZ := Hid.mk NZ
                    clear HG PRE ZZ BZ BYZ BVZ BXZ G3Z HDZ z0 z1 OZ NZ eAB hs3'
                    rw [← hZ]
                    clear hZ
                    go_wp2_with fail
                    refine HHG.out.mono ?_
                    rintro e w6 ⟨v', Q, rfl, own6, hQl, hQp, gb6, hat6⟩
                    rw [zz_len] at hQl hQp
                    have B6 : Below V.heap.size Z w6 := gb_base HOZ.out gb6 (by omega)
                    have BX6 : Below X.heap.size X w6 := HBXZ.out.trans (B6.mono (by omega))
                    have HBX6 := Hid.mk BX6
                    have HG6 := Hid.mk (HGx.out.below BX6)
                    have HL6 := Hid.mk (HM1x.out.below BX6)
                    have HU6 := Hid.mk (HM2x.out.below BX6)
                    have y0 := (BX6.cell (p := ⟨w2.heap.size, 0, none⟩) (by have := HsX.out; simp; omega)).trans Hx0.out
                    have y1 := (BX6.cell (p := ⟨w2.heap.size, 1, none⟩) (by have := HsX.out; simp; omega)).trans Hx1.out
                    have Hy0 := Hid.mk y0
                    have Hy1 := Hid.mk y1
                    have Hq6 : Hid (∀ j, j < p → ∃ l u, qs[j]? = some (-1 - (j : Int), l, u) ∧ CO h w6 d l u 0 2) := ⟨fun j hj => by
                      obtain ⟨l, u, q1, q2⟩ := Hqs.out j hj
                      exact ⟨l, u, q1, (q2.below HBYZ.out).kept hd0 HNZ.out gb6⟩⟩
                    have HO6 := Hid.mk own6
                    have HQl := Hid.mk hQl
                    have HQp := Hid.mk hQp
                    have HBw6 := Hid.mk (HBx.out.trans (BX6.mono (by have := HBx.out.size; omega)))
                    have s6 := BX6.size
                    clear HHG own6 hQl hQp gb6 hat6 B6 BX6 y0 y1 xg0 xg1
                    dsimp only
                    go_upto_block 6 with fail
                    go_cut [35, 36] from 157 to 178 (fun v35 v36 wx => wx.ownsRow w6.heap.size 3 1 v35 (SM a0 g wd n A B).length ((SM a0 g wd n A B).flatMap fI) ∧ Below w6.heap.size w6 wx)
                    case first =>
                      as_aux_lemma =>
                        go_wp2_with fail
                        go_loopw [35, 36] (fun v35 vk wr => ∃ k : Nat, k ≤ n ∧ vk = .int .i64 (k : Int) ∧ wr.ownsRow w6.heap.size 3 1 v35 (SM a0 g wd k A B).length ((SM a0 g wd k A B).flatMap fI) ∧ Below w6.heap.size w6 wr) (fun _ vk _ => n - (intOf vk).toNat)
                        case atStart => exact ⟨0, Nat.zero_le _, rfl, World.ownsRow_nil _ _ _ _, Below.refl _ _⟩
                        case round =>
                          as_aux_lemma =>
                            obtain ⟨k, hk, rfl, hO, hB⟩ := hrel
                            have HOr := Hid.mk hO
                            have HBr6 := Hid.mk hB
                            have hsr := hB.size
                            clear hO hB
                            by_cases hkn : k < n
                            · have hk' : (k : Int) < (n : Int) := by omega
                              have hk0 : (0 : Int) ≤ (k : Int) := by omega
                              have c1 := (HL6.out.below HBr6.out).2.1 k hkn
                              have c2 := (HU6.out.below HBr6.out).2.1 k hkn
                              have p1 : pre (loZ a0 g wd) n k = loZ a0 g wd k := by unfold pre; rw [if_pos hkn]
                              have p2 : pre (hiZ a0 g wd) n k = hiZ a0 g wd k := by unfold pre; rw [if_pos hkn]
                              rw [p1] at c1
                              rw [p2] at c2
                              have ck := HCU.out k hkn
                              have gAB := HG6.out.2.2
                              have m1 := K.mx ck.1 gAB.1
                              have m2 := K.mn ck.2.1 gAB.2
                              have o1 := K.lt (u := max (loZ a0 g wd k) A) (v := min (hiZ a0 g wd k) B) (by have := ck.1; have := gAB.1; unfold RG at *; omega) (by have := ck.2.1; have := gAB.2; unfold RG at *; omega)
                              have EQ : Hid (mt (loZ a0 g wd k) (hiZ a0 g wd k) A B = decide (max (loZ a0 g wd k) A < min (hiZ a0 g wd k) B)) := ⟨rfl⟩
                              have hsl := ss_len a0 g wd k A B
                              clear p1 p2 ck gAB
                              generalize max (loZ a0 g wd k) A = mx at *
                              generalize min (hiZ a0 g wd k) B = mn at *
                              cases hr : decide (mx < mn) <;> rw [hr] at o1
                              · have Er : Hid (mt (loZ a0 g wd k) (hiZ a0 g wd k) A B = false) := ⟨by rw [EQ.out, hr]⟩
                                clear hr
                                go_wp2_with fail
                                go_quiet (fail)
                                have BN := Below.drewN (Below.refl wr.heap.size wr) nq
                                have HON := Hid.mk (own_below HOr.out BN)
                                have HBN := Hid.mk (HBr6.out.trans (BN.mono hsr))
                                obtain ⟨ja, jc, rfl⟩ := own_len HOr.out
                                clear BN
                                go_wp2_with fail
                                go_roundw
                                case rel => exact ⟨k + 1, by omega, by go_num, by rw [ss_no Er.out]; exact HON.out, HBN.out⟩
                                case measure => simp only [intOf]; omega
                              · have Er : Hid (mt (loZ a0 g wd k) (hiZ a0 g wd k) A B = true) := ⟨by rw [EQ.out, hr]⟩
                                clear hr
                                obtain ⟨ii, hii, hz0, hz1, hz2⟩ := info_parts info3
                                go_wp2_with fail
                                go_quiet (fail)
                                have BN := Below.drewN (Below.refl wr.heap.size wr) nq
                                have HON := Hid.mk (own_below HOr.out BN)
                                have HBN := Hid.mk (HBr6.out.trans (BN.mono hsr))
                                have sN : (wr.drewN nq).heap.size = wr.heap.size := rfl
                                clear BN
                                generalize wr.drewN nq = wn at *
                                have HsN := Hid.mk sN
                                clear sN
                                go_wp2_with (at_builtin; refine wpList_append_own _ rfl _ _ 55 rfl w6.heap.size 3 ii (.int .i64 0) 1 8 und55 hii hz0 hz1 hz2 rfl (by decide) _ (SM a0 g wd k A B).length ((SM a0 g wd k A B).flatMap fI) rfl (HON.out.alloc _) ⟨wn.heap.size, 0, none⟩ 1 1 (fI k) rfl rfl (newsI _ _ _) (fI_one _) (by simp only [maxLen]; omega) (by omega) (by have := HsN.out; simp; omega) ?_)
                                intro v'' w7 hown' hgrow _
                                have HO7 := Hid.mk (own_app fI hown')
                                have HB7 := Hid.mk ((HBN.out.alloc HBN.out.size (.cells #[.int .i64 (k : Int)] 3)).grown hgrow (by have := HsN.out; simp; omega) (fun g hg => (HON.out.lt g hg).1))
                                clear hown' hgrow
                                go_wp2_with fail
                                go_roundw
                                case rel => exact ⟨k + 1, by omega, by go_num, by rw [ss_yes Er.out]; exact HO7.out, HB7.out⟩
                                case measure => simp only [intOf]; omega
                            · obtain rfl : n = k := by omega
                              have hk' : ¬ (n : Int) < (n : Int) := by omega
                              go_wp2_with fail
                              go_meet
                              exact ⟨HOr.out, HBr6.out⟩
                    case rest =>
                      as_aux_lemma =>
                        obtain ⟨hOm, hBm⟩ := hcut
                        generalize wc = T at *
                        have HOm := Hid.mk hOm
                        have HBm := Hid.mk hBm
                        have hsT := hBm.size
                        obtain ⟨ao, cm, rfl, hmr⟩ := own_ints hOm
                        have Hmr := Hid.mk hmr
                        clear hOm hBm hmr
                        obtain ⟨m, hm⟩ : ∃ m, m = (SM a0 g wd n A B).length := ⟨_, rfl⟩
                        obtain ⟨M, hM⟩ : ∃ M, M = max m 1 := ⟨_, rfl⟩
                        have hmn := ss_len a0 g wd n A B
                        rw [← hm] at hmn ⊢
                        have Hm := Hid.mk hm
                        have HM := Hid.mk hM
                        have hM1 : 1 ≤ M ∧ M ≤ 513 := by omega
                        clear hm hM
                        go_upto_if 182 with fail
                        go_cut [37] from 182 (fun v wx => v = .int .i64 (M : Int) ∧ wx = T)
                        case first =>
                          as_aux_lemma =>
                            by_cases hm0 : m = 0
                            · have eM : M = 1 := by rw [HM.out]; omega
                              subst hm0
                              subst eM
                              go_wp2_with fail
                              go_meet
                              exact ⟨rfl, rfl⟩
                            · have eM : M = m := by rw [HM.out]; omega
                              subst eM
                              have hm0' : ¬ (M : Int) = 0 := by omega
                              go_wp2_with fail
                              go_meet
                              exact ⟨rfl, rfl⟩
                        case rest =>
                          as_aux_lemma =>
                            obtain ⟨rfl, hww⟩ := hcut
                            obtain rfl := hww.symm
                            clear hww
                            have HOT := own_below HO6.out HBm.out
                            have hlen : (qs ++ Q).length = p + M := by rw [List.length_append, Hql.out, HQl.out, HM.out, Hm.out]
                            have HqT : Hid (∀ j, j < p → ∃ l u, (qs ++ Q)[j]? = some (-1 - (j : Int), l, u) ∧ CO h T d l u 0 2) := ⟨fun j hj => by
                              obtain ⟨l, u, q1, q2⟩ := Hq6.out j hj
                              exact ⟨l, u, by rw [List.getElem?_append_left (by rw [Hql.out]; exact hj)]; exact q1, q2.below HBm.out⟩⟩
                            have HQT : Hid (∀ j, j < M → ∃ l u, (qs ++ Q)[p + j]? = some (rkj n (zZ a0 g wd a6 n) A B (oO a6 (SM a0 g wd n A B).length) j, l, u) ∧ CO h T d l u (Ej m A B (fun j => loZ a0 g wd ((SM a0 g wd n A B).getD j 0)) j) (Ej m A B (fun j => loZ a0 g wd ((SM a0 g wd n A B).getD j 0)) (j + 1))) := ⟨fun j hj => by
                              obtain ⟨l, u, q1, q2⟩ := HQp.out j (by rw [HQl.out, ← Hm.out, ← HM.out]; exact hj)
                              rw [← Hm.out] at q2
                              refine ⟨l, u, ?_, q2.below HBm.out⟩
                              rw [List.getElem?_append_right (by rw [Hql.out]; omega), Hql.out, Nat.add_sub_cancel_left]
                              exact q1⟩
                            obtain ⟨gg, gc, hv, hgl, _⟩ := own_part HOT (gdp (qs ++ Q) p (by rw [hlen]; omega))
                            rw [hlen] at hv
                            subst hv
                            have HPc : Hid (∀ (t : Nat) (r : Int) (l u : Value), (qs ++ Q)[t]? = some (r, l, u) → T.cell? ⟨gg, t * 3, none⟩ = some (.int .i64 r) ∧ T.cell? ⟨gg, t * 3 + 1, none⟩ = some l ∧ T.cell? ⟨gg, t * 3 + 2, none⟩ = some u) := ⟨fun t r l u ht => by
                              obtain ⟨g', c', e, _, q1, q2, q3⟩ := own_part HOT ht
                              simp only [Value.slice.injEq, Option.some.injEq, Addr.mk.injEq] at e
                              obtain ⟨⟨rfl, _⟩, _, _⟩ := e
                              exact ⟨q1, q2, q3⟩⟩
                            have HGT := Hid.mk (HG6.out.below HBm.out)
                            have HLT := Hid.mk (HL6.out.below HBm.out)
                            have tg0 := (HBm.out.cell (p := ⟨w2.heap.size, 0, none⟩) (by have := HsX.out; simp; omega)).trans Hy0.out
                            have tg1 := (HBm.out.cell (p := ⟨w2.heap.size, 1, none⟩) (by have := HsX.out; simp; omega)).trans Hy1.out
                            have Htg0 := Hid.mk tg0
                            have Htg1 := Hid.mk tg1
                            have HBwT := Hid.mk (HBw6.out.trans (HBm.out.mono (by have := HBw6.out.size; omega)))
                            have sT : w2.heap.size < T.heap.size := by have := HsX.out; omega
                            clear HOT hlen tg0 tg1
                            have hpM : (((p + M : Nat) : Int) = (p : Int) + (M : Int)) := by omega
                            go_upto_block 8 with fail
                            go_cut [38] from 189 to 211 (fun v wx => Below T.heap.size T wx)
                            case first =>
                              as_aux_lemma =>
                                go_wp2_with fail
                                go_loopw [38] (fun vk wr => ∃ k : Nat, k ≤ p ∧ vk = .int .i64 (k : Int) ∧ Below T.heap.size T wr) (fun vk _ => p - (intOf vk).toNat)
                                case atStart => exact ⟨0, Nat.zero_le _, rfl, Below.refl _ _⟩
                                case round =>
                                  as_aux_lemma =>
                                    obtain ⟨k, hk, rfl, hB⟩ := hrel
                                    have HBk := Hid.mk hB
                                    have hsr := hB.size
                                    clear hB
                                    by_cases hkp : k < p
                                    · have hk' : (k : Int) < (p : Int) := by omega
                                      have hk0 : (0 : Int) ≤ (k : Int) := by omega
                                      have hkM : (k : Int) < (p : Int) + (M : Int) := by omega
                                      obtain ⟨l, u, q1, q2⟩ := HqT.out k hkp
                                      have cq := HPc.out k _ _ _ q1
                                      have r0 := (HBk.out.cell (p := ⟨gg, k * 3, none⟩) hgl).trans cq.1
                                      have r1 := (HBk.out.cell (p := ⟨gg, k * 3 + 1, none⟩) hgl).trans cq.2.1
                                      have r2 := (HBk.out.cell (p := ⟨gg, k * 3 + 2, none⟩) hgl).trans cq.2.2
                                      have CI := CIX.out wr l u 0 2 (q2.below HBk.out)
                                      rw [K.c0, K.c1] at CI
                                      have HCI := Hid.mk CI
                                      have hwr : IntKind.i64.wrap (-1 - (k : Int)) = -1 - (k : Int) := by simp [IntKind.wrap, IntKind.bits, IntKind.signed]; omega
                                      clear CI cq q1 q2
                                      go_wp2_with fail
                                      refine HCI.out.mono ?_
                                      rintro e w7 ⟨rfl, B7⟩
                                      have HB7 := Hid.mk (HBk.out.trans (B7.mono hsr))
                                      clear B7 HCI r0 r1 r2
                                      dsimp only
                                      go_wp2_with fail
                                      go_roundw
                                      case rel => exact ⟨k + 1, by omega, by go_num, HB7.out⟩
                                      case measure => simp only [intOf]; omega
                                    · obtain rfl : p = k := by omega
                                      have hk' : ¬ (p : Int) < (p : Int) := by omega
                                      go_wp2_with fail
                                      go_meet
                                      exact HBk.out
                            case rest =>
                              as_aux_lemma =>
                                have HBU := Hid.mk hcut
                                have hsU := hcut.size
                                generalize wc = U at *
                                clear hcut
                                have ug0 := (HBU.out.cell (p := ⟨w2.heap.size, 0, none⟩) sT).trans Htg0.out
                                have ug1 := (HBU.out.cell (p := ⟨w2.heap.size, 1, none⟩) sT).trans Htg1.out
                                have CI := CIX.out U _ _ A B (HGT.out.below HBU.out)
                                have HCI := Hid.mk CI
                                clear CI
                                go_wp2_with fail
                                refine HCI.out.mono ?_
                                rintro e w7 ⟨rfl, B7⟩
                                have HB7 := Hid.mk (HBU.out.trans (B7.mono hsU))
                                have hs7 := HB7.out.size
                                clear B7 HCI ug0 ug1
                                dsimp only
                                by_cases hm0 : m = 0
                                · have hS0 : (SM a0 g wd n A B).length = 0 := by rw [← Hm.out]; exact hm0
                                  obtain ⟨l, u, q1, q2⟩ := HQT.out 0 (by omega)
                                  rw [zz_rk0 a0 g wd a6 n A B hS0] at q1
                                  have cq := HPc.out _ _ _ _ q1
                                  rw [Nat.add_zero] at cq
                                  have r0 := (HB7.out.cell (p := ⟨gg, p * 3, none⟩) hgl).trans cq.1
                                  have r1 := (HB7.out.cell (p := ⟨gg, p * 3 + 1, none⟩) hgl).trans cq.2.1
                                  have r2 := (HB7.out.cell (p := ⟨gg, p * 3 + 2, none⟩) hgl).trans cq.2.2
                                  have e0 : Ej m A B (fun j => loZ a0 g wd ((SM a0 g wd n A B).getD j 0)) 0 = A := by simp [Ej]
                                  have e1 : Ej m A B (fun j => loZ a0 g wd ((SM a0 g wd n A B).getD j 0)) (0 + 1) = B := by unfold Ej; rw [if_neg (by omega), if_neg (by omega)]
                                  rw [e0, e1] at q2
                                  have CI := CIX.out w7 l u A B (q2.below HB7.out)
                                  have HCI := Hid.mk CI
                                  have hp0 : (0 : Int) ≤ (p : Int) := by omega
                                  have hpM0 : (p : Int) < (p : Int) + (M : Int) := by omega
                                  have hm0' : (m : Int) = 0 := by omega
                                  have HBf := Hid.mk (HBwT.out.trans (HB7.out.mono (by have := HBwT.out.size; omega)))
                                  subst hm0
                                  clear CI cq q1 q2 e0 e1 hS0
                                  go_wp2_with fail
                                  refine HCI.out.mono ?_
                                  rintro e w8 ⟨rfl, B8⟩
                                  have HB8 := Hid.mk (HBf.out.trans (B8.mono (by have := HBf.out.size; omega)))
                                  clear B8 HCI r0 r1 r2
                                  dsimp only
                                  go_wp2_with fail
                                  go_ret
                                  exact ⟨rfl, HB8.out⟩
                                · have hm0' : ¬ (m : Int) = 0 := by omega
                                  have hmb : ((m : Int) == 0) = false := by simp; omega
                                  have eM : M = m := by rw [HM.out]; omega
                                  obtain ⟨gm, rfl, hgm, hmc⟩ := Hmr.out (by rw [← Hm.out]; omega)
                                  have Hmc := Hid.mk hmc
                                  clear hmc
                                  have Hgm : gm < T.heap.size := by omega
                                  have HmcT : Hid (∀ j, j < m → T.cell? ⟨gm, j, none⟩ = some (.int .i64 (((SM a0 g wd n A B).getD j 0 : Nat) : Int))) := ⟨fun j hj => Hmc.out j (by rw [← Hm.out]; exact hj)⟩
                                  have HBf := Hid.mk (HBwT.out.trans (HB7.out.mono (by have := HBwT.out.size; omega)))
                                  subst eM
                                  go_upto_block 10 with fail
                                  go_wp2_with fail
                                  go_loopw [240] (fun vk wr => ∃ t : Nat, t ≤ M ∧ vk = .int .i64 (t : Int) ∧ Below w7.heap.size w7 wr) (fun vk _ => M - (intOf vk).toNat)
                                  case atStart => exact ⟨0, Nat.zero_le _, rfl, Below.refl _ _⟩
                                  case round =>
                                    as_aux_lemma =>
                                      obtain ⟨t, ht, rfl, hB⟩ := hrel
                                      have HBT : Hid (Below T.heap.size T wr) := ⟨HB7.out.trans (hB.mono hs7)⟩
                                      have HBk := Hid.mk hB
                                      have hsr := hB.size
                                      clear hB
                                      by_cases htm : t < M
                                      · have ht' : (t : Int) < (M : Int) := by omega
                                        have ht0 : (0 : Int) ≤ (t : Int) := by omega
                                        have hSt : t < (SM a0 g wd n A B).length := by rw [← Hm.out]; exact htm
                                        obtain ⟨i, hi⟩ : ∃ i, i = (SM a0 g wd n A B).getD t 0 := ⟨_, rfl⟩
                                        have hin : i < n := by rw [hi]; exact ss_lt hSt
                                        have cm1 := (HBT.out.cell (p := ⟨gm, t, none⟩) Hgm).trans (HmcT.out t htm)
                                        rw [← hi] at cm1
                                        have cl1 := (HLT.out.below HBT.out).2.1 i hin
                                        have p1 : pre (loZ a0 g wd) n i = loZ a0 g wd i := by unfold pre; rw [if_pos hin]
                                        rw [p1] at cl1
                                        have hin0 : (0 : Int) ≤ (i : Int) := by omega
                                        have hin1 : (i : Int) < (n : Int) := by omega
                                        have Hi := Hid.mk hi
                                        clear hi p1
                                        obtain ⟨lo, hlo⟩ : ∃ lo, lo = Ej M A B (fun j => loZ a0 g wd ((SM a0 g wd n A B).getD j 0)) t := ⟨_, rfl⟩
                                        obtain ⟨hi, hhi⟩ : ∃ hi, hi = Ej M A B (fun j => loZ a0 g wd ((SM a0 g wd n A B).getD j 0)) (t + 1) := ⟨_, rfl⟩
                                        have Hlo := Hid.mk hlo
                                        have Hhi := Hid.mk hhi
                                        clear hlo hhi
                                        go_upto_if 247 with fail
                                        go_cut [41, 240] from 240 to 286 (fun v41 v240 wx => v41 = .float .f64 (h lo) ∧ v240 = .int .i64 (t : Int) ∧ wx = wr)
                                        case first =>
                                          as_aux_lemma =>
                                            by_cases h00 : t = 0
                                            · have e : lo = A := by rw [Hlo.out, h00]; simp [Ej]
                                              subst e
                                              subst h00
                                              go_wp2_with fail
                                              go_meet
                                              exact ⟨rfl, rfl, rfl⟩
                                            · have e : lo = loZ a0 g wd i := by rw [Hlo.out]; unfold Ej; rw [if_neg h00, if_pos htm, Hi.out]
                                              have htp : (0 : Int) < (t : Int) := by omega
                                              rw [← e] at cl1
                                              clear e
                                              go_wp2_with fail
                                              go_meet
                                              exact ⟨rfl, rfl, rfl⟩
                                        case rest =>
                                          as_aux_lemma =>
                                            obtain ⟨rfl, rfl, hww⟩ := hcut
                                            obtain rfl := hww.symm
                                            clear hww cl1
                                            have hwt : IntKind.i64.wrap ((t : Int) + 1) = (t : Int) + 1 := wrap_small _ (by omega) (by omega)
                                            go_upto_if 257 with fail
                                            go_cut [42, 240] from 240 to 286 (fun v42 v240 wx => v42 = .float .f64 (h hi) ∧ v240 = .int .i64 (t : Int) ∧ wx = wr)
                                            case first =>
                                              as_aux_lemma =>
                                                by_cases hl : t + 1 < M
                                                · have hl' : (t : Int) + 1 < (M : Int) := by omega
                                                  have hl0 : (0 : Int) ≤ (t : Int) + 1 := by omega
                                                  have hS1 : t + 1 < (SM a0 g wd n A B).length := by rw [← Hm.out]; exact hl
                                                  obtain ⟨i', hi'⟩ : ∃ i', i' = (SM a0 g wd n A B).getD (t + 1) 0 := ⟨_, rfl⟩
                                                  have hin' : i' < n := by rw [hi']; exact ss_lt hS1
                                                  have cm2 := (HBT.out.cell (p := ⟨gm, t + 1, none⟩) Hgm).trans (HmcT.out (t + 1) hl)
                                                  rw [← hi'] at cm2
                                                  have cl2 := (HLT.out.below HBT.out).2.1 i' hin'
                                                  have p1 : pre (loZ a0 g wd) n i' = loZ a0 g wd i' := by unfold pre; rw [if_pos hin']
                                                  rw [p1] at cl2
                                                  have e : hi = loZ a0 g wd i' := by rw [Hhi.out]; unfold Ej; rw [if_neg (by omega), if_pos hl, hi']
                                                  rw [← e] at cl2
                                                  have hj0 : (0 : Int) ≤ (i' : Int) := by omega
                                                  have hj1 : (i' : Int) < (n : Int) := by omega
                                                  have hto : ((t : Int) + 1).toNat = t + 1 := by omega
                                                  clear e p1 hi'
                                                  go_wp2_with fail
                                                  go_meet
                                                  exact ⟨rfl, rfl, rfl⟩
                                                · have e : hi = B := by rw [Hhi.out]; unfold Ej; rw [if_neg (by omega), if_neg hl]
                                                  have hl' : ¬ (t : Int) + 1 < (M : Int) := by omega
                                                  have He := Hid.mk e
                                                  clear e
                                                  go_wp2_with fail
                                                  go_meet
                                                  exact ⟨by rw [He.out], rfl, rfl⟩
                                            case rest =>
                                              as_aux_lemma =>
                                                obtain ⟨rfl, rfl, hww⟩ := hcut
                                                obtain rfl := hww.symm
                                                clear hww
                                                obtain ⟨l, u, q1, q2⟩ := HQT.out t htm
                                                rw [zz_rk a0 g wd a6 n A B hSt, ← Hi.out] at q1
                                                rw [← Hlo.out, ← Hhi.out] at q2
                                                have cq := HPc.out _ _ _ _ q1
                                                have r0 := (HBT.out.cell (p := ⟨gg, (p + t) * 3, none⟩) hgl).trans cq.1
                                                have r1 := (HBT.out.cell (p := ⟨gg, (p + t) * 3 + 1, none⟩) hgl).trans cq.2.1
                                                have r2 := (HBT.out.cell (p := ⟨gg, (p + t) * 3 + 2, none⟩) hgl).trans cq.2.2
                                                have hpt : ((p : Int) + (t : Int)).toNat = p + t := by omega
                                                have hpt0 : (0 : Int) ≤ (p : Int) + (t : Int) := by omega
                                                have hpt1 : (p : Int) + (t : Int) < (p : Int) + (M : Int) := by omega
                                                have hwi : IntKind.i64.wrap ((i : Int) + 1) = (i : Int) + 1 := wrap_small _ (by omega) (by omega)
                                                have hwp : IntKind.i64.wrap ((p : Int) + (t : Int)) = (p : Int) + (t : Int) := wrap_small _ (by omega) (by omega)
                                                obtain ⟨q21, q22, q23⟩ := q2.below HBT.out
                                                obtain ⟨xb, xc, rfl, _⟩ := q21
                                                obtain ⟨yb, yc, rfl, _⟩ := q22
                                                have BA := (Below.refl wr.heap.size wr).alloc (Nat.le_refl _) (.cells #[.int .i64 ((i : Int) + 1), .slice (some ⟨xb, 0, none⟩) d xc, .slice (some ⟨yb, 0, none⟩) d yc] 48)
                                                have CI := CIX.out _ _ _ lo hi ((q2.below HBT.out).below BA)
                                                have HCI := Hid.mk CI
                                                have HBA := Hid.mk (HBk.out.trans (BA.mono hsr))
                                                clear CI cq q1 q2 BA q23 hSt
                                                go_wp2_with fail
                                                refine HCI.out.mono ?_
                                                rintro e w8 ⟨rfl, B8⟩
                                                have HB8 := Hid.mk (HBA.out.trans (B8.mono HBA.out.size))
                                                clear B8 HCI r0 r1 r2
                                                dsimp only
                                                go_wp2_with fail
                                                go_roundw
                                                case rel => exact ⟨t + 1, by omega, by go_num, HB8.out⟩
                                                case measure => simp only [intOf]; omega
                                      · obtain rfl : M = t := by omega
                                        have ht' : ¬ (M : Int) < (M : Int) := by omega
                                        have HBg := Hid.mk (HBf.out.trans (HBk.out.mono (by have := HBf.out.size; omega)))
                                        go_wp2_with fail
                                        go_ret
                                        exact ⟨rfl, HBg.out⟩
end Go.Proofs.Ybulkdaxu
