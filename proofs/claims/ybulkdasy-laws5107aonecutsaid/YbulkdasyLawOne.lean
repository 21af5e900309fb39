import Derived.Test.YbulkdasyOne
import Derived.Test.YbulkdasyLawTwo
namespace Go.Proofs.Ybulkdasy
open Go.RowKit
set_option linter.unusedSimpArgs false
set_option linter.unusedVariables false

theorem pull_get1 {n i : Nat} (hin : i < n) (PA : Bool) (k : Nat) (hk : k < n) :
    ((Z4 n).set i (.bool PA))[k]? = some (.bool (if k = i then PA else false)) := by
  have hl : (Z4 n).length = n := made_len _ _
  rw [List.getElem?_set, hl]
  by_cases e2 : k = i
  · subst e2; simp [hk]
  · have e2' : ¬ i = k := fun h => e2 h.symm
    rw [if_neg e2', if_neg e2]; exact Z4_get n k hk

theorem cnt_le (pz : Nat → Int) (p : Nat) {u v : Nat} (h : u ≤ v) : cnt pz u p ≤ cnt pz v p := by
  induction v with
  | zero => have : u = 0 := by omega
            subst this; exact Int.le_refl _
  | succ v ih =>
    by_cases e : u = v + 1
    · subst e; exact Int.le_refl _
    · have := ih (by omega)
      simp only [cnt]
      split <;> omega
theorem cnt_lt (pz : Nat → Int) {u v : Nat} (h : u < v) (hu : 0 ≤ pz u % 3) : cnt pz u (pz u % 3).toNat < cnt pz v (pz u % 3).toNat := by
  have h1 := cnt_le pz (pz u % 3).toNat (show u + 1 ≤ v from h)
  have h2 : cnt pz (u + 1) (pz u % 3).toNat = cnt pz u (pz u % 3).toNat + 1 := by
    simp only [cnt]
    rw [if_pos (by omega)]
  omega
theorem cnt_inj (pz : Nat → Int) {u v : Nat} (hu : 0 ≤ pz u % 3) (hv : 0 ≤ pz v % 3) (hp : pz u % 3 = pz v % 3) (hr : cnt pz u (pz u % 3).toNat = cnt pz v (pz v % 3).toNat) : u = v := by
  rcases Nat.lt_trichotomy u v with h | h | h
  · have := cnt_lt pz h hu; rw [hp] at this hr; omega
  · exact h
  · have := cnt_lt pz h hv; rw [← hp] at this hr; omega

/-- What the row of the way holds after k rounds. -/
def Fill (m k : Nat) (ws : List Nat) (zs : List Value) : Prop := zs.length = m ∧ (∀ j, j < m → ∃ z : Int, zs[j]? = some (.int .i64 z)) ∧ ∀ j u, j < k → ws[j]? = some u → zs[j]? = some (.int .i64 (u : Int))
theorem Fill.start (m : Nat) (ws : List Nat) : Fill m 0 ws (Z3 m) := by
  refine ⟨made_len _ _, fun j hj => ⟨0, ?_⟩, fun j u hj => by omega⟩
  unfold Z3; rw [made_get _ _ _ hj]; simp [Nat.mod_one]
theorem Fill.step {m k : Nat} {ws : List Nat} {zs : List Value} (h : Fill m k ws zs) {u : Nat} (hu : ws[k]? = some u) (hk : k < m) : Fill m (k + 1) ws (zs.set k (.int .i64 (u : Int))) := by
  obtain ⟨h1, h2, h3⟩ := h
  refine ⟨by simpa using h1, fun j hj => ?_, fun j v hj hv => ?_⟩
  · rw [List.getElem?_set]
    by_cases e : k = j
    · rw [if_pos e, if_pos (by omega)]; exact ⟨_, rfl⟩
    · rw [if_neg e]; exact h2 j hj
  · rw [List.getElem?_set]
    by_cases e : k = j
    · subst e; rw [if_pos rfl, if_pos (by omega)]; rw [hu] at hv; cases hv; rfl
    · rw [if_neg e]; exact h3 j v (by omega) hv
theorem Fill.stop {m : Nat} {ws : List Nat} {zs : List Value} (h : Fill m m ws zs) (hl : ws.length = m) : zs = ints (natI ws) := by
  obtain ⟨h1, h2, h3⟩ := h
  apply List.ext_getElem?
  intro j
  rcases Nat.lt_or_ge j m with hj | hj
  · have hs : ws[j]? = some ws[j] := List.getElem?_eq_getElem (by omega)
    rw [h3 j _ hj hs, natI_get hs]
  · rw [List.getElem?_eq_none (by omega), List.getElem?_eq_none (by rw [ints_len, natI_len]; omega)]

theorem law1_mem {w w2 : World} {T : Sto} {n i m : Nat} {fen call ret proc rank : Nat → Int} {ws : List Nat} {b : Nat} (hG : Good w w2 T) (hV : VA T (ps0 n fen call ret proc rank)) (hin : i < n) (hR : Row T 23 (.slice (some ⟨b, 0, none⟩) m m) (ints (natI ws))) :
    ∃ S', Good w (((((w2.setCell ⟨T.loc 7, i * 3, none⟩ (.int .i64 1)).setCell ⟨T.loc 7, i * 3 + 1, none⟩ (.slice (some ⟨b, 0, none⟩) m m)).setCell ⟨T.loc 7, i * 3 + 2, none⟩ (.bool false)).setCell ⟨T.loc 0, 28, none⟩ (.slice (some ⟨w2.heap.size, 0, none⟩) 1 1)).alloc (.cells #[.int .i64 (i : Int)] 3)) S' ∧
      VA S' { ps0 n fen call ret proc rank with rcp := updV (ps0 n fen call ret proc rank).rcp i (.slice (some ⟨b, 0, none⟩) m m), cutV := .slice (some ⟨w2.heap.size, 0, none⟩) 1 1, cut := natI [i] } ∧ S'.loc 0 = T.loc 0 ∧ Row S' 23 (.slice (some ⟨b, 0, none⟩) m m) (ints (natI ws)) := by
  have D := hV.dom
  have HG3 := ((((hG.setCell 7 (i * 3) (D 7 (by omega)) (.int .i64 1)).setCell 7 (i * 3 + 1) (D 7 (by omega)) (.slice (some ⟨b, 0, none⟩) m m)).setCell 7 (i * 3 + 2) (D 7 (by omega)) (.bool false)).setCell 0 28 (D 0 (by omega)) (.slice (some ⟨w2.heap.size, 0, none⟩) 1 1)).new 16 [.int .i64 (i : Int)] 3
  have HV3 := ((hV.setRcp (i := i) hin 1 (.slice (some ⟨b, 0, none⟩) m m)).newCut w2.heap.size (natI [i]) (by simp [natI]))
  have hs : ((((w2.setCell ⟨T.loc 7, i * 3, none⟩ (.int .i64 1)).setCell ⟨T.loc 7, i * 3 + 1, none⟩ (.slice (some ⟨b, 0, none⟩) m m)).setCell ⟨T.loc 7, i * 3 + 2, none⟩ (.bool false)).setCell ⟨T.loc 0, 28, none⟩ (.slice (some ⟨w2.heap.size, 0, none⟩) 1 1)).heap.size = w2.heap.size := by simp
  refine ⟨_, HG3, ?_, rfl, ?_⟩
  · have hs' : (Sto.put ((((T.set 7 (i * 3) (.int .i64 1)).set 7 (i * 3 + 1) (.slice (some ⟨b, 0, none⟩) m m)).set 7 (i * 3 + 2) (.bool false)).set 0 28 (.slice (some ⟨w2.heap.size, 0, none⟩) 1 1)) 16 ((((w2.setCell ⟨T.loc 7, i * 3, none⟩ (.int .i64 1)).setCell ⟨T.loc 7, i * 3 + 1, none⟩ (.slice (some ⟨b, 0, none⟩) m m)).setCell ⟨T.loc 7, i * 3 + 2, none⟩ (.bool false)).setCell ⟨T.loc 0, 28, none⟩ (.slice (some ⟨w2.heap.size, 0, none⟩) 1 1)).heap.size [.int .i64 (i : Int)] 3) =
      (Sto.put ((((T.set 7 (i * 3) (.int .i64 1)).set 7 (i * 3 + 1) (.slice (some ⟨b, 0, none⟩) m m)).set 7 (i * 3 + 2) (.bool false)).set 0 28 (.slice (some ⟨w2.heap.size, 0, none⟩) 1 1)) 16 w2.heap.size [.int .i64 (i : Int)] 3) := by rw [hs]
    refine Eq.mpr (congrArg (fun x => VA x _) hs') ?_
    exact HV3
  · exact ((((hR.off (Off.set _ 7 _ _) (by omega)).off (Off.set _ 7 _ _) (by omega)).off (Off.set _ 7 _ _) (by omega)).off (Off.set _ 0 _ _) (by omega)).off (Off.put _ 16 _ _ _) (by omega)

/-- The pair (a, b) is in order. -/
def Pok (proc rank : Nat → Int) (vs : List Nat) (a b : Nat) : Prop := vs.getD a 0 ≠ vs.getD b 0 ∧ ¬ (proc (vs.getD a 0) = proc (vs.getD b 0) ∧ rank (vs.getD a 0) > rank (vs.getD b 0))
/-- All pairs are in order whose first is below a, and those (a, b') with b' below b. -/
def Done (proc rank : Nat → Int) (vs : List Nat) (a b : Nat) : Prop := (∀ a' b', a' < a → a' < b' → b' < vs.length → Pok proc rank vs a' b') ∧ ∀ b', a < b' → b' < b → Pok proc rank vs a b'
theorem Done.start (proc rank : Nat → Int) (vs : List Nat) : Done proc rank vs 0 1 := ⟨fun a' b' h => by omega, fun b' h h2 => by omega⟩
theorem done_step {proc rank : Nat → Int} {vs : List Nat} {a b : Nat} (h : a < b) : Done proc rank vs a (b + 1) ↔ Done proc rank vs a b ∧ Pok proc rank vs a b := by
  constructor
  · rintro ⟨h1, h2⟩
    exact ⟨⟨h1, fun b' h3 h4 => h2 b' h3 (by omega)⟩, h2 b h (by omega)⟩
  · rintro ⟨⟨h1, h2⟩, h3⟩
    refine ⟨h1, fun b' h4 h5 => ?_⟩
    by_cases e : b' = b
    · subst e; exact h3
    · exact h2 b' h4 (by omega)
theorem done_next {proc rank : Nat → Int} {vs : List Nat} {a : Nat} : Done proc rank vs a vs.length ↔ Done proc rank vs (a + 1) (a + 1 + 1) := by
  constructor
  · rintro ⟨h1, h2⟩
    refine ⟨fun a' b' h3 h4 h5 => ?_, fun b' h3 h4 => by omega⟩
    by_cases e : a' = a
    · subst e; exact h2 b' h4 h5
    · exact h1 a' b' (by omega) h4 h5
  · rintro ⟨h1, _⟩
    exact ⟨fun a' b' h3 h4 h5 => h1 a' b' (by omega) h4 h5, fun b' h3 h4 => h1 a b' (by omega) h3 h4⟩
theorem done_all {proc rank : Nat → Int} {vs : List Nat} : Done proc rank vs vs.length (vs.length + 1) ↔ InOrder proc rank vs := by
  constructor
  · rintro ⟨h1, _⟩ a b h2 h3
    exact h1 a b (by omega) h2 h3
  · intro h
    exact ⟨fun a b h1 h2 h3 => h a b h2 h3, fun b h1 h2 => by omega⟩
/-- r is the greatest of r0 and the calls of the first a. -/
def Top (call : Nat → Int) (r0 : Int) (vs : List Nat) (a : Nat) (r : Int) : Prop := ∀ y : Int, r < y ↔ r0 < y ∧ ∀ j, j < a → call (vs.getD j 0) < y
theorem Top.start (call : Nat → Int) (r0 : Int) (vs : List Nat) : Top call r0 vs 0 r0 := fun y => ⟨fun h => ⟨h, fun j hj => by omega⟩, fun h => h.1⟩
theorem Top.step {call : Nat → Int} {r0 : Int} {vs : List Nat} {a : Nat} {r : Int} (h : Top call r0 vs a r) {r' : Int} (hr : ∀ y : Int, r' < y ↔ r < y ∧ call (vs.getD a 0) < y) : Top call r0 vs (a + 1) r' := by
  intro y
  rw [hr y, h y]
  constructor
  · rintro ⟨⟨h1, h2⟩, h3⟩
    refine ⟨h1, fun j hj => ?_⟩
    by_cases e : j = a
    · subst e; exact h3
    · exact h2 j (by omega)
  · rintro ⟨h1, h2⟩
    exact ⟨⟨h1, fun j hj => h2 j (by omega)⟩, h2 a (by omega)⟩
theorem Top.all {call : Nat → Int} {r0 : Int} {vs : List Nat} {r : Int} (h : Top call r0 vs vs.length r) (y : Int) : r < y ↔ r0 < y ∧ ∀ u, u ∈ vs → call u < y := by
  rw [h y]
  constructor
  · rintro ⟨h1, h2⟩
    refine ⟨h1, fun u hu => ?_⟩
    obtain ⟨j, hj, he⟩ := List.getElem_of_mem hu
    have := h2 j hj
    rwa [List.getD_eq_getElem?_getD, List.getElem?_eq_getElem hj, Option.getD_some, he] at this
  · rintro ⟨h1, h2⟩
    refine ⟨h1, fun j hj => h2 _ ?_⟩
    rw [List.getD_eq_getElem?_getD, List.getElem?_eq_getElem hj, Option.getD_some]
    exact List.getElem_mem hj

theorem sched_one_at {w0 w : World} {S : Sto} {n i : Nat} {fen call ret proc rank : Nat → Int} {cv rv : Value} {rcp : Nat → Value} (hrcp : rcp i = rv) (ws : List Nat) (hG : Good w0 w S) (hV : VA S { ps0 n fen call ret proc rank with rcp := rcp, cutV := cv, cut := natI [i] }) (b : Nat) (hb : S.loc 0 = b) (hn : n ≤ 300) (hi : i < n) (hws : ∀ u, u ∈ ws → u < n) (hwl : ws.length ≤ 300)
    (hf : ∀ k, fen k = 2 ∨ fen k = 0) (hp : ∀ k, ∃ q : Nat, q < 3 ∧ proc k = (q : Int)) (hr : Row S 23 rv (ints (natI ws)))
    (hinj : ∀ u v, u < n → v < n → proc u = proc v → rank u = rank v → u = v) (hcall : ∀ u, call u < never) :
    Calls Yba.prog 9 #[.pointer (some ⟨b, 0, none⟩)] w fun en w' => ∃ b' : Bool, en = .returned (.bool b') ∧ (b' = true ↔ InOrder proc rank (seen proc i ws) ∧ relOf fen call i < ret i ∧ ∀ u, u ∈ seen proc i ws → call u < ret i) ∧ ∃ S' p', Good w0 w' S' ∧ VA S' p' ∧ (∃ a c, p'.holdV = .slice a 0 c) ∧ S'.loc 0 = b ∧ p'.n = n ∧ p'.rank = rank := by
  subst hb
  exact sched_one hrcp ws hG hV hn hi hws hwl hf hp hr hinj hcall

set_option maxRecDepth 100000 in
set_option maxHeartbeats 4000000 in
theorem one_law (w : World) (a0 a1 a2 a5 : Option Addr) (n cap0 len1 cap1 len2 cap2 m cap5 : Nat) (pz cz rz wz : Nat → Int) (hp : Arr .u8 w a0 n pz) (hp2 : ∀ j, 0 ≤ pz j ∧ pz j ≤ 255) (hc : Arr .i16 w a1 len1 cz) (hc2 : ∀ j, -32768 ≤ cz j ∧ cz j ≤ 32767)
    (hr : Arr .i16 w a2 len2 rz) (hr2 : ∀ j, -32768 ≤ rz j ∧ rz j ≤ 32767) (hw : Arr .u8 w a5 m wz) (hw2 : ∀ j, 0 ≤ wz j ∧ wz j ≤ 255) (PA : Bool) (A : Int) (hA : 0 ≤ A ∧ A ≤ 255) (hn : 1 ≤ n) (hn3 : n ≤ 300) (hm : m ≤ 300) :
    Calls Yba.prog 3 #[.slice a0 n cap0, .slice a1 len1 cap1, .slice a2 len2 cap2, .bool PA, .int .u8 A, .slice a5 m cap5] w fun e w' => e = .returned (.bool true) ∧ Below w.heap.size w w' := by
  obtain ⟨i, hi, hin⟩ : ∃ i : Nat, A % (n : Int) = (i : Int) ∧ i < n := ⟨(A % n).toNat, by have := Int.emod_nonneg A (show (n : Int) ≠ 0 by omega); omega, by have := Int.emod_nonneg A (show (n : Int) ≠ 0 by omega); have := Int.emod_lt_of_pos A (show (0 : Int) < n by omega); omega⟩
  have k24 := mk24 n (by omega)
  have hb0 : ((n : Int) == 0) = false := by simp; omega
  have hnz : ¬ (n : Int) = 0 := by omega
  have hn0 : ¬ n = 0 := by omega
  have hI1 : ¬ (300 : Int) < (n : Int) := by omega
  have hI2 : ¬ (300 : Int) < (m : Int) := by omega
  go_enter Yba.func3, Yba.ntmps3
  go_upto_region 5 with fail
  go_cut [14, 15] from 29 to 218 (fun x y wx => x = .int .i64 (i : Int) ∧ ∃ S : Sto, Good w wx S ∧ y = .slice (some ⟨S.loc 25, 0, none⟩) n n ∧ S.dom 25 ∧ S.cells 25 = Z4 n)
  case first =>
    go_wp2_with fail
    go_meet
    refine ⟨rfl, _, (Good.empty w (fun _ => 0)).new 25 (Z4 n) 4, ?_, ?_, ?_⟩ <;> simp [Sto.put]
  case rest =>
    obtain ⟨rfl, S, hG, rfl, d25, c25⟩ := hcut
    clear hi
    have p1 := hG.cell 25 i d25 (v := .bool false) (by rw [c25]; exact Z4_get n i hin)
    have pf : ∀ k, wc.frozen? ⟨S.loc 25, k, none⟩ = false := fun k => hG.free 25 k d25
    have G1 := hG.setCell 25 i d25 (.bool PA)
    have Hpull : Hid (∀ k, k < n → ((S.set 25 i (.bool PA)).cells 25)[k]? = some (.bool (if k = i then PA else false))) := by
      show ∀ k, k < n → ((S.set 25 i (.bool PA)).cells 25)[k]? = some (.bool (if k = i then PA else false))
      intro k hk
      have := pull_get1 hin PA k hk
      rw [← c25] at this
      simpa [Sto.set] using this
    have HG1 : Hid (Good w _ _) := G1
    clear G1
    go_wp2_with fail
    refine (build_any w _ _ HG1.out n hn3 (by omega) a0 a1 a2 cap0 len1 cap1 len2 cap2 pz cz rz hp hp2 hc hc2 hr hr2 (fun k => if k = i then PA else false) d25 Hpull.out).mono ?_
    rintro e w2 ⟨T, rfl, G2, V2⟩
    clear k24 HG1 Hpull d25 p1 pf hG c25
    have k27 := mk27 m (by omega)
    have D2 := V2.dom
    have HG2 : Hid (Good w w2 T) := G2
    have HV2 : Hid (VA T _) := V2
    clear G2 V2
    generalize hWS : (List.range m).map (fun k => (wz k % n).toNat) = ws
    have hwl : ws.length = m := by rw [← hWS]; simp
    have hwk : ∀ k, k < m → ws[k]? = some (wz k % n).toNat := fun k hk => by rw [← hWS]; simp [hk]
    have hwn : ∀ u, u ∈ ws → u < n := by
      intro u hu
      rw [← hWS] at hu
      simp only [List.mem_map] at hu
      obtain ⟨k, _, rfl⟩ := hu
      have := Int.emod_nonneg (wz k) (show (n : Int) ≠ 0 by omega); have := Int.emod_lt_of_pos (wz k) (show (0 : Int) < n by omega); omega
    have HWK : Hid (∀ k, k < m → ws[k]? = some (wz k % n).toNat) := hwk
    have HWL : Hid (ws.length = m) := hwl
    have HWN : Hid (∀ u, u ∈ ws → u < n) := hwn
    clear hWS hwl hwk hwn
    go_wp2_with fail
    go_loopw [18] (fun v wr => ∃ (k : Nat) (U : Sto), k ≤ m ∧ v = .int .i64 (k : Int) ∧ Good w wr U ∧ VA U (ps0 n (fun k => if (if k = i then PA else false) = true then 2 else 0) (atZ len1 cz) (atZ len2 rz) (fun k => pz k % 3) (fun k => cnt pz k (pz k % 3).toNat)) ∧ U.loc 0 = T.loc 0 ∧ U.dom 23 ∧ U.loc 23 = w2.heap.size ∧ U.ty 23 = 3 ∧ Fill m k ws (U.cells 23)) (fun v _ => m - (intOf v).toNat)
    case atStart =>
      exact ⟨0, _, by omega, rfl, HG2.out.new 23 (Z3 m) 3, HV2.out.off (Off.put T 23 w2.heap.size (Z3 m) 3) (by omega), by simp [Sto.put], by simp [Sto.put], by simp [Sto.put], by simp [Sto.put], by simp [Sto.put]; exact Fill.start m ws⟩
    case round =>
      obtain ⟨k, U, hk, rfl, hU, VU, l0, d23, l23, t23, hF⟩ := hrel
      by_cases hkm : k < m
      · obtain ⟨b, off, rfl, hb, hwc⟩ : ∃ b off, a5 = some ⟨b, off, none⟩ ∧ b < wr.heap.size ∧ ∀ j, j < m → wr.cell? ⟨b, off + j, none⟩ = some (.int .u8 (wz j)) := by
          rcases hw.below hU.below with h | h
          · omega
          · exact h
        have c1 := hwc k hkm
        have hwb := hw2 k
        clear hwc
        obtain ⟨z, hz⟩ := hF.2.1 k hkm
        have c2 := hU.cell 23 k d23 hz
        have f2 := hU.free 23 k d23
        rw [l23] at c2 f2
        have hi0 : (0 : Int) ≤ (k : Int) := by omega
        have hi1 : (k : Int) < (m : Int) := by omega
        have hem : wz k % (n : Int) = (((wz k % n).toNat : Nat) : Int) := by have := Int.emod_nonneg (wz k) (show (n : Int) ≠ 0 by omega); omega
        have G5 := hU.setCell 23 k d23 (.int .i64 ((wz k % n).toNat : Int))
        rw [l23] at G5
        have HG5 : Hid (Good w _ _) := G5
        have HV5 : Hid (VA _ _) := VU.off (Off.set U 23 k (.int .i64 ((wz k % n).toNat : Int))) (by omega)
        have HF5 : Hid (Fill _ _ _ _) := hF.step (HWK.out k hkm) hkm
        have Hl0 : Hid (U.loc 0 = T.loc 0) := l0
        have Hd23 : Hid (U.dom 23) := d23
        have Hl23 : Hid (U.loc 23 = w2.heap.size) := l23
        have Ht23 : Hid (U.ty 23 = 3) := t23
        clear G5 hU VU hF l0 d23 l23 t23 hz
        generalize (wz k % n).toNat = u at *
        go_wp2_with fail
        go_roundw
        case rel => exact ⟨k + 1, _, by omega, by simp, HG5.out, HV5.out, Hl0.out, Hd23.out, Hl23.out, Ht23.out, by simpa [Sto.set] using HF5.out⟩
        case measure => simp only [intOf]; omega
      · have hi1 : ¬ (k : Int) < (m : Int) := by omega
        have hRow : Row U 23 (.slice (some ⟨w2.heap.size, 0, none⟩) m m) (ints (natI ws)) := by
          have hke : k = m := by omega
          subst hke
          have he := hF.stop HWL.out
          refine .inr ⟨d23, [], ?_, by rw [he]; simp, t23, ?_⟩
          · rw [ints_len, natI_len, l23]; simp [HWL.out]
          · rw [ints_len, natI_len, HWL.out]; simp [maxLen]; omega
        have D := VU.dom
        have c20 := hU.cell 0 20 (D 0 (by omega)) VU.r.rcp
        have c28 := hU.cell 0 28 (D 0 (by omega)) VU.r.cut
        obtain ⟨⟨vi, ri⟩, ri1, ri2⟩ := VU.rcp.2 i hin
        have x1 := hU.cell 7 _ (D 7 (by omega)) ri
        have x2 := hU.cell 7 _ (D 7 (by omega)) ri1
        have x3 := hU.cell 7 _ (D 7 (by omega)) ri2
        have f7 : ∀ k, wr.frozen? ⟨U.loc 7, k, none⟩ = false := fun k => hU.free 7 k (D 7 (by omega))
        have f0 : ∀ k, wr.frozen? ⟨U.loc 0, k, none⟩ = false := fun k => hU.free 0 k (D 0 (by omega))
        have n7 : U.loc 0 ≠ U.loc 7 := hU.ne (D 0 (by omega)) (D 7 (by omega)) (by omega)
        have lt0 := hU.lt (D 0 (by omega))
        have lt7 := hU.lt (D 7 (by omega))
        simp only [sl] at c20
        dsimp only [ps0] at c20 c28 x1 x2 x3
        obtain ⟨S3, G3, V3, l3, R3⟩ := law1_mem hU VU hin hRow
        rw [l0] at c20 c28 f0 n7 lt0 l3 G3
        have HG3 : Hid (Good w _ S3) := G3
        have HV3 : Hid (VA S3 _) := V3
        have HR3 : Hid (Row S3 23 _ _) := R3
        have Hl3 : Hid (S3.loc 0 = T.loc 0) := l3
        clear G3 V3 R3 l3 hU VU hF l0 d23 l23 t23 hRow ri ri1 ri2 HG2 HV2 k27
        have hi0 : (0 : Int) ≤ (i : Int) := by omega
        have hi2 : (i : Int) < (n : Int) := by omega
        go_wp2_with fail
        refine (sched_one_at (rcp := updV (ps0 n (fun k => if (if k = i then PA else false) = true then 2 else 0) (atZ len1 cz) (atZ len2 rz) (fun k => pz k % 3) (fun k => cnt pz k (pz k % 3).toNat)).rcp i (.slice (some ⟨w2.heap.size, 0, none⟩) m m)) (by simp [updV]) ws HG3.out HV3.out _ Hl3.out hn3 hin HWN.out (by rw [HWL.out]; omega) ?_ ?_ HR3.out ?_ ?_).mono ?_
        · intro k
          by_cases h : (if k = i then PA else false) = true
          · left; rw [if_pos h]
          · right; rw [if_neg h]
        · intro k
          have := hp2 k
          exact ⟨(pz k % 3).toNat, by omega, by omega⟩
        · intro u v _ _ h1 h2
          have := hp2 u
          have := hp2 v
          exact cnt_inj pz (by omega) (by omega) h1 h2
        · intro u
          unfold atZ never
          have := hc2 u
          split <;> omega
        rintro e w4 ⟨res, rfl, hres, S4, p4, G4, V4, ⟨ha4, hc4', hh4⟩, l4, pn4, pr4⟩
        have Hres : Hid (res = true ↔ _) := hres
        have HG4 : Hid (Good w w4 S4) := G4
        have HV4 : Hid (VA S4 p4) := V4
        have Hh4 : Hid (p4.holdV = .slice ha4 0 hc4') := hh4
        have Hl4 : Hid (S4.loc 0 = T.loc 0) := l4
        have Hpn4 : Hid (p4.n = n) := pn4
        have Hpr4 : Hid (p4.rank = fun k => cnt pz k (pz k % 3).toNat) := pr4
        obtain ⟨pb, poff, rfl, hpb, hpc⟩ : ∃ b off, a0 = some ⟨b, off, none⟩ ∧ b < w4.heap.size ∧ ∀ j, j < n → w4.cell? ⟨b, off + j, none⟩ = some (.int .u8 (pz j)) := by
          rcases hp.below G4.below with h | h
          · omega
          · exact h
        have pi := hpc i hin
        have hbi := hp2 i
        clear hres G4 V4 hh4 l4 pn4 pr4 HG3 HV3 HR3 Hl3 hpc c20 c28 x1 x2 x3 f7 f0 n7 lt0 lt7 D D2 hk
        go_wp2_with fail
        go_loopw [21, 22] (fun x y wr => ∃ (k : Nat) (U : Sto), k ≤ m ∧ y = .int .i64 (k : Int) ∧ Good w wr U ∧ VA U p4 ∧ U.loc 0 = T.loc 0 ∧ Row U 24 x (ints (natI (seen (fun k => pz k % 3) i (ws.take k))))) (fun _ y _ => m - (intOf y).toNat)
        case atStart =>
          refine ⟨0, _, by omega, rfl, HG4.out.new 24 [] 3, HV4.out.off (Off.put S4 24 w4.heap.size [] 3) (by omega), by simp [Sto.put, Hl4.out], .inr ⟨by simp [Sto.put], [], ?_, ?_, ?_, ?_⟩⟩ <;> simp [Sto.put, seen, natI, ints]
        case round =>
          obtain ⟨k, U, hk, rfl, hU, VU, l0, hR⟩ := hrel
          by_cases hkm : k < m
          · obtain ⟨b, off, rfl, hb, hwc⟩ : ∃ b off, a5 = some ⟨b, off, none⟩ ∧ b < wr.heap.size ∧ ∀ j, j < m → wr.cell? ⟨b, off + j, none⟩ = some (.int .u8 (wz j)) := by
              rcases hw.below hU.below with h | h
              · omega
              · exact h
            have c1 := hwc k hkm
            have hwb := hw2 k
            clear hwc
            have hi0 : (0 : Int) ≤ (k : Int) := by omega
            have hi1 : (k : Int) < (m : Int) := by omega
            have hem : wz k % (n : Int) = (((wz k % n).toNat : Nat) : Int) := by have := Int.emod_nonneg (wz k) (show (n : Int) ≠ 0 by omega); omega
            have hun : (wz k % n).toNat < n := HWN.out _ (List.mem_of_getElem? (HWK.out k hkm))
            have hse := HWK.out k hkm
            have Hse : Hid (ws[k]? = some (wz k % n).toNat) := hse
            clear hse
            generalize (wz k % n).toNat = u at *
            have pu : wr.cell? ⟨pb, poff + u, none⟩ = some (.int .u8 (pz u)) := by
              rcases hp.below hU.below with h | ⟨b', off', h1, h2, h3⟩
              · omega
              · cases h1; exact h3 u hun
            have hbu := hp2 u
            have hu1 : (u : Int) < (n : Int) := by omega
            have HU : Hid (Good w wr U) := hU
            have HVU : Hid (VA U p4) := VU
            have Hl0 : Hid (U.loc 0 = T.loc 0) := l0
            have HR : Hid (Row U 24 _ _) := hR
            obtain ⟨va, vc, rfl⟩ := hR.nform
            have hvl : (seen (fun k => pz k % 3) i (ws.take k)).length ≤ 300 := by have := seen_len (fun k => pz k % 3) i (ws.take k); rw [List.length_take, HWL.out] at this; omega
            clear hU VU l0 hR
            by_cases hpp : pz u % 3 = pz i % 3
            · have hpq : (pz u % 3 != pz i % 3) = false := by simp [hpp]
              have Hpp : Hid (pz u % 3 = pz i % 3) := hpp
              clear hpp
              go_wp2_with fail
              go_roundw
              case rel => exact ⟨k + 1, U, by omega, by simp, HU.out, HVU.out, Hl0.out, by rw [seen_same Hse.out Hpp.out]; exact HR.out⟩
              case measure => simp only [intOf]; omega
            · have hpq : (pz u % 3 != pz i % 3) = true := by simp [hpp]
              have Hpp : Hid (¬ pz u % 3 = pz i % 3) := hpp
              clear hpp
              obtain ⟨i3, hi3, hz0, hz1, hz2⟩ := info_parts Yba.info3
              have cn := cellNew wr (.int .i64 (u : Int)) 3
              have hl1 : (ints (natI (seen (fun k => pz k % 3) i (ws.take k)))).length + 1 ≤ 1099511627776 := by rw [ints_len, natI_len]; omega
              go_wp2_with (at_builtin; refine wpList_append_row hi3 hz0 hz1 hz2 rfl _ _ 27 rfl Yba.underlying27 (HU.out.alloc _) 24 _ _ rfl HR.out ⟨wr.heap.size, 0, none⟩ (.int .i64 (u : Int)) _ rfl cn rfl hl1 rfl ?_)
              intro v1 w6 S6 hG6 hR6 hO6
              rw [ints_snoc, natI_snoc] at hR6
              have HG6 : Hid (Good w w6 S6) := hG6
              have HR6 : Hid (Row S6 24 v1 _) := hR6
              have HV6 : Hid (VA S6 p4) := HVU.out.off hO6 (by omega)
              have Hl6 : Hid (S6.loc 0 = T.loc 0) := (hO6.locOf (by omega)).trans Hl0.out
              clear hG6 hR6 hO6 hz0 hz1 hz2 hi3
              go_wp2_with fail
              go_roundw
              case rel => exact ⟨k + 1, S6, by omega, by simp, HG6.out, HV6.out, Hl6.out, by rw [seen_new Hse.out Hpp.out]; exact HR6.out⟩
              case measure => simp only [intOf]; omega
          · have hi1 : ¬ (k : Int) < (m : Int) := by omega
            have hke : k = m := by omega
            have htk : ws.take k = ws := by rw [hke, ← HWL.out, List.take_length]
            rw [htk] at hR
            have hvn : ∀ u, u ∈ seen (fun k => pz k % 3) i ws → u < n := fun u hu => HWN.out u (seen_mem hu)
            have hvl : (seen (fun k => pz k % 3) i ws).length ≤ 300 := by have := seen_len (fun k => pz k % 3) i ws; rw [HWL.out] at this; omega
            generalize seen (fun k => pz k % 3) i ws = vs at *
            have HVN : Hid (∀ u, u ∈ vs → u < n) := hvn
            have HU : Hid (Good w wr U) := hU
            have HVU : Hid (VA U p4) := VU
            have Hl0 : Hid (U.loc 0 = T.loc 0) := l0
            obtain ⟨va, vc, rfl⟩ := hR.nform
            have HR : Hid (Row U 24 _ _) := hR
            have bel := hU.below
            have hc5 := hc.below bel
            have hr5 := hr.below bel
            clear hU VU l0 hR htk hke hvn bel pi HG4 HV4 Hl4 HWK HWL HWN
            go_upto_if 125 with fail
            go_cut [25] from 29 to 218 (fun x wx => x = .int .i64 (if PA then atZ len1 cz i else -1) ∧ wr = wx)
            case first =>
              cases PA
              · go_wp2_with fail
                go_meet
                exact ⟨rfl, rfl⟩
              · go_wp2_with fail
                refine (at_any _ _ _ cz i _ hc5 hc2).mono ?_
                rintro e w5 ⟨rfl, rfl⟩
                dsimp only
                go_wp2_with fail
                go_meet
                exact ⟨rfl, rfl⟩
            case rest =>
              obtain ⟨rfl, rfl⟩ := hcut
              generalize hr0 : (if PA then atZ len1 cz i else -1) = r0
              have Hr0 : Hid ((if PA then atZ len1 cz i else -1) = r0) := hr0
              clear hr0
              go_wp2_with fail
              go_loopw [24, 25, 26] (fun x y z wx => ∃ (a : Nat) (b1 : Bool) (r : Int), a ≤ vs.length ∧ x = .bool b1 ∧ y = .int .i64 r ∧ z = .int .i64 (a : Int) ∧ Good w wx U ∧ (b1 = true ↔ Done (fun k => pz k % 3) (fun k => cnt pz k (pz k % 3).toNat) vs a (a + 1)) ∧ Top (atZ len1 cz) r0 vs a r) (fun _ _ z _ => vs.length - (intOf z).toNat)
              case atStart => exact ⟨0, true, r0, by omega, rfl, rfl, rfl, HU.out, ⟨fun _ => Done.start _ _ _, fun _ => rfl⟩, Top.start _ _ _⟩
              case round =>
                obtain ⟨a, b1, r, ha, rfl, rfl, rfl, hG, hb1, hT⟩ := hrel
                have HG : Hid (Good w wr U) := hG
                have Hb1 : Hid (b1 = true ↔ _) := hb1
                have HT : Hid (Top _ _ _ _ _) := hT
                clear hG hb1 hT hc5 hr5
                by_cases hal : a < vs.length
                · have hga : vs[a]? = some (vs.getD a 0) := by rw [List.getElem?_eq_getElem hal]; simp [hal]
                  obtain ⟨cap, hv, ca⟩ := HR.out.ncell HG.out hga
                  injection hv with hv1 _ hv3
                  subst hv1 hv3
                  have hua : vs.getD a 0 < n := HVN.out _ (List.mem_of_getElem? hga)
                  have Hga : Hid (vs[a]? = some (vs.getD a 0)) := hga
                  clear hga
                  have hc6 := hc.below HG.out.below
                  have hi0' : (0 : Int) ≤ (a : Int) := by omega
                  have hi1' : (a : Int) < (vs.length : Int) := by omega
                  generalize hu : vs.getD a 0 = u at *
                  have Hu : Hid (vs.getD a 0 = u) := hu
                  clear hu
                  go_upto_if 143 with (go_at_call 10; refine (at_any _ _ _ cz u _ hc6 hc2).mono ?_; rintro e w5 ⟨rfl, hw5⟩; obtain rfl := hw5.symm)
                  go_cut [25] from 129 to 201 (fun x wx => (∃ r' : Int, x = .int .i64 r' ∧ ∀ y : Int, r' < y ↔ r < y ∧ atZ len1 cz u < y) ∧ wr = wx)
                  case first =>
                    generalize atZ len1 cz u = c at *
                    by_cases hrc : r < c
                    · go_wp2_with fail
                      go_meet
                      exact ⟨⟨c, rfl, fun y => by omega⟩, rfl⟩
                    · go_wp2_with fail
                      go_meet
                      exact ⟨⟨r, rfl, fun y => by omega⟩, rfl⟩
                  case rest =>
                    obtain ⟨⟨r', rfl, hr'⟩, rfl⟩ := hcut
                    have HT2 : Hid (Top (atZ len1 cz) r0 vs (a + 1) r') := HT.out.step (fun y => by rw [Hu.out]; exact hr' y)
                    clear hr'
                    have hwa : IntKind.i64.wrap ((a : Int) + 1) = (a : Int) + 1 := by rw [IntKind.wrap_i64]; omega
                    go_wp2_with fail
                    go_loopw [24, 28] (fun x z wx => ∃ (b : Nat) (b2 : Bool), a < b ∧ b ≤ vs.length ∧ x = .bool b2 ∧ z = .int .i64 (b : Int) ∧ Good w wx U ∧ (b2 = true ↔ Done (fun k => pz k % 3) (fun k => cnt pz k (pz k % 3).toNat) vs a b)) (fun _ z _ => vs.length - (intOf z).toNat)
                    case atStart => exact ⟨a + 1, b1, by omega, by omega, rfl, by simp, HG.out, Hb1.out⟩
                    case round =>
                      obtain ⟨b, b2, hab, hbl, rfl, rfl, hG2, hb2⟩ := hrel
                      have HG2 : Hid (Good w wr U) := hG2
                      have Hb2 : Hid (b2 = true ↔ _) := hb2
                      clear hb2
                      by_cases hbv : b < vs.length
                      · have hgb : vs[b]? = some (vs.getD b 0) := by rw [List.getElem?_eq_getElem hbv]; simp [hbv]
                        obtain ⟨_, ca2⟩ := HR.out.at_b hG2 rfl Hga.out
                        obtain ⟨_, cb2⟩ := HR.out.at_b hG2 rfl hgb
                        have hvb : vs.getD b 0 < n := HVN.out _ (List.mem_of_getElem? hgb)
                        clear hgb
                        generalize hv : vs.getD b 0 = v at *
                        have Hv : Hid (vs.getD b 0 = v) := hv
                        clear hv
                        have hpc2 : ∀ j, j < n → wr.cell? ⟨pb, poff + j, none⟩ = some (.int .u8 (pz j)) := by
                          rcases hp.below hG2.below with h | ⟨b', off', h1, h2, h3⟩
                          · omega
                          · cases h1; exact h3
                        have pu := hpc2 u hua
                        have pv := hpc2 v hvb
                        clear hpc2
                        have hbu := hp2 u
                        have hbv2 := hp2 v
                        have D := HVU.out.dom
                        have c58 := hG2.cell 0 58 (D 0 (by omega)) HVU.out.r.rnk
                        have ru := hG2.cell 3 u (D 3 (by omega)) (HVU.out.rank.at (k := u) (by rw [Hpn4.out]; omega))
                        have rv := hG2.cell 3 v (D 3 (by omega)) (HVU.out.rank.at (k := v) (by rw [Hpn4.out]; omega))
                        simp only [sl] at c58
                        rw [Hpn4.out, Hl0.out] at c58
                        rw [Hpr4.out] at ru rv
                        dsimp only at ru rv
                        clear D hG2
                        have i1 : (0 : Int) ≤ (b : Int) := by omega
                        have i2 : (b : Int) < (vs.length : Int) := by omega
                        have i3 : (0 : Int) ≤ (u : Int) := by omega
                        have i4 : (u : Int) < (n : Int) := by omega
                        have i5 : (0 : Int) ≤ (v : Int) := by omega
                        have i6 : (v : Int) < (n : Int) := by omega
                        have HP : Hid (Pok (fun k => pz k % 3) (fun k => cnt pz k (pz k % 3).toNat) vs a b ↔ u ≠ v ∧ ¬ (pz u % 3 = pz v % 3 ∧ cnt pz u (pz u % 3).toNat > cnt pz v (pz v % 3).toNat)) := by
                          show Pok _ _ _ _ _ ↔ _
                          unfold Pok
                          rw [Hu.out, Hv.out]
                        have HD : Hid (Done (fun k => pz k % 3) (fun k => cnt pz k (pz k % 3).toNat) vs a (b + 1) ↔ Done (fun k => pz k % 3) (fun k => cnt pz k (pz k % 3).toNat) vs a b ∧ Pok (fun k => pz k % 3) (fun k => cnt pz k (pz k % 3).toNat) vs a b) := done_step hab
                        by_cases huv : u = v
                        · subst huv
                          have q1 : ((u : Int) == (u : Int)) = true := by simp
                          have q2 : (pz u % 3 == pz u % 3) = true := by simp
                          go_wp2_with fail
                          go_quiet (fail)
                          go_wp2_with fail
                          go_quiet (fail)
                          go_wp2_with fail
                          go_roundw
                          case rel => exact ⟨b + 1, false, by omega, by omega, rfl, by simp, HG2.out.drewN _, ⟨fun h => (by cases h), fun h => absurd rfl (HP.out.1 (HD.out.1 h).2).1⟩⟩
                          case measure => simp only [intOf]; omega
                        · have q1 : ((u : Int) == (v : Int)) = false := by simp; omega
                          have Huv : Hid (¬ u = v) := huv
                          by_cases hpp : pz u % 3 = pz v % 3
                          · have q2 : (pz u % 3 == pz v % 3) = true := by simp [hpp]
                            have Hpp : Hid (pz u % 3 = pz v % 3) := hpp
                            clear hpp huv
                            by_cases hgt : cnt pz v (pz v % 3).toNat < cnt pz u (pz u % 3).toNat
                            · go_wp2_with fail
                              go_quiet (fail)
                              go_wp2_with fail
                              go_quiet (fail)
                              go_wp2_with fail
                              go_roundw
                              case rel => exact ⟨b + 1, false, by omega, by omega, rfl, by simp, HG2.out.drewN _, ⟨fun h => (by cases h), fun h => absurd ⟨Hpp.out, hgt⟩ (HP.out.1 (HD.out.1 h).2).2⟩⟩
                              case measure => simp only [intOf]; omega
                            · go_wp2_with fail
                              go_quiet (fail)
                              go_wp2_with fail
                              go_quiet (fail)
                              go_wp2_with fail
                              go_roundw
                              case rel => exact ⟨b + 1, b2, by omega, by omega, rfl, by simp, HG2.out.drewN _, ⟨fun h => HD.out.2 ⟨Hb2.out.1 h, HP.out.2 ⟨Huv.out, fun h => by omega⟩⟩, fun h => Hb2.out.2 (HD.out.1 h).1⟩⟩
                              case measure => simp only [intOf]; omega
                          · have q2 : (pz u % 3 == pz v % 3) = false := by simp [hpp]
                            have Hpp : Hid (¬ pz u % 3 = pz v % 3) := hpp
                            clear hpp huv
                            go_wp2_with fail
                            go_quiet (fail)
                            go_wp2_with fail
                            go_quiet (fail)
                            go_wp2_with fail
                            go_roundw
                            case rel => exact ⟨b + 1, b2, by omega, by omega, rfl, by simp, HG2.out.drewN _, ⟨fun h => HD.out.2 ⟨Hb2.out.1 h, HP.out.2 ⟨Huv.out, fun h => Hpp.out h.1⟩⟩, fun h => Hb2.out.2 (HD.out.1 h).1⟩⟩
                            case measure => simp only [intOf]; omega
                      · have i2 : ¬ (b : Int) < (vs.length : Int) := by omega
                        have Hbe : Hid (b = vs.length) := by show b = vs.length; omega
                        clear hG2
                        go_wp2_with fail
                        go_roundw
                        case rel =>
                          refine ⟨a + 1, b2, r', by omega, rfl, rfl, by simp, HG2.out, ?_, HT2.out⟩
                          have h1 := Hb2.out
                          rw [Hbe.out, done_next] at h1
                          exact h1
                        case measure => simp only [intOf]; omega
                · have hi1' : ¬ (a : Int) < (vs.length : Int) := by omega
                  have Hae : Hid (a = vs.length) := by show a = vs.length; omega
                  have hr6 := hr.below HG.out.below
                  have c43 := HG.out.cell 0 43 (HVU.out.dom 0 (by omega)) HVU.out.r.hold
                  rw [Hh4.out, Hl0.out] at c43
                  have HB : Hid (Below w.heap.size w wr) := HG.out.below
                  have h2 := HT.out
                  rw [Hae.out] at h2
                  have h3 := h2.all (atZ len2 rz i)
                  have h4 := Hb1.out
                  rw [Hae.out, done_all] at h4
                  have h5 : relOf (fun k => if (if k = i then PA else false) = true then 2 else 0) (atZ len1 cz) i = r0 := by
                    rw [← Hr0.out]; unfold relOf; cases PA <;> simp
                  have h6 := Hres.out
                  rw [h5, ← h3, ← h4] at h6
                  have H6 : Hid (res = true ↔ b1 = true ∧ r < atZ len2 rz i) := h6
                  clear h2 h3 h4 h5 h6
                  go_wp2_with fail
                  refine (at_any _ _ _ rz i _ hr6 hr2).mono ?_
                  rintro e w5 ⟨rfl, hw5⟩
                  obtain rfl := hw5.symm
                  dsimp only
                  clear hw5
                  generalize atZ len2 rz i = ri at *
                  by_cases hlt : r < ri
                  · have hrb : res = b1 := Bool.eq_iff_iff.2 ⟨fun h => (H6.out.1 h).1, fun h => H6.out.2 ⟨h, hlt⟩⟩
                    subst hrb
                    go_wp2_with fail
                    go_ret
                    exact ⟨by simp, HB.out⟩
                  · have hrb : res = false := by
                      cases res
                      · rfl
                      · exact absurd (H6.out.1 rfl).2 hlt
                    subst hrb
                    go_wp2_with fail
                    go_ret
                    exact ⟨by simp, HB.out⟩
end Go.Proofs.Ybulkdasy
