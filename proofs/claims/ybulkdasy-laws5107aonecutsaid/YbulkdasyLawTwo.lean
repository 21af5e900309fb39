/-
  The walk of LawS5107ATwoCuts where it does not return at once.
-/
import Derived.Test.YbulkdasyTwo
import Derived.Test.YbulkdasyBuild
import Derived.OpenShut
namespace Go.Proofs.Ybulkdasy
open Go.RowKit
set_option linter.unusedSimpArgs false
set_option linter.unusedVariables false

theorem RcpT.set {L : List Value} {n : Nat} {u : Nat → Value} (h : RcpT L n u) {i : Nat} (hi : i < n) (a : Int) (v : Value) : RcpT (((L.set (i * 3) (.int .i64 a)).set (i * 3 + 1) v).set (i * 3 + 2) (.bool false)) n (updV u i v) := by
  refine ⟨by simp [h.1], fun k hk => ?_⟩
  obtain ⟨⟨x, h1⟩, h2, h3⟩ := h.2 k hk
  have hl := h.1
  simp only [List.getElem?_set, List.length_set, hl, updV]
  by_cases e : i = k
  · subst e
    refine ⟨⟨a, ?_⟩, ?_, ?_⟩
    · rw [if_neg (by omega), if_neg (by omega), if_pos rfl, if_pos (by omega)]
    · rw [if_neg (by omega), if_pos rfl, if_pos (by omega)]; simp
    · rw [if_pos rfl, if_pos (by omega)]
  · refine ⟨⟨x, ?_⟩, ?_, ?_⟩
    · rw [if_neg (by omega), if_neg (by omega), if_neg (by omega)]; exact h1
    · rw [if_neg (by omega), if_neg (by omega), if_neg (by omega)]; simp [Ne.symm e]; exact h2
    · rw [if_neg (by omega), if_neg (by omega), if_neg (by omega)]; exact h3

theorem VA.setRcp {S : Sto} {p : PS} (h : VA S p) {i : Nat} (hi : i < p.n) (a : Int) (v : Value) : VA (((S.set 7 (i * 3) (.int .i64 a)).set 7 (i * 3 + 1) v).set 7 (i * 3 + 2) (.bool false)) { p with rcp := updV p.rcp i v } := by
  refine ⟨h.dom, h.ty, h.r, h.ops, h.proc, h.rank, h.obj, h.jud, h.ver, ?_, h.inw, h.held, h.hbl, h.hbv, fun q hq => (((h.hbr q hq).fixed (by omega)).fixed (by omega)).fixed (by omega), h.rel, h.dl, h.wt, h.afl, h.afv, fun e he => (((h.afr e he).fixed (by omega)).fixed (by omega)).fixed (by omega), ((h.ev.fixed (by omega)).fixed (by omega)).fixed (by omega), ((h.ord.fixed (by omega)).fixed (by omega)).fixed (by omega), ((h.hold.fixed (by omega)).fixed (by omega)).fixed (by omega), ((h.cut.fixed (by omega)).fixed (by omega)).fixed (by omega)⟩
  simpa [Sto.set] using h.rcp.set hi a v
theorem updV_same (f : Nat → Value) (i : Nat) : updV f i (f i) = f := by funext k; unfold updV; split <;> simp_all

theorem Z4_get (n k : Nat) (hk : k < n) : (Z4 n)[k]? = some (.bool false) := by unfold Z4; rw [made_get _ _ _ hk]; simp [Nat.mod_one]

/-- What the seed's IsRow says, as a table. -/
theorem arr_of {k : IntKind} {w : World} {a : Option Addr} {len cap : Nat} {zs : List Int} (h : (a = none ∧ len = 0 ∧ cap = 0 ∧ zs = []) ∨
    ∃ x, a = some x ∧ len ≤ cap ∧ cap ≤ maxLen ∧ zs.length = cap ∧ (∀ i, i < zs.length → w.cell? (x.add i) = some (.int k (zs.getD i 0))) ∧ ∀ n ∈ zs, (Lit.int k n).wf = true) :
    Arr k w a len (fun j => zs.getD j 0) ∧ (∀ j, j < len → zs.getD j 0 ∈ zs) := by
  rcases h with ⟨rfl, rfl, rfl, rfl⟩ | ⟨x, rfl, h1, h2, h3, h4, h5⟩
  · exact ⟨.inl rfl, fun j hj => by omega⟩
  · refine ⟨?_, fun j hj => ?_⟩
    · by_cases h0 : len = 0
      · exact .inl h0
      · have hc := h4 0 (by omega)
        obtain ⟨b, off, sp⟩ := x
        have hsp : sp = none := by
          cases sp with
          | none => rfl
          | some s => simp [World.cell?, Addr.add] at hc; split at hc <;> simp at hc
        subst hsp
        refine .inr ⟨b, off, rfl, ?_, fun j hj => ?_⟩
        · have := World.block_lt_of_cell? w _ hc
          simpa [Addr.add_lit] using this
        · have := h4 j (by omega)
          rwa [Addr.add_lit] at this
    · have : j < zs.length := by omega
      rw [List.getD_eq_getElem?_getD, List.getElem?_eq_getElem this]
      exact List.getElem_mem this
theorem pull_get {n i j : Nat} (hin : i < n) (hjn : j < n) (PA PB : Bool) (k : Nat) (hk : k < n) :
    (((Z4 n).set i (.bool PA)).set j (.bool PB))[k]? = some (.bool (if k = j then PB else if k = i then PA else false)) := by
  have hl : (Z4 n).length = n := made_len _ _
  rw [List.getElem?_set, List.length_set, hl, List.getElem?_set, hl]
  by_cases e1 : k = j
  · subst e1; simp [hk]
  · have e1' : ¬ j = k := fun h => e1 h.symm
    rw [if_neg e1', if_neg e1]
    by_cases e2 : k = i
    · subst e2; simp [hk]
    · have e2' : ¬ i = k := fun h => e2 h.symm
      rw [if_neg e2', if_neg e2]; exact Z4_get n k hk
theorem put_set (S : Sto) (x y b k : Nat) (cs : List Value) (t : TypeId) (v : Value) (h : x ≠ y) : (S.put x b cs t).set y k v = (S.set y k v).put x b cs t := by
  unfold Sto.put Sto.set
  simp only [Sto.mk.injEq, true_and, and_true]
  funext z
  by_cases e1 : z = y
  · subst e1; simp [Ne.symm h]
  · by_cases e2 : z = x
    · simp [e1, e2, h]
    · simp [e1, e2]
theorem VA.newCut {S : Sto} {p : PS} (h : VA S p) (b : Nat) (xs : List Int) (hm : xs.length ≤ 1000) : VA ((S.set 0 28 (.slice (some ⟨b, 0, none⟩) xs.length xs.length)).put 16 b (ints xs) 3) { p with cutV := .slice (some ⟨b, 0, none⟩) xs.length xs.length, cut := xs } := by
  rw [← put_set S 16 0 b 28 (ints xs) 3 _ (by omega)]
  refine h.setCut (Off.put S 16 b (ints xs) 3) ?_
  refine .inr ⟨by simp [Sto.put], [], ?_, by simp [Sto.put], by simp [Sto.put], ?_⟩
  · simp [Sto.put, ints_len]
  · simp [ints_len, maxLen]; omega

theorem law2_mem {w w2 : World} {T : Sto} {n i j : Nat} {fen call ret proc rank : Nat → Int} (hG : Good w w2 T) (hV : VA T (ps0 n fen call ret proc rank)) (hin : i < n) (hjn : j < n) :
    ∃ S', Good w ((((((((w2.setCell ⟨T.loc 7, i * 3, none⟩ (.int .i64 1)).setCell ⟨T.loc 7, i * 3 + 1, none⟩ (.slice none 0 0)).setCell ⟨T.loc 7, i * 3 + 2, none⟩ (.bool false)).setCell ⟨T.loc 7, j * 3, none⟩ (.int .i64 1)).setCell ⟨T.loc 7, j * 3 + 1, none⟩ (.slice none 0 0)).setCell ⟨T.loc 7, j * 3 + 2, none⟩ (.bool false)).setCell ⟨T.loc 0, 28, none⟩ (.slice (some ⟨w2.heap.size, 0, none⟩) 2 2)).alloc (.cells #[.int .i64 (i : Int), .int .i64 (j : Int)] 3)) S' ∧
      VA S' { ps0 n fen call ret proc rank with cutV := .slice (some ⟨w2.heap.size, 0, none⟩) 2 2, cut := natI [i, j] } ∧ S'.loc 0 = T.loc 0 := by
  have D := hV.dom
  have HG3 := (((((((hG.setCell 7 (i * 3) (D 7 (by omega)) (.int .i64 1)).setCell 7 (i * 3 + 1) (D 7 (by omega)) (.slice none 0 0)).setCell 7 (i * 3 + 2) (D 7 (by omega)) (.bool false)).setCell 7 (j * 3) (D 7 (by omega)) (.int .i64 1)).setCell 7 (j * 3 + 1) (D 7 (by omega)) (.slice none 0 0)).setCell 7 (j * 3 + 2) (D 7 (by omega)) (.bool false)).setCell 0 28 (D 0 (by omega)) (.slice (some ⟨w2.heap.size, 0, none⟩) 2 2)).new 16 [.int .i64 (i : Int), .int .i64 (j : Int)] 3
  have HV3 := (((hV.setRcp (i := i) hin 1 (.slice none 0 0)).setRcp (i := j) hjn 1 (.slice none 0 0)).newCut w2.heap.size (natI [i, j]) (by simp [natI]))
  have e : updV (updV (ps0 n fen call ret proc rank).rcp i (.slice none 0 0)) j (.slice none 0 0) = (ps0 n fen call ret proc rank).rcp := by funext k; simp [updV, ps0]
  have hs : ((((((((w2.setCell ⟨T.loc 7, i * 3, none⟩ (.int .i64 1)).setCell ⟨T.loc 7, i * 3 + 1, none⟩ (.slice none 0 0)).setCell ⟨T.loc 7, i * 3 + 2, none⟩ (.bool false)).setCell ⟨T.loc 7, j * 3, none⟩ (.int .i64 1)).setCell ⟨T.loc 7, j * 3 + 1, none⟩ (.slice none 0 0)).setCell ⟨T.loc 7, j * 3 + 2, none⟩ (.bool false)).setCell ⟨T.loc 0, 28, none⟩ (.slice (some ⟨w2.heap.size, 0, none⟩) 2 2))).heap.size = w2.heap.size := by simp
  refine ⟨_, HG3, ?_, rfl⟩
  have hs' : (Sto.put (((((((T.set 7 (i * 3) (.int .i64 1)).set 7 (i * 3 + 1) (.slice none 0 0)).set 7 (i * 3 + 2) (.bool false)).set 7 (j * 3) (.int .i64 1)).set 7 (j * 3 + 1) (.slice none 0 0)).set 7 (j * 3 + 2) (.bool false)).set 0 28 (.slice (some ⟨w2.heap.size, 0, none⟩) 2 2)) 16 ((((((((w2.setCell ⟨T.loc 7, i * 3, none⟩ (.int .i64 1)).setCell ⟨T.loc 7, i * 3 + 1, none⟩ (.slice none 0 0)).setCell ⟨T.loc 7, i * 3 + 2, none⟩ (.bool false)).setCell ⟨T.loc 7, j * 3, none⟩ (.int .i64 1)).setCell ⟨T.loc 7, j * 3 + 1, none⟩ (.slice none 0 0)).setCell ⟨T.loc 7, j * 3 + 2, none⟩ (.bool false)).setCell ⟨T.loc 0, 28, none⟩ (.slice (some ⟨w2.heap.size, 0, none⟩) 2 2))).heap.size [.int .i64 (i : Int), .int .i64 (j : Int)] 3) =
      (Sto.put (((((((T.set 7 (i * 3) (.int .i64 1)).set 7 (i * 3 + 1) (.slice none 0 0)).set 7 (i * 3 + 2) (.bool false)).set 7 (j * 3) (.int .i64 1)).set 7 (j * 3 + 1) (.slice none 0 0)).set 7 (j * 3 + 2) (.bool false)).set 0 28 (.slice (some ⟨w2.heap.size, 0, none⟩) 2 2)) 16 w2.heap.size [.int .i64 (i : Int), .int .i64 (j : Int)] 3) := by rw [hs]
  refine Eq.mpr (congrArg (fun x => VA x _) hs') ?_
  rw [e] at HV3
  exact HV3

theorem sched_two_at {w0 w : World} {S : Sto} {n i j : Nat} {fen call ret proc rank : Nat → Int} {cv : Value} (hG : Good w0 w S) (hV : VA S { ps0 n fen call ret proc rank with cutV := cv, cut := natI [i, j] }) (b : Nat) (hb : S.loc 0 = b) (hn : n ≤ 300) (hi : i < n) (hj : j < n) (hij : i ≠ j)
    (hf : ∀ k, fen k = 2 ∨ fen k = 0) :
    Calls Yba.prog 9 #[.pointer (some ⟨b, 0, none⟩)] w fun en w' => en = .returned (.bool (twoRes fen call ret proc i j)) ∧ ∃ S' p', Good w0 w' S' ∧ VA S' p' ∧ p'.holdV = .slice none 0 0 ∧ S'.loc 0 = b := by
  subst hb
  exact sched_two hG hV hn hi hj hij hf
def wantTwo (PA PB : Bool) (ci cj ri rj pi pj : Int) : Bool :=
  decide ((if PA then ci else -1) < ri) && decide ((if pi = pj ∧ (if PB then cj else -1) < (if PA then ci else -1) then (if PA then ci else -1) else (if PB then cj else -1)) < rj)
theorem two_want (PA PB : Bool) {i j : Nat} (hij : i ≠ j) (call ret proc : Nat → Int) :
    twoRes (fun k => if (if k = j then PB else if k = i then PA else false) = true then 2 else 0) call ret proc i j = wantTwo PA PB (call i) (call j) (ret i) (ret j) (proc i) (proc j) := by
  unfold twoRes wantTwo relOf
  have e1 : (if i = j then PB else if i = i then PA else false) = PA := by simp [hij]
  have e2 : (if j = j then PB else if j = i then PA else false) = PB := by simp
  simp only [if_neg hij, if_true]
  rw [Bool.eq_iff_iff]
  simp only [decide_eq_true_iff, Bool.and_eq_true]
  have h1 : (if (if PA = true then (2 : Int) else 0) = 2 then call i else -1) = (if PA = true then call i else -1) := by cases PA <;> simp
  have h2 : (if (if PB = true then (2 : Int) else 0) = 2 then call j else -1) = (if PB = true then call j else -1) := by cases PB <;> simp
  rw [h1, h2]
  generalize (if PA = true then call i else -1) = x
  generalize (if PB = true then call j else -1) = y
  by_cases hp : proc i = proc j
  · simp only [hp, if_true, true_and]
    split <;> omega
  · simp only [hp, if_false, false_and]

set_option maxRecDepth 100000 in
set_option maxHeartbeats 4000000 in
theorem two_law (w : World) (a0 a1 a2 : Option Addr) (n cap0 len1 cap1 len2 cap2 : Nat) (pz cz rz : Nat → Int) (hp : Arr .u8 w a0 n pz) (hp2 : ∀ j, 0 ≤ pz j ∧ pz j ≤ 255) (hc : Arr .i16 w a1 len1 cz) (hc2 : ∀ j, -32768 ≤ cz j ∧ cz j ≤ 32767)
    (hr : Arr .i16 w a2 len2 rz) (hr2 : ∀ j, -32768 ≤ rz j ∧ rz j ≤ 32767) (PA PB : Bool) (A B : Int) (hA : 0 ≤ A ∧ A ≤ 255) (hB : 0 ≤ B ∧ B ≤ 255) (hn : 2 ≤ n) (hn3 : n ≤ 300) :
    Calls Yba.prog 4 #[.slice a0 n cap0, .slice a1 len1 cap1, .slice a2 len2 cap2, .bool PA, .bool PB, .int .u8 A, .int .u8 B] w fun e w' => e = .returned (.bool true) ∧ Below w.heap.size w w' := by
  obtain ⟨i, hi, hin⟩ : ∃ i : Nat, A % (n : Int) = (i : Int) ∧ i < n := ⟨(A % n).toNat, by have := Int.emod_nonneg A (show (n : Int) ≠ 0 by omega); omega, by have := Int.emod_nonneg A (show (n : Int) ≠ 0 by omega); have := Int.emod_lt_of_pos A (show (0 : Int) < n by omega); omega⟩
  obtain ⟨j0, hj0, hjn0⟩ : ∃ j : Nat, B % (n : Int) = (j : Int) ∧ j < n := ⟨(B % n).toNat, by have := Int.emod_nonneg B (show (n : Int) ≠ 0 by omega); omega, by have := Int.emod_nonneg B (show (n : Int) ≠ 0 by omega); have := Int.emod_lt_of_pos B (show (0 : Int) < n by omega); omega⟩
  obtain ⟨j, hj, hjn, hij, hj1⟩ : ∃ j : Nat, (i ≠ j0 → j = j0) ∧ j < n ∧ i ≠ j ∧ (i = j0 → ((i : Int) + 1) % (n : Int) = (j : Int)) := by
    by_cases h : i = j0
    · by_cases h2 : i + 1 = n
      · refine ⟨0, fun q => absurd h q, by omega, by omega, fun _ => ?_⟩
        have : (i : Int) + 1 = (n : Int) := by omega
        rw [this]; simp
      · refine ⟨i + 1, fun q => absurd h q, by omega, by omega, fun _ => ?_⟩
        rw [Int.emod_eq_of_lt (by omega) (by omega)]; omega
    · exact ⟨j0, fun _ => rfl, hjn0, h, fun q => absurd q h⟩
  have k24 := mk24 n (by omega)
  have HJ : Hid (i ≠ j0 → j = j0) := hj
  have HJ1 : Hid (i = j0 → ((i : Int) + 1) % (n : Int) = (j : Int)) := hj1
  clear hj hj1
  go_enter Yba.func4, Yba.ntmps4
  go_upto_if 42 with fail
  go_cut [16, 17] from 24 to 135 (fun x y wx => x = .int .i64 (i : Int) ∧ y = .int .i64 (j : Int) ∧ w = wx)
  case first =>
    by_cases h : i = j0
    · have e1 := HJ1.out h
      subst h
      go_wp2_with fail
      go_meet
      exact ⟨by first | rfl | rw [hi], by first | rfl | rw [e1], rfl⟩
    · have e1 := HJ.out h
      have hb : ((i : Int) == (j0 : Int)) = false := by simp; omega
      go_wp2_with fail
      go_meet
      exact ⟨by first | rfl | rw [hi], by rw [hj0, e1], rfl⟩
  case rest =>
    obtain ⟨rfl, rfl, rfl⟩ := hcut
    clear hi hj0 HJ HJ1
    go_upto_region 8 with fail
    go_cut [18] from 24 to 135 (fun x wx => ∃ S : Sto, Good w wx S ∧ x = .slice (some ⟨S.loc 25, 0, none⟩) n n ∧ S.dom 25 ∧ S.cells 25 = Z4 n)
    case first =>
      go_wp2_with fail
      go_meet
      refine ⟨_, (Good.empty w (fun _ => 0)).new 25 (Z4 n) 4, ?_, ?_, ?_⟩ <;> simp [Sto.put]
    case rest =>
      obtain ⟨S, hG, rfl, d25, c25⟩ := hcut
      have p1 := hG.cell 25 i d25 (v := .bool false) (by rw [c25]; exact Z4_get n i hin)
      have p2 := hG.cell 25 j d25 (v := .bool false) (by rw [c25]; exact Z4_get n j hjn)
      have pf : ∀ k, wc.frozen? ⟨S.loc 25, k, none⟩ = false := fun k => hG.free 25 k d25
      have G1 := (hG.setCell 25 i d25 (.bool PA)).setCell 25 j d25 (.bool PB)
      have hpull : ∀ k, k < n → (((S.set 25 i (.bool PA)).set 25 j (.bool PB)).cells 25)[k]? = some (.bool (if k = j then PB else if k = i then PA else false)) := by
        intro k hk
        have := pull_get hin hjn PA PB k hk
        rw [← c25] at this
        simpa [Sto.set] using this
      have Hpull : Hid (∀ k, k < n → (((S.set 25 i (.bool PA)).set 25 j (.bool PB)).cells 25)[k]? = some (.bool (if k = j then PB else if k = i then PA else false))) := hpull
      clear hpull
      have HG1 : Hid (Good w _ _) := G1
      clear G1
      go_wp2_with fail
      refine (build_any w _ _ HG1.out n hn3 (by omega) a0 a1 a2 cap0 len1 cap1 len2 cap2 pz cz rz hp hp2 hc hc2 hr hr2 (fun k => if k = j then PB else if k = i then PA else false) d25 Hpull.out).mono ?_
      rintro e w2 ⟨T, rfl, G2, V2⟩
      clear p1 p2 pf k24
      have D := V2.dom
      have c20 := G2.cell 0 20 (D 0 (by omega)) V2.r.rcp
      have c28 := G2.cell 0 28 (D 0 (by omega)) V2.r.cut
      obtain ⟨⟨vi, ri⟩, ri1, ri2⟩ := V2.rcp.2 i hin
      obtain ⟨⟨vj, rj⟩, rj1, rj2⟩ := V2.rcp.2 j hjn
      have x1 := G2.cell 7 _ (D 7 (by omega)) ri
      have x2 := G2.cell 7 _ (D 7 (by omega)) ri1
      have x3 := G2.cell 7 _ (D 7 (by omega)) ri2
      have y1 := G2.cell 7 _ (D 7 (by omega)) rj
      have y2 := G2.cell 7 _ (D 7 (by omega)) rj1
      have y3 := G2.cell 7 _ (D 7 (by omega)) rj2
      have f7 : ∀ k, w2.frozen? ⟨T.loc 7, k, none⟩ = false := fun k => G2.free 7 k (D 7 (by omega))
      have f0 : ∀ k, w2.frozen? ⟨T.loc 0, k, none⟩ = false := fun k => G2.free 0 k (D 0 (by omega))
      have n7 : T.loc 0 ≠ T.loc 7 := G2.ne (D 0 (by omega)) (D 7 (by omega)) (by omega)
      have lt0 := G2.lt (D 0 (by omega))
      have lt7 := G2.lt (D 7 (by omega))
      simp only [sl] at c20
      dsimp only [ps0] at c20 c28 x1 x2 x3 y1 y2 y3
      have HG2 : Hid (Good w w2 T) := G2
      have HV2 : Hid (VA T _) := V2
      clear G2 V2 ri ri1 ri2 rj rj1 rj2 HG1 Hpull hG
      go_wp2_with fail
      obtain ⟨S3, G3, V3, l3⟩ := law2_mem HG2.out HV2.out hin hjn
      refine (sched_two_at G3 V3 _ l3 hn3 hin hjn hij ?_).mono ?_
      · intro k
        by_cases h : (if k = j then PB else if k = i then PA else false) = true
        · left; rw [if_pos h]
        · right; rw [if_neg h]
      rintro e w4 ⟨rfl, T4, p4, G4, V4, hh4, l4⟩
      have hres : twoRes (fun k => if (if k = j then PB else if k = i then PA else false) = true then 2 else 0) (atZ len1 cz) (atZ len2 rz) (fun k => pz k % 3) i j = wantTwo PA PB (atZ len1 cz i) (atZ len1 cz j) (atZ len2 rz i) (atZ len2 rz j) (pz i % 3) (pz j % 3) := two_want PA PB hij _ _ _
      generalize twoRes (fun k => if (if k = j then PB else if k = i then PA else false) = true then 2 else 0) (atZ len1 cz) (atZ len2 rz) (fun k => pz k % 3) i j = res at hres ⊢
      have Hres : Hid (res = wantTwo PA PB (atZ len1 cz i) (atZ len1 cz j) (atZ len2 rz i) (atZ len2 rz j) (pz i % 3) (pz j % 3)) := hres
      have bel := G4.below
      have hc4 := hc.below bel
      have hr4 := hr.below bel
      have hp4 := hp.below bel
      have c43 := G4.cell 0 43 (V4.dom 0 (by omega)) V4.r.hold
      rw [hh4, l4] at c43
      have HB : Hid (Below w.heap.size w w4) := bel
      clear hres bel G4 V4 hh4 l4 c20 c28 x1 x2 x3 y1 y2 y3 f7 f0 n7 lt0 lt7 HG2 HV2 D G3 V3 l3
      go_upto_if 87 with fail
      go_cut [21] from 24 to 135 (fun x wx => x = .int .i64 (if PA then atZ len1 cz i else -1) ∧ w4 = wx)
      case first =>
        cases PA
        · go_wp2_with fail
          go_meet
          exact ⟨rfl, rfl⟩
        · go_wp2_with fail
          refine (at_any _ _ _ cz i _ hc4 hc2).mono ?_
          rintro e w5 ⟨rfl, rfl⟩
          go_wp2_with fail
          go_meet
          exact ⟨rfl, rfl⟩
      case rest =>
        obtain ⟨rfl, rfl⟩ := hcut
        generalize hRI : (if PA then atZ len1 cz i else -1) = RI
        have HRI : Hid ((if PA then atZ len1 cz i else -1) = RI) := hRI
        clear hRI
        go_upto_if 91 with fail
        go_cut [22] from 24 to 135 (fun x wx => x = .int .i64 (if PB then atZ len1 cz j else -1) ∧ w4 = wx)
        case first =>
          cases PB
          · go_wp2_with fail
            go_meet
            exact ⟨rfl, rfl⟩
          · go_wp2_with fail
            refine (at_any _ _ _ cz j _ hc4 hc2).mono ?_
            rintro e w5 ⟨rfl, rfl⟩
            go_wp2_with fail
            go_meet
            exact ⟨rfl, rfl⟩
        case rest =>
          obtain ⟨rfl, rfl⟩ := hcut
          generalize hRJ : (if PB then atZ len1 cz j else -1) = RJ
          have HRJ : Hid ((if PB then atZ len1 cz j else -1) = RJ) := hRJ
          clear hRJ
          obtain ⟨b, off, rfl, hbw, hpc⟩ : ∃ b off, a0 = some ⟨b, off, none⟩ ∧ b < w4.heap.size ∧ ∀ j, j < n → w4.cell? ⟨b, off + j, none⟩ = some (.int .u8 (pz j)) := by
            rcases hp4 with h | h
            · omega
            · exact h
          have pi := hpc i hin
          have pj := hpc j hjn
          have hbi := hp2 i
          have hbj := hp2 j
          have hii : (i : Int) < (n : Int) := by omega
          have hjj : (j : Int) < (n : Int) := by omega
          clear hpc hp4
          go_upto_region 22 with fail
          go_cut [110] from 24 to 135 (fun x wx => x = .bool (decide (pz i % 3 = pz j % 3 ∧ RJ < RI)) ∧ ∃ k, wx = w4.drewN k)
          case first =>
            by_cases hs : pz i % 3 = pz j % 3
            · have hsb : (pz i % 3 == pz j % 3) = true := by simp [hs]
              have Hs : Hid (pz i % 3 = pz j % 3) := hs
              clear hs
              go_quiet (fail)
              go_wp2_with fail
              go_meet
              exact ⟨by simp [Hs.out], _, rfl⟩
            · have hsb : (pz i % 3 == pz j % 3) = false := by simp [hs]
              have Hs : Hid (¬ pz i % 3 = pz j % 3) := hs
              clear hs
              go_quiet (fail)
              go_wp2_with fail
              go_meet
              exact ⟨by simp [Hs.out], _, rfl⟩
          case rest =>
            obtain ⟨rfl, kq, rfl⟩ := hcut
            generalize hRK : (if pz i % 3 = pz j % 3 ∧ RJ < RI then RI else RJ) = RK
            have HRK : Hid ((if pz i % 3 = pz j % 3 ∧ RJ < RI then RI else RJ) = RK) := hRK
            clear hRK
            go_upto_if 110 with fail
            go_cut [22] from 24 to 135 (fun x wx => x = .int .i64 RK ∧ w4.drewN kq = wx)
            case first =>
              by_cases hs : pz i % 3 = pz j % 3 ∧ RJ < RI
              · have hsb : decide (pz i % 3 = pz j % 3 ∧ RJ < RI) = true := by simp [hs]
                have Hs : Hid (pz i % 3 = pz j % 3 ∧ RJ < RI) := hs
                clear hs
                rw [hsb]
                clear hsb
                go_wp2_with fail
                go_meet
                exact ⟨by rw [← HRK.out, if_pos Hs.out], rfl⟩
              · have hsb : decide (pz i % 3 = pz j % 3 ∧ RJ < RI) = false := by simp [hs]
                have Hs : Hid (¬ (pz i % 3 = pz j % 3 ∧ RJ < RI)) := hs
                clear hs
                rw [hsb]
                clear hsb
                go_wp2_with fail
                go_meet
                exact ⟨by rw [← HRK.out, if_neg Hs.out], rfl⟩
            case rest =>
              obtain ⟨rfl, rfl⟩ := hcut
              have hr5 : Arr .i16 (w4.drewN kq) a2 len2 rz := hr4
              have hw : res = (decide (RI < atZ len2 rz i) && decide (RK < atZ len2 rz j)) := by
                rw [Hres.out, wantTwo, HRI.out, HRJ.out, HRK.out]
              have Hw : Hid (res = (decide (RI < atZ len2 rz i) && decide (RK < atZ len2 rz j))) := hw
              clear hw pi pj hr4
              by_cases h1 : RI < atZ len2 rz i
              · by_cases h2 : RK < atZ len2 rz j
                · have hre : res = true := by rw [Hw.out]; simp [h1, h2]
                  subst hre
                  clear Hw Hres
                  go_wp2_with fail
                  refine (at_any _ _ _ rz i _ hr5 hr2).mono ?_
                  rintro e w5 ⟨rfl, rfl⟩
                  go_wp2_with fail
                  refine (at_any _ _ _ rz j _ hr5 hr2).mono ?_
                  rintro e w5 ⟨rfl, rfl⟩
                  go_wp2_with fail
                  go_ret
                  exact ⟨by simp, ⟨HB.out.os, HB.out.tape, HB.out.output, HB.out.size, HB.out.block⟩⟩
                · have hre : res = false := by rw [Hw.out]; simp [h2]
                  subst hre
                  clear Hw Hres
                  go_wp2_with fail
                  refine (at_any _ _ _ rz i _ hr5 hr2).mono ?_
                  rintro e w5 ⟨rfl, rfl⟩
                  go_wp2_with fail
                  refine (at_any _ _ _ rz j _ hr5 hr2).mono ?_
                  rintro e w5 ⟨rfl, rfl⟩
                  go_wp2_with fail
                  go_ret
                  exact ⟨by simp; omega, ⟨HB.out.os, HB.out.tape, HB.out.output, HB.out.size, HB.out.block⟩⟩
              · have hre : res = false := by rw [Hw.out]; simp [h1]
                subst hre
                clear Hw Hres
                go_wp2_with fail
                refine (at_any _ _ _ rz i _ hr5 hr2).mono ?_
                rintro e w5 ⟨rfl, rfl⟩
                go_wp2_with fail
                go_ret
                exact ⟨by simp, ⟨HB.out.os, HB.out.tape, HB.out.output, HB.out.size, HB.out.block⟩⟩
end Go.Proofs.Ybulkdasy
