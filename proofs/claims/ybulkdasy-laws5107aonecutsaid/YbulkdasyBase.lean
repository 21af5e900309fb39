/-
  What the two laws on cuts share: arguments as tables, tables of ints, the round of zzs5107abuild.
-/
import Derived.Test.YbulkdasyProg
import Derived.Test.YbulkdasySto
import Derived.WalkLawsBesides
namespace Go.Proofs.Ybulkdasy
open Go.RowKit
def Arr (k : IntKind) (w : World) (a : Option Addr) (len : Nat) (z : Nat → Int) : Prop :=
  len = 0 ∨ ∃ b off, a = some ⟨b, off, none⟩ ∧ b < w.heap.size ∧ ∀ j, j < len → w.cell? ⟨b, off + j, none⟩ = some (.int k (z j))
def atZ (len : Nat) (z : Nat → Int) (j : Nat) : Int := if j < len then z j else 0
theorem Arr.below {k : IntKind} {w0 w : World} {a : Option Addr} {len : Nat} {z : Nat → Int} (h : Arr k w0 a len z) (hb : Below w0.heap.size w0 w) : Arr k w a len z := by
  rcases h with h | ⟨b, off, h1, h2, h3⟩
  · exact .inl h
  · exact .inr ⟨b, off, h1, Nat.lt_of_lt_of_le h2 hb.size, fun j hj => (hb.cell (p := ⟨b, off + j, none⟩) h2).trans (h3 j hj)⟩

theorem Yba.info3 : (Yba.prog.info? 3).map (fun i => (i.zero, i.size, i.bytes)) = some (some (.int .i64 0), 1, 8) := by kernel_rfl
theorem Yba.info27 : (Yba.prog.info? 27).map (fun i => (i.zero, i.size, i.bytes)) = some (some (.slice none 0 0), 1, 24) := by kernel_rfl
def z80 : Value := Value.agg
    #[Value.int IntKind.i64 0, Value.string { data := #[] }, Value.string { data := #[] }, Value.string { data := #[] },
      Value.slice none 0 0, Value.string { data := #[] }, Value.int IntKind.u8 0, Value.string { data := #[] },
      Value.int IntKind.i64 0, Value.int IntKind.i64 0, Value.int IntKind.i64 0, Value.int IntKind.i64 0]
theorem Yba.info80 : (Yba.prog.info? 80).map (fun i => (i.zero, i.size, i.bytes)) = some (some z80, 12, 152) := by kernel_rfl
def z29 : Value := Value.agg #[Value.int IntKind.i64 0, Value.slice none 0 0, Value.bool false]
theorem Yba.info29 : (Yba.prog.info? 29).map (fun i => (i.zero, i.size, i.bytes)) = some (some z29, 3, 40) := by kernel_rfl
theorem Yba.info4 : (Yba.prog.info? 4).map (fun i => (i.zero, i.size, i.bytes)) = some (some (.bool false), 1, 1) := by kernel_rfl
/-- n copies of a list of cells. -/
def reps (cs : List Value) : Nat → List Value
  | 0 => []
  | n + 1 => cs ++ reps cs n
def Z80 (n : Nat) : List Value := (madeCells z80.cells (n * 12)).toList
def Z29 (n : Nat) : List Value := (madeCells z29.cells (n * 3)).toList
def Z3 (n : Nat) : List Value := (madeCells #[Value.int .i64 0] n).toList
def Z27 (n : Nat) : List Value := (madeCells #[Value.slice none 0 0] n).toList
def Z4 (n : Nat) : List Value := (madeCells #[Value.bool false] n).toList

theorem made_get (z : Array Value) (n i : Nat) (hi : i < n) : (madeCells z n).toList[i]? = some (z[i % z.size]!) := by
  simp [madeCells, hi]
theorem made_len (z : Array Value) (n : Nat) : (madeCells z n).toList.length = n := by simp [size_madeCells]

theorem mk_any {t e : TypeId} {z : Value} {sz by_ : Nat} (hu : Yba.prog.underlying t = some (.slice e)) (hi : (Yba.prog.info? e).map (fun i => (i.zero, i.size, i.bytes)) = some (some z, sz, by_))
    (n : Nat) (h : by_ * n ≤ 281474976710656) (hn : n ≤ 1000000) (w : World) :
    (Instr.makeSlice t (.int .i64 n) (.int .i64 n)).run Yba.prog w = .ok (.slice (some ⟨w.heap.size, 0, none⟩) n n) (w.alloc (.cells (madeCells z.cells (n * sz)).toList.toArray e)) := by
  obtain ⟨i, h1, h2, h3, h4⟩ := info_parts hi
  have hb : (i.bytes : Int) * n ≤ 281474976710656 := by rw [h4, ← Int.natCast_mul]; exact Int.ofNat_le.2 h
  have := run_make (P := Yba.prog) w t e i z hu h1 h2 .i64 .i64 (n : Int) (n : Int) (by omega) (by omega) hb (by omega)
  rw [h3] at this
  rw [this]
  congr 1
theorem mk30 (n : Nat) (hn : n ≤ 600) (w : World) : (Instr.makeSlice 30 (.int .i64 n) (.int .i64 n)).run Yba.prog w = .ok (.slice (some ⟨w.heap.size, 0, none⟩) n n) (w.alloc (.cells (Z80 n).toArray 80)) := mk_any Yba.underlying30 Yba.info80 n (by omega) (by omega) w
theorem mk38 (n : Nat) (hn : n ≤ 600) (w : World) : (Instr.makeSlice 38 (.int .i64 n) (.int .i64 n)).run Yba.prog w = .ok (.slice (some ⟨w.heap.size, 0, none⟩) n n) (w.alloc (.cells (Z29 n).toArray 29)) := mk_any Yba.underlying38 Yba.info29 n (by omega) (by omega) w
theorem mk27 (n : Nat) (hn : n ≤ 600) (w : World) : (Instr.makeSlice 27 (.int .i64 n) (.int .i64 n)).run Yba.prog w = .ok (.slice (some ⟨w.heap.size, 0, none⟩) n n) (w.alloc (.cells (Z3 n).toArray 3)) := by
  have := mk_any Yba.underlying27 Yba.info3 n (by omega) (by omega) w
  rw [Nat.mul_one] at this
  exact this
theorem mk31 (n : Nat) (hn : n ≤ 600) (w : World) : (Instr.makeSlice 31 (.int .i64 n) (.int .i64 n)).run Yba.prog w = .ok (.slice (some ⟨w.heap.size, 0, none⟩) n n) (w.alloc (.cells (Z27 n).toArray 27)) := by
  have := mk_any Yba.underlying31 Yba.info27 n (by omega) (by omega) w
  rw [Nat.mul_one] at this
  exact this
theorem mk24 (n : Nat) (hn : n ≤ 600) (w : World) : (Instr.makeSlice 24 (.int .i64 n) (.int .i64 n)).run Yba.prog w = .ok (.slice (some ⟨w.heap.size, 0, none⟩) n n) (w.alloc (.cells (Z4 n).toArray 4)) := by
  have := mk_any Yba.underlying24 Yba.info4 n (by omega) (by omega) w
  rw [Nat.mul_one] at this
  exact this

theorem at_any (a : Option Addr) (len cap : Nat) (z : Nat → Int) (j : Nat) (w : World) (hA : Arr .i16 w a len z) (hz : ∀ j, -32768 ≤ z j ∧ z j ≤ 32767) :
    Calls Yba.prog 10 #[.slice a len cap, .int .i64 j] w fun e w' => e = .returned (.int .i64 (atZ len z j)) ∧ w' = w := by
  have hzj := hz j
  by_cases hj : j < len
  · rcases hA with h0 | ⟨b, off, rfl, hb, hc⟩
    · omega
    · have hcj := hc j hj
      clear hc hz
      go_enter Yba.func10, Yba.ntmps10
      go_wp2
      go_ret
      exact ⟨by simp [atZ, hj], rfl⟩
  · clear hA hz
    go_enter Yba.func10, Yba.ntmps10
    go_wp2
    go_ret
    exact ⟨by simp [atZ, hj], rfl⟩

/-! ### Tables of ints -/
def upd (f : Nat → Int) (e : Nat) (v : Int) : Nat → Int := fun k => if k = e then v else f k
def Tab (L : List Value) (N : Nat) (f : Nat → Int) : Prop := L.length = N ∧ ∀ k, k < N → L[k]? = some (.int .i64 (f k))
theorem Tab.at {L : List Value} {N : Nat} {f : Nat → Int} (h : Tab L N f) {k : Nat} (hk : k < N) : L[k]? = some (.int .i64 (f k)) := h.2 k hk
theorem Tab.set {L : List Value} {N : Nat} {f : Nat → Int} (h : Tab L N f) {e : Nat} (he : e < N) (v : Int) : Tab (L.set e (.int .i64 v)) N (upd f e v) := by
  refine ⟨by simp [h.1], fun k hk => ?_⟩
  rw [List.getElem?_set]
  unfold upd
  by_cases e' : e = k
  · subst e'; simp [h.1, he]
  · rw [if_neg e', if_neg (fun x => e' x.symm)]; exact h.2 k hk
theorem Tab.congr {L : List Value} {N : Nat} {f g : Nat → Int} (h : Tab L N f) (e : ∀ k, k < N → f k = g k) : Tab L N g := ⟨h.1, fun k hk => by rw [h.2 k hk, e k hk]⟩
theorem Tab.zero (n : Nat) : Tab (Z3 n) n (fun _ => 0) := ⟨made_len _ _, fun k hk => by unfold Z3; rw [made_get _ _ _ hk]; simp [Nat.mod_one]⟩
/-- What the table of operations holds: fences, call, ret. -/
def OpsT (L : List Value) (n : Nat) (fen call ret : Nat → Int) : Prop :=
  L.length = n * 12 ∧ ∀ k, k < n → L[k * 12 + 6]? = some (.int .u8 (fen k)) ∧ L[k * 12 + 8]? = some (.int .i64 (call k)) ∧ L[k * 12 + 9]? = some (.int .i64 (ret k)) ∧ (∃ v, L[k * 12]? = some (.int .i64 v))
theorem OpsT.zero (n : Nat) : OpsT (Z80 n) n (fun _ => 0) (fun _ => 0) (fun _ => 0) := by
  refine ⟨made_len _ _, fun k hk => ?_⟩
  have e : ∀ o, o < 12 → (Z80 n)[k * 12 + o]? = some (z80.cells[o]!) := by
    intro o ho
    unfold Z80
    rw [made_get _ _ _ (by omega)]
    have h : (k * 12 + o) % z80.cells.size = o := by
      show (k * 12 + o) % 12 = o
      omega
    rw [h]
  exact ⟨e 6 (by omega), e 8 (by omega), e 9 (by omega), 0, e 0 (by omega)⟩

def cnt (pz : Nat → Int) : Nat → Nat → Int
  | 0, _ => 0
  | j + 1, p => cnt pz j p + if pz j % 3 = p then 1 else 0
theorem cnt_bd (pz : Nat → Int) (j p : Nat) : 0 ≤ cnt pz j p ∧ cnt pz j p ≤ j := by
  induction j with
  | zero => simp [cnt]
  | succ j ih => simp only [cnt]; split <;> omega

theorem OpsT.step {L : List Value} {n : Nat} {fen call ret : Nat → Int} (h : OpsT L n fen call ret) {j : Nat} (hj : j < n) (p c r : Int) :
    OpsT (((L.set (j * 12) (.int .i64 p)).set (j * 12 + 8) (.int .i64 c)).set (j * 12 + 9) (.int .i64 r)) n fen (upd call j c) (upd ret j r) := by
  refine ⟨by simp [h.1], fun k hk => ?_⟩
  obtain ⟨h1, h2, h3, v, h4⟩ := h.2 k hk
  have hl := h.1
  simp only [List.getElem?_set, List.length_set, hl]
  by_cases e : j = k
  · subst e
    refine ⟨?_, ?_, ?_, p, ?_⟩
    · rw [if_neg (by omega), if_neg (by omega), if_neg (by omega)]; exact h1
    · rw [if_neg (by omega), if_pos rfl, if_pos (by omega)]; simp [upd]
    · rw [if_pos rfl, if_pos (by omega)]; simp [upd]
    · rw [if_neg (by omega), if_neg (by omega), if_pos rfl, if_pos (by omega)]
  · refine ⟨?_, ?_, ?_, v, ?_⟩
    · rw [if_neg (by omega), if_neg (by omega), if_neg (by omega)]; exact h1
    · rw [if_neg (by omega), if_neg (by omega), if_neg (by omega)]; simp [upd, Ne.symm e]; exact h2
    · rw [if_neg (by omega), if_neg (by omega), if_neg (by omega)]; simp [upd, Ne.symm e]; exact h3
    · rw [if_neg (by omega), if_neg (by omega), if_neg (by omega)]; exact h4
theorem OpsT.fence {L : List Value} {n : Nat} {fen call ret : Nat → Int} (h : OpsT L n fen call ret) {j : Nat} (hj : j < n) (f : Int) :
    OpsT (L.set (j * 12 + 6) (.int .u8 f)) n (upd fen j f) call ret := by
  refine ⟨by simp [h.1], fun k hk => ?_⟩
  obtain ⟨h1, h2, h3, v, h4⟩ := h.2 k hk
  have hl := h.1
  simp only [List.getElem?_set, hl]
  refine ⟨?_, ?_, ?_, v, ?_⟩
  · by_cases e : j = k
    · subst e; rw [if_pos rfl, if_pos (by omega)]; simp [upd]
    · rw [if_neg (by omega)]; simp [upd, Ne.symm e]; exact h1
  · rw [if_neg (by omega)]; exact h2
  · rw [if_neg (by omega)]; exact h3
  · rw [if_neg (by omega)]; exact h4
theorem OpsT.congr {L : List Value} {n : Nat} {fen call ret fen' call' ret' : Nat → Int} (h : OpsT L n fen call ret) (e : ∀ k, k < n → fen k = fen' k ∧ call k = call' k ∧ ret k = ret' k) : OpsT L n fen' call' ret' :=
  ⟨h.1, fun k hk => by obtain ⟨e1, e2, e3⟩ := e k hk; rw [← e1, ← e2, ← e3]; exact h.2 k hk⟩
theorem cnt_step (pz : Nat → Int) (j : Nat) (hq : 0 ≤ pz j % 3) (k : Nat) : cnt pz (j + 1) k = upd (fun p => cnt pz j p) (pz j % 3).toNat (cnt pz j (pz j % 3).toNat + 1) k := by
  simp only [cnt, upd]
  by_cases e : k = (pz j % 3).toNat
  · subst e; rw [if_pos (by omega), if_pos rfl]
  · rw [if_neg (by omega), if_neg e]; omega


/-- What the store holds at the head of build's round j. B: the heap's size where build began. -/
structure BR (B lp : Nat) (c25 : List Value) (n len1 len2 : Nat) (pz cz rz : Nat → Int) (pull : Nat → Bool) (j : Nat) (T : Sto) : Prop where
  d1 : T.dom 1
  d2 : T.dom 2
  d3 : T.dom 3
  d4 : T.dom 4
  d5 : T.dom 5
  d25 : T.dom 25
  d26 : T.dom 26
  l1 : T.loc 1 = B
  l2 : T.loc 2 = B + 1
  l3 : T.loc 3 = B + 1 + 1
  l4 : T.loc 4 = B + 1 + 1 + 1
  l5 : T.loc 5 = B + 1 + 1 + 1 + 1
  l26 : T.loc 26 = B + 1 + 1 + 1 + 1 + 1
  l25 : T.loc 25 = lp
  t1 : T.ty 1 = 80
  t2 : T.ty 2 = 3
  t3 : T.ty 3 = 3
  t4 : T.ty 4 = 3
  t5 : T.ty 5 = 3
  c25 : T.cells 25 = c25
  cO : OpsT (T.cells 1) n (fun k => if k < j then (if pull k then 2 else 0) else 0) (fun k => if k < j then atZ len1 cz k else 0) (fun k => if k < j then atZ len2 rz k else 0)
  c2 : Tab (T.cells 2) n (fun k => if k < j then pz k % 3 else 0)
  c3 : Tab (T.cells 3) n (fun k => if k < j then cnt pz k (pz k % 3).toNat else 0)
  c4 : Tab (T.cells 4) n (fun _ => 0)
  c5 : Tab (T.cells 5) n (fun k => if k < j then 1 else 0)
  c26 : Tab (T.cells 26) 3 (fun p => cnt pz j p)

theorem BR.step {w0 wr : World} {B lp : Nat} {c25 : List Value} {n len1 len2 : Nat} {pz cz rz : Nat → Int} {pull : Nat → Bool} {j : Nat} {T : Sto}
    (h : BR B lp c25 n len1 len2 pz cz rz pull j T) (hT : Good w0 wr T) (hlt : j < n) (q1 : 0 ≤ pz j % 3 ∧ pz j % 3 < 3) (hpl : pull j = false) :
    ∃ T', Good w0 (((((((wr.setCell ⟨B + 1, j, none⟩ (.int .i64 (pz j % 3))).setCell ⟨B + 1 + 1, j, none⟩ (.int .i64 (cnt pz j (pz j % 3).toNat))).setCell ⟨B + 1 + 1 + 1 + 1 + 1, (pz j % 3).toNat, none⟩ (.int .i64 (cnt pz j (pz j % 3).toNat + 1))).setCell ⟨B, j * 12, none⟩ (.int .i64 (pz j % 3))).setCell ⟨B, j * 12 + 8, none⟩ (.int .i64 (atZ len1 cz j))).setCell ⟨B, j * 12 + 9, none⟩ (.int .i64 (atZ len2 rz j))).setCell ⟨B + 1 + 1 + 1 + 1, j, none⟩ (.int .i64 1)) T'
      ∧ BR B lp c25 n len1 len2 pz cz rz pull (j + 1) T' := by
  have T1 := (((((((hT.setCell 2 j h.d2 (.int .i64 (pz j % 3))).setCell 3 j h.d3 (.int .i64 (cnt pz j (pz j % 3).toNat))).setCell 26 (pz j % 3).toNat h.d26 (.int .i64 (cnt pz j (pz j % 3).toNat + 1))).setCell 1 (j * 12) h.d1 (.int .i64 (pz j % 3))).setCell 1 (j * 12 + 8) h.d1 (.int .i64 (atZ len1 cz j))).setCell 1 (j * 12 + 9) h.d1 (.int .i64 (atZ len2 rz j))).setCell 5 j h.d5 (.int .i64 1))
  refine ⟨_, by simpa only [Sto.set, h.l1, h.l2, h.l3, h.l5, h.l26] using T1, ?_⟩
  have hO := h.cO.step hlt (pz j % 3) (atZ len1 cz j) (atZ len2 rz j)
  have h2 := h.c2.set hlt (pz j % 3)
  have h3 := h.c3.set hlt (cnt pz j (pz j % 3).toNat)
  have h5 := h.c5.set hlt 1
  have h26 := h.c26.set (e := (pz j % 3).toNat) (by omega) (cnt pz j (pz j % 3).toNat + 1)
  refine ⟨h.d1, h.d2, h.d3, h.d4, h.d5, h.d25, h.d26, h.l1, h.l2, h.l3, h.l4, h.l5, h.l26, h.l25, h.t1, h.t2, h.t3, h.t4, h.t5, by simpa using h.c25, ?_, ?_, ?_, by simpa using h.c4, ?_, ?_⟩
  · simp
    refine hO.congr fun k hk => ⟨?_, ?_, ?_⟩
    · by_cases e : k = j
      · subst e; simp [hpl]
      · simp [show (k < j + 1) = (k < j) from by simp; omega]
    · unfold upd; by_cases e : k = j
      · subst e; simp
      · simp [e, show (k < j + 1) = (k < j) from by simp; omega]
    · unfold upd; by_cases e : k = j
      · subst e; simp
      · simp [e, show (k < j + 1) = (k < j) from by simp; omega]
  · simp
    refine h2.congr fun k hk => ?_
    unfold upd; by_cases e : k = j
    · subst e; simp
    · simp [e, show (k < j + 1) = (k < j) from by simp; omega]
  · simp
    refine h3.congr fun k hk => ?_
    unfold upd; by_cases e : k = j
    · subst e; simp
    · simp [e, show (k < j + 1) = (k < j) from by simp; omega]
  · simp
    refine h5.congr fun k hk => ?_
    unfold upd; by_cases e : k = j
    · subst e; simp
    · simp [e, show (k < j + 1) = (k < j) from by simp; omega]
  · simp
    exact h26.congr fun k hk => (cnt_step pz j q1.1 k).symm
theorem BR.stepP {w0 wr : World} {B lp : Nat} {c25 : List Value} {n len1 len2 : Nat} {pz cz rz : Nat → Int} {pull : Nat → Bool} {j : Nat} {T : Sto}
    (h : BR B lp c25 n len1 len2 pz cz rz pull j T) (hT : Good w0 wr T) (hlt : j < n) (q1 : 0 ≤ pz j % 3 ∧ pz j % 3 < 3) (hpl : pull j = true) :
    ∃ T', Good w0 ((((((((wr.setCell ⟨B + 1, j, none⟩ (.int .i64 (pz j % 3))).setCell ⟨B + 1 + 1, j, none⟩ (.int .i64 (cnt pz j (pz j % 3).toNat))).setCell ⟨B + 1 + 1 + 1 + 1 + 1, (pz j % 3).toNat, none⟩ (.int .i64 (cnt pz j (pz j % 3).toNat + 1))).setCell ⟨B, j * 12, none⟩ (.int .i64 (pz j % 3))).setCell ⟨B, j * 12 + 8, none⟩ (.int .i64 (atZ len1 cz j))).setCell ⟨B, j * 12 + 9, none⟩ (.int .i64 (atZ len2 rz j))).setCell ⟨B, j * 12 + 6, none⟩ (.int .u8 2)).setCell ⟨B + 1 + 1 + 1 + 1, j, none⟩ (.int .i64 1)) T'
      ∧ BR B lp c25 n len1 len2 pz cz rz pull (j + 1) T' := by
  have T1 := ((((((((hT.setCell 2 j h.d2 (.int .i64 (pz j % 3))).setCell 3 j h.d3 (.int .i64 (cnt pz j (pz j % 3).toNat))).setCell 26 (pz j % 3).toNat h.d26 (.int .i64 (cnt pz j (pz j % 3).toNat + 1))).setCell 1 (j * 12) h.d1 (.int .i64 (pz j % 3))).setCell 1 (j * 12 + 8) h.d1 (.int .i64 (atZ len1 cz j))).setCell 1 (j * 12 + 9) h.d1 (.int .i64 (atZ len2 rz j))).setCell 1 (j * 12 + 6) h.d1 (.int .u8 2)).setCell 5 j h.d5 (.int .i64 1))
  refine ⟨_, by simpa only [Sto.set, h.l1, h.l2, h.l3, h.l5, h.l26] using T1, ?_⟩
  have hO := (h.cO.step hlt (pz j % 3) (atZ len1 cz j) (atZ len2 rz j)).fence hlt 2
  have h2 := h.c2.set hlt (pz j % 3)
  have h3 := h.c3.set hlt (cnt pz j (pz j % 3).toNat)
  have h5 := h.c5.set hlt 1
  have h26 := h.c26.set (e := (pz j % 3).toNat) (by omega) (cnt pz j (pz j % 3).toNat + 1)
  refine ⟨h.d1, h.d2, h.d3, h.d4, h.d5, h.d25, h.d26, h.l1, h.l2, h.l3, h.l4, h.l5, h.l26, h.l25, h.t1, h.t2, h.t3, h.t4, h.t5, by simpa using h.c25, ?_, ?_, ?_, by simpa using h.c4, ?_, ?_⟩
  · simp
    refine hO.congr fun k hk => ⟨?_, ?_, ?_⟩
    · unfold upd; by_cases e : k = j
      · subst e; simp [hpl]
      · simp [e, show (k < j + 1) = (k < j) from by simp; omega]
    · unfold upd; by_cases e : k = j
      · subst e; simp
      · simp [e, show (k < j + 1) = (k < j) from by simp; omega]
    · unfold upd; by_cases e : k = j
      · subst e; simp
      · simp [e, show (k < j + 1) = (k < j) from by simp; omega]
  · simp
    refine h2.congr fun k hk => ?_
    unfold upd; by_cases e : k = j
    · subst e; simp
    · simp [e, show (k < j + 1) = (k < j) from by simp; omega]
  · simp
    refine h3.congr fun k hk => ?_
    unfold upd; by_cases e : k = j
    · subst e; simp
    · simp [e, show (k < j + 1) = (k < j) from by simp; omega]
  · simp
    refine h5.congr fun k hk => ?_
    unfold upd; by_cases e : k = j
    · subst e; simp
    · simp [e, show (k < j + 1) = (k < j) from by simp; omega]
  · simp
    exact h26.congr fun k hk => (cnt_step pz j q1.1 k).symm
end Go.Proofs.Ybulkdasy
