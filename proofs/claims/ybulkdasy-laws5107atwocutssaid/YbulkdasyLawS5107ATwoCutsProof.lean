/-
  THE PROOF OF 'Rows.LawS5107ATwoCutsSaid'. The frame is the seed's shell (proof-skeleton.mjs); the walk is ours.
-/
import Derived.Test.YbulkdasyRows
import Derived.WalkKit
import Derived.ProofKit
import Derived.OpenShut
import Derived.ShutString
import Derived.ChangeOld
import Derived.Below
import Derived.Test.YbulkdasyLawTwo
namespace Go.Proofs.Ybulkdasy.lawS5107ATwoCuts
open Go.ChangeShapes Go.WideShapes Go.ChangeAt Go.RowKit
open Go.ChangeMaps (open_string shut_string)
set_option linter.unusedVariables false

theorem own : ownKnob Yba.prog.godebug = none := by kernel_rfl
theorem laidOut : laidOutB Yba.prog = true := by kernel_rfl

/-- WHAT THE WALK IS TOLD OF A SLICE OF INTEGERS THAT CAME IN: it is nil; or it leads to a row of 'cap' cells, the numbers 'zs' (the first 'len' are its elements, the rest its spare room), each fitting its kind. -/
def IsRow (k : IntKind) (w : World) (a : Option Addr) (len cap : Nat) (zs : List Int) : Prop :=
  (a = none ∧ len = 0 ∧ cap = 0 ∧ zs = []) ∨
  ∃ x, a = some x ∧ len ≤ cap ∧ cap ≤ maxLen ∧ zs.length = cap ∧ (∀ i, i < zs.length → w.cell? (x.add i) = some (.int k (zs.getD i 0))) ∧ ∀ n ∈ zs, (Lit.int k n).wf = true

/-! ### STEP 1: THE WALK: the Go text returns true, AND WRITES NOTHING THAT WAS THERE: 'Below w.heap.size w w'' (Derived/Below.lean: '.refl', '.alloc', '.drew', '.setCell' at a new block, '.trans'). Open each 'IsRow' by 'rcases' AHEAD of 'go_enter'; part every test ahead of the walk. -/
theorem walk (a0 : Option Addr) (len0 cap0 : Nat) (z0 : List Int) (a1 : Option Addr) (len1 cap1 : Nat) (z1 : List Int) (a2 : Option Addr) (len2 cap2 : Nat) (z2 : List Int) (a3 : Bool) (a4 : Bool) (a5 : Int) (a6 : Int) (w : World) (w0 : IsRow .u8 w a0 len0 cap0 z0) (w1 : IsRow .i16 w a1 len1 cap1 z1) (w2 : IsRow .i16 w a2 len2 cap2 z2) (w5 : (Lit.int .u8 a5).wf = true) (w6 : (Lit.int .u8 a6).wf = true) :
    Calls Yba.prog 4 #[.slice a0 len0 cap0, .slice a1 len1 cap1, .slice a2 len2 cap2, .bool a3, .bool a4, .int .u8 a5, .int .u8 a6] w fun e w' => e = .returned (.bool true) ∧ Below w.heap.size w w' := by
  have hb0 : ∀ j, 0 ≤ z0.getD j 0 ∧ z0.getD j 0 ≤ 255 := fun j => by
    have h := range_u8 (zs := z0) (fun n hn => by rcases w0 with ⟨_, _, _, rfl⟩ | ⟨_, _, _, _, _, _, h⟩; · simp at hn
                                                  · exact h n hn) j
    simpa [List.getD_eq_getElem?_getD] using h
  have hb1 : ∀ j, -32768 ≤ z1.getD j 0 ∧ z1.getD j 0 ≤ 32767 := fun j => by
    have h := range_i16 (zs := z1) (fun n hn => by rcases w1 with ⟨_, _, _, rfl⟩ | ⟨_, _, _, _, _, _, h⟩; · simp at hn
                                                   · exact h n hn) j
    simpa [List.getD_eq_getElem?_getD] using h
  have hb2 : ∀ j, -32768 ≤ z2.getD j 0 ∧ z2.getD j 0 ≤ 32767 := fun j => by
    have h := range_i16 (zs := z2) (fun n hn => by rcases w2 with ⟨_, _, _, rfl⟩ | ⟨_, _, _, _, _, _, h⟩; · simp at hn
                                                   · exact h n hn) j
    simpa [List.getD_eq_getElem?_getD] using h
  have q0 := arr_of w0
  have q1 := arr_of w1
  have q2 := arr_of w2
  by_cases h2 : len0 < 2
  · clear w0 w1 w2 q0 q1 q2 hb0 hb1 hb2
    have h2' : ((len0 : Int) < 2) := by omega
    go_enter Yba.func4, Yba.ntmps4
    go_wp2
    go_ret
    exact ⟨rfl, Below.refl _ _⟩
  · by_cases h3 : 300 < len0
    · clear w0 w1 w2 q0 q1 q2 hb0 hb1 hb2
      have h3' : (300 < (len0 : Int)) := by omega
      go_enter Yba.func4, Yba.ntmps4
      go_wp2
      go_ret
      exact ⟨rfl, Below.refl _ _⟩
    · exact two_law w a0 a1 a2 len0 cap0 len1 cap1 len2 cap2 _ _ _ q0.1 hb0 q1.1 hb1 q2.1 hb2 a3 a4 a5 a6 (bounds_u8 w5) (bounds_u8 w6) (by omega) (by omega)

/-! ### THE ROW's STEP: WRITTEN OUT: LEAVE IT -/
set_option maxRecDepth 100000 in
theorem lifted (os : Os) (started : os.Started) (H : Type) (enc : TypeId × Value → H) :
    ReturnsInHanded {} Yba.checked os 4 .any (Rows.lawS5107ATwoCutsSpec.pre6 enc Yba.prog Yba.f4 Rows.lawS5107ATwoCutsRow.domain false) (Rows.lawS5107ATwoCutsSpec.post enc Yba.prog Yba.f4 false true false false) := by
  refine returnsInHanded_of_change (C := Yba.checked) own started (by kernel_rfl) Yba.func4
    (ChangeSpec.witness6 (enc := enc) (C := Yba.checked) false ⟨#[], #[.slice none 0 0, .slice none 0 0, .slice none 0 0, .bool false, .bool false, .int .u8 0, .int .u8 0], []⟩ 8 (by kernel_rfl) (by kernel_rfl) (by kernel_rfl) (by kernel_rfl)) ?_
  intro W base args ds gs before hval0 hW hcnd _
  have hval : ∀ (j : Nat) t v, Yba.f4.params[j]? = some t → args[j]? = some v → Value.okWide Yba.prog W .any base t v := hval0
  have hW' := hW
  obtain ⟨p, q, hA0, hV, rfl, hfz, hnd⟩ := hW
  have hA : DataW.TrodAll enc Yba.prog W 0 (fun _ => true) true Yba.f4.params.toList args.toList ds p := hA0
  rw [Yba.params4] at hA hval
  obtain ⟨v0, vs0, d0, ds0, p0, q0, hargs, rfl, rfl, h0, r0⟩ := trodAll_cons hA
  obtain ⟨v1, vs1, d1, ds1, p1, q1, rfl, rfl, rfl, h1, r1⟩ := trodAll_cons r0
  obtain ⟨v2, vs2, d2, ds2, p2, q2, rfl, rfl, rfl, h2, r2⟩ := trodAll_cons r1
  obtain ⟨v3, vs3, d3, ds3, p3, q3, rfl, rfl, rfl, h3, r3⟩ := trodAll_cons r2
  obtain ⟨v4, vs4, d4, ds4, p4, q4, rfl, rfl, rfl, h4, r4⟩ := trodAll_cons r3
  obtain ⟨v5, vs5, d5, ds5, p5, q5, rfl, rfl, rfl, h5, r5⟩ := trodAll_cons r4
  obtain ⟨v6, vs6, d6, ds6, p6, q6, rfl, rfl, rfl, h6, r6⟩ := trodAll_cons r5
  obtain ⟨rfl, rfl, rfl⟩ := trodAll_nil r6
  obtain rfl : args = #[v0, v1, v2, v3, v4, v5, v6] := by cases args; simp_all
  obtain ⟨rfl, rfl⟩ := trodVars_none hV
  obtain ⟨a0, len0, cap0, rfl⟩ := okWide_slice Yba.underlying22 (hval 0 22 v0 rfl rfl)
  have k0 := h0
  have lt0 : ∀ x ∈ p0, x.block < W.heap.size := by obtain ⟨m, hm⟩ := k0; exact DataW.trod_lt m _ _ _ hm
  obtain ⟨z0, w0⟩ : ∃ zs, IsRow .u8 W a0 len0 cap0 zs := by
    obtain ⟨fuel, hf⟩ := h0
    rcases open_ints Yba.underlying22 Yba.underlying5 (by kernel_rfl) hf with ⟨hcs, _⟩ | ⟨x, l, c, zs, hcs, _, hl, hm, hz, _, hcell, hwz⟩
    · simp [Value.cells] at hcs
      obtain ⟨rfl, rfl, rfl⟩ := hcs
      exact ⟨[], .inl ⟨rfl, rfl, rfl, rfl⟩⟩
    · simp [Value.cells] at hcs
      obtain ⟨rfl, rfl, rfl⟩ := hcs
      exact ⟨zs, .inr ⟨_, rfl, hl, hm, by simpa using hz, hcell, hwz⟩⟩
  obtain ⟨a1, len1, cap1, rfl⟩ := okWide_slice Yba.underlying23 (hval 1 23 v1 rfl rfl)
  have k1 := h1
  have lt1 : ∀ x ∈ p1, x.block < W.heap.size := by obtain ⟨m, hm⟩ := k1; exact DataW.trod_lt m _ _ _ hm
  obtain ⟨z1, w1⟩ : ∃ zs, IsRow .i16 W a1 len1 cap1 zs := by
    obtain ⟨fuel, hf⟩ := h1
    rcases open_ints Yba.underlying23 Yba.underlying90 (by kernel_rfl) hf with ⟨hcs, _⟩ | ⟨x, l, c, zs, hcs, _, hl, hm, hz, _, hcell, hwz⟩
    · simp [Value.cells] at hcs
      obtain ⟨rfl, rfl, rfl⟩ := hcs
      exact ⟨[], .inl ⟨rfl, rfl, rfl, rfl⟩⟩
    · simp [Value.cells] at hcs
      obtain ⟨rfl, rfl, rfl⟩ := hcs
      exact ⟨zs, .inr ⟨_, rfl, hl, hm, by simpa using hz, hcell, hwz⟩⟩
  obtain ⟨a2, len2, cap2, rfl⟩ := okWide_slice Yba.underlying23 (hval 2 23 v2 rfl rfl)
  have k2 := h2
  have lt2 : ∀ x ∈ p2, x.block < W.heap.size := by obtain ⟨m, hm⟩ := k2; exact DataW.trod_lt m _ _ _ hm
  obtain ⟨z2, w2⟩ : ∃ zs, IsRow .i16 W a2 len2 cap2 zs := by
    obtain ⟨fuel, hf⟩ := h2
    rcases open_ints Yba.underlying23 Yba.underlying90 (by kernel_rfl) hf with ⟨hcs, _⟩ | ⟨x, l, c, zs, hcs, _, hl, hm, hz, _, hcell, hwz⟩
    · simp [Value.cells] at hcs
      obtain ⟨rfl, rfl, rfl⟩ := hcs
      exact ⟨[], .inl ⟨rfl, rfl, rfl, rfl⟩⟩
    · simp [Value.cells] at hcs
      obtain ⟨rfl, rfl, rfl⟩ := hcs
      exact ⟨zs, .inr ⟨_, rfl, hl, hm, by simpa using hz, hcell, hwz⟩⟩
  obtain ⟨a3, rfl, rfl, rfl⟩ := open_bool Yba.underlying4 (hval 3 4 v3 rfl rfl) h3
  obtain ⟨a4, rfl, rfl, rfl⟩ := open_bool Yba.underlying4 (hval 4 4 v4 rfl rfl) h4
  obtain ⟨a5, rfl, rfl, rfl, w5⟩ := open_int Yba.underlying5 (hval 5 5 v5 rfl rfl) h5
  obtain ⟨a6, rfl, rfl, rfl, w6⟩ := open_int Yba.underlying5 (hval 6 5 v6 rfl rfl) h6
  clear hA0 hval0
  refine (walk a0 len0 cap0 z0 a1 len1 cap1 z1 a2 len2 cap2 z2 a3 a4 a5 a6 W w0 w1 w2 w5 w6).mono fun e W' ⟨he, bel⟩ => ?_
  subst he
  exact ⟨_, rfl, _, _, _, [], _, [], hW', trodAll_mk1 (shut_bool Yba.underlying4 _), (trodAll_cons_mk (Below.trod laidOut (by kernel_rfl) (of_decide_eq_true (by kernel_rfl)) k0 bel lt0) (trodAll_cons_mk (Below.trod laidOut (by kernel_rfl) (of_decide_eq_true (by kernel_rfl)) k1 bel lt1) (trodAll_cons_mk (Below.trod laidOut (by kernel_rfl) (of_decide_eq_true (by kernel_rfl)) k2 bel lt2) (trodAll_cons_mk (shut_bool Yba.underlying4 _) (trodAll_cons_mk (shut_bool Yba.underlying4 _) (trodAll_cons_mk (shut_int Yba.underlying5 w5) (trodAll_cons_mk (shut_int Yba.underlying5 w6) trodAll_mk0))))))), rfl, bel.frame _, fun h => by cases h⟩

theorem over : Rows.lawS5107ATwoCutsRow.holds Yba.pinned (OpenSpec.ofChange Rows.lawS5107ATwoCutsSpec) :=
  OpenClaim.holds_of_wide 4 Yba.f4 rfl rfl rfl rfl rfl rfl rfl ⟨rfl, rfl, rfl, rfl, rfl⟩ rfl rfl rfl rfl rfl (by kernel_rfl) Yba.func4 (by kernel_rfl)
    (of_decide_eq_true (by kernel_rfl)) (by unfold Func.isWrapper; first | (rw [if_pos (by decide +kernel)]; kernel_rfl) | (rw [if_neg (by decide +kernel)]; exact ⟨rfl, rfl⟩))
    (fun os started H enc _ => lifted os started H enc)

/-- ████ THE STATEMENT ████ -/
theorem proved : Rows.LawS5107ATwoCutsSaid := over
#print axioms proved
end Go.Proofs.Ybulkdasy.lawS5107ATwoCuts
