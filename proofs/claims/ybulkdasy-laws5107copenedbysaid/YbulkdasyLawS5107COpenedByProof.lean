/-
  THE PROOF OF 'Rows.LawS5107COpenedBySaid'. The frame is the seed's shell (proof-skeleton.mjs); the walk is ours. 
-/
import Derived.Test.YbulkdasyRows
import Derived.WalkKit
import Derived.ProofKit
import Derived.OpenShut
import Derived.ShutString
import Derived.Deep.QuietTactic
import Derived.BigQuiet
namespace Go.Proofs.Ybulkdasy.lawS5107COpenedBy
open Go.ChangeShapes Go.WideShapes Go.ChangeAt Go.RowKit
open Go.ChangeMaps (open_string shut_string)
set_option linter.unusedVariables false      -- a walk need not use every 'w<i>' (that an integer argument fits its kind)

theorem own : ownKnob Yba.prog.godebug = none := by kernel_rfl

/-! ### STEP 1: THE WALK: the Go text returns true. 'Grown w w'': the world has at most new blocks (Derived/RowKit3.lean). Part the cases AHEAD of 'go_enter' where a test parts the walk; take each callee by a contract of your own. -/
theorem o0 (h) : (⟨#[40, 91, 123]⟩ : ByteArray)[0]'h = 40 := rfl
theorem o1 (h) : (⟨#[40, 91, 123]⟩ : ByteArray)[1]'h = 91 := rfl
theorem o2 (h) : (⟨#[40, 91, 123]⟩ : ByteArray)[2]'h = 123 := rfl
theorem c0 (h) : (⟨#[41, 93, 125]⟩ : ByteArray)[0]'h = 41 := rfl
theorem c1 (h) : (⟨#[41, 93, 125]⟩ : ByteArray)[1]'h = 93 := rfl
theorem c2 (h) : (⟨#[41, 93, 125]⟩ : ByteArray)[2]'h = 125 := rfl
theorem s0 (h) : (⟨#[40]⟩ : ByteArray)[0]'h = 40 := rfl
theorem s1 (h) : (⟨#[91]⟩ : ByteArray)[0]'h = 91 := rfl
theorem s2 (h) : (⟨#[123]⟩ : ByteArray)[0]'h = 123 := rfl
attribute [local go_sem] o0 o1 o2 c0 c1 c2 s0 s1 s2
set_option maxHeartbeats 1000000 in
theorem walk (a0 : Int) (w0 : (Lit.int .u8 a0).wf = true) (w : World) :
    Calls Yba.prog 7 #[.int .u8 a0] w fun e w' => e = .returned (.bool true) ∧ Grown w w' := by
  have hb := bounds_u8 w0
  have h0 : 0 ≤ a0 := hb.1
  have h1 : a0 ≤ 255 := hb.2
  clear hb w0
  have hm : a0 % 3 = 0 ∨ a0 % 3 = 1 ∨ a0 % 3 = 2 := by omega
  rcases hm with h | h | h
  all_goals
    go_enter Yba.func7, Yba.ntmps7
    go_wp2
    go_quiet (fail)
    go_wp2
    go_ret
    exact ⟨by simp, by repeat (first | exact Grown.refl _ | apply Grown.drew | apply Grown.alloc)⟩

/-! ### THE ROW's STEP: WRITTEN OUT: LEAVE IT -/
set_option maxRecDepth 100000 in
theorem lifted (os : Os) (started : os.Started) (H : Type) (enc : TypeId × Value → H) :
    ReturnsInHanded {} Yba.checked os 7 .any (Rows.lawS5107COpenedBySpec.pre6 enc Yba.prog Yba.f7 Rows.lawS5107COpenedByRow.domain false) (Rows.lawS5107COpenedBySpec.post enc Yba.prog Yba.f7 false true false false) := by
  refine returnsInHanded_of_change (C := Yba.checked) own started (by kernel_rfl) Yba.func7
    (ChangeSpec.witness6 (enc := enc) (C := Yba.checked) false ⟨#[], #[.int .u8 0], []⟩ 8 (by kernel_rfl) (by kernel_rfl) (by kernel_rfl) (by kernel_rfl)) ?_
  intro W base args ds gs before hval0 hW hcnd _
  have hval : ∀ (j : Nat) t v, Yba.f7.params[j]? = some t → args[j]? = some v → Value.okWide Yba.prog W .any base t v := hval0
  have hW' := hW
  obtain ⟨p, q, hA0, hV, rfl, hfz, hnd⟩ := hW
  have hA : DataW.TrodAll enc Yba.prog W 0 (fun _ => true) true Yba.f7.params.toList args.toList ds p := hA0
  rw [Yba.params7] at hA hval
  obtain ⟨v0, vs0, d0, ds0, p0, q0, hargs, rfl, rfl, h0, r0⟩ := trodAll_cons hA
  obtain ⟨rfl, rfl, rfl⟩ := trodAll_nil r0
  obtain rfl : args = #[v0] := by cases args; simp_all
  obtain ⟨rfl, rfl⟩ := trodVars_none hV
  obtain ⟨a0, rfl, rfl, rfl, w0⟩ := open_int Yba.underlying5 (hval 0 5 v0 rfl rfl) h0
  clear hA0 hval0
  simp only [List.append_nil] at hW'
  refine (walk a0 w0 W).mono fun e W' ⟨he, hg⟩ => ?_
  subst he
  exact ⟨_, rfl, post_of_same (pa := []) (pv := []) hW' (fun _ _ _ => (trodAll_cons_mk (shut_bool Yba.underlying4 _) trodAll_mk0)) (fun sp _ => (trodAll_cons_mk (shut_int Yba.underlying5 w0) trodAll_mk0)) (fun _ _ => rfl) rfl
    (hg.frame _) hg.2.1 (ok_one (by kernel_rfl) rfl (okWide_bool_mk Yba.underlying4 _))⟩

theorem over : Rows.lawS5107COpenedByRow.holds Yba.pinned (OpenSpec.ofChange Rows.lawS5107COpenedBySpec) :=
  OpenClaim.holds_of_wide 7 Yba.f7 rfl rfl rfl rfl rfl rfl rfl ⟨rfl, rfl, rfl, rfl, rfl⟩ rfl rfl rfl rfl rfl (by kernel_rfl) Yba.func7 (by kernel_rfl)
    (of_decide_eq_true (by kernel_rfl)) (by unfold Func.isWrapper; first | (rw [if_pos (by decide +kernel)]; kernel_rfl) | (rw [if_neg (by decide +kernel)]; exact ⟨rfl, rfl⟩))
    (fun os started H enc _ => lifted os started H enc)

/-- ████ THE STATEMENT ████ -/
theorem proved : Rows.LawS5107COpenedBySaid :=
  over
#print axioms proved
end Go.Proofs.Ybulkdasy.lawS5107COpenedBy
