import Derived.Test.YbulkdaxuSlabC
import Derived.Laws.Externs
namespace Go.Proofs.Ybulkdaxu
open Go.RowKit
set_option linter.unusedSimpArgs false
set_option linter.unusedVariables false

def R3 (v : Int) : Prop := -(2 ^ 34) ≤ v ∧ v ≤ 2 ^ 34
def R6 (v : Int) : Prop := -(2 ^ 38) ≤ v ∧ v ≤ 2 ^ 38
theorem R3.rg {v : Int} (h : R3 v) : RG v := ⟨by have := h.1; omega, by have := h.2; omega⟩
theorem R6.rg {v : Int} (h : R6 v) : RG v := ⟨by have := h.1; omega, by have := h.2; omega⟩

def apV (a b c d e f : Int) : Int := min (c - b) (a - e + (f - d))
theorem apV_r {a b c d e f : Int} (ha : R3 a) (hb : R3 b) (hc : R3 c) (hd : R3 d) (he : R3 e) (hf : R3 f) : R6 (apV a b c d e f) := by unfold R3 R6 apV at *; omega
set_option maxHeartbeats 1000000 in
theorem apart_any (h : Int → Nat) (K : FK h) (w : World) (a b c d e f : Int) (ha : R3 a) (hb : R3 b) (hc : R3 c) (hd : R3 d) (he : R3 e) (hf : R3 f) :
    Calls Yba.prog 66 #[.float .f64 (h a), .float .f64 (h b), .float .f64 (h c), .float .f64 (h d), .float .f64 (h e), .float .f64 (h f)] w fun r w' => r = .returned (.float .f64 (h (apV a b c d e f))) ∧ w' = w := by
  have s1 := K.sub hc.rg hb.rg
  have s2 := K.sub ha.rg he.rg
  have s3 := K.sub hf.rg hd.rg
  have s4 := K.add (u := a - e) (v := f - d) (by unfold R3 RG at *; omega) (by unfold R3 RG at *; omega)
  have s5 := K.mn (u := c - b) (v := a - e + (f - d)) (by unfold R3 RG at *; omega) (by unfold R3 RG at *; omega)
  go_enter Yba.func66, Yba.ntmps66
  go_wp2_with fail
  go_ret
  exact ⟨rfl, rfl⟩

def gaB (a b c d : Int) : Bool := (decide (c < a) && decide (d ≤ a)) || decide (b ≤ c)
def gaV (a b c d e f : Int) : Int := if decide (c < a) && decide (d ≤ a) then apV c d a b e f else if b ≤ c then apV a b c d e f else 0
theorem gaV_r {a b c d e f : Int} (ha : R3 a) (hb : R3 b) (hc : R3 c) (hd : R3 d) (he : R3 e) (hf : R3 f) : R6 (gaV a b c d e f) := by
  unfold gaV; split
  · exact apV_r hc hd ha hb he hf
  · split
    · exact apV_r ha hb hc hd he hf
    · exact ⟨by decide, by decide⟩
def GA (h : Int → Nat) (w : World) (a b c d e f : Int) (r : Ending) (w' : World) : Prop := r = .returned (.tuple #[.float .f64 (h (gaV a b c d e f)), .bool (gaB a b c d)]) ∧ w' = w
theorem GA.mk' {h : Int → Nat} {w : World} {a b c d e f v : Int} {B : Bool} (h1 : gaV a b c d e f = v) (h2 : gaB a b c d = B) : GA h w a b c d e f (.returned (.tuple #[.float .f64 (h v), .bool B])) w := by
  unfold GA; rw [h1, h2]; exact ⟨rfl, rfl⟩
set_option maxRecDepth 100000 in
set_option maxHeartbeats 2000000 in
theorem gapac_any (h : Int → Nat) (K : FK h) (w : World) (a b c d e f : Int) (ha : R3 a) (hb : R3 b) (hc : R3 c) (hd : R3 d) (he : R3 e) (hf : R3 f) :
    Calls Yba.prog 55 #[.float .f64 (h a), .float .f64 (h b), .float .f64 (h c), .float .f64 (h d), .float .f64 (h e), .float .f64 (h f)] w (GA h w a b c d e f) := by
  have o1 := K.lt hc.rg ha.rg
  have o2 := K.le hd.rg ha.rg
  have o3 := K.le hb.rg hc.rg
  have k0 := Hid.mk K.c0
  go_enter Yba.func55, Yba.ntmps55
  by_cases h1 : c < a
  · rw [decide_eq_true h1] at o1
    by_cases h2 : d ≤ a
    · rw [decide_eq_true h2] at o2
      have E : Hid (GA h w a b c d e f (.returned (.tuple #[.float .f64 (h (apV c d a b e f)), .bool true])) w) := ⟨GA.mk' (by unfold gaV; rw [if_pos (by simp [h1, h2])]) (by unfold gaB; simp [h1, h2])⟩
      go_wp2_with fail
      refine (apart_any h K w c d a b e f hc hd ha hb he hf).mono ?_
      rintro r w1 ⟨rfl, rfl⟩
      dsimp only
      go_wp2_with fail
      go_ret2
      exact E.out
    · rw [decide_eq_false h2] at o2
      by_cases h3 : b ≤ c
      · rw [decide_eq_true h3] at o3
        have E : Hid (GA h w a b c d e f (.returned (.tuple #[.float .f64 (h (apV a b c d e f)), .bool true])) w) := ⟨GA.mk' (by unfold gaV; rw [if_neg (by simp [h2]), if_pos h3]) (by unfold gaB; simp [h3])⟩
        go_wp2_with fail
        refine (apart_any h K w a b c d e f ha hb hc hd he hf).mono ?_
        rintro r w1 ⟨rfl, rfl⟩
        dsimp only
        go_wp2_with fail
        go_ret2
        exact E.out
      · rw [decide_eq_false h3] at o3
        have E : Hid (GA h w a b c d e f (.returned (.tuple #[.float .f64 0, .bool false])) w) := ⟨by rw [← k0.out]; exact GA.mk' (by unfold gaV; rw [if_neg (by simp [h2]), if_neg h3]) (by unfold gaB; simp [h2, h3])⟩
        go_wp2_with fail
        go_ret2
        exact E.out
  · rw [decide_eq_false h1] at o1
    by_cases h3 : b ≤ c
    · rw [decide_eq_true h3] at o3
      have E : Hid (GA h w a b c d e f (.returned (.tuple #[.float .f64 (h (apV a b c d e f)), .bool true])) w) := ⟨GA.mk' (by unfold gaV; rw [if_neg (by simp [h1]), if_pos h3]) (by unfold gaB; simp [h3])⟩
      go_wp2_with fail
      refine (apart_any h K w a b c d e f ha hb hc hd he hf).mono ?_
      rintro r w1 ⟨rfl, rfl⟩
      dsimp only
      go_wp2_with fail
      go_ret2
      exact E.out
    · rw [decide_eq_false h3] at o3
      have E : Hid (GA h w a b c d e f (.returned (.tuple #[.float .f64 0, .bool false])) w) := ⟨by rw [← k0.out]; exact GA.mk' (by unfold gaV; rw [if_neg (by simp [h1]), if_neg h3]) (by unfold gaB; simp [h1, h3])⟩
      go_wp2_with fail
      go_ret2
      exact E.out

set_option maxHeartbeats 1000000 in
theorem inf_any (w : World) : Calls Yba.prog 34 #[.int .i64 1] w fun r w' => r = .returned (.float .f64 9218868437227405312) ∧ w' = w := by
  have E : ∀ w : World, (callFunc 45 #[.int .u64 9218868437227405312]).run Yba.prog w = .ok (.value (.float .f64 9218868437227405312)) w := fun w => by
    rw [run_callFunc_extern Yba.func45 (by kernel_rfl) (by kernel_rfl) (by kernel_rfl) (e := Extern.MathFloatBits.float64frombits) (by kernel_rfl) _ w]
    rfl
  go_enter Yba.func34, Yba.ntmps34
  go_wp2_with fail
  go_ret
  exact ⟨rfl, rfl⟩

set_option maxRecDepth 100000 in
set_option maxHeartbeats 1000000 in
theorem gless_any (h : Int → Nat) (K : FK h) (w : World) (D : Int) (o o2 : Value) (hD : RG D) :
    Calls Yba.prog 54 #[.agg #[.float .f64 (h D), o], .agg #[.float .f64 9218868437227405312, o2]] w fun r w' => r = .returned (.bool true) ∧ Below w.heap.size w w' := by
  have i1 : (FloatKind.f64.format.order (h D) 9218868437227405312 == some .lt) = true := by rw [K.inf hD]; rfl
  have B0 := below_alloc2 w (.cells #[.float .f64 (h D), o] 93) (.cells #[.float .f64 9218868437227405312, o2] 93)
  have HB := Hid.mk B0
  clear B0
  go_enter Yba.func54, Yba.ntmps54
  go_wp2_with fail
  go_ret
  exact ⟨rfl, HB.out⟩

/-- A world that lies behind w1, nothing of it turned. -/
structure WB (w1 : World) where
  z : World
  b : Below w1.heap.size w1 z
/-- The nearest so far. -/
def HOP (w : World) (g : Nat) (D o r : Value) (f : Value) : Prop := g < w.heap.size ∧ w.cell? ⟨g, 0, none⟩ = some D ∧ w.cell? ⟨g, 1, none⟩ = some o ∧ w.cell? ⟨g, 2, none⟩ = some r ∧ w.cell? ⟨g, 3, none⟩ = some f ∧ (∀ k, w.frozen? ⟨g, k, none⟩ = false)
set_option maxRecDepth 100000 in
set_option maxHeartbeats 4000000 in
theorem offer_any (h : Int → Nat) (K : FK h) (w : World) (g : Nat) (D o rk : Int) (o2 r2 : Value) (hD : RG D) (H : HOP w g (.float .f64 9218868437227405312) o2 r2 (.bool false)) :
    Calls Yba.prog 35 #[.pointer (some ⟨g, 0, none⟩), .agg #[.float .f64 (h D), .int .i64 o], .int .i64 rk] w fun e w' => e = .returned (.tuple #[]) ∧ Kb g w w' ∧ HOP w' g (.float .f64 (h D)) (.int .i64 o) (.int .i64 rk) (.bool true) := by
  obtain ⟨h0, c0, c1, c2, c3, fz⟩ := H
  have GL := fun w' => gless_any h K w' D (.int .i64 o) o2 hD
  have n1 : ¬ w.heap.size = g := by omega
  have n2 : ¬ g = w.heap.size := by omega
  have B0 := (Below.refl w.heap.size w).alloc (Nat.le_refl _) (.cells #[.float .f64 (h D), .int .i64 o] 93)
  have s1 : (w.alloc (.cells #[.float .f64 (h D), .int .i64 o] 93)).heap.size = w.heap.size + 1 := by simp
  have t0 : (w.alloc (.cells #[.float .f64 (h D), .int .i64 o] 93)).cell? ⟨w.heap.size, 0, none⟩ = some (.float .f64 (h D)) := by go_simp
  have t1 : (w.alloc (.cells #[.float .f64 (h D), .int .i64 o] 93)).cell? ⟨w.heap.size, 1, none⟩ = some (.int .i64 o) := by go_simp
  have d0 := (B0.cell (p := ⟨g, 0, none⟩) h0).trans c0
  have d1 := (B0.cell (p := ⟨g, 1, none⟩) h0).trans c1
  have d2 := (B0.cell (p := ⟨g, 2, none⟩) h0).trans c2
  have d3 := (B0.cell (p := ⟨g, 3, none⟩) h0).trans c3
  have dz : ∀ k, (w.alloc (.cells #[.float .f64 (h D), .int .i64 o] 93)).frozen? ⟨g, k, none⟩ = false := fun k => (B0.frozen (p := ⟨g, k, none⟩) h0).trans (fz k)
  go_enter Yba.func35, Yba.ntmps35
  go_wp2_with fail
  generalize (w.alloc (.cells #[.float .f64 (h D), .int .i64 o] 93)) = w1 at *
  have Hs1 := Hid.mk s1
  have HB0 := Hid.mk B0
  clear c0 c1 c2 c3 fz B0 s1
  have FA : Hid (∀ z, Below w1.heap.size w1 z → z.cell? ⟨w.heap.size, 0, none⟩ = some (.float .f64 (h D)) ∧ z.cell? ⟨w.heap.size, 1, none⟩ = some (.int .i64 o) ∧ z.cell? ⟨g, 0, none⟩ = some (.float .f64 9218868437227405312) ∧ z.cell? ⟨g, 1, none⟩ = some o2 ∧ z.cell? ⟨g, 2, none⟩ = some r2 ∧ z.cell? ⟨g, 3, none⟩ = some (.bool false) ∧ ∀ k, z.frozen? ⟨g, k, none⟩ = false) := ⟨fun z hz => by
    have := Hs1.out
    exact ⟨(hz.cell (p := ⟨w.heap.size, 0, none⟩) (by simp; omega)).trans t0, (hz.cell (p := ⟨w.heap.size, 1, none⟩) (by simp; omega)).trans t1, (hz.cell (p := ⟨g, 0, none⟩) (by simp; omega)).trans d0, (hz.cell (p := ⟨g, 1, none⟩) (by simp; omega)).trans d1, (hz.cell (p := ⟨g, 2, none⟩) (by simp; omega)).trans d2, (hz.cell (p := ⟨g, 3, none⟩) (by simp; omega)).trans d3, fun k => (hz.frozen (p := ⟨g, k, none⟩) (by simp; omega)).trans (dz k)⟩⟩
  have hT : Nonempty (WB w1) := ⟨⟨w1, Below.refl _ _⟩⟩
  have Y0 : ∀ t : WB w1, t.z.cell? ⟨w.heap.size, 0, none⟩ = some (.float .f64 (h D)) := fun t => (FA.out t.z t.b).1
  have Y1 : ∀ t : WB w1, t.z.cell? ⟨w.heap.size, 1, none⟩ = some (.int .i64 o) := fun t => (FA.out t.z t.b).2.1
  have Y2 : ∀ t : WB w1, t.z.cell? ⟨g, 0, none⟩ = some (.float .f64 9218868437227405312) := fun t => (FA.out t.z t.b).2.2.1
  have Y3 : ∀ t : WB w1, t.z.cell? ⟨g, 1, none⟩ = some o2 := fun t => (FA.out t.z t.b).2.2.2.1
  refine wp_region_quiet (C := fun z => ∃ t : WB w1, z = t.z) (by kernel_rfl) (by kernel_rfl) ⟨⟨w1.drew, (Below.refl _ _).drew⟩, rfl⟩ ?_
  simp only [List.toList_toArray]
  repeat (go_big_quiet_step (first | (go_at_call 54; refine (GL _).mono ?_; rintro e wb ⟨rfl, Bb⟩; exact ⟨rfl, ⟨⟨wb, (WB.b _).trans (Bb.mono (WB.b _).size)⟩, rfl⟩⟩)))
  refine wpQuiet_nil ?_
  rintro w2 ⟨⟨w2x, hB2⟩, rfl⟩
  obtain ⟨y0, y1, y2, y3, y4, y5, y6⟩ := FA.out w2 hB2
  have KB : Hid (Kb g w w2) := ⟨by have B := HB0.out.trans (hB2.mono HB0.out.size); exact ⟨B.os, B.tape, B.output, B.size, fun k hk _ => B.block k hk⟩⟩
  have hg2 : g < w2.heap.size := by have := KB.out.size; omega
  clear FA hB2 Y0 Y1 Y2 Y3 hT t0 t1 d0 d1 d2 d3 dz
  go_wp2_with fail
  go_end0
  refine ⟨rfl, (((KB.out.set 0 _).set 1 _).set 2 _).set 3 _, by simpa using hg2, by go_simp, by go_simp, by go_simp, by go_simp, fun k => by rw [World.frozen?_setCell, World.frozen?_setCell, World.frozen?_setCell, World.frozen?_setCell]; exact y6 k⟩

end Go.Proofs.Ybulkdaxu
