import Derived.Test.YbulkdaxuSlabB
import Derived.Shelf.Abstract
namespace Go.Proofs.Ybulkdaxu
open Go.RowKit
set_option linter.unusedSimpArgs false
set_option linter.unusedVariables false

def anyB (n : Nat) (p : Nat → Bool) : Bool := (List.range n).any p
theorem anyB_t {n : Nat} {p : Nat → Bool} {i : Nat} (hi : i < n) (h : p i = true) : anyB n p = true := by
  unfold anyB; rw [List.any_eq_true]; exact ⟨i, List.mem_range.2 hi, h⟩
theorem anyB_f {n : Nat} {p : Nat → Bool} (h : ∀ i, i < n → p i = false) : anyB n p = false := by
  unfold anyB; rw [List.any_eq_false]; exact fun i hi => by rw [h i (List.mem_range.1 hi)]; exact Bool.false_ne_true

/-- A row of offered zones: rank, corners, two fields that are not used. -/
structure R5 (w : World) (b n : Nat) (rk : Nat → Int) (l u : Nat → Value) : Prop where
  lt : b < w.heap.size
  f0 : ∀ i, i < n → w.cell? ⟨b, i * 5, none⟩ = some (.int .i64 (rk i))
  f1 : ∀ i, i < n → w.cell? ⟨b, i * 5 + 1, none⟩ = some (l i)
  f2 : ∀ i, i < n → w.cell? ⟨b, i * 5 + 2, none⟩ = some (u i)
  f3 : ∀ i, i < n → w.cell? ⟨b, i * 5 + 3, none⟩ = some (.bool false)
  f4 : ∀ i, i < n → w.cell? ⟨b, i * 5 + 4, none⟩ = some (.int .i64 0)
theorem R5.below {w w' : World} {b n : Nat} {rk : Nat → Int} {l u : Nat → Value} (H : R5 w b n rk l u) (hb : Below w.heap.size w w') : R5 w' b n rk l u :=
  ⟨Nat.lt_of_lt_of_le H.lt hb.size, fun i hi => (hb.cell (p := ⟨b, i * 5, none⟩) H.lt).trans (H.f0 i hi), fun i hi => (hb.cell (p := ⟨b, i * 5 + 1, none⟩) H.lt).trans (H.f1 i hi), fun i hi => (hb.cell (p := ⟨b, i * 5 + 2, none⟩) H.lt).trans (H.f2 i hi),
    fun i hi => (hb.cell (p := ⟨b, i * 5 + 3, none⟩) H.lt).trans (H.f3 i hi), fun i hi => (hb.cell (p := ⟨b, i * 5 + 4, none⟩) H.lt).trans (H.f4 i hi)⟩
def ofV (rk : Int) (l u : Value) : Value := .agg #[.int .i64 rk, l, u, .bool false, .int .i64 0]

set_option maxRecDepth 100000 in
set_option maxHeartbeats 2000000 in
theorem idx5_any (w : World) (b c n g : Nat) (cb : Array Value) (rk : Nat → Int) (l u : Nat → Value) (p : Nat → Bool) (hn : n ≤ 600) (eg : ∀ args w, (callFunc g args).run Yba.prog w = .ok (.enter g args) w) (H : R5 w b n rk l u)
    (hp : ∀ i w', i < n → Below w.heap.size w w' → Calls Yba.prog g (#[.agg #[.int .i64 (rk i), l i, u i, .bool false, .int .i64 0]] ++ cb) w' fun e w'' => e = .returned (.bool (p i)) ∧ Below w'.heap.size w' w'') :
    Calls Yba.prog 29 #[.slice (some ⟨b, 0, none⟩) n c, .func (.func g) #[] cb] w fun e w' => Below w.heap.size w w' ∧ ((∃ i : Nat, e = .returned (.int .i64 i) ∧ i < n ∧ p i = true) ∨ (e = .returned (.int .i64 (-1)) ∧ ∀ i, i < n → p i = false)) := by
  have HH := Hid.mk H
  have HP := Hid.mk hp
  clear H hp
  go_enter Yba.func29, Yba.ntmps29
  go_wp2_with fail
  go_loopw [8] (fun v wr => ∃ k : Nat, k ≤ n ∧ v = .int .i64 (k : Int) ∧ (∀ t, t < k → p t = false) ∧ Below w.heap.size w wr) (fun v _ => n - (intOf v).toNat)
  case atStart => exact ⟨0, by omega, rfl, fun t ht => by omega, Below.refl _ _⟩
  case round =>
    obtain ⟨k, hk, rfl, hall, hB⟩ := hrel
    have Hall := Hid.mk hall
    have HB := Hid.mk hB
    clear hall hB
    by_cases hkn : k < n
    · have hk' : (k : Int) < (n : Int) := by omega
      have hk0 : (0 : Int) ≤ (k : Int) := by omega
      have R := HH.out.below HB.out
      have f0 := R.f0 k hkn
      have f1 := R.f1 k hkn
      have f2 := R.f2 k hkn
      have f3 := R.f3 k hkn
      have f4 := R.f4 k hkn
      clear R
      go_wp2_with fail
      refine (HP.out k _ hkn HB.out).mono ?_
      rintro e w2 ⟨rfl, B2⟩
      have HB2 := Hid.mk (HB.out.trans (B2.mono HB.out.size))
      clear B2
      dsimp only
      cases hr : p k
      · go_wp2_with fail
        go_roundw
        case rel =>
          refine ⟨k + 1, by omega, by simp, fun t ht => ?_, HB2.out⟩
          by_cases et : t = k
          · subst et; exact hr
          · exact Hall.out t (by omega)
        case measure => simp only [intOf]; omega
      · go_wp2_with fail
        go_ret
        exact ⟨HB2.out, .inl ⟨k, rfl, hkn, hr⟩⟩
    · have hk' : ¬ (k : Int) < (n : Int) := by omega
      go_wp2_with fail
      go_ret
      exact ⟨HB.out, .inr ⟨rfl, fun i hi => Hall.out i (by omega)⟩⟩

set_option maxRecDepth 100000 in
set_option maxHeartbeats 2000000 in
theorem cont5_any (w : World) (b c n g : Nat) (cb : Array Value) (rk : Nat → Int) (l u : Nat → Value) (p : Nat → Bool) (hn : n ≤ 600) (eg : ∀ args w, (callFunc g args).run Yba.prog w = .ok (.enter g args) w) (H : R5 w b n rk l u)
    (hp : ∀ i w', i < n → Below w.heap.size w w' → Calls Yba.prog g (#[.agg #[.int .i64 (rk i), l i, u i, .bool false, .int .i64 0]] ++ cb) w' fun e w'' => e = .returned (.bool (p i)) ∧ Below w'.heap.size w' w'') :
    Calls Yba.prog 17 #[.slice (some ⟨b, 0, none⟩) n c, .func (.func g) #[] cb] w fun e w' => e = .returned (.bool (anyB n p)) ∧ Below w.heap.size w w' := by
  have I := idx5_any w b c n g cb rk l u p hn eg H hp
  clear eg H hp
  go_enter Yba.func17, Yba.ntmps17
  go_wp2_with fail
  refine I.mono ?_
  rintro e w' ⟨B, (⟨i, rfl, hi, hpi⟩ | ⟨rfl, hall⟩)⟩
  · have E := Hid.mk (anyB_t hi hpi)
    have i0 : (i : Int) ≥ 0 := by omega
    clear I
    dsimp only
    go_wp2_with fail
    go_ret
    exact ⟨by rw [E.out]; rfl, B⟩
  · have E := Hid.mk (anyB_f hall)
    clear I hall
    dsimp only
    go_wp2_with fail
    go_ret
    exact ⟨by rw [E.out]; rfl, B⟩
set_option maxRecDepth 100000 in
set_option maxHeartbeats 2000000 in
/-- No element: whatever the slice's address. -/
theorem cont5_nil (w : World) (a : Option Addr) (c g : Nat) (cb : Array Value) : Calls Yba.prog 17 #[.slice a 0 c, .func (.func g) #[] cb] w fun e w' => e = .returned (.bool false) ∧ Below w.heap.size w w' := by
  have I : Calls Yba.prog 29 #[.slice a 0 c, .func (.func g) #[] cb] w fun e w' => e = .returned (.int .i64 (-1)) ∧ w' = w := by
    go_enter Yba.func29, Yba.ntmps29
    go_wp2_with fail
    go_loopw [8] (fun v wr => v = .int .i64 0 ∧ wr = w) (fun _ _ => 0)
    case atStart => exact ⟨rfl, rfl⟩
    case round =>
      obtain ⟨rfl, rfl⟩ := hrel
      go_wp2_with fail
      go_ret
      exact ⟨rfl, rfl⟩
  go_enter Yba.func17, Yba.ntmps17
  go_wp2_with fail
  refine I.mono ?_
  rintro e w' ⟨rfl, rfl⟩
  dsimp only
  go_wp2_with fail
  go_ret
  exact ⟨rfl, Below.refl _ _⟩

/-- A zone offered, as the plain law sees it. -/
structure Zn where
  rk : Int
  lo : Int
  hi : Int
/-- A slice of offered zones. -/
def ZW (h : Int → Nat) (w : World) (d : Nat) (v : Value) (n : Nat) (z : Nat → Zn) : Prop :=
  (n = 0 ∧ ∃ a c, v = .slice a 0 c) ∨ ∃ b c l u, v = .slice (some ⟨b, 0, none⟩) n c ∧ n ≤ c ∧ 0 < n ∧ R5 w b n (fun i => (z i).rk) l u ∧ ∀ i, i < n → CO h w d (l i) (u i) (z i).lo (z i).hi
theorem ZW.below {h : Int → Nat} {w w' : World} {d : Nat} {v : Value} {n : Nat} {z : Nat → Zn} (H : ZW h w d v n z) (hb : Below w.heap.size w w') : ZW h w' d v n z := by
  rcases H with H | ⟨b, c, l, u, h1, h2, h3, h4, h5⟩
  · exact .inl H
  · exact .inr ⟨b, c, l, u, h1, h2, h3, h4.below hb, fun i hi => (h5 i hi).below hb⟩

theorem ec18 : ∀ args w, (callFunc 18 args).run Yba.prog w = .ok (.enter 18 args) w := enters_of Yba.func18 (by kernel_rfl) rfl
set_option maxRecDepth 100000 in
set_option maxHeartbeats 2000000 in
/-- handGap's closure: the zone does not meet g. -/
theorem clo18 (h : Int → Nat) (K : FK h) (w : World) (d g : Nat) (l1 u1 l2 u2 : Value) (rk a b c e : Int) (hd : 0 < d) (hd2 : d ≤ 2) (H1 : CO h w d l1 u1 a b) (H2 : CO h w d l2 u2 c e) (hg : g < w.heap.size) (g0 : w.cell? ⟨g, 0, none⟩ = some l2) (g1 : w.cell? ⟨g, 1, none⟩ = some u2) :
    Calls Yba.prog 18 #[.agg #[.int .i64 rk, l1, u1, .bool false, .int .i64 0], .pointer (some ⟨g, 0, none⟩)] w fun r w' => r = .returned (.bool (!mt a b c e)) ∧ Below w.heap.size w w' := by
  have M := fun w' (hb : Below w.heap.size w w') => meets_any h K w' d l1 u1 l2 u2 a b c e hd hd2 (H1.below hb) (H2.below hb)
  have B0 := (Below.refl w.heap.size w).alloc (Nat.le_refl _) (.cells #[.int .i64 rk, l1, u1, .bool false, .int .i64 0] 45)
  have n1 : ¬ w.heap.size = g := by omega
  have n2 : ¬ g = w.heap.size := by omega
  go_enter Yba.func18, Yba.ntmps18
  go_wp2_with fail
  refine (M _ B0).mono ?_
  rintro r w' ⟨rfl, B1⟩
  have HB := Hid.mk (B0.trans (B1.mono B0.size))
  clear M B1
  dsimp only
  go_wp2_with fail
  go_ret
  exact ⟨rfl, HB.out⟩
end Go.Proofs.Ybulkdaxu
