import Derived.Test.YbulkdaxuSlabG
namespace Go.Proofs.Ybulkdaxu
open Go.RowKit
set_option linter.unusedSimpArgs false
set_option linter.unusedVariables false

def hl (h : Int → Nat) (d : Nat) (x : Nat → Int) : List Value := (List.range d).map fun k => .float .f64 (h (x k))
theorem hl_len (h : Int → Nat) (d : Nat) (x : Nat → Int) : (hl h d x).length = d := by simp [hl]
theorem hl_get (h : Int → Nat) (d : Nat) (x : Nat → Int) (k : Nat) (hk : k < d) : (hl h d x)[k]? = some (.float .f64 (h (x k))) := by simp [hl, hk]
theorem hl_one (h : Int → Nat) (d : Nat) (x : Nat → Int) : ∀ u ∈ hl h d x, u.oneCell' = true := by
  intro u hu
  simp only [hl, List.mem_map] at hu
  obtain ⟨k, _, rfl⟩ := hu
  rfl
theorem hl_cells {h : Int → Nat} {w : World} {b d : Nat} {x : Nat → Int} (h3 : ∀ k, k < d → w.cell? ⟨b, k, none⟩ = some (.float .f64 (h (x k)))) : ∀ (j : Nat) (u : Value), (hl h d x)[j]? = some u → w.cell? ((⟨b, 0, none⟩ : Addr).add j) = some u := by
  intro j u hj
  have hj2 : j < d := by
    rcases Nat.lt_or_ge j d with h | h
    · exact h
    · rw [List.getElem?_eq_none (by rw [hl_len]; omega)] at hj; cases hj
  rw [hl_get h d x j hj2] at hj
  cases hj
  rw [Addr.add_lit]
  simpa using h3 j hj2
theorem own_hn {h : Int → Nat} {n0 : Nat} {w : World} {v : Value} {d : Nat} {x : Nat → Int} (H : w.ownsRow n0 31 1 v d (hl h d x)) (hd : 0 < d) : ∃ b c, v = .slice (some ⟨b, 0, none⟩) d c ∧ d ≤ c ∧ n0 ≤ b ∧ HN h w b d x := by
  obtain ⟨h1, ⟨_, h2⟩ | ⟨g, cap, cur, rfl, hb, hg, hc, hm, hs, ht⟩⟩ := H
  · omega
  · have hlt : g < w.heap.size := by
      rcases Nat.lt_or_ge g w.heap.size with h | h
      · exact h
      · rw [Array.getElem?_eq_none h] at hg; cases hg
    refine ⟨g, cap, rfl, hc, hb, hlt, fun k hk => ?_, fun k => ?_⟩
    · have e := hl_get h d x k hk
      rw [← ht, List.getElem?_take, if_pos (by omega)] at e
      simp [World.cell?, hg]
      simpa using e
    · simp [World.frozen?, hg]
set_option maxRecDepth 100000 in
theorem sclone_h (h : Int → Nat) (w : World) (v : Value) (d : Nat) (x : Nat → Int) (H : HR h w v d x) (hd : 0 < d) (hd3 : d ≤ 2) :
    Calls Yba.prog 37 #[v] w fun e w' => ∃ b c, e = .returned (.slice (some ⟨b, 0, none⟩) d c) ∧ d ≤ c ∧ w.heap.size ≤ b ∧ HN h w' b d x ∧ Below w.heap.size w w' := by
  obtain ⟨b, c, rfl, q1, q2, q3⟩ := H
  have hnil := fun w => Lib.run_eql_slice_nil (P := Yba.prog) w 23 31 (some ⟨b, 0, none⟩) d c 0 0 Yba.underlying23
  obtain ⟨i, hi, hz0, hz1, hz2⟩ := info_parts info31
  have HC : Hid (∀ (j : Nat) (u : Value), (hl h d x)[j]? = some u → (w.alloc (.cells #[] 31)).cell? ((⟨b, 0, none⟩ : Addr).add j) = some u) := ⟨hl_cells (fun k hk => by
    have hB : Below w.heap.size w (w.alloc (.cells #[] 31)) := (Below.refl _ _).alloc (Nat.le_refl _) _
    exact (hB.cell (p := ⟨b, k, none⟩) q2).trans (q3 k hk))⟩
  clear q3
  go_enter Yba.func37, Yba.ntmps37
  go_wp2_with (at_builtin; refine wpList_append_own _ rfl _ _ 23 rfl w.heap.size 31 i (.float .f64 0) 1 8 Yba.underlying23 hi hz0 hz1 hz2 rfl (by decide) _ 0 [] rfl (World.ownsRow_made (base := w.heap.size) (e := 31) (size := 1) w #[] 0 (Nat.le_refl _) (by simp) (by simp)) ⟨b, 0, none⟩ d c (hl h d x) rfl (by rw [hl_len]; omega) HC.out (hl_one h d x) (by simp [maxLen]; omega) (by omega) (by simp) ?_)
  intro v' w' h4 h5 h6
  obtain ⟨nb, nc, rfl, hc1, hb1, hN⟩ := own_hn h4 hd
  have hB : Below w.heap.size w w' := ((Below.refl _ _).alloc (Nat.le_refl _) _).grown h5 (by simp) (fun k e => by cases e; simp)
  have HN' := Hid.mk hN
  clear h4 h5 h6 hN
  go_wp2_with fail
  go_ret
  exact ⟨nb, nc, rfl, hc1, hb1, HN'.out, hB⟩


def dm (two : Bool) : Nat := if two then 2 else 1
set_option maxRecDepth 100000 in
set_option maxHeartbeats 2000000 in
theorem cbox1 (h : Int → Nat) (K : FK h) (w : World) (lo hi : Int) (h1 : RG lo) (h2 : RG hi) :
    Calls Yba.prog 11 #[.float .f64 (h lo), .float .f64 (h hi), .bool false] w fun e w' => ∃ l u, e = .returned (.agg #[l, u]) ∧ CO h w' 1 l u lo hi ∧ Below w.heap.size w w' := by
  go_enter Yba.func11, Yba.ntmps11
  go_wp2_with fail
  refine bodyPost_ret (res_box (p := 6) rfl _ _ w.heap.size (.slice (some ⟨w.heap.size + 1, 0, none⟩) 1 1) (.slice (some ⟨w.heap.size + 1 + 1, 0, none⟩) 1 1) rfl (by go_simp) (by go_simp)) rfl ?_
  refine ⟨_, _, rfl, ⟨⟨w.heap.size + 1, 1, rfl, Nat.le_refl _, by simp, fun k hk => ?_⟩, ⟨w.heap.size + 1 + 1, 1, rfl, Nat.le_refl _, by simp, fun k hk => ?_⟩, h1, h2⟩, ((Below.refl _ _).alloc (Nat.le_refl _) _ |>.alloc (by simp) _).alloc (by simp; omega) _⟩
  · obtain rfl : k = 0 := by omega
    show _ = some (Value.float FloatKind.f64 (h lo))
    go_simp
  · obtain rfl : k = 0 := by omega
    show _ = some (Value.float FloatKind.f64 (h hi))
    go_simp
set_option maxRecDepth 100000 in
set_option maxHeartbeats 2000000 in
theorem cbox2 (h : Int → Nat) (K : FK h) (w : World) (lo hi : Int) (h1 : RG lo) (h2 : RG hi) :
    Calls Yba.prog 11 #[.float .f64 (h lo), .float .f64 (h hi), .bool true] w fun e w' => ∃ l u, e = .returned (.agg #[l, u]) ∧ CO h w' 2 l u lo hi ∧ Below w.heap.size w w' := by
  have k0 := Hid.mk K.c0
  have k4 := Hid.mk K.c4
  go_enter Yba.func11, Yba.ntmps11
  go_wp2_with fail
  refine bodyPost_ret (res_box (p := 6) rfl _ _ w.heap.size (.slice (some ⟨w.heap.size + 1, 0, none⟩) 2 2) (.slice (some ⟨w.heap.size + 1 + 1, 0, none⟩) 2 2) rfl (by go_simp) (by go_simp)) rfl ?_
  refine ⟨_, _, rfl, ⟨⟨w.heap.size + 1, 2, rfl, Nat.le_refl _, by simp, fun k hk => ?_⟩, ⟨w.heap.size + 1 + 1, 2, rfl, Nat.le_refl _, by simp, fun k hk => ?_⟩, h1, h2⟩, ((Below.refl _ _).alloc (Nat.le_refl _) _ |>.alloc (by simp) _).alloc (by simp; omega) _⟩
  · by_cases e : k = 0
    · subst e
      show _ = some (Value.float FloatKind.f64 (h lo))
      go_simp
    · obtain rfl : k = 1 := by omega
      show _ = some (Value.float FloatKind.f64 (h 0))
      rw [k0.out]
      go_simp
  · by_cases e : k = 0
    · subst e
      show _ = some (Value.float FloatKind.f64 (h hi))
      go_simp
    · obtain rfl : k = 1 := by omega
      show _ = some (Value.float FloatKind.f64 (h 8))
      rw [k4.out]
      go_simp
theorem cbox_any (h : Int → Nat) (K : FK h) (w : World) (two : Bool) (lo hi : Int) (h1 : RG lo) (h2 : RG hi) :
    Calls Yba.prog 11 #[.float .f64 (h lo), .float .f64 (h hi), .bool two] w fun e w' => ∃ l u, e = .returned (.agg #[l, u]) ∧ CO h w' (dm two) l u lo hi ∧ Below w.heap.size w w' := by
  cases two
  · exact cbox1 h K w lo hi h1 h2
  · exact cbox2 h K w lo hi h1 h2

set_option maxRecDepth 100000 in
set_option maxHeartbeats 2000000 in
theorem cis1 (h : Int → Nat) (K : FK h) (w : World) (l u : Value) (a b : Int) (C : CO h w 1 l u a b) :
    Calls Yba.prog 13 #[.agg #[l, u], .float .f64 (h a), .float .f64 (h b), .bool false] w fun e w' => e = .returned (.bool true) ∧ Below w.heap.size w w' := by
  obtain ⟨A1, A2, A3, A4⟩ := C
  obtain ⟨b1, c1, rfl, x1, y1, z1⟩ := A1
  obtain ⟨b2, c2, rfl, x2, y2, z2⟩ := A2
  have B0 := (Below.refl w.heap.size w).alloc (Nat.le_refl _) (.cells #[.slice (some ⟨b1, 0, none⟩) 1 c1, .slice (some ⟨b2, 0, none⟩) 1 c2] 27)
  have f1 : (w.alloc (.cells #[.slice (some ⟨b1, 0, none⟩) 1 c1, .slice (some ⟨b2, 0, none⟩) 1 c2] 27)).cell? ⟨b1, 0, none⟩ = some (.float .f64 (h a)) := (B0.cell (p := ⟨b1, 0, none⟩) y1).trans (z1 0 (by omega))
  have f2 : (w.alloc (.cells #[.slice (some ⟨b1, 0, none⟩) 1 c1, .slice (some ⟨b2, 0, none⟩) 1 c2] 27)).cell? ⟨b2, 0, none⟩ = some (.float .f64 (h b)) := (B0.cell (p := ⟨b2, 0, none⟩) y2).trans (z2 0 (by omega))
  have o1 := (K.ne A3 A3).trans (decide_eq_false (fun x => x rfl))
  have o2 := (K.ne A4 A4).trans (decide_eq_false (fun x => x rfl))
  have HB := Hid.mk B0
  clear B0 z1 z2
  go_enter Yba.func13, Yba.ntmps13
  go_wp2_with fail
  go_ret
  exact ⟨rfl, HB.out⟩
set_option maxRecDepth 100000 in
set_option maxHeartbeats 2000000 in
theorem cis2 (h : Int → Nat) (K : FK h) (w : World) (l u : Value) (a b : Int) (C : CO h w 2 l u a b) :
    Calls Yba.prog 13 #[.agg #[l, u], .float .f64 (h a), .float .f64 (h b), .bool true] w fun e w' => e = .returned (.bool true) ∧ Below w.heap.size w w' := by
  obtain ⟨A1, A2, A3, A4⟩ := C
  obtain ⟨b1, c1, rfl, x1, y1, z1⟩ := A1
  obtain ⟨b2, c2, rfl, x2, y2, z2⟩ := A2
  have B0 := (Below.refl w.heap.size w).alloc (Nat.le_refl _) (.cells #[.slice (some ⟨b1, 0, none⟩) 2 c1, .slice (some ⟨b2, 0, none⟩) 2 c2] 27)
  have f1 : (w.alloc (.cells #[.slice (some ⟨b1, 0, none⟩) 2 c1, .slice (some ⟨b2, 0, none⟩) 2 c2] 27)).cell? ⟨b1, 0, none⟩ = some (.float .f64 (h a)) := (B0.cell (p := ⟨b1, 0, none⟩) y1).trans (z1 0 (by omega))
  have f2 : (w.alloc (.cells #[.slice (some ⟨b1, 0, none⟩) 2 c1, .slice (some ⟨b2, 0, none⟩) 2 c2] 27)).cell? ⟨b2, 0, none⟩ = some (.float .f64 (h b)) := (B0.cell (p := ⟨b2, 0, none⟩) y2).trans (z2 0 (by omega))
  have f3 : (w.alloc (.cells #[.slice (some ⟨b1, 0, none⟩) 2 c1, .slice (some ⟨b2, 0, none⟩) 2 c2] 27)).cell? ⟨b1, 1, none⟩ = some (.float .f64 (h 0)) := (B0.cell (p := ⟨b1, 1, none⟩) y1).trans (z1 1 (by omega))
  have f4 : (w.alloc (.cells #[.slice (some ⟨b1, 0, none⟩) 2 c1, .slice (some ⟨b2, 0, none⟩) 2 c2] 27)).cell? ⟨b2, 1, none⟩ = some (.float .f64 (h 8)) := (B0.cell (p := ⟨b2, 1, none⟩) y2).trans (z2 1 (by omega))
  have r0 : RG 0 := ⟨by decide, by decide⟩
  have r8 : RG 8 := ⟨by decide, by decide⟩
  have o1 := (K.ne A3 A3).trans (decide_eq_false (fun x => x rfl))
  have o2 := (K.ne A4 A4).trans (decide_eq_false (fun x => x rfl))
  have o3 := (K.ne r0 r0).trans (decide_eq_false (fun x => x rfl))
  have o4 := (K.ne r8 r8).trans (decide_eq_false (fun x => x rfl))
  rw [K.c0] at f3 o3
  rw [K.c4] at f4 o4
  have HB := Hid.mk B0
  clear B0 z1 z2
  go_enter Yba.func13, Yba.ntmps13
  go_wp2_with fail
  go_ret
  exact ⟨rfl, HB.out⟩
theorem cis_any (h : Int → Nat) (K : FK h) (w : World) (two : Bool) (l u : Value) (a b : Int) (C : CO h w (dm two) l u a b) :
    Calls Yba.prog 13 #[.agg #[l, u], .float .f64 (h a), .float .f64 (h b), .bool two] w fun e w' => e = .returned (.bool true) ∧ Below w.heap.size w w' := by
  cases two
  · exact cis1 h K w l u a b C
  · exact cis2 h K w l u a b C
end Go.Proofs.Ybulkdaxu
