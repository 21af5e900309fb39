import Derived.Test.YbulkdaxuSortG
import Derived.Test.YbulkdaxuLen
import Derived.Laws.Bits64b
namespace Go.Proofs.Ybulkdaxu
open Go.RowKit
set_option linter.unusedSimpArgs false
set_option linter.unusedVariables false

theorem xn_lt (x : Nat) (h : x < 18446744073709551616) : Sort.xorNextN x < 18446744073709551616 := by
  have p : (18446744073709551616 : Nat) = 2 ^ 64 := by decide
  rw [p] at *
  unfold Sort.xorNextN
  have a1 : x * 8192 % 2 ^ 64 < 2 ^ 64 := Nat.mod_lt _ (by decide)
  have a2 := Nat.xor_lt_two_pow h a1
  have a3 : (x ^^^ x * 8192 % 2 ^ 64) / 128 < 2 ^ 64 := Nat.lt_of_le_of_lt (Nat.div_le_self _ _) a2
  have a4 := Nat.xor_lt_two_pow a2 a3
  exact Nat.xor_lt_two_pow a4 (Nat.mod_lt _ (by decide))
theorem npow_bd (l : Nat) (h : 0 < l) : 1 ≤ 1 <<< Sort.bitsLen l ∧ 1 <<< Sort.bitsLen l ≤ 2 * l := by
  unfold Sort.bitsLen
  rw [if_neg (by omega), Nat.one_shiftLeft]
  have h1 := Nat.log2_self_le (n := l) (by omega)
  have h2 : 0 < 2 ^ (l.log2 + 1) := Nat.pow_pos (by omega)
  have h3 : 2 ^ (l.log2 + 1) = 2 ^ l.log2 * 2 := Nat.pow_succ ..
  omega
theorem SR.other [Inhabited FE] {blk off : Nat} {w0 w : World} {d : Array FE} (h : SR blk off w0 w d) {p : Addr} (hp : w0.heap.size ≤ p.block) (v : Value) : SR blk off w0 (w.setCell p v) d := by
  have hn : blk ≠ p.block := by have := h.lt; omega
  refine ⟨⟨h.kb.os, h.kb.tape, h.kb.output, by simpa using h.kb.size, fun k hk hk2 => (Below.heap_setCell w p v k (by omega)).trans (h.kb.block k hk hk2)⟩, h.lt, fun k hk => ?_, fun k hk => ?_, fun k => by rw [World.frozen?_setCell]; exact h.frz k⟩
  · rw [World.cell?_of_block (a := ⟨blk, k, none⟩) (Below.heap_setCell w p v blk hn)]; exact h.out k hk
  · rw [World.cell?_of_block (a := ⟨blk, off + k, none⟩) (Below.heap_setCell w p v blk hn)]; exact h.cell k hk
theorem SR.alloc [Inhabited FE] {blk off : Nat} {w : World} {d : Array FE} (h : SR blk off w w d) (o : Obj) : SR blk off w (w.alloc o) d := by
  have B := (Below.refl w.heap.size w).alloc (Nat.le_refl _) o
  exact ⟨⟨B.os, B.tape, B.output, B.size, fun k hk _ => B.block k hk⟩, h.lt, fun k _ => B.cell (p := ⟨blk, k, none⟩) h.lt, fun k hk => (B.cell (p := ⟨blk, off + k, none⟩) h.lt).trans (h.cell k hk), fun k => (B.frozen (p := ⟨blk, k, none⟩) h.lt).trans (h.frz k)⟩

set_option maxRecDepth 100000 in
set_option maxHeartbeats 4000000 in
theorem break_any [Inhabited FE] (w : World) (blk off cap a b m : Nat) (d : Array FE) (hm : d.size = m) (h6 : m ≤ 600) (H : SR blk off w w d) (hab : a + 12 < b) (hb : b ≤ m) :
    Calls Yba.prog 69 #[.slice (some ⟨blk, off, none⟩) m cap, .int .i64 a, .int .i64 b] w fun e w' => ∃ d', e = .returned (.tuple #[]) ∧ SR blk off w w' d' ∧ Sort.PermIn a b d d' := by
  obtain ⟨l, hl⟩ : ∃ l : Nat, l = b - a := ⟨_, rfl⟩
  obtain ⟨q, hq⟩ : ∃ q : Nat, q = l / 4 := ⟨_, rfl⟩
  obtain ⟨j, hj⟩ : ∃ j : Nat, j = a + q * 2 := ⟨_, rfl⟩
  obtain ⟨M, hM⟩ : ∃ M : Nat, M = 1 <<< Sort.bitsLen l := ⟨_, rfl⟩
  have hMb : 1 ≤ M ∧ M ≤ 2 * l := by rw [hM]; exact npow_bd l (by omega)
  have e1 : (b : Int) - (a : Int) = (l : Int) := by omega
  have e2 : (l : Int) / 4 = (q : Int) := by omega
  have e4 : (a : Int) + (q : Int) * 2 = (j : Int) := by omega
  have l8 : (l : Int) ≥ 8 := by omega
  have bj : a + 1 ≤ j ∧ j + 1 < b := by omega
  have ql : q ≤ 600 ∧ l ≤ 600 ∧ a + l = b := by omega
  have NP := AnyF.nextPowerOfTwo Yba.npow l (by omega)
  rw [← hM] at NP
  have HS := Hid.mk (H.alloc (.cells #[.int .u64 (l : Int)] 141))
  have hlt := H.lt
  clear hl hq hj hM H
  go_enter Yba.func69, Yba.ntmps69
  go_wp2_with fail
  refine (NP _).mono ?_
  rintro e w1 ⟨rfl, rfl⟩
  dsimp only
  go_wp2_with fail
  go_loopw [9] (fun vi wr => ∃ (i X : Nat) (dk : Array FE), vi = .int .i64 i ∧ j ≤ i + 1 ∧ i ≤ j + 2 ∧ dk.size = m ∧ SR blk off w wr dk ∧ X < 18446744073709551616 ∧ w.heap.size < wr.heap.size ∧ wr.cell? ⟨w.heap.size, 0, none⟩ = some (.int .u64 X) ∧ wr.frozen? ⟨w.heap.size, 0, none⟩ = false ∧ Sort.PermIn a b d dk) (fun vi _ => j + 3 - (intOf vi).toNat)
  case atStart => exact ⟨j - 1, l, d, by congr 1; omega, by omega, by omega, hm, HS.out, by omega, by simp, by go_simp, by go_simp, Sort.permIn_refl _ _ _⟩
  case round =>
    obtain ⟨i, X, dk, rfl, hi1, hi2, hsk, hS, hX, hsz, hcx, hfx, hP⟩ := hrel
    have HSk := Hid.mk hS
    have Hsk := Hid.mk hsk
    have HP := Hid.mk hP
    clear hS hsk hP
    by_cases hij : i ≤ j + 1
    · have hij' : (i : Int) ≤ (j : Int) + 1 := by omega
      go_wp2_with fail
      refine (AnyF.xorshift_Next Yba.xnext w.heap.size 0 X hX wr hcx hfx).mono ?_
      rintro e w2 ⟨rfl, rfl⟩
      have hY := xn_lt X hX
      generalize Sort.xorNextN X = Y at *
      obtain ⟨o, ho⟩ : ∃ o : Nat, o = Y &&& (M - 1) := ⟨_, rfl⟩
      have hoM : o ≤ M - 1 := by rw [ho]; exact Nat.and_le_right
      have hbits : bits BinOp.and IntKind.u64 (Y : Int) ((M : Int) - 1) = (o : Int) := by
        rw [show ((M : Int) - 1) = ((M - 1 : Nat) : Int) by omega, bits_and_u64_nat Y (M - 1) hY (by omega), ho]
      clear ho
      obtain ⟨o2, ho2⟩ : ∃ o2 : Nat, o2 = if l ≤ o then o - l else o := ⟨_, rfl⟩
      have ho2l : o2 < l := by rw [ho2]; split <;> omega
      obtain ⟨p, hp⟩ : ∃ p : Nat, p = a + o2 := ⟨_, rfl⟩
      have ep : (a : Int) + (o2 : Int) = (p : Int) := by omega
      have hpb : a ≤ p ∧ p < b := by omega
      have Ho2 := Hid.mk ho2
      have HS2 := Hid.mk ((HSk.out.other (p := ⟨w.heap.size, 0, none⟩) (Nat.le_refl _) (.int .u64 (Y : Int))).drewN 3)
      have Hsz : Hid (w.heap.size < ((wr.setCell ⟨w.heap.size, 0, none⟩ (.int .u64 (Y : Int))).drewN 3).heap.size) := ⟨by simpa using hsz⟩
      have cx : ((wr.setCell ⟨w.heap.size, 0, none⟩ (.int .u64 (Y : Int))).drewN 3).cell? ⟨w.heap.size, 0, none⟩ = some (.int .u64 (Y : Int)) := World.cell?_setCell_same' _ _ _ (by rw [hcx]; rfl)
      have fx' : ((wr.setCell ⟨w.heap.size, 0, none⟩ (.int .u64 (Y : Int))).drewN 3).frozen? ⟨w.heap.size, 0, none⟩ = false := (World.frozen?_setCell ..).trans hfx
      clear ho2 hp hcx hfx hsz
      generalize ((wr.setCell ⟨w.heap.size, 0, none⟩ (.int .u64 (Y : Int))).drewN 3) = wz at *
      have CX : Hid ((∀ x y u v, ((wz.setCell ⟨blk, x, none⟩ u).setCell ⟨blk, y, none⟩ v).drew.cell? ⟨w.heap.size, 0, none⟩ = some (.int .u64 (Y : Int))) ∧ (∀ x y u v, ((wz.setCell ⟨blk, x, none⟩ u).setCell ⟨blk, y, none⟩ v).drew.frozen? ⟨w.heap.size, 0, none⟩ = false)) := ⟨fun x y u v => by
        show ((wz.setCell ⟨blk, x, none⟩ u).setCell ⟨blk, y, none⟩ v).cell? ⟨w.heap.size, 0, none⟩ = _
        rw [World.cell?_of_block (a := ⟨w.heap.size, 0, none⟩) (Below.heap_setCell _ ⟨blk, y, none⟩ v w.heap.size (by simp; omega)), World.cell?_of_block (a := ⟨w.heap.size, 0, none⟩) (Below.heap_setCell _ ⟨blk, x, none⟩ u w.heap.size (by simp; omega))]
        exact cx, fun x y u v => by
        show ((wz.setCell ⟨blk, x, none⟩ u).setCell ⟨blk, y, none⟩ v).frozen? ⟨w.heap.size, 0, none⟩ = _
        rw [World.frozen?_setCell, World.frozen?_setCell]; exact fx'⟩
      dsimp only
      go_upto_if 43 with fail
      go_cut [10] from 26 to 64 (fun v wx => v = .int .i64 o2 ∧ wx = wz)
      case first =>
        by_cases hol : l ≤ o
        · have hol' : (l : Int) ≤ (o : Int) := by omega
          have E : Hid ((o : Int) - (l : Int) = (o2 : Int)) := ⟨by rw [Ho2.out, if_pos hol]; omega⟩
          go_wp2_with fail
          go_meet
          exact ⟨by rw [E.out], rfl⟩
        · have hol' : ¬ (l : Int) ≤ (o : Int) := by omega
          have E : Hid (o = o2) := ⟨by rw [Ho2.out, if_neg hol]⟩
          go_wp2_with fail
          go_meet
          exact ⟨by rw [E.out], rfl⟩
      case rest =>
        obtain ⟨rfl, rfl⟩ := hcut
        obtain ⟨F, L, hF, hL, LC⟩ := row_open dk
        have HF := Hid.mk hF
        have hcw := HS2.out.fc hF Hsk.out
        have hfw := HS2.out.ff (m := m)
        have ci := hcw i (by omega)
        have cj := hcw p (by omega)
        have fi := hfw i (by omega)
        have fj := hfw p (by omega)
        have z1 : (0 : Int) ≤ (i : Int) := by omega
        have z2 : (i : Int) < (m : Int) := by omega
        have z3 : (0 : Int) ≤ (p : Int) := by omega
        have z4 : (p : Int) < (m : Int) := by omega
        clear hcw hfw hF hL LC cx fx' hbits
        by_cases hne : i = p
        · subst hne
          go_wp2_with fail
          go_region
          all_goals go_wp2_with fail
          go_roundw
          case rel => exact ⟨i + 1, Y, Sort.swp dk i i, by simp, by omega, by omega, by rw [Sort.swp_size]; exact Hsk.out, HS2.out.swap1 (by rw [Hsk.out]; omega) (by rw [Hsk.out]; omega) (HF.out _) (HF.out _), hY, by simpa using Hsz.out, CX.out.1 _ _ _ _, CX.out.2 _ _ _ _, Sort.permIn_trans _ _ _ _ _ HP.out (Sort.swp_permIn dk a b i i (by omega) (by omega) (by omega) (by omega) (by rw [Hsk.out]; omega))⟩
          case measure => simp only [intOf]; omega
        · have hne2 : ¬ p = i := fun x => hne x.symm
          go_wp2_with fail
          go_region
          all_goals go_wp2_with fail
          go_roundw
          case rel => exact ⟨i + 1, Y, Sort.swp dk i p, by simp, by omega, by omega, by rw [Sort.swp_size]; exact Hsk.out, HS2.out.swap1 (by rw [Hsk.out]; omega) (by rw [Hsk.out]; omega) (HF.out _) (HF.out _), hY, by simpa using Hsz.out, CX.out.1 _ _ _ _, CX.out.2 _ _ _ _, Sort.permIn_trans _ _ _ _ _ HP.out (Sort.swp_permIn dk a b i p (by omega) (by omega) (by omega) (by omega) (by rw [Hsk.out]; omega))⟩
          case measure => simp only [intOf]; omega
    · have hij' : ¬ (i : Int) ≤ (j : Int) + 1 := by omega
      go_wp2_with fail
      go_end0
      exact ⟨rfl, dk, HSk.out, HP.out⟩
end Go.Proofs.Ybulkdaxu
