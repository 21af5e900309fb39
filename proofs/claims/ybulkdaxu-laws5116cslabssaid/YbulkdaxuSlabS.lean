import Derived.Test.YbulkdaxuSlabR
import Derived.Test.YbulkdaxuSlabS0
namespace Go.Proofs.Ybulkdaxu
open Go.RowKit
set_option linter.unusedSimpArgs false
set_option linter.unusedVariables false

theorem slabs_many (h : Int → Nat) (K : FK h) (w : World) (d n : Nat) (l u ws : Value) (a b : Int) (z : Nat → Zn) (s : Nat → Nat) (L U : Nat → Int) (hd : 0 < d) (hd2 : d ≤ 2) (hn : 2 ≤ n) (hn5 : n ≤ 512) (G : CO h w d l u a b) (Z : ZW h w d ws n z) (hab : a < b)
    (A : AZ n s (fun i => (z i).lo) (fun i => (z i).hi) L U) (hm : ∀ j, j < n → max (L j) a < min (U j) b) :
    Calls Yba.prog 20 #[.agg #[l, u], ws] w fun e w' => ∃ v, e = .returned (.tuple #[.int .i64 0, v]) ∧ w'.ownsRow w.heap.size 74 3 v (ends n L b).length ((ends n L b).flatMap (f3 h)) ∧ Below w.heap.size w w' := by
  refine (slabs_any h K w d n l u ws a b z (fun at_ => I4 n L U a b n n at_) hd hd2 hn5 G Z (fun w1 zb zc G1 Z1 => walls_any h K w1 d zb zc n l u a b s _ _ L U hd hd2 hn (by omega) G1 Z1 A hm) ?_).mono ?_
  · intro at_ I
    have := I.len
    exact ⟨by omega, I.up hab⟩
  · rintro e w' ⟨v, at_, rfl, I, O, B⟩
    rw [ju_law A hm (by omega) hab I] at O
    exact ⟨v, rfl, O, B⟩
end Go.Proofs.Ybulkdaxu
