import Derived.Test.YbulkdaxuRange
import Derived.Deep.RegionHeld3
namespace Go.Proofs.Ybulkdaxu
open Go.RowKit Go.Shelf
section
variable {P : Program} {ops : Array Oper} {Q : Exit → Act → World → Prop} {md : Region.Mode} {l n : Nat}
theorem rows_toIn {row : String} {args : Array Value} {w : World} {R : Value → World → Prop} (h : Rows P row args w R) : RowsIn (Fence.wide.inRound l) n P row args w R :=
  fun c cs _ => let ⟨v, w', r, s⟩ := h c cs; ⟨v, w', r, stepsIn_wide.2 s⟩

theorem oper_toRound {o : Oper} {a : Act} {w : World} {K : Act → World → Prop} (hd : ∀ c, o.op ≠ .defer c) (h : o.wp P a w K Q) : o.wpIn (Fence.wide.inRound l) n P a w K Q := by
  refine ⟨fun _ _ => trivial, ?_⟩
  rw [Oper.semAt_eq _ _ _ hd]
  unfold Oper.wp at h
  generalize (execOp a.eval o).run P w = r at *
  cases r with
  | ok x w' =>
    cases x <;> simp only [Oper.upon] at h <;> simp only [Oper.uponIn] <;>
      first
        | exact h
        | exact ⟨fun h => by simp [Fence.wide] at h, CallsIn.inRound _ (callsIn_wide.2 h)⟩
        | exact ⟨fun h => by simp [Fence.wide] at h, rows_toIn h⟩
  | halt x w' => cases x <;> simp only [Oper.upon] at h <;> simp only [Oper.uponIn] <;> exact h

def nodef : Op → Bool
  | .defer _ => false
  | _ => true
theorem nodef_of (h : ops.all (fun o => nodef o.op) = true) : ∀ (i : Nat) (o : Oper) c, ops[i]? = some o → o.op ≠ .defer c := by
  intro i o c hi e
  obtain ⟨hlt, rfl⟩ := Array.getElem?_eq_some_iff.1 hi
  have := Array.all_eq_true.1 h i hlt
  rw [e] at this
  simp [nodef] at this

theorem any_toRound (hno : ¬ LetsOut Q) (hd : ∀ (i : Nat) (o : Oper) c, ops[i]? = some o → o.op ≠ .defer c) : ∀ (fuel : Nat) (listed : Array Bool) (a : Act) (w : World),
    wpAny P md ops Q fuel listed a w → wpAnyIn (Fence.wide.inRound l) n P md ops Q fuel listed a w := by
  intro fuel
  induction fuel with
  | zero => exact fun _ _ _ h => h
  | succ fuel ih =>
    intro listed a w h
    refine ⟨h.1, fun i hi => ?_⟩
    have g := h.2 i hi
    unfold wpOp at g
    unfold wpOpIn
    split
    · rename_i e; rw [e] at g; exact ih _ _ _ g
    · rename_i o e
      rw [e] at g
      dsimp only at g
      split
      · rename_i hw
        rw [if_pos hw] at g
        rcases g with g | g
        · exact oper_toRound (fun c => hd i o c e) (Oper.wp_mono (fun a w h => ih _ a w h) g)
        · exact absurd g.2 hno
      · rename_i hw
        rw [if_neg hw] at g
        exact ⟨fun _ _ => trivial, ih _ _ _ g⟩

/-- A region that draws its order, in a round of a loop: under a held condition. -/
theorem region_round {S : World → Prop} {id : Nat} {a : Act} {w : World} (hm : P.follows .mixedOrders = true) (hno : ¬ LetsOut Q) (hd : ∀ (i : Nat) (o : Oper) c, ops[i]? = some o → o.op ≠ .defer c)
    (hS : S w.drew) (h : S w.drew → wpAnyH P .any ops Q S ops.size (Array.replicate ops.size false) a w.drew) : (Code.region id ops true).wpIn (Fence.wide.inRound l) n P Q a w :=
  wpIn_region_any hm (any_toRound hno hd _ _ _ _ (wpAny_of_held _ _ _ _ (h hS)))
/-- Take number 'i' first; its temporary is named. -/
theorem take_at {S : World → Prop} {i : Nat} {oi : Oper} (dst : Option Tmp) {v : Value} {fuel : Nat} {listed : Array Bool} {a : Act} {w : World} (hi : ops[i]? = some oi) (hdst : oi.dst = dst)
    (hs : Region.noSelect ops = true) (hf : Region.free md ops listed i = true) (hr : (Region.ready md ops listed).contains i = true)
    (hQ : ∀ c a w, Q (.panic c) (a.put oi.dst v) w → Q (.panic c) a w) (hy : YieldsIf P ops S oi v a) (hS : S w)
    (h : wpAnyH P md ops Q S fuel (listed.setIfInBounds i true) (a.put dst v) w) : wpAnyH P md ops Q S (fuel + 1) listed a w :=
  wpAnyH_take hi hs hf hr hQ hy hS (hdst ▸ h)
end
end Go.Proofs.Ybulkdaxu
