import Derived.Test.YbulkdaxuSteps
namespace Go.Proofs.Ybulkdaxu
/-- q lies on the zone's side of the even cut i. -/
def Agr (d : Nat) (z A q : Nat → Int) (s0 : St) (i : Nat) : Prop := A i ≤ z (i % d) ↔ (stt d z A s0 i).mid (i % d) ≤ q (i % d)
def partLo (d : Nat) (q : Nat → Int) (s : St) (j : Nat) : Nat → Int := if s.mid (j % d) ≤ q (j % d) then up s.el (j % d) (s.mid (j % d)) else s.el
def partHi (d : Nat) (q : Nat → Int) (s : St) (j : Nat) : Nat → Int := if s.mid (j % d) ≤ q (j % d) then s.eh else up s.eh (j % d) (s.mid (j % d))
end Go.Proofs.Ybulkdaxu
