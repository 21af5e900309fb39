/-
  No cell of these rows narrows 'for every input' (looked for: loops, veiled, ifaces, maps, wideKeys, modest, calm, conditions, laid).
  DERIVED. THE GIVEN ROWS OF THIS SEAT. 3 by the template 'for every input the law returns true; each argument reads behind the call as it read before'; 0 by the template 'total and deterministic' (their statements: YbulkdaxuTotals.lean).
  GIVEN WITH THE SEED: the statements are not yours to turn. If you find one false, say at which input.
  Laid BY PROGRAM, IN A SANDBOX (cutbox-rows.mjs): the forced cells as the released guide's own fill.sh prints them over the translation 7478e522ecc7c164… (all of the seat's roots in one cut). By AI agents, Wed Nov 11 2026. No macro, syntax, notation, axiom, sorry.
-/
import Derived.Test.YbulkdaxuChecked
import GoSem.Claim
import GoSem.ClaimJoined
import GoSem.ClaimMapViews
import Derived.JoinedTies
import Derived.KernelRfl
namespace Go.Proofs.Ybulkdaxu
/- THE CELL 'sum', in the pinned program and in every row, IS THE sha256 OF THE DUMP (.gsa) THAT YbulkdaxuProg.lean LOADS. Nothing in Lean hashes anything: it is a label: what it is worth is what the hold of that sum in a sandbox is worth. -/
noncomputable def Yba.pinned : Pinned := { name := "ybulkdaxu", sum := "7478e522ecc7c164b02d881a54420919345c1f8901393817d575bdc6f361f7f3", checked := Yba.checked }
namespace Rows
def none {H : Type} : Left H := { results := [], args := [] }

/-- 'overlay.LawS5116BSteps': WHATEVER THE INPUT: true; the input reads as it did. -/
def lawS5116BStepsSpec : ChangeSpec := { name := "lawS5116BSteps", fn := fun _ => fun
  | [d1, d2, d3, d4, d5] => { results := [.lit (.bool true)], args := [d1, d2, d3, d4, d5] }
  | _ => none }
def lawS5116BStepsRow : OpenClaim := { program := "ybulkdaxu", sum := "7478e522ecc7c164b02d881a54420919345c1f8901393817d575bdc6f361f7f3", func := "example.com/longhop/longhop/internal/overlay.LawS5116BSteps", spec := "lawS5116BSteps", inPlace := ["math.Float64frombits", "math.Float64bits"], unfollowed := true, recurses := true, apart := false }
def LawS5116BStepsSaid : Prop := lawS5116BStepsRow.holds Yba.pinned (OpenSpec.ofChange lawS5116BStepsSpec)

/-- ITS FALSE NEIGHBOUR: 'it returns false'. Refute it at one input. -/
def lawS5116BStepsWrong : ChangeSpec := { name := "lawS5116BSteps", fn := fun _ => fun
  | [d1, d2, d3, d4, d5] => { results := [.lit (.bool false)], args := [d1, d2, d3, d4, d5] }
  | _ => none }
def LawS5116BStepsWrongFalsely : Prop := lawS5116BStepsRow.holds Yba.pinned (OpenSpec.ofChange lawS5116BStepsWrong)

/-- 'overlay.LawS5116BEvenCuts': WHATEVER THE INPUT: true; the input reads as it did. -/
def lawS5116BEvenCutsSpec : ChangeSpec := { name := "lawS5116BEvenCuts", fn := fun _ => fun
  | [d1, d2, d3, d4] => { results := [.lit (.bool true)], args := [d1, d2, d3, d4] }
  | _ => none }
def lawS5116BEvenCutsRow : OpenClaim := { program := "ybulkdaxu", sum := "7478e522ecc7c164b02d881a54420919345c1f8901393817d575bdc6f361f7f3", func := "example.com/longhop/longhop/internal/overlay.LawS5116BEvenCuts", spec := "lawS5116BEvenCuts", inPlace := ["math.Float64frombits", "math.Float64bits"], unfollowed := true, recurses := true, apart := false }
def LawS5116BEvenCutsSaid : Prop := lawS5116BEvenCutsRow.holds Yba.pinned (OpenSpec.ofChange lawS5116BEvenCutsSpec)

/-- ITS FALSE NEIGHBOUR: 'it returns false'. Refute it at one input. -/
def lawS5116BEvenCutsWrong : ChangeSpec := { name := "lawS5116BEvenCuts", fn := fun _ => fun
  | [d1, d2, d3, d4] => { results := [.lit (.bool false)], args := [d1, d2, d3, d4] }
  | _ => none }
def LawS5116BEvenCutsWrongFalsely : Prop := lawS5116BEvenCutsRow.holds Yba.pinned (OpenSpec.ofChange lawS5116BEvenCutsWrong)

/-- 'overlay.LawS5116CSlabs': WHATEVER THE INPUT: true; the input reads as it did. -/
def lawS5116CSlabsSpec : ChangeSpec := { name := "lawS5116CSlabs", fn := fun _ => fun
  | [d1, d2, d3, d4, d5, d6, d7, d8] => { results := [.lit (.bool true)], args := [d1, d2, d3, d4, d5, d6, d7, d8] }
  | _ => none }
def lawS5116CSlabsRow : OpenClaim := { program := "ybulkdaxu", sum := "7478e522ecc7c164b02d881a54420919345c1f8901393817d575bdc6f361f7f3", func := "example.com/longhop/longhop/internal/overlay.LawS5116CSlabs", spec := "lawS5116CSlabs", inPlace := ["math.Float64frombits"], unfollowed := true, recurses := true, apart := false }
def LawS5116CSlabsSaid : Prop := lawS5116CSlabsRow.holds Yba.pinned (OpenSpec.ofChange lawS5116CSlabsSpec)

/-- ITS FALSE NEIGHBOUR: 'it returns false'. Refute it at one input. -/
def lawS5116CSlabsWrong : ChangeSpec := { name := "lawS5116CSlabs", fn := fun _ => fun
  | [d1, d2, d3, d4, d5, d6, d7, d8] => { results := [.lit (.bool false)], args := [d1, d2, d3, d4, d5, d6, d7, d8] }
  | _ => none }
def LawS5116CSlabsWrongFalsely : Prop := lawS5116CSlabsRow.holds Yba.pinned (OpenSpec.ofChange lawS5116CSlabsWrong)

end Rows
end Go.Proofs.Ybulkdaxu
