/-
  No cell of these rows narrows 'for every input' (looked for: loops, veiled, ifaces, maps, wideKeys, modest, calm, conditions, laid).
  DERIVED. THE GIVEN ROWS OF THIS SEAT. 5 by the template 'for every input the law returns true; each argument reads behind the call as it read before'; 0 by the template 'total and deterministic' (their statements: YbulkdasyTotals.lean).
  GIVEN WITH THE SEED: the statements are not yours to turn. If you find one false, say at which input.
  Laid BY PROGRAM, IN A SANDBOX (cutbox-rows.mjs): the forced cells as the released guide's own fill.sh prints them over the translation 8f2331a5a9c75954… (all of the seat's roots in one cut). By AI agents, Wed Nov 11 2026. No macro, syntax, notation, axiom, sorry.
-/
import Derived.Test.YbulkdasyChecked
import GoSem.Claim
import GoSem.ClaimJoined
import GoSem.ClaimMapViews
import Derived.JoinedTies
import Derived.KernelRfl
namespace Go.Proofs.Ybulkdasy
/- THE CELL 'sum', in the pinned program and in every row, IS THE sha256 OF THE DUMP (.gsa) THAT YbulkdasyProg.lean LOADS. Nothing in Lean hashes anything: it is a label: what it is worth is what the hold of that sum in a sandbox is worth. -/
noncomputable def Yba.pinned : Pinned := { name := "ybulkdasy", sum := "8f2331a5a9c75954e81ecf0440663c0362dd1b8aa4081a9d6ac11574f6d55b07", checked := Yba.checked }
namespace Rows
def none {H : Type} : Left H := { results := [], args := [] }

/-- 'concordat.LawS5107AOneCut': WHATEVER THE INPUT: true; the input reads as it did. -/
def lawS5107AOneCutSpec : ChangeSpec := { name := "lawS5107AOneCut", fn := fun _ => fun
  | [d1, d2, d3, d4, d5, d6] => { results := [.lit (.bool true)], args := [d1, d2, d3, d4, d5, d6] }
  | _ => none }
def lawS5107AOneCutRow : OpenClaim := { program := "ybulkdasy", sum := "8f2331a5a9c75954e81ecf0440663c0362dd1b8aa4081a9d6ac11574f6d55b07", func := "example.com/concordat/concordat.LawS5107AOneCut", spec := "lawS5107AOneCut", unfollowed := true, recurses := true, apart := false }
def LawS5107AOneCutSaid : Prop := lawS5107AOneCutRow.holds Yba.pinned (OpenSpec.ofChange lawS5107AOneCutSpec)

/-- ITS FALSE NEIGHBOUR: 'it returns false'. Refute it at one input. -/
def lawS5107AOneCutWrong : ChangeSpec := { name := "lawS5107AOneCut", fn := fun _ => fun
  | [d1, d2, d3, d4, d5, d6] => { results := [.lit (.bool false)], args := [d1, d2, d3, d4, d5, d6] }
  | _ => none }
def LawS5107AOneCutWrongFalsely : Prop := lawS5107AOneCutRow.holds Yba.pinned (OpenSpec.ofChange lawS5107AOneCutWrong)

/-- 'concordat.LawS5107ATwoCuts': WHATEVER THE INPUT: true; the input reads as it did. -/
def lawS5107ATwoCutsSpec : ChangeSpec := { name := "lawS5107ATwoCuts", fn := fun _ => fun
  | [d1, d2, d3, d4, d5, d6, d7] => { results := [.lit (.bool true)], args := [d1, d2, d3, d4, d5, d6, d7] }
  | _ => none }
def lawS5107ATwoCutsRow : OpenClaim := { program := "ybulkdasy", sum := "8f2331a5a9c75954e81ecf0440663c0362dd1b8aa4081a9d6ac11574f6d55b07", func := "example.com/concordat/concordat.LawS5107ATwoCuts", spec := "lawS5107ATwoCuts", unfollowed := true, recurses := true, apart := false }
def LawS5107ATwoCutsSaid : Prop := lawS5107ATwoCutsRow.holds Yba.pinned (OpenSpec.ofChange lawS5107ATwoCutsSpec)

/-- ITS FALSE NEIGHBOUR: 'it returns false'. Refute it at one input. -/
def lawS5107ATwoCutsWrong : ChangeSpec := { name := "lawS5107ATwoCuts", fn := fun _ => fun
  | [d1, d2, d3, d4, d5, d6, d7] => { results := [.lit (.bool false)], args := [d1, d2, d3, d4, d5, d6, d7] }
  | _ => none }
def LawS5107ATwoCutsWrongFalsely : Prop := lawS5107ATwoCutsRow.holds Yba.pinned (OpenSpec.ofChange lawS5107ATwoCutsWrong)

/-- 'edn.LawS5107BExact': WHATEVER THE INPUT: true; the input reads as it did. -/
def lawS5107BExactSpec : ChangeSpec := { name := "lawS5107BExact", fn := fun _ => fun
  | [d1, d2, d3, d4] => { results := [.lit (.bool true)], args := [d1, d2, d3, d4] }
  | _ => none }
def lawS5107BExactRow : OpenClaim := { program := "ybulkdasy", sum := "8f2331a5a9c75954e81ecf0440663c0362dd1b8aa4081a9d6ac11574f6d55b07", func := "example.com/concordat/concordat/internal/edn.LawS5107BExact", spec := "lawS5107BExact", apart := false }
def LawS5107BExactSaid : Prop := lawS5107BExactRow.holds Yba.pinned (OpenSpec.ofChange lawS5107BExactSpec)

/-- ITS FALSE NEIGHBOUR: 'it returns false'. Refute it at one input. -/
def lawS5107BExactWrong : ChangeSpec := { name := "lawS5107BExact", fn := fun _ => fun
  | [d1, d2, d3, d4] => { results := [.lit (.bool false)], args := [d1, d2, d3, d4] }
  | _ => none }
def LawS5107BExactWrongFalsely : Prop := lawS5107BExactRow.holds Yba.pinned (OpenSpec.ofChange lawS5107BExactWrong)

/-- 'edn.LawS5107CTable': WHATEVER THE INPUT: true; the input reads as it did. -/
def lawS5107CTableSpec : ChangeSpec := { name := "lawS5107CTable", fn := fun _ => fun
  | [d1, d2] => { results := [.lit (.bool true)], args := [d1, d2] }
  | _ => none }
def lawS5107CTableRow : OpenClaim := { program := "ybulkdasy", sum := "8f2331a5a9c75954e81ecf0440663c0362dd1b8aa4081a9d6ac11574f6d55b07", func := "example.com/concordat/concordat/internal/edn.LawS5107CTable", spec := "lawS5107CTable", apart := false }
def LawS5107CTableSaid : Prop := lawS5107CTableRow.holds Yba.pinned (OpenSpec.ofChange lawS5107CTableSpec)

/-- ITS FALSE NEIGHBOUR: 'it returns false'. Refute it at one input. -/
def lawS5107CTableWrong : ChangeSpec := { name := "lawS5107CTable", fn := fun _ => fun
  | [d1, d2] => { results := [.lit (.bool false)], args := [d1, d2] }
  | _ => none }
def LawS5107CTableWrongFalsely : Prop := lawS5107CTableRow.holds Yba.pinned (OpenSpec.ofChange lawS5107CTableWrong)

/-- 'edn.LawS5107COpenedBy': WHATEVER THE INPUT: true; the input reads as it did. -/
def lawS5107COpenedBySpec : ChangeSpec := { name := "lawS5107COpenedBy", fn := fun _ => fun
  | [d] => { results := [.lit (.bool true)], args := [d] }
  | _ => none }
def lawS5107COpenedByRow : OpenClaim := { program := "ybulkdasy", sum := "8f2331a5a9c75954e81ecf0440663c0362dd1b8aa4081a9d6ac11574f6d55b07", func := "example.com/concordat/concordat/internal/edn.LawS5107COpenedBy", spec := "lawS5107COpenedBy", apart := false }
def LawS5107COpenedBySaid : Prop := lawS5107COpenedByRow.holds Yba.pinned (OpenSpec.ofChange lawS5107COpenedBySpec)

/-- ITS FALSE NEIGHBOUR: 'it returns false'. Refute it at one input. -/
def lawS5107COpenedByWrong : ChangeSpec := { name := "lawS5107COpenedBy", fn := fun _ => fun
  | [d] => { results := [.lit (.bool false)], args := [d] }
  | _ => none }
def LawS5107COpenedByWrongFalsely : Prop := lawS5107COpenedByRow.holds Yba.pinned (OpenSpec.ofChange lawS5107COpenedByWrong)

end Rows
end Go.Proofs.Ybulkdasy
