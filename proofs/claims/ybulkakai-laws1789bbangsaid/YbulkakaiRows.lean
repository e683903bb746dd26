/-
  No cell of these rows narrows 'for every input' (looked for: loops, veiled, ifaces, maps, wideKeys, modest, calm, conditions, laid).
  DERIVED. THE GIVEN ROWS OF THIS SEAT. 2 by the template 'for every input the law returns true; each argument reads behind the call as it read before'; 0 by the template 'total and deterministic' (their statements: YbulkakaiTotals.lean).
  GIVEN WITH THE SEED: the statements are not yours to turn. If you find one false, say at which input.
  Laid BY PROGRAM, IN A SANDBOX (cutbox-rows.mjs): the forced cells as the released guide's own fill.sh prints them over the translation 3e4810f168d72a89… (all of the seat's roots in one cut). By AI agents, Wed Nov 11 2026. No macro, syntax, notation, axiom, sorry.
-/
import Derived.Test.YbulkakaiChecked
import GoSem.Claim
import GoSem.ClaimJoined
import GoSem.ClaimMapViews
import Derived.JoinedTies
import Derived.KernelRfl
namespace Go.Proofs.Ybulkakai
/- THE CELL 'sum', in the pinned program and in every row, IS THE sha256 OF THE DUMP (.gsa) THAT YbulkakaiProg.lean LOADS. Nothing in Lean hashes anything: it is a label: what it is worth is what the hold of that sum in a sandbox is worth. -/
noncomputable def Yba.pinned : Pinned := { name := "ybulkakai", sum := "3e4810f168d72a89a257a4d45f9383a9b8f57b72567181b3352f8d402cbdbc62", checked := Yba.checked }
namespace Rows
def none {H : Type} : Left H := { results := [], args := [] }

/-- 'pathsieve.LawS1789BExact': WHATEVER THE INPUT: true; the input reads as it did. -/
def lawS1789BExactSpec : ChangeSpec := { name := "lawS1789BExact", fn := fun _ => fun
  | [d1, d2, d3, d4] => { results := [.lit (.bool true)], args := [d1, d2, d3, d4] }
  | _ => none }
def lawS1789BExactRow : OpenClaim := { program := "ybulkakai", sum := "3e4810f168d72a89a257a4d45f9383a9b8f57b72567181b3352f8d402cbdbc62", func := "pathsieve.example/pathsieve.LawS1789BExact", spec := "lawS1789BExact", apart := false }
def LawS1789BExactSaid : Prop := lawS1789BExactRow.holds Yba.pinned (OpenSpec.ofChange lawS1789BExactSpec)

/-- ITS FALSE NEIGHBOUR: 'it returns false'. Refute it at one input. -/
def lawS1789BExactWrong : ChangeSpec := { name := "lawS1789BExact", fn := fun _ => fun
  | [d1, d2, d3, d4] => { results := [.lit (.bool false)], args := [d1, d2, d3, d4] }
  | _ => none }
def LawS1789BExactWrongFalsely : Prop := lawS1789BExactRow.holds Yba.pinned (OpenSpec.ofChange lawS1789BExactWrong)

/-- 'pathsieve.LawS1789BBang': WHATEVER THE INPUT: true; the input reads as it did. -/
def lawS1789BBangSpec : ChangeSpec := { name := "lawS1789BBang", fn := fun _ => fun
  | [d1, d2, d3, d4, d5] => { results := [.lit (.bool true)], args := [d1, d2, d3, d4, d5] }
  | _ => none }
def lawS1789BBangRow : OpenClaim := { program := "ybulkakai", sum := "3e4810f168d72a89a257a4d45f9383a9b8f57b72567181b3352f8d402cbdbc62", func := "pathsieve.example/pathsieve.LawS1789BBang", spec := "lawS1789BBang", apart := false }
def LawS1789BBangSaid : Prop := lawS1789BBangRow.holds Yba.pinned (OpenSpec.ofChange lawS1789BBangSpec)

/-- ITS FALSE NEIGHBOUR: 'it returns false'. Refute it at one input. -/
def lawS1789BBangWrong : ChangeSpec := { name := "lawS1789BBang", fn := fun _ => fun
  | [d1, d2, d3, d4, d5] => { results := [.lit (.bool false)], args := [d1, d2, d3, d4, d5] }
  | _ => none }
def LawS1789BBangWrongFalsely : Prop := lawS1789BBangRow.holds Yba.pinned (OpenSpec.ofChange lawS1789BBangWrong)

end Rows
end Go.Proofs.Ybulkakai
