/-
  No cell of these rows narrows 'for every input' (looked for: loops, veiled, ifaces, maps, wideKeys, modest, calm, conditions, laid).
  DERIVED. THE GIVEN ROWS OF THIS SEAT. 2 by the template 'for every input the law returns true; each argument reads behind the call as it read before'; 0 by the template 'total and deterministic' (their statements: YbulkajzgTotals.lean).
  GIVEN WITH THE SEED: the statements are not yours to turn. If you find one false, say at which input.
  Laid BY PROGRAM, IN A SANDBOX (cutbox-rows.mjs): the forced cells as the released guide's own fill.sh prints them over the translation 966f18ab4b394300… (all of the seat's roots in one cut). By AI agents, Wed Nov 11 2026. No macro, syntax, notation, axiom, sorry.
-/
import Derived.Test.YbulkajzgChecked
import GoSem.Claim
import GoSem.ClaimJoined
import GoSem.ClaimMapViews
import Derived.JoinedTies
import Derived.KernelRfl
namespace Go.Proofs.Ybulkajzg
/- THE CELL 'sum', in the pinned program and in every row, IS THE sha256 OF THE DUMP (.gsa) THAT YbulkajzgProg.lean LOADS. Nothing in Lean hashes anything: it is a label: what it is worth is what the hold of that sum in a sandbox is worth. -/
noncomputable def Yba.pinned : Pinned := { name := "ybulkajzg", sum := "966f18ab4b394300392bccfd123156d8451d29900567d34c6f63f0d616b93eea", checked := Yba.checked }
namespace Rows
def none {H : Type} : Left H := { results := [], args := [] }

/-- 'ber.LawS1787AStep': WHATEVER THE INPUT: true; the input reads as it did. -/
def lawS1787AStepSpec : ChangeSpec := { name := "lawS1787AStep", fn := fun _ => fun
  | [d1, d2, d3] => { results := [.lit (.bool true)], args := [d1, d2, d3] }
  | _ => none }
def lawS1787AStepRow : OpenClaim := { program := "ybulkajzg", sum := "966f18ab4b394300392bccfd123156d8451d29900567d34c6f63f0d616b93eea", func := "example.com/tollgate/tollgate/internal/ber.LawS1787AStep", spec := "lawS1787AStep", apart := false }
def LawS1787AStepSaid : Prop := lawS1787AStepRow.holds Yba.pinned (OpenSpec.ofChange lawS1787AStepSpec)

/-- ITS FALSE NEIGHBOUR: 'it returns false'. Refute it at one input. -/
def lawS1787AStepWrong : ChangeSpec := { name := "lawS1787AStep", fn := fun _ => fun
  | [d1, d2, d3] => { results := [.lit (.bool false)], args := [d1, d2, d3] }
  | _ => none }
def LawS1787AStepWrongFalsely : Prop := lawS1787AStepRow.holds Yba.pinned (OpenSpec.ofChange lawS1787AStepWrong)

/-- 'ber.LawS1787AClose': WHATEVER THE INPUT: true; the input reads as it did. -/
def lawS1787ACloseSpec : ChangeSpec := { name := "lawS1787AClose", fn := fun _ => fun
  | [d1, d2, d3] => { results := [.lit (.bool true)], args := [d1, d2, d3] }
  | _ => none }
def lawS1787ACloseRow : OpenClaim := { program := "ybulkajzg", sum := "966f18ab4b394300392bccfd123156d8451d29900567d34c6f63f0d616b93eea", func := "example.com/tollgate/tollgate/internal/ber.LawS1787AClose", spec := "lawS1787AClose", apart := false }
def LawS1787ACloseSaid : Prop := lawS1787ACloseRow.holds Yba.pinned (OpenSpec.ofChange lawS1787ACloseSpec)

/-- ITS FALSE NEIGHBOUR: 'it returns false'. Refute it at one input. -/
def lawS1787ACloseWrong : ChangeSpec := { name := "lawS1787AClose", fn := fun _ => fun
  | [d1, d2, d3] => { results := [.lit (.bool false)], args := [d1, d2, d3] }
  | _ => none }
def LawS1787ACloseWrongFalsely : Prop := lawS1787ACloseRow.holds Yba.pinned (OpenSpec.ofChange lawS1787ACloseWrong)

end Rows
end Go.Proofs.Ybulkajzg
