/-
  NARROWER THAN 'FOR EVERY INPUT', by the rows' own cells (each row's printed sentence says how): LawS1792CModel: ifaces, laid · LawS1792CBuilt: ifaces, laid.
  DERIVED. THE GIVEN ROWS OF THIS SEAT. 2 by the template 'for every input the law returns true; each argument reads behind the call as it read before'; 0 by the template 'total and deterministic' (their statements: YbulkakbyDoorTotals.lean).
  GIVEN WITH THE SEED: the statements are not yours to turn. If you find one false, say at which input.
  Laid BY PROGRAM, IN A SANDBOX (cutbox-rows.mjs): the forced cells as the released guide's own fill.sh prints them over the translation 514bac0c97471999… (all of the seat's roots in one cut). By AI agents, Wed Nov 11 2026. No macro, syntax, notation, axiom, sorry.
-/
import Derived.Test.YbulkakbyDoorChecked
import GoSem.Claim
import GoSem.ClaimJoined
import GoSem.ClaimMapViews
import Derived.JoinedTies
import Derived.KernelRfl
namespace Go.Proofs.YbulkakbyDoor
/- THE CELL 'sum', in the pinned program and in every row, IS THE sha256 OF THE DUMP (.gsa) THAT YbulkakbyDoorProg.lean LOADS. Nothing in Lean hashes anything: it is a label: what it is worth is what the hold of that sum in a sandbox is worth. -/
noncomputable def Ybad.pinned : Pinned := { name := "ybulkakbydoor", sum := "514bac0c97471999cb1e89b1796da757dbdfa6018ffcd2cdb52774f9396b4060", checked := Ybad.checked }
namespace Rows
def none {H : Type} : Left H := { results := [], args := [] }

/- WHAT THE LISTED PACKAGE-LEVEL VARIABLES READ AS WHEN THE CALL BEGINS. Each datum BY PROGRAM (the guide's laid-datum.mjs) off the statement by which the dump's own 'gosem.cut.vars' lays the variable. In a bare row this is a premise. The card (YbulkakbyDoorCards.lean) ties it to the program's text. -/
def laid_example_com_anchorwright_anchorwright_dnsmessage_errOption {H : Type} : DataW H := .iface "*errors.errorString" (.ptr (.agg [.lit (.string [97, 110, 32, 69, 68, 78, 83, 32, 111, 112, 116, 105, 111, 110, 32, 116, 104, 97, 116, 32, 114, 117, 110, 115, 32, 112, 97, 115, 116, 32, 116, 104, 101, 32, 101, 110, 100, 32, 111, 102, 32, 105, 116, 115, 32, 79, 80, 84, 32, 114, 101, 99, 111, 114, 100])]))

/-- 'dnsmessage.LawS1792CModel': WHATEVER THE INPUT: true; the input reads as it did. -/
def lawS1792CModelSpec : ChangeSpec := { name := "lawS1792CModel", vars := ["example.com/anchorwright/anchorwright/dnsmessage.errOption"], fn := fun _ => fun
  | [d, g1] => { results := [.lit (.bool true)], args := [d], vars := [g1] }
  | _ => none }
def lawS1792CModelRow : OpenClaim := { program := "ybulkakbydoor", sum := "514bac0c97471999cb1e89b1796da757dbdfa6018ffcd2cdb52774f9396b4060", func := "example.com/anchorwright/anchorwright/dnsmessage.LawS1792CModel", spec := "lawS1792CModel", named := ["example.com/anchorwright/anchorwright/dnsmessage.errOption", "encoding/binary.BigEndian"], ifaces := true, apart := false, laid := [("example.com/anchorwright/anchorwright/dnsmessage.errOption", laid_example_com_anchorwright_anchorwright_dnsmessage_errOption)] }
def LawS1792CModelSaid : Prop := lawS1792CModelRow.holds Ybad.pinned (OpenSpec.ofChange lawS1792CModelSpec)

/-- ITS FALSE NEIGHBOUR: 'it returns false'. Refute it at one input. -/
def lawS1792CModelWrong : ChangeSpec := { name := "lawS1792CModel", vars := ["example.com/anchorwright/anchorwright/dnsmessage.errOption"], fn := fun _ => fun
  | [d, g1] => { results := [.lit (.bool false)], args := [d], vars := [g1] }
  | _ => none }
def LawS1792CModelWrongFalsely : Prop := lawS1792CModelRow.holds Ybad.pinned (OpenSpec.ofChange lawS1792CModelWrong)

/-- 'dnsmessage.LawS1792CBuilt': WHATEVER THE INPUT: true; the input reads as it did. -/
def lawS1792CBuiltSpec : ChangeSpec := { name := "lawS1792CBuilt", vars := ["example.com/anchorwright/anchorwright/dnsmessage.errOption"], fn := fun _ => fun
  | [d, g1] => { results := [.lit (.bool true)], args := [d], vars := [g1] }
  | _ => none }
def lawS1792CBuiltRow : OpenClaim := { program := "ybulkakbydoor", sum := "514bac0c97471999cb1e89b1796da757dbdfa6018ffcd2cdb52774f9396b4060", func := "example.com/anchorwright/anchorwright/dnsmessage.LawS1792CBuilt", spec := "lawS1792CBuilt", named := ["example.com/anchorwright/anchorwright/dnsmessage.errOption", "encoding/binary.BigEndian"], ifaces := true, apart := false, laid := [("example.com/anchorwright/anchorwright/dnsmessage.errOption", laid_example_com_anchorwright_anchorwright_dnsmessage_errOption)] }
def LawS1792CBuiltSaid : Prop := lawS1792CBuiltRow.holds Ybad.pinned (OpenSpec.ofChange lawS1792CBuiltSpec)

/-- ITS FALSE NEIGHBOUR: 'it returns false'. Refute it at one input. -/
def lawS1792CBuiltWrong : ChangeSpec := { name := "lawS1792CBuilt", vars := ["example.com/anchorwright/anchorwright/dnsmessage.errOption"], fn := fun _ => fun
  | [d, g1] => { results := [.lit (.bool false)], args := [d], vars := [g1] }
  | _ => none }
def LawS1792CBuiltWrongFalsely : Prop := lawS1792CBuiltRow.holds Ybad.pinned (OpenSpec.ofChange lawS1792CBuiltWrong)

end Rows
end Go.Proofs.YbulkakbyDoor
