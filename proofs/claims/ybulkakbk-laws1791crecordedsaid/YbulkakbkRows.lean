/-
  No cell of these rows narrows 'for every input' (looked for: loops, veiled, ifaces, maps, wideKeys, modest, calm, conditions, laid).
  DERIVED. THE GIVEN ROWS OF THIS SEAT. 2 by the template 'for every input the law returns true; each argument reads behind the call as it read before'; 0 by the template 'total and deterministic' (their statements: YbulkakbkTotals.lean).
  GIVEN WITH THE SEED: the statements are not yours to turn. If you find one false, say at which input.
  Laid BY PROGRAM, IN A SANDBOX (cutbox-rows.mjs): the forced cells as the released guide's own fill.sh prints them over the translation b453721b09b7a868… (all of the seat's roots in one cut). By AI agents, Wed Nov 11 2026. No macro, syntax, notation, axiom, sorry.
-/
import Derived.Test.YbulkakbkChecked
import GoSem.Claim
import GoSem.ClaimJoined
import GoSem.ClaimMapViews
import Derived.JoinedTies
import Derived.KernelRfl
namespace Go.Proofs.Ybulkakbk
/- THE CELL 'sum', in the pinned program and in every row, IS THE sha256 OF THE DUMP (.gsa) THAT YbulkakbkProg.lean LOADS. Nothing in Lean hashes anything: it is a label: what it is worth is what the hold of that sum in a sandbox is worth. -/
noncomputable def Yba.pinned : Pinned := { name := "ybulkakbk", sum := "b453721b09b7a868c26eba7189b4a895ff66fe186159d26249f5e3702b65ca0e", checked := Yba.checked }
namespace Rows
def none {H : Type} : Left H := { results := [], args := [] }

/-- 'killloop.LawS1791CRecorded': WHATEVER THE INPUT: true; the input reads as it did. -/
def lawS1791CRecordedSpec : ChangeSpec := { name := "lawS1791CRecorded", fn := fun _ => fun
  | [d1, d2, d3] => { results := [.lit (.bool true)], args := [d1, d2, d3] }
  | _ => none }
def lawS1791CRecordedRow : OpenClaim := { program := "ybulkakbk", sum := "b453721b09b7a868c26eba7189b4a895ff66fe186159d26249f5e3702b65ca0e", func := "example.com/afterkill/afterkill/internal/killloop.LawS1791CRecorded", spec := "lawS1791CRecorded", unfollowed := true, recurses := true, apart := false }
def LawS1791CRecordedSaid : Prop := lawS1791CRecordedRow.holds Yba.pinned (OpenSpec.ofChange lawS1791CRecordedSpec)

/-- ITS FALSE NEIGHBOUR: 'it returns false'. Refute it at one input. -/
def lawS1791CRecordedWrong : ChangeSpec := { name := "lawS1791CRecorded", fn := fun _ => fun
  | [d1, d2, d3] => { results := [.lit (.bool false)], args := [d1, d2, d3] }
  | _ => none }
def LawS1791CRecordedWrongFalsely : Prop := lawS1791CRecordedRow.holds Yba.pinned (OpenSpec.ofChange lawS1791CRecordedWrong)

/-- 'killloop.LawS1791CBeyond': WHATEVER THE INPUT: true; the input reads as it did. -/
def lawS1791CBeyondSpec : ChangeSpec := { name := "lawS1791CBeyond", fn := fun _ => fun
  | [d1, d2, d3, d4, d5] => { results := [.lit (.bool true)], args := [d1, d2, d3, d4, d5] }
  | _ => none }
def lawS1791CBeyondRow : OpenClaim := { program := "ybulkakbk", sum := "b453721b09b7a868c26eba7189b4a895ff66fe186159d26249f5e3702b65ca0e", func := "example.com/afterkill/afterkill/internal/killloop.LawS1791CBeyond", spec := "lawS1791CBeyond", unfollowed := true, recurses := true, apart := false }
def LawS1791CBeyondSaid : Prop := lawS1791CBeyondRow.holds Yba.pinned (OpenSpec.ofChange lawS1791CBeyondSpec)

/-- ITS FALSE NEIGHBOUR: 'it returns false'. Refute it at one input. -/
def lawS1791CBeyondWrong : ChangeSpec := { name := "lawS1791CBeyond", fn := fun _ => fun
  | [d1, d2, d3, d4, d5] => { results := [.lit (.bool false)], args := [d1, d2, d3, d4, d5] }
  | _ => none }
def LawS1791CBeyondWrongFalsely : Prop := lawS1791CBeyondRow.holds Yba.pinned (OpenSpec.ofChange lawS1791CBeyondWrong)

end Rows
end Go.Proofs.Ybulkakbk
