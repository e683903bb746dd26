/-
  DERIVED. GIVEN WITH THE SEED: THE CARDS: each row of YbulkakbyDoorRows.lean that lists a variable, with what it lists TIED to the program's text (the seventh form; the later family's looks); each row that meets fmt, with fmt's text TOLD by the authors' own Lean function (tested against real Go, not proved from fmt's source: count such statements apart). THE CARD IS WHAT COUNTS. Prove the row's statement (the work); the ties are given (YbulkakbyDoorTie.lean); close each card by the builder's one call (the guide's Derived/Test/ToyasCard.lean, 'card_holds'). Laid BY PROGRAM, IN A SANDBOX (cutbox-door.mjs). By AI agents, Wed Nov 11 2026. No macro, syntax, notation, axiom, sorry.
-/
import Derived.Test.YbulkakbyDoorRows
import GoSem.ClaimSeven
namespace Go.Proofs.YbulkakbyDoor
namespace Rows

/-- THE TIED CARD OF 'dnsmessage.LawS1792CModel'. -/
def lawS1792CModelCard : Claim7 := { stood := { row := lawS1792CModelRow, standIns := [], harness := (true, "18092eaf0dc112b752b91e47a2b71374ebcf2c23cb3ae0bc00554f342186631e"), looks := true }, kinds := [], alts := [], laidByText := true, laidKinds := [.sentinel], laidTests := true, laidLooks := .later }
def LawS1792CModelCardSaid : Prop := Claim7.holds Ybad.pinned (.plain (OpenSpec.ofChange lawS1792CModelSpec)) lawS1792CModelCard

/-- THE TIED CARD OF 'dnsmessage.LawS1792CBuilt'. -/
def lawS1792CBuiltCard : Claim7 := { stood := { row := lawS1792CBuiltRow, standIns := [], harness := (true, "18092eaf0dc112b752b91e47a2b71374ebcf2c23cb3ae0bc00554f342186631e"), looks := true }, kinds := [], alts := [], laidByText := true, laidKinds := [.sentinel], laidTests := true, laidLooks := .later }
def LawS1792CBuiltCardSaid : Prop := Claim7.holds Ybad.pinned (.plain (OpenSpec.ofChange lawS1792CBuiltSpec)) lawS1792CBuiltCard
end Rows
end Go.Proofs.YbulkakbyDoor
