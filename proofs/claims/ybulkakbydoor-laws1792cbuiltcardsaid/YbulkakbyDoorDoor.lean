/-
  WHAT THE LISTED VARIABLE GIVES A WALK; a world that meets the condition (the heap that the door's own run leaves).
-/
import Derived.Test.YbulkakbyDoorRows
import Derived.Test.YbulkakbyDoorTie
import Derived.WalkKit
import Derived.ProofKit
import Derived.LaidMore
import Derived.OpenShut
import Derived.Stop.Joined
import Derived.Stop.LaidErr
import Derived.Below
namespace Go.Proofs.YbulkakbyDoor
open Go.ChangeShapes Go.WideShapes Go.ChangeAt Go.RowKit

theorem own : ownKnob Ybad.prog.godebug = none := by kernel_rfl
theorem laidOut : laidOutB Ybad.prog = true := by kernel_rfl

/-- The variable's name. -/
def errName : String := Rows.lawS1792CModelSpec.vars.headD ""
/-- The row's list. -/
def laid1 : List (String × DataW Unit) := Rows.lawS1792CModelRow.laid

/-- The dynamic type's name, and the text, out of the listed datum. -/
def tyName : String := match (Rows.laid_example_com_anchorwright_anchorwright_dnsmessage_errOption : DataW Unit) with | .iface n _ => n | _ => ""
def errText : List UInt8 := match (Rows.laid_example_com_anchorwright_anchorwright_dnsmessage_errOption : DataW Unit) with | .iface _ (.ptr (.agg [.lit (.string t)])) => t | _ => []

theorem gE : Ybad.prog.globalNamed errName = some 0 := by kernel_rfl
theorem gT : (Ybad.prog.globals[0]?).map (·.type) = some 24 := by kernel_rfl
theorem cells56 : Ybad.prog.cellsOf 56 = 1 := by kernel_rfl
theorem cells9 : Ybad.prog.cellsOf 9 = 1 := by kernel_rfl
theorem laid_is : laid1 = [(errName, .iface tyName (.ptr (.agg [.lit (.string errText)])))] := rfl
theorem row36 (u : TypeId) (h : Ybad.prog.typeName? 3 u = some tyName) : u = 36 :=
  typeName_ptr_named (P := Ybad.prog) (nm := "errors.errorString") (by kernel_rfl) (by kernel_rfl) (by decide) u (h.trans (congrArg some (by decide)))

theorem door_met (os : Os) (args : Array Value) : laidMetH Ybad.prog laid1 ((World.doorLaid Ybad.prog 28 os).forCall (fun _ _ => 0) ⟨#[], args, []⟩).memory :=
  laidMetH_of_parts3 (fuel := 8) (laidMet_of_run' 8 (by kernel_rfl) (by kernel_rfl)) (by kernel_rfl) (by kernel_rfl)

/-- WHAT THE CONDITION GIVES: the variable holds a pointer of the one type of that name. -/
theorem of_laid {W : World} (h : laidMetH Ybad.prog laid1 W) : ∃ ae : Addr, W.var? Ybad.prog errName = some #[.iface 36 (.pointer (some ae))] ∧ W.cell? ⟨0, 0, none⟩ = some (.iface 36 (.pointer (some ae))) := by
  rw [MakeChecks.laidMetH_plain _ _ _ (by kernel_rfl), laid_is] at h
  obtain ⟨ae, s, hv, _, _, _⟩ := laid_sentinel h gE gT Ybad.underlying24 row36 Ybad.underlying36 Ybad.underlying56 rfl rfl Ybad.underlying9 cells56 cells9
  exact ⟨ae, hv, by simpa using World.var?_cell gE hv 0⟩

theorem var_below {W W' : World} {cs : Array Value} (h : Below W.heap.size W W') (h0 : 0 < W.heap.size) (hv : W.var? Ybad.prog errName = some cs) : W'.var? Ybad.prog errName = some cs := by
  unfold World.var? at hv ⊢
  simp only [gE, Option.bind_some] at hv ⊢
  rw [h.block 0 h0]
  exact hv
end Go.Proofs.YbulkakbyDoor
