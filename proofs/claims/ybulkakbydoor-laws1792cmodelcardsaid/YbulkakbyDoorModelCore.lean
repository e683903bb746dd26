/-
  THE WALK OF LawS1792CModel.
-/
import Derived.Test.YbulkakbyDoorWalk
import Derived.LaidEql
namespace Go.Proofs.YbulkakbyDoor
open Go.RowKit
set_option linter.unusedVariables false

theorem comp36 : (Ybad.prog.info? 36).map (·.comparable) = some true := by kernel_rfl
theorem size56 : (Ybad.prog.info? 56).map (·.size) = some 1 := by kernel_rfl

theorem eql_same (a : Addr) (w : World) : (binOp .eql 24 (.iface 36 (.pointer (some a))) (.iface 36 (.pointer (some a)))).run Ybad.prog w = .ok (.bool true) w := by
  obtain ⟨i, hi, hc⟩ := Option.map_eq_some_iff.1 comp36
  obtain ⟨j, hj, _⟩ := Option.map_eq_some_iff.1 size56
  exact run_eql_iface_ptr_same w a Ybad.underlying24 Ybad.underlying36 hi hc hj

set_option maxHeartbeats 1000000 in
theorem model_walk (a : Option Addr) (len cap b off : Nat) (zs : List Int) (ae : Addr) (w : World) (hlen : zs.length = len) (hl : len ≤ 4096) (hlc : len ≤ cap) (hcm : cap ≤ 9223372036854775807) (ha : 0 < len → a = some ⟨b, off, none⟩)
    (hz : ∀ j, 0 ≤ zs.getD j 0 ∧ zs.getD j 0 ≤ 255) (hb : Bytes w b off zs) (he : w.cell? ⟨0, 0, none⟩ = some (.iface 36 (.pointer (some ae)))) :
    Calls Ybad.prog 3 #[.slice a len cap] w fun e w' => e = .returned (.bool true) ∧ Below w.heap.size w w' := by
  have hbw : 0 < zs.length → b < w.heap.size := fun h => World.block_lt_of_cell? w _ (hb 0 h)
  have h0 : 0 < w.heap.size := World.block_lt_of_cell? w _ he
  have hat : At (.slice a len cap) b off zs cap 0 := ⟨a, cap, by rw [Nat.sub_zero, hlen], fun h => ⟨ha (by omega), by omega⟩⟩
  have heq := eql_same ae
  cases hW : W zs 0 with
  | true =>
    have C := check_any b off cap zs ae (.slice a len cap) .nilIface w (by omega) (by omega) hcm hz hb he (by show _ = _; rw [hW]; rfl) hat
    go_enter Ybad.func3, Ybad.ntmps3
    go_wp2_with fail
    refine C.mono ?_
    rintro e w1 ⟨rfl, hb1⟩
    have hb' : Bytes w1 b off zs := fun i hi => by rw [hb1.cell (by exact hbw (by omega))]; exact hb i hi
    have hWH : Hid (true = W zs 0) := hW.symm
    have WL := fun n => well_any b off cap zs a len (w1.drewN n) hlen (by omega) ha hz (fun i hi => hb' i hi) true hWH
    clear hW C hat
    go_wp2_with fail
    go_quiet ((go_at_call 6; exact Calls.quiet_of (WL _)))
    go_wp2
    go_ret
    exact ⟨rfl, below_drewN hb1 _⟩
  | false =>
    have C := check_any b off cap zs ae (.slice a len cap) (.iface 36 (.pointer (some ae))) w (by omega) (by omega) hcm hz hb he (by show _ = _; rw [hW]; rfl) hat
    go_enter Ybad.func3, Ybad.ntmps3
    go_wp2_with fail
    refine C.mono ?_
    rintro e w1 ⟨rfl, hb1⟩
    have hb' : Bytes w1 b off zs := fun i hi => by rw [hb1.cell (by exact hbw (by omega))]; exact hb i hi
    have he1 : w1.cell? ⟨0, 0, none⟩ = some (.iface 36 (.pointer (some ae))) := by rw [hb1.cell (by exact h0)]; exact he
    have hWH : Hid (false = W zs 0) := hW.symm
    have WL := fun n => well_any b off cap zs a len (w1.drewN n) hlen (by omega) ha hz (fun i hi => hb' i hi) false hWH
    clear hW C hat
    go_wp2_with fail
    go_quiet ((go_at_call 6; exact Calls.quiet_of (WL _)))
    go_wp2
    go_ret
    exact ⟨rfl, below_drewN hb1 _⟩
end Go.Proofs.YbulkakbyDoor
