/-
  THE WALK OF (*plan).killPoint PAST THE RECORD's END.
-/
import Derived.Test.YbulkakbkKill
import Derived.Deep.RegionHeld3
import Derived.Deep.DrawnRows
namespace Go.Proofs.Ybulkakbk
open Go.RowKit
set_option linter.unusedVariables false
attribute [local go_sem ↓] Go.wp_at_zero Go.wp_at_succ

set_option maxHeartbeats 1000000 in
theorem beyond_any (pl : Nat) (a : Option Addr) (n cap : Nat) (seed cyc x ops win : Int) (w : World) (h0 : 0 ≤ seed) (h1 : seed < 18446744073709551616) (c0 : 0 ≤ cyc) (c1 : cyc ≤ 1000000) (x0 : 0 ≤ x) (x1 : x < 18446744073709551616) (hx : Hid (bits .or .u64 12884901888 cyc = x))
    (o0 : 1 ≤ ops) (o1 : ops ≤ 1000) (w0 : 0 ≤ win) (w1 : win ≤ 4999) (hn : (n : Int) < cyc)
    (p0 : w.cell? ⟨pl, 0, none⟩ = some (.int .u64 seed)) (p1 : w.cell? ⟨pl, 1, none⟩ = some (.int .i64 ops)) (p2 : w.cell? ⟨pl, 2, none⟩ = some (.int .i64 win)) (p7 : w.cell? ⟨pl, 7, none⟩ = some (.slice a n cap)) :
    Calls Yba.prog 6 #[.pointer (some ⟨pl, 0, none⟩), .int .i64 cyc] w fun e w' => ∃ op d : Int, e = .returned (.tuple #[.int .i64 op, .int .i64 (d * 1000000)]) ∧ 1 ≤ op ∧ op ≤ ops ∧ 0 ≤ d ∧ d ≤ win ∧ Hid (KP seed x ops win op d) ∧ Below w.heap.size w w' := by
  have hpl : pl < w.heap.size := World.block_lt_of_cell? w _ p0
  go_enter Yba.func6, Yba.ntmps6
  go_wp2_with fail
  go_region_held3 (fun w' => w'.cell? ⟨pl, 0, none⟩ = some (.int .u64 seed) ∧ w'.cell? ⟨pl, 1, none⟩ = some (.int .i64 ops) ∧ w'.cell? ⟨pl, 2, none⟩ = some (.int .i64 win))
    (first | (go_split_ands; refine ⟨?_, ?_, ?_⟩ <;> (rw [hbb.cell (by simpa using hpl)]; assumption)) | go_keep)
    (first | (go_at_call 8; refine (kill_any seed cyc x ops win _ h0 h1 c0 c1 x0 x1 hx.out o0 o1 w0 w1).mono ?_; rintro e w' ⟨op, d, rfl, q0, q1, q2, q3, HK, hbb⟩))
  go_wp2
  go_ret2
  exact ⟨op, d, rfl, q0, q1, q2, q3, HK, (Below.refl _ _).drew.trans hbb⟩
end Go.Proofs.Ybulkakbk
