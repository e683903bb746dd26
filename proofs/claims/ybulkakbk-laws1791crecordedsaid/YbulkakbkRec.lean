/-
  THE WALKS OF (*plan).killPoint INSIDE THE RECORD, OF zzs1791cdelay AND OF Milliseconds.
-/
import Derived.Test.YbulkakbkRows
import Derived.WalkKit
import Derived.ProofKit
import Derived.OpenShut
import Derived.Deep.QuietTactic
import Derived.BigQuiet
namespace Go.Proofs.Ybulkakbk
open Go.RowKit
set_option linter.unusedVariables false

/-- The delay that the law lays for D. -/
def dlOf (D : Int) : Int := D.tmod 1099511627776
theorem dlOf_range (D : Int) : -1099511627776 < dlOf D ∧ dlOf D < 1099511627776 := by
  unfold dlOf
  rcases Int.le_total 0 D with h | h
  · rw [Int.tmod_eq_emod_of_nonneg h]; omega
  · have := Int.neg_tmod (a := -D) (b := 1099511627776)
    rw [Int.neg_neg] at this
    rw [this, Int.tmod_eq_emod_of_nonneg (by omega)]
    omega

theorem delay_any (D : Int) (w : World) : Calls Yba.prog 5 #[.int .i64 D] w fun e w' => e = .returned (.int .i64 (dlOf D)) ∧ w' = w := by
  go_enter Yba.func5, Yba.ntmps5
  go_wp2
  go_ret
  exact ⟨rfl, rfl⟩

theorem ms_any (d : Int) (w : World) (h0 : -1099511627776 < d) (h1 : d < 1099511627776) : Calls Yba.prog 7 #[.int .i64 (d * 1000000)] w fun e w' => e = .returned (.int .i64 d) ∧ w' = w := by
  have hd : (d * 1000000).tdiv 1000000 = d := Int.mul_tdiv_cancel _ (by decide)
  go_enter Yba.func7, Yba.ntmps7
  go_wp2
  go_ret
  exact ⟨rfl, rfl⟩

theorem below_drewN {B : Nat} {a w : World} (h : Below B a w) (n : Nat) : Below B a (w.drewN n) := ⟨h.os, h.tape, h.output, h.size, h.block⟩

/-- The cycle i of the record in block g. -/
structure CycleAt (w : World) (g i : Nat) (z : Int) (K X : Option Addr) : Prop where
  c0 : w.cell? ⟨g, i * 6, none⟩ = some (.int .i64 z)
  c1 : w.cell? ⟨g, i * 6 + 1, none⟩ = some (.pointer K)
  c2 : w.cell? ⟨g, i * 6 + 2, none⟩ = some (.pointer X)
  c3 : w.cell? ⟨g, i * 6 + 3, none⟩ = some (.pointer none)
  c4 : w.cell? ⟨g, i * 6 + 4, none⟩ = some (.pointer none)
  c5 : w.cell? ⟨g, i * 6 + 5, none⟩ = some (.slice none 0 0)

set_option maxHeartbeats 1000000 in
theorem rec_crash (pl g n i kb : Nat) (z N : Int) (K : Option Addr) (w : World) (hi : i < n) (hn : n ≤ 1024) (p7 : w.cell? ⟨pl, 7, none⟩ = some (.slice (some ⟨g, 0, none⟩) n n)) (hc : CycleAt w g i z K (some ⟨kb, 0, none⟩))
    (k1 : w.cell? ⟨kb, 1, none⟩ = some (.int .i64 N)) :
    Calls Yba.prog 6 #[.pointer (some ⟨pl, 0, none⟩), .int .i64 ((i : Int) + 1)] w fun e w' => e = .returned (.tuple #[.int .i64 N, .int .i64 0]) ∧ Below w.heap.size w w' := by
  have c0 := hc.c0
  have c1 := hc.c1
  have c2 := hc.c2
  have c3 := hc.c3
  have c4 := hc.c4
  have c5 := hc.c5
  have hk : kb < w.heap.size := World.block_lt_of_cell? w _ k1
  have hlt : (i : Int) < (n : Int) := by omega
  go_enter Yba.func6, Yba.ntmps6
  go_wp2_with fail
  go_ret2
  exact ⟨rfl, (Below.refl _ _).alloc (Nat.le_refl _) _⟩

set_option maxHeartbeats 1000000 in
theorem rec_kill (pl g n i kb : Nat) (z N D : Int) (w : World) (hi : i < n) (hn : n ≤ 1024) (d0 : -1099511627776 < D) (d1 : D < 1099511627776) (p7 : w.cell? ⟨pl, 7, none⟩ = some (.slice (some ⟨g, 0, none⟩) n n)) (hc : CycleAt w g i z (some ⟨kb, 0, none⟩) none)
    (k0 : w.cell? ⟨kb, 0, none⟩ = some (.int .i64 N)) (k1 : w.cell? ⟨kb, 1, none⟩ = some (.int .i64 D)) :
    Calls Yba.prog 6 #[.pointer (some ⟨pl, 0, none⟩), .int .i64 ((i : Int) + 1)] w fun e w' => e = .returned (.tuple #[.int .i64 N, .int .i64 (D * 1000000)]) ∧ Below w.heap.size w w' := by
  have c0 := hc.c0
  have c1 := hc.c1
  have c2 := hc.c2
  have c3 := hc.c3
  have c4 := hc.c4
  have c5 := hc.c5
  have hk : kb < w.heap.size := World.block_lt_of_cell? w _ k1
  have hlt : (i : Int) < (n : Int) := by omega
  go_enter Yba.func6, Yba.ntmps6
  go_wp2_with fail
  go_quiet (fail)
  go_wp2
  go_ret2
  exact ⟨rfl, below_drewN ((Below.refl _ _).alloc (Nat.le_refl _) _) _⟩
end Go.Proofs.Ybulkakbk
