/-
  THE WALK OF LawS1791CBeyond.
-/
import Derived.Test.YbulkakbkPlan
import Derived.Deep.LoopGhost
namespace Go.Proofs.Ybulkakbk.BeyondCore
open Go.RowKit
set_option linter.unusedVariables false

theorem info34 : (Yba.prog.info? 34).map (fun i => (i.zero, i.size, i.bytes)) = some (some (.agg #[.int .i64 0, .pointer none, .pointer none, .pointer none, .pointer none, .slice none 0 0]), 6, 64) := by kernel_rfl

/-- The row of cycles: its cells are there and may be written. -/
structure Row (w wr : World) (n : Nat) : Prop where
  there : ∀ j, j < n * 6 → ∃ v, wr.cell? ⟨w.heap.size, j, none⟩ = some v
  free : ∀ j, wr.frozen? ⟨w.heap.size, j, none⟩ = false
  bel : Below w.heap.size w wr
  big : w.heap.size < wr.heap.size

theorem row_set {w wr : World} {n : Nat} (h : Row w wr n) (o : Nat) (v : Value) : Row w (wr.setCell ⟨w.heap.size, o, none⟩ v) n := by
  refine ⟨fun j hj => ?_, fun j => ?_, h.bel.setCell (Nat.le_refl _) v, by simpa [World.setCell] using h.big⟩
  · obtain ⟨u, hu⟩ := h.there j hj
    exact cell?_setCell_some hu
  · rw [World.frozen?_setCell]; exact h.free j
theorem row_alloc {w wr : World} {n : Nat} (h : Row w wr n) (o : Obj) : Row w (wr.alloc o) n := by
  have hb := h.big
  refine ⟨fun j hj => ?_, fun j => ?_, h.bel.alloc (by omega) o, by simp; omega⟩
  · obtain ⟨u, hu⟩ := h.there j hj
    exact ⟨u, by rw [World.cell?_alloc_past _ _ _ hb]; exact hu⟩
  · rw [World.frozen?_alloc_past _ _ _ hb]; exact h.free j

theorem row_made {w w1 : World} {n : Nat} {zc : Array Value} (hown : w1.ownsRow w.heap.size 34 6 (.slice (some ⟨w.heap.size, 0, none⟩) n n) n (madeCells zc (n * 6)).toList) (hgr : w.grownBy w1 none) : Row w w1 n := by
  have hl : (madeCells zc (n * 6)).toList.length = n * 6 := hown.1
  refine ⟨fun j hj => ?_, fun j => hown.frozenAt j, (Below.refl _ _).grown hgr (Nat.le_refl _) (by simp), (hown.lt _ rfl).2⟩
  rw [hown.cellAt j hj]
  exact ⟨_, List.getElem?_eq_getElem (by omega)⟩

set_option maxRecDepth 10000 in
set_option maxHeartbeats 1000000 in
theorem core (a0 a1 a2 a3 a4 : Int) (w : World) (h0 : 0 ≤ a0) (h0' : a0 < 18446744073709551616) (h1 : 0 ≤ a1) (h1' : a1 ≤ 255) (h2 : 0 ≤ a2) (h2' : a2 ≤ 255) (h3 : 0 ≤ a3) (h3' : a3 ≤ 65535) (h4 : 0 ≤ a4) (h4' : a4 ≤ 65535) :
    Calls Yba.prog 4 #[.int .u64 a0, .int .u8 a1, .int .u8 a2, .int .u16 a3, .int .u16 a4] w fun e w' => e = .returned (.bool true) ∧ Below w.heap.size w w' := by
  obtain ⟨i0, hi, hz0, hz1, hz2⟩ := info_parts info34
  obtain ⟨n, hn⟩ : ∃ n : Nat, a1 % 8 = (n : Int) := ⟨(a1 % 8).toNat, by omega⟩
  have hn8 : n ≤ 7 := by omega
  go_enter Yba.func4, Yba.ntmps4
  go_wp2_with (at_make; refine wpList_make_full _ rfl _ _ 25 rfl w.heap.size 34 i0 _ 6 Yba.underlying25 hi hz0 hz1 _ _ _ _ n rfl rfl rfl rfl ?b2 ?b3 ?b4 ?_)
  case b2 => rw [hz2]; omega
  case b3 => unfold maxLen; omega
  case b4 => omega
  intro w1 hown hgr
  have R : Row w w1 n := by
    exact row_made hown hgr
  clear hown hgr
  go_wp2_with fail
  go_loopg [15] n (fun k i wr => ∃ j : Nat, k + j = n ∧ i = .int .i64 j ∧ Row w wr n)
  case atStart => exact ⟨0, by omega, rfl, R⟩
  case round =>
    obtain ⟨j, hk, rfl, R'⟩ := hrel
    by_cases hj : j < n
    · obtain ⟨v0, c0⟩ := R'.there (j * 6) (by omega)
      obtain ⟨v1, c1⟩ := R'.there (j * 6 + 1) (by omega)
      have f0 := R'.free (j * 6)
      have f1 := R'.free (j * 6 + 1)
      have hbg := R'.big
      clear hn
      go_wp2_with fail
      go_roundg (n - (j + 1))
      case measure => omega
      case rel => exact ⟨j + 1, by omega, by go_num, row_alloc (row_set (row_set R' _ _) _ _) _⟩
    · obtain ⟨o, ho⟩ : ∃ o : Int, a3 % 1000 = o := ⟨_, rfl⟩
      obtain ⟨wd, hw⟩ : ∃ wd : Int, a4 % 5000 = wd := ⟨_, rfl⟩
      have o0 : 0 ≤ o := by omega
      have o1 : o ≤ 999 := by omega
      have wd0 : 0 ≤ wd := by omega
      have wd1 : wd ≤ 4999 := by omega
      have hbg := R'.big
      have hb := R'.bel
      rw [ho, hw]
      clear hn ho hw R' R h1 h1' h3 h3' h4 h4'
      obtain ⟨cyc, hcyc⟩ : ∃ cyc : Int, (n : Int) + 1 + a2 = cyc := ⟨_, rfl⟩
      obtain ⟨x, hx⟩ : ∃ x : Int, bits .or .u64 12884901888 cyc = x := ⟨_, rfl⟩
      have hxw := bounds_u64 (show (Lit.int .u64 x).wf = true by rw [← hx]; exact wf_bits _ _ _ _)
      obtain ⟨pc, hpc⟩ : ∃ pc : Array Value, pc = #[.int .u64 a0, .int .i64 (1 + o), .int .i64 wd, .bool false, .pointer none, .slice none 0 0, .pointer none, .slice (some ⟨w.heap.size, 0, none⟩) n n] := ⟨_, rfl⟩
      have B := beyond_any wr.heap.size (some ⟨w.heap.size, 0, none⟩) n n a0 cyc x (1 + o) wd (wr.alloc (.cells pc 45)) h0 h0' (by omega) (by omega) hxw.1 (by omega) hx (by omega) (by omega) wd0 wd1 (by omega)
        (by rw [World.cell?_alloc_at _ _ _ _ rfl, hpc]; rfl) (by rw [World.cell?_alloc_at _ _ _ _ rfl, hpc]; rfl) (by rw [World.cell?_alloc_at _ _ _ _ rfl, hpc]; rfl) (by rw [World.cell?_alloc_at _ _ _ _ rfl, hpc]; rfl)
      rw [hpc] at B
      have hb2 : Below w.heap.size w (wr.alloc (.cells pc 45)) := hb.alloc (by omega) _
      rw [hpc] at hb2
      have c0 : 0 ≤ cyc := by omega
      have c1 : cyc ≤ 1000000 := by omega
      have HX : Hid (bits .or .u64 12884901888 cyc = x) := hx
      clear hx hpc hb
      go_wp2_with fail
      refine B.mono ?_
      rintro e w3 ⟨op, d, rfl, q0, q1, q2, q3, HK, hb3⟩
      have hb4 : Below w.heap.size w w3 := hb2.trans (hb3.mono (by simp; omega))
      have hm : (d * 1000000) % 1000000 = 0 := by omega
      clear B hb2 hb3
      go_wp2_with fail
      refine (kill_any a0 cyc x (1 + o) wd _ h0 h0' c0 c1 hxw.1 (by omega) HX.out (by omega) (by omega) wd0 wd1).mono ?_
      rintro e w5 ⟨op', d', rfl, r0, r1, r2, r3, HK', hb5⟩
      obtain ⟨rfl, rfl⟩ := HK.out.one HK'.out
      have hb6 : Below w.heap.size w w5 := hb4.trans (hb5.mono hb4.size)
      clear HK HK' hb5 hb4
      go_wp2
      go_ret
      exact ⟨rfl, hb6⟩
end Go.Proofs.Ybulkakbk.BeyondCore
