/-
  THE WALK OF workload.KillPoint: what it draws hangs on the seed and the cycle alone; it lies in its bounds.
-/
import Derived.Test.YbulkakbkDraw
namespace Go.Proofs.Ybulkakbk
open Go.RowKit
set_option linter.unusedVariables false

/-- What KillPoint draws. -/
def KP (seed x ops win op d : Int) : Prop := ∃ T T' : Int, Draw ops (seed * 18446744073709551616 + x) (op - 1) T ∧ Draw (win + 1) T d T'
theorem KP.one {seed x ops win op d op' d' : Int} (h : KP seed x ops win op d) (h' : KP seed x ops win op' d') : op = op' ∧ d = d' := by
  obtain ⟨T, T', a, b⟩ := h
  obtain ⟨U, U', a', b'⟩ := h'
  obtain ⟨h1, rfl⟩ := a.one a'
  obtain ⟨h2, _⟩ := b.one b'
  exact ⟨by omega, h2⟩

def W2 (w : World) (seed x : Int) : World := (w.alloc (.cells #[.int .u64 seed, .int .u64 x] 66)).alloc (.cells #[.iface 58 (.pointer (some ⟨w.heap.size, 0, none⟩))] 64)

theorem w2_pcg (w : World) (seed x : Int) (h0 : 0 ≤ seed) (h1 : seed < 18446744073709551616) (x0 : 0 ≤ x) (x1 : x < 18446744073709551616) : PcgS (W2 w seed x) w.heap.size (seed * 18446744073709551616 + x) := by
  have e1 : (seed * 18446744073709551616 + x) / 18446744073709551616 = seed := by omega
  have e2 : (seed * 18446744073709551616 + x) % 18446744073709551616 = x := by omega
  have hs : w.heap.size < (w.alloc (.cells #[.int .u64 seed, .int .u64 x] 66)).heap.size := by simp
  refine ⟨by omega, by unfold mod128; omega, ?_⟩
  rw [e1, e2]
  unfold W2
  refine ⟨?_, ?_, ?_, ?_⟩
  · rw [World.cell?_alloc_past _ _ _ hs, World.cell?_alloc_at _ _ _ _ rfl]; rfl
  · rw [World.cell?_alloc_past _ _ _ hs, World.cell?_alloc_at _ _ _ _ rfl]; rfl
  · rw [World.frozen?_alloc_past _ _ _ hs, World.frozen?_alloc_at _ _ _ _ rfl]
  · rw [World.frozen?_alloc_past _ _ _ hs, World.frozen?_alloc_at _ _ _ _ rfl]

theorem w2_rand (w : World) (seed x : Int) : (W2 w seed x).cell? ⟨w.heap.size + 1, 0, none⟩ = some (.iface 58 (.pointer (some ⟨w.heap.size, 0, none⟩))) := by
  unfold W2
  rw [World.cell?_alloc_at _ _ _ _ (by simp)]; rfl

theorem w2_below (w : World) (seed x : Int) : Below w.heap.size w (W2 w seed x) := ((Below.refl _ _).alloc (Nat.le_refl _) _).alloc (by simp) _

set_option maxHeartbeats 1000000 in
theorem newRand_any (seed cyc x : Int) (w : World) (c0 : 0 ≤ cyc) (c1 : cyc ≤ 1000000) (hx : bits .or .u64 12884901888 cyc = x) :
    Calls Yba.prog 10 #[.int .u64 seed, .int .u64 3, .int .u64 cyc] w fun e w' => e = .returned (.pointer (some ⟨w.heap.size + 1, 0, none⟩)) ∧ w' = W2 w seed x := by
  go_enter Yba.func10, Yba.ntmps10
  go_wp2
  go_ret
  exact ⟨rfl, rfl⟩

set_option maxHeartbeats 1000000 in
theorem kill_any (seed cyc x ops win : Int) (w : World) (h0 : 0 ≤ seed) (h1 : seed < 18446744073709551616) (c0 : 0 ≤ cyc) (c1 : cyc ≤ 1000000) (x0 : 0 ≤ x) (x1 : x < 18446744073709551616) (hx : bits .or .u64 12884901888 cyc = x)
    (o0 : 1 ≤ ops) (o1 : ops ≤ 1000) (w0 : 0 ≤ win) (w1 : win ≤ 4999) :
    Calls Yba.prog 8 #[.int .u64 seed, .int .i64 cyc, .int .i64 ops, .int .i64 win] w fun e w' => ∃ op d : Int, e = .returned (.tuple #[.int .i64 op, .int .i64 (d * 1000000)]) ∧ 1 ≤ op ∧ op ≤ ops ∧ 0 ≤ d ∧ d ≤ win ∧ Hid (KP seed x ops win op d) ∧ Below w.heap.size w w' := by
  have hp := w2_pcg w seed x h0 h1 x0 x1
  have hr := w2_rand w seed x
  have hb := w2_below w seed x
  have N := newRand_any seed cyc x w c0 c1 hx
  generalize W2 w seed x = W at *
  have A := intN_any (w.heap.size + 1) w.heap.size ops _ W o0 (by omega) hr (by omega) hp
  clear hx
  go_enter Yba.func8, Yba.ntmps8
  go_wp2_with fail
  refine N.mono ?_
  rintro e w' ⟨rfl, rfl⟩
  go_wp2_with fail
  refine A.mono ?_
  rintro e W1 ⟨v, T, rfl, v0, v1, HD, hgr, hp1⟩
  have hr1 : W1.cell? ⟨w.heap.size + 1, 0, none⟩ = some (.iface 58 (.pointer (some ⟨w.heap.size, 0, none⟩))) := hgr.cell hr (by simp)
  have B := intN_any (w.heap.size + 1) w.heap.size (win + 1) T W1 (by omega) (by omega) hr1 (by omega) hp1
  have hb1 : Below w.heap.size w W1 := hb.grown hgr hb.size (by intro k hk; simp at hk; omega)
  clear A N hr hp hgr hb hr1 hp1
  go_wp2_with fail
  refine B.mono ?_
  rintro e W3 ⟨d, T', rfl, d0, d1, HE, hgr2, hp2⟩
  have hb2 : Below w.heap.size w W3 := hb1.grown hgr2 hb1.size (by intro k hk; simp at hk; omega)
  clear B hgr2 hp2 hb1
  go_wp2
  go_ret2
  refine ⟨1 + v, d, rfl, by omega, by omega, d0, by omega, ⟨T, T', ?_, HE.out⟩, hb2⟩
  rw [show 1 + v - 1 = v by omega]; exact HD.out
end Go.Proofs.Ybulkakbk
