/-
  THE WALKS OF math/bits.Mul64, math/bits.Add64, (*PCG).next, (*PCG).Uint64, (*Rand).Uint64.
-/
import Derived.Test.YbulkakbkRows
import Derived.Test.YbulkakbkPcg
import Derived.WalkKit
import Derived.ProofKit
import Derived.OpenShut
import Derived.Lib.Mul64
import Derived.Shelf.Bits.Mul64
import Derived.Laws.Bits64b
import Derived.Laws.Externs
import Derived.Deep.QuietTactic
import Derived.BigQuiet
namespace Go.Proofs.Ybulkakbk
open Go.RowKit
set_option linter.unusedVariables false

set_option maxHeartbeats 1000000 in
theorem mul64_nat (x y : Nat) (hx : x < 18446744073709551616) (hy : y < 18446744073709551616) (w : World) :
    Calls Yba.prog 17 #[.int .u64 x, .int .u64 y] w fun e w' => e = .returned (.tuple #[.int .u64 ((x * y / 18446744073709551616 : Nat) : Int), .int .u64 ((x * y % 18446744073709551616 : Nat) : Int)]) ∧ w' = w := by
  obtain ⟨bd, bt, bw, hhi⟩ := Lib.mul64_hi x y hx hy
  have ba := Lib.half_mul_le (a := x / 4294967296) (b := y / 4294967296) (by omega) (by omega)
  have bb := Lib.half_mul_le (a := x / 4294967296) (b := y % 4294967296) (by omega) (by omega)
  have bc := Lib.half_mul_le (a := x % 4294967296) (b := y / 4294967296) (by omega) (by omega)
  have ba' : x / 4294967296 * (y / 4294967296) < 18446744073709551616 := by omega
  have bb' : x / 4294967296 * (y % 4294967296) < 18446744073709551616 := by omega
  have bc' : x % 4294967296 * (y / 4294967296) < 18446744073709551616 := by omega
  have bh1 : x / 4294967296 * (y / 4294967296) + (x / 4294967296 * (y % 4294967296) + x % 4294967296 * (y % 4294967296) / 4294967296) / 4294967296 < 18446744073709551616 := by omega
  have bh : x / 4294967296 * (y / 4294967296) + (x / 4294967296 * (y % 4294967296) + x % 4294967296 * (y % 4294967296) / 4294967296) / 4294967296 + ((x / 4294967296 * (y % 4294967296) + x % 4294967296 * (y % 4294967296) / 4294967296) % 4294967296 + x % 4294967296 * (y / 4294967296)) / 4294967296 < 18446744073709551616 := by omega
  go_enter Yba.func17, Yba.ntmps17
  go_wp2
  simp only [Go.Proofs.Mul64.maskN x hx, Go.Proofs.Mul64.maskN y hy, Go.Proofs.Mul64.divN, Go.Proofs.Mul64.mulN, Go.Proofs.Mul64.addN, Go.Proofs.Mul64.wrapN _ bd, Go.Proofs.Mul64.wrapN _ bb', Go.Proofs.Mul64.wrapN _ bt, Go.Proofs.Mul64.maskN _ bt, Go.Proofs.Mul64.wrapN _ bc', Go.Proofs.Mul64.wrapN _ bw, Go.Proofs.Mul64.wrapN _ ba', Go.Proofs.Mul64.wrapN _ bh1, Go.Proofs.Mul64.wrapN _ bh, Go.Proofs.Mul64.wrapM (x * y)]
  rw [hhi]
  go_ret2
  exact ⟨rfl, rfl⟩

theorem mul64 (x y : Int) (hx0 : 0 ≤ x) (hx : x < 18446744073709551616) (hy0 : 0 ≤ y) (hy : y < 18446744073709551616) (w : World) :
    Calls Yba.prog 17 #[.int .u64 x, .int .u64 y] w fun e w' => e = .returned (.tuple #[.int .u64 (x * y / 18446744073709551616), .int .u64 (x * y % 18446744073709551616)]) ∧ w' = w := by
  obtain ⟨x, rfl⟩ := Int.eq_ofNat_of_zero_le hx0
  obtain ⟨y, rfl⟩ := Int.eq_ofNat_of_zero_le hy0
  have h := mul64_nat x y (by omega) (by omega) w
  rw [Int.natCast_ediv, Int.natCast_emod, Int.natCast_mul] at h
  exact h

theorem add64 (x y c : Int) (hx : 0 ≤ x) (hy : 0 ≤ y) (hc0 : 0 ≤ c) (hc : c ≤ 1) (w : World) : (callFunc 44 #[.int .u64 x, .int .u64 y, .int .u64 c]).run Yba.prog w =
    .ok (.value (.tuple #[.int .u64 ((x + y + c) % 18446744073709551616), .int .u64 ((x + y + c) / 18446744073709551616)])) w := by
  rw [run_callFunc_extern Yba.func44 (by kernel_rfl) (by kernel_rfl) (by kernel_rfl) (e := add64Entry) (by kernel_rfl), run_add64 x y c hx hy hc0 hc]
  rfl

theorem add64_0 (x y : Int) (hx : 0 ≤ x) (hy : 0 ≤ y) (w : World) : (callFunc 44 #[.int .u64 x, .int .u64 y, .int .u64 0]).run Yba.prog w =
    .ok (.value (.tuple #[.int .u64 ((x + y) % 18446744073709551616), .int .u64 ((x + y) / 18446744073709551616)])) w := by
  simpa using add64 x y 0 hx hy (Int.le_refl 0) (by decide) w

theorem grown_drewN {w w' : World} {r : Option Nat} (h : w.grownBy w' r) (n : Nat) : w.grownBy (w'.drewN n) r := ⟨h.os, h.tape, h.output, h.size, h.block⟩
theorem grown_setCell {w w' : World} {g o : Nat} (h : w.grownBy w' (some g)) (v : Value) : w.grownBy (w'.setCell ⟨g, o, none⟩ v) (some g) :=
  ⟨h.os, h.tape, h.output, by simpa [World.setCell] using h.size, fun k hk hne => by
    rw [Below.heap_setCell _ _ _ _ (fun e => hne (by simpa using e))]; exact h.block k hk hne⟩

/-- The generator in block g. -/
structure PcgAt (w : World) (g : Nat) (hi lo : Int) : Prop where
  c0 : w.cell? ⟨g, 0, none⟩ = some (.int .u64 hi)
  c1 : w.cell? ⟨g, 1, none⟩ = some (.int .u64 lo)
  f0 : w.frozen? ⟨g, 0, none⟩ = false
  f1 : w.frozen? ⟨g, 1, none⟩ = false

theorem next_arith (hi lo mh ml h2 : Int) (h0 : 0 ≤ hi) (h1 : hi < 18446744073709551616) (l0 : 0 ≤ lo) (l1 : lo < 18446744073709551616)
    (em : mh = lo * 4865540595714422341 / 18446744073709551616) (el : ml = lo * 4865540595714422341 % 18446744073709551616)
    (e2 : IntKind.u64.wrap (mh + IntKind.u64.wrap (IntKind.u64.wrap (hi * 4865540595714422341) + IntKind.u64.wrap (lo * 2549297995355413924))) = h2) :
    ((h2 + 6364136223846793005 + (ml + 1442695040888963407) / 18446744073709551616) % 18446744073709551616) * 18446744073709551616 + (ml + 1442695040888963407) % 18446744073709551616 = nxt (hi * 18446744073709551616 + lo) := by
  simp only [IntKind.wrap_u64] at e2
  unfold nxt mod128 mulC incC
  omega

theorem pcg_set {w : World} {g : Nat} {hi lo : Int} (h : PcgAt w g hi lo) (hi' lo' : Int) : PcgAt ((w.setCell ⟨g, 1, none⟩ (.int .u64 lo')).setCell ⟨g, 0, none⟩ (.int .u64 hi')) g hi' lo' := by
  have a1 : (w.setCell ⟨g, 1, none⟩ (.int .u64 lo')).cell? ⟨g, 0, none⟩ = some (.int .u64 hi) := by rw [World.cell?_setCell_other _ _ _ _ (by simp)]; exact h.c0
  have a2 : (w.setCell ⟨g, 1, none⟩ (.int .u64 lo')).cell? ⟨g, 1, none⟩ = some (.int .u64 lo') := World.cell?_setCell_same _ _ _ h.c1
  refine ⟨World.cell?_setCell_same _ _ _ a1, ?_, ?_, ?_⟩
  · rw [World.cell?_setCell_other _ _ _ _ (by simp)]; exact a2
  · simp [h.f0]
  · simp [h.f1]
theorem pcg_drewN {w : World} {g : Nat} {hi lo : Int} (h : PcgAt w g hi lo) (n : Nat) : PcgAt (w.drewN n) g hi lo := ⟨h.c0, h.c1, h.f0, h.f1⟩

set_option maxHeartbeats 1000000 in
theorem next_any (g : Nat) (hi lo : Int) (w : World) (h0 : 0 ≤ hi) (h1 : hi < 18446744073709551616) (l0 : 0 ≤ lo) (l1 : lo < 18446744073709551616) (hp : PcgAt w g hi lo) :
    Calls Yba.prog 43 #[.pointer (some ⟨g, 0, none⟩)] w fun e w' => ∃ hi' lo' : Int, e = .returned (.tuple #[.int .u64 hi', .int .u64 lo']) ∧ 0 ≤ hi' ∧ hi' < 18446744073709551616 ∧ 0 ≤ lo' ∧ lo' < 18446744073709551616 ∧
      Hid (hi' * 18446744073709551616 + lo' = nxt (hi * 18446744073709551616 + lo)) ∧ w.grownBy w' (some g) ∧ PcgAt w' g hi' lo' := by
  have M := mul64 lo 4865540595714422341 l0 l1 (by decide) (by decide) w
  obtain ⟨mh, hm⟩ : ∃ mh, mh = lo * 4865540595714422341 / 18446744073709551616 := ⟨_, rfl⟩
  obtain ⟨ml, hl⟩ : ∃ ml, ml = lo * 4865540595714422341 % 18446744073709551616 := ⟨_, rfl⟩
  rw [← hm, ← hl] at M
  have m0 : 0 ≤ mh := by omega
  have m1 : mh < 18446744073709551616 := by omega
  have n0 : 0 ≤ ml := by omega
  have n1 : ml < 18446744073709551616 := by omega
  have HM : Hid (mh = lo * 4865540595714422341 / 18446744073709551616) := hm
  have HL : Hid (ml = lo * 4865540595714422341 % 18446744073709551616) := hl
  clear hm hl
  have c0 := hp.c0
  have c1 := hp.c1
  have f0 := hp.f0
  have f1 := hp.f1
  go_enter Yba.func43, Yba.ntmps43
  go_wp2_with (go_at_call 17; refine M.mono ?_; rintro e w' ⟨rfl, rfl⟩)
  go_quiet (fail)
  generalize hh : IntKind.u64.wrap (mh + IntKind.u64.wrap (IntKind.u64.wrap (hi * 4865540595714422341) + IntKind.u64.wrap (lo * 2549297995355413924))) = h2
  have g0 : 0 ≤ h2 := by rw [← hh, IntKind.wrap_u64]; omega
  have g1 : h2 < 18446744073709551616 := by rw [← hh, IntKind.wrap_u64]; omega
  have HH : Hid (IntKind.u64.wrap (mh + IntKind.u64.wrap (IntKind.u64.wrap (hi * 4865540595714422341) + IntKind.u64.wrap (lo * 2549297995355413924))) = h2) := hh
  clear hh M
  have k0 : 0 ≤ (ml + 1442695040888963407) / 18446744073709551616 := by omega
  have k1 : (ml + 1442695040888963407) / 18446744073709551616 ≤ 1 := by omega
  go_wp2_with (first | simp only [add64_0 ml 1442695040888963407 n0 (by decide)] | simp only [add64 h2 6364136223846793005 _ g0 (by decide) k0 k1])
  go_ret2
  refine ⟨_, _, rfl, ?_, ?_, ?_, ?_, next_arith hi lo mh ml h2 h0 h1 l0 l1 HM.out HL.out HH.out, ?_, ?_⟩
  · omega
  · omega
  · omega
  · omega
  · exact grown_setCell (grown_setCell (grown_drewN (World.grownBy.refl _ _) _) _) _
  · exact pcg_set (pcg_drewN hp _) _ _

/-- The number that a state gives. -/
def outI (hi lo : Int) : Int :=
  IntKind.u64.wrap (bits .xor .u64 (IntKind.u64.wrap (bits .xor .u64 hi (hi / 4294967296) * 15750249268501108917)) (IntKind.u64.wrap (bits .xor .u64 hi (hi / 4294967296) * 15750249268501108917) / 281474976710656) * bits .or .u64 lo 1)
def outS (S : Int) : Int := outI (S / 18446744073709551616) (S % 18446744073709551616)
theorem outS_range (S : Int) : 0 ≤ outS S ∧ outS S < 18446744073709551616 := by
  unfold outS outI; rw [IntKind.wrap_u64]; omega

/-- A state that gives 1. -/
def oneS : Int := 185445742429152484065345008305017192448
theorem outS_one : outS oneS = 1 := by decide +kernel

/-- The generator in block g, in state S. -/
structure PcgS (w : World) (g : Nat) (S : Int) : Prop where
  lo : 0 ≤ S
  hi : S < mod128
  at_ : PcgAt w g (S / 18446744073709551616) (S % 18446744073709551616)

theorem ret_u64 {a b : Int} (h : a = b) : Ending.returned (.int .u64 a) = .returned (.int .u64 b) := by rw [h]

set_option maxHeartbeats 1000000 in
theorem pcg_any (g : Nat) (S : Int) (w : World) (hp : PcgS w g S) :
    Calls Yba.prog 42 #[.pointer (some ⟨g, 0, none⟩)] w fun e w' => e = .returned (.int .u64 (outS (nxt S))) ∧ w.grownBy w' (some g) ∧ PcgS w' g (nxt S) := by
  have hS := hp.lo
  have hT := hp.hi
  have hX := nxt_range S
  have NA := next_any g (S / 18446744073709551616) (S % 18446744073709551616) w (by unfold mod128 at hT; omega) (by unfold mod128 at hT; omega) (by omega) (by omega) hp.at_
  clear hS hT hp
  go_enter Yba.func42, Yba.ntmps42
  go_wp2_with (go_at_call 43; refine NA.mono ?_; rintro e w' ⟨hi', lo', rfl, a0, a1, b0, b1, HN, hgr, hp'⟩)
  go_ret
  have e := HN.out
  have es : S / 18446744073709551616 * 18446744073709551616 + S % 18446744073709551616 = S := by omega
  rw [es] at e
  have e1 : hi' = nxt S / 18446744073709551616 := by omega
  have e2 : lo' = nxt S % 18446744073709551616 := by omega
  refine ⟨ret_u64 ?_, hgr, hX.1, hX.2, ?_⟩
  · unfold outS outI; rw [← e1, ← e2]
  · rw [← e1, ← e2]; exact hp'

theorem method_pcg (a : Addr) (w : World) : (method 305 58 (.pointer (some a)) "Uint64").run Yba.prog w = .ok (42, .pointer (some a)) w := by kernel_rfl

set_option maxRecDepth 100000 in
set_option maxHeartbeats 1000000 in
theorem rand_any (r g : Nat) (S : Int) (w : World) (hr : w.cell? ⟨r, 0, none⟩ = some (.iface 58 (.pointer (some ⟨g, 0, none⟩)))) (hp : PcgS w g S) :
    Calls Yba.prog 16 #[.pointer (some ⟨r, 0, none⟩)] w fun e w' => e = .returned (.int .u64 (outS (nxt S))) ∧ w.grownBy w' (some g) ∧ PcgS w' g (nxt S) := by
  have hm := method_pcg
  go_enter Yba.func16, Yba.ntmps16
  go_wp2_with fail
  refine (pcg_any g S w hp).mono ?_
  rintro e w' ⟨rfl, hgr, hp'⟩
  clear hm
  go_wp2
  go_ret
  exact ⟨rfl, hgr, hp'⟩
end Go.Proofs.Ybulkakbk
