/-
  THE WALKS OF (bigEndian).Uint16, checkOptions AND zzs1792cwell.
-/
import Derived.Test.YbulkakbyDoorRows
import Derived.Test.YbulkakbyDoorPlain
import Derived.WalkKit
import Derived.ProofKit
import Derived.OpenShut
import Derived.Below
import Derived.Lib.EndianBits
import Derived.WalkSpells
import Derived.Deep.LoopGhost
import Derived.Deep.QuietTactic
import Derived.BigQuiet
import Derived.Deep.RegionHeld3
import Derived.Deep.DrawnRows
namespace Go.Proofs.YbulkakbyDoor
open Go.RowKit
set_option linter.unusedVariables false
attribute [local go_sem ↓] Go.wp_at_zero Go.wp_at_succ

theorem below_drewN {B : Nat} {a w : World} (h : Below B a w) (n : Nat) : Below B a (w.drewN n) := ⟨h.os, h.tape, h.output, h.size, h.block⟩
theorem ret_u16 {a b : Int} (h : a = b) : Ending.returned (.int .u16 a) = .returned (.int .u16 b) := by rw [h]

set_option maxHeartbeats 1000000 in
theorem u16_any (b o n cap : Nat) (x0 x1 : Int) (w : World) (hn : 2 ≤ n) (hn' : n ≤ 1000000) (h0 : 0 ≤ x0) (h0' : x0 ≤ 255) (h1 : 0 ≤ x1) (h1' : x1 ≤ 255)
    (c0 : w.cell? ⟨b, o, none⟩ = some (.int .u8 x0)) (c1 : w.cell? ⟨b, o + 1, none⟩ = some (.int .u8 x1)) :
    Calls Ybad.prog 7 #[.agg #[], .slice (some ⟨b, o, none⟩) n cap] w fun e w' => e = .returned (.int .u16 (x0 * 256 + x1)) ∧ Below w.heap.size w w' := by
  have hb : b < w.heap.size := World.block_lt_of_cell? w _ c0
  have hn1 : (1 : Int) < (n : Int) := by omega
  have hn0 : (0 : Int) < (n : Int) := by omega
  go_enter Ybad.func7, Ybad.ntmps7
  go_wp2
  go_quiet (fail)
  go_wp2
  go_ret
  refine ⟨ret_u16 ?_, below_drewN ((Below.refl _ _).alloc (Nat.le_refl _) _) _⟩
  rw [u16_or8 _ _ h1 (by omega) (by omega) (by omega) (by omega)]
  omega

/-- The bytes zs in block b from off on. -/
def Bytes (w : World) (b off : Nat) (zs : List Int) : Prop := ∀ i, i < zs.length → w.cell? ⟨b, off + i, none⟩ = some (.int .u8 (zs.getD i 0))

/-- Where the walk stands: place i of zs; at the end no address is known. -/
def At (v : Value) (b off : Nat) (zs : List Int) (cap i : Nat) : Prop :=
  ∃ a c, v = .slice a (zs.length - i) c ∧ (i < zs.length → a = some ⟨b, off + i, none⟩ ∧ c = cap - i)

set_option maxHeartbeats 1000000 in
theorem check_any (b off cap : Nat) (zs : List Int) (ae : Addr) (v : Value) (r : Value) (w : World) (hl : zs.length ≤ 300000) (hc : zs.length ≤ cap) (hcm : cap ≤ 9223372036854775807) (hz : ∀ j, 0 ≤ zs.getD j 0 ∧ zs.getD j 0 ≤ 255) (hb : Bytes w b off zs)
    (he : w.cell? ⟨0, 0, none⟩ = some (.iface 36 (.pointer (some ae)))) (hr : Hid (r = if W zs 0 = true then .nilIface else .iface 36 (.pointer (some ae)))) (hv : At v b off zs cap 0) :
    Calls Ybad.prog 5 #[v] w fun e w' => e = .returned r ∧ Below w.heap.size w w' := by
  go_enter Ybad.func5, Ybad.ntmps5
  go_wp2
  go_loopg [0] zs.length (fun k s wr => ∃ i : Nat, k + i = zs.length ∧ At s b off zs cap i ∧ Hid (W zs i = W zs 0) ∧ Below w.heap.size w wr)
  case atStart => exact ⟨0, by omega, hv, rfl, Below.refl _ _⟩
  case round =>
    obtain ⟨i, hk, ⟨a, c, rfl, ha⟩, HW, hbel⟩ := hrel
    have h0 : 0 < w.heap.size := World.block_lt_of_cell? w _ he
    have her : wr.cell? ⟨0, 0, none⟩ = some (.iface 36 (.pointer (some ae))) := by rw [hbel.cell (by exact h0)]; exact he
    by_cases hi : i < zs.length
    · obtain ⟨rfl, rfl⟩ := ha hi
      by_cases h4 : zs.length < i + 4
      · have e1 : W zs 0 = false := by rw [← HW.out]; exact W_short zs i hi h4
        have hr' : r = .iface 36 (.pointer (some ae)) := by rw [hr.out, e1]; rfl
        subst hr'
        clear HW e1 hr
        go_wp2
        go_ret
        exact ⟨rfl, hbel⟩
      · obtain ⟨x0, hx0⟩ : ∃ x0, zs.getD (i + 2) 0 = x0 := ⟨_, rfl⟩
        obtain ⟨x1, hx1⟩ : ∃ x1, zs.getD (i + 3) 0 = x1 := ⟨_, rfl⟩
        have b0 := hz (i + 2)
        have b1 := hz (i + 3)
        rw [hx0] at b0
        rw [hx1] at b1
        obtain ⟨b0, b0'⟩ := b0
        obtain ⟨b1, b1'⟩ := b1
        have q0 := hb (i + 2) (by omega)
        have q1 := hb (i + 3) (by omega)
        rw [hx0] at q0
        rw [hx1] at q1
        have hbw : b < w.heap.size := World.block_lt_of_cell? w _ q0
        have c2 : wr.cell? ⟨b, off + i + 2, none⟩ = some (.int .u8 x0) := by rw [hbel.cell (by exact hbw)]; exact q0
        have c3 : wr.cell? ⟨b, off + i + 2 + 1, none⟩ = some (.int .u8 x1) := by rw [hbel.cell (by exact hbw)]; exact q1
        have HX : Hid (zs.getD (i + 2) 0 = x0 ∧ zs.getD (i + 3) 0 = x1) := ⟨hx0, hx1⟩
        obtain ⟨l, hl4⟩ : ∃ l, zs.length - i = l := ⟨_, rfl⟩
        obtain ⟨c, hc4⟩ : ∃ c, cap - i = c := ⟨_, rfl⟩
        rw [hl4, hc4]
        have HL : Hid (zs.length - i = l ∧ cap - i = c) := ⟨hl4, hc4⟩
        have l4 : 4 ≤ l := by omega
        have lc : l ≤ c := by omega
        have li2 : (2 : Int) ≤ (l : Int) := by omega
        have li4 : (4 : Int) ≤ (l : Int) := by omega
        have lic : (l : Int) ≤ (c : Int) := by omega
        have li0 : (0 : Int) ≤ (l : Int) := by omega
        have hc2 : ¬ c = 2 := by omega
        have lm : l ≤ 300000 := by omega
        have cm : c ≤ 9223372036854775807 := by omega
        obtain ⟨L, hL⟩ : ∃ L : Nat, x0 * 256 + x1 = (L : Int) := ⟨(x0 * 256 + x1).toNat, by omega⟩
        have L0 : L ≤ 65535 := by omega
        have hw2 : IntKind.i64.wrap (L : Int) = L := by rw [IntKind.wrap_i64]; omega
        have hw3 : IntKind.i64.wrap (4 + (L : Int)) = 4 + L := by rw [IntKind.wrap_i64]; omega
        have hWo : zs.length < i + 4 + L → W zs i = false := fun h => W_over zs i L (by omega) (by rw [hx0, hx1]; exact hL) h
        have hWn : i + 4 + L ≤ zs.length → W zs i = W zs (i + 4 + L) := fun h => W_next zs i L (by omega) (by rw [hx0, hx1]; exact hL) h
        have HH : Hid ((zs.length < i + 4 + L → W zs i = false) ∧ (i + 4 + L ≤ zs.length → W zs i = W zs (i + 4 + L))) := ⟨hWo, hWn⟩
        clear q0 q1 hx0 hx1 hl4 hc4 hz hb h4 hWo hWn
        by_cases hov : l < 4 + L
        · have e1 : W zs 0 = false := by rw [← HW.out]; exact HH.out.1 (by have := HL.out; omega)
          have hr' : r = .iface 36 (.pointer (some ae)) := by rw [hr.out, e1]; rfl
          subst hr'
          have hov' : (l : Int) < 4 + (L : Int) := by omega
          clear HW HH hr e1 hov
          go_wp2
          go_region_held3 (fun w' => True) (trivial)
            (first | (go_at_call 7; refine (u16_any b (off + i + 2) (l - 2) (c - 2) x0 x1 _ (by omega) (by omega) b0 b0' b1 b1' ?_ ?_).mono ?_; (simp [*]); (simp [*]); rintro e w' ⟨rfl, hb7⟩))
          have hbw' : Below w.heap.size w w' := hbel.drew.trans (hb7.mono hbel.size)
          have her2 : w'.cell? ⟨0, 0, none⟩ = some (.iface 36 (.pointer (some ae))) := by rw [hbw'.cell (by exact h0)]; exact he
          clear hb7 c2 c3 hbel her
          go_wp2
          go_ret
          exact ⟨rfl, hbw'⟩
        · by_cases hce : c = 4 + L
          · have hce1 : c ≤ 4 + L := by omega
            have hce2 : 4 + L ≤ c := by omega
            clear hce
            go_wp2
            go_region_held3 (fun w' => True) (trivial)
              (first | (go_at_call 7; refine (u16_any b (off + i + 2) (l - 2) (c - 2) x0 x1 _ (by omega) (by omega) b0 b0' b1 b1' ?_ ?_).mono ?_; (simp [*]); (simp [*]); rintro e w' ⟨rfl, hb7⟩))
            have hbw' : Below w.heap.size w w' := hbel.drew.trans (hb7.mono hbel.size)
            clear hb7 c2 c3 hbel her
            go_wp2
            go_roundg (zs.length - (i + 4 + L))
            case measure => omega
            case rel =>
              have hll := HL.out
              refine ⟨i + 4 + L, by omega, ⟨some ⟨b, off + i, none⟩, c - (4 + L), ?_, fun h => by omega⟩, ?_, hbw'⟩
              · rw [show l - (4 + L) = zs.length - (i + 4 + L) by omega]
              · show _ = _
                rw [← HW.out]; exact (HH.out.2 (by omega)).symm
          · go_wp2
            go_region_held3 (fun w' => True) (trivial)
              (first | (go_at_call 7; refine (u16_any b (off + i + 2) (l - 2) (c - 2) x0 x1 _ (by omega) (by omega) b0 b0' b1 b1' ?_ ?_).mono ?_; (simp [*]); (simp [*]); rintro e w' ⟨rfl, hb7⟩))
            have hbw' : Below w.heap.size w w' := hbel.drew.trans (hb7.mono hbel.size)
            clear hb7 c2 c3 hbel her
            go_wp2
            go_roundg (zs.length - (i + 4 + L))
            case measure => omega
            case rel =>
              have hll := HL.out
              refine ⟨i + 4 + L, by omega, ⟨some ⟨b, off + (i + 4 + L), none⟩, cap - (i + 4 + L), ?_, fun _ => ⟨rfl, rfl⟩⟩, ?_, hbw'⟩
              · rw [show off + i + (4 + L) = off + (i + 4 + L) by omega, show l - (4 + L) = zs.length - (i + 4 + L) by omega, show c - (4 + L) = cap - (i + 4 + L) by omega]
              · show _ = _
                rw [← HW.out]; exact (HH.out.2 (by omega)).symm
    · have e1 : W zs 0 = true := by rw [← HW.out]; exact W_end zs i (by omega)
      have hr' : r = .nilIface := by rw [hr.out, e1]; rfl
      subst hr'
      have hz0 : zs.length - i = 0 := by omega
      rw [hz0]
      clear HW e1 hr
      go_wp2
      go_ret
      exact ⟨rfl, hbel⟩

set_option maxHeartbeats 1000000 in
theorem well_any (b off cap : Nat) (zs : List Int) (a : Option Addr) (len : Nat) (w : World) (hlen : zs.length = len) (hl : len ≤ 300000) (ha : 0 < len → a = some ⟨b, off, none⟩) (hz : ∀ j, 0 ≤ zs.getD j 0 ∧ zs.getD j 0 ≤ 255) (hb : Bytes w b off zs) (r : Bool) (hr : Hid (r = W zs 0)) :
    Calls Ybad.prog 6 #[.slice a len cap] w fun e w' => e = .returned (.bool r) ∧ ∃ m, w' = w.drewN m := by
  go_enter Ybad.func6, Ybad.ntmps6
  go_wp2
  go_loopg [4] len (fun k s wr => ∃ (i m : Nat), k + i = len ∧ s = .int .i64 i ∧ Hid (W zs i = W zs 0) ∧ wr = w.drewN m)
  case atStart => exact ⟨0, 0, by omega, rfl, rfl, rfl⟩
  case round =>
    obtain ⟨i, m, hk, rfl, HW, rfl⟩ := hrel
    by_cases hi : i < len
    · obtain rfl := ha (by omega)
      clear ha
      by_cases h4 : len < i + 4
      · have e1 : W zs 0 = false := by rw [← HW.out]; exact W_short zs i (by omega) (by omega)
        obtain rfl : r = false := hr.out.trans e1
        clear HW e1 hz hb hr
        go_wp2
        go_ret
        exact ⟨rfl, _, rfl⟩
      · obtain ⟨x0, hx0⟩ : ∃ x0, zs.getD (i + 2) 0 = x0 := ⟨_, rfl⟩
        obtain ⟨x1, hx1⟩ : ∃ x1, zs.getD (i + 3) 0 = x1 := ⟨_, rfl⟩
        have b0 := hz (i + 2)
        have b1 := hz (i + 3)
        rw [hx0] at b0
        rw [hx1] at b1
        obtain ⟨b0, b0'⟩ := b0
        obtain ⟨b1, b1'⟩ := b1
        have c2 := hb (i + 2) (by omega)
        have c3 := hb (i + 3) (by omega)
        rw [hx0] at c2
        rw [hx1] at c3
        obtain ⟨L, hL⟩ : ∃ L : Nat, x0 * 256 + x1 = (L : Int) := ⟨(x0 * 256 + x1).toNat, by omega⟩
        have L0 : L ≤ 65535 := by omega
        have hWo : len < i + 4 + L → W zs i = false := fun h => W_over zs i L (by omega) (by rw [hx0, hx1]; exact hL) (by omega)
        have hWn : i + 4 + L ≤ len → W zs i = W zs (i + 4 + L) := fun h => W_next zs i L (by omega) (by rw [hx0, hx1]; exact hL) (by omega)
        have HH : Hid ((len < i + 4 + L → W zs i = false) ∧ (i + 4 + L ≤ len → W zs i = W zs (i + 4 + L))) := ⟨hWo, hWn⟩
        have hi4 : (i : Int) + 4 ≤ (len : Int) := by omega
        have hi0 : (0 : Int) ≤ (i : Int) := by omega
        clear hx0 hx1 hz hb h4 hWo hWn
        by_cases hov : len < i + 4 + L
        · have e1 : W zs 0 = false := by rw [← HW.out]; exact HH.out.1 hov
          obtain rfl : r = false := hr.out.trans e1
          clear HW HH e1 hr
          have hov' : (len : Int) < (i : Int) + 4 + (L : Int) := by omega
          go_wp2
          go_quiet (fail)
          go_wp2
          go_ret
          exact ⟨rfl, _, rfl⟩
        · have hov' : (i : Int) + 4 + (L : Int) ≤ (len : Int) := by omega
          go_wp2
          go_quiet (fail)
          go_wp2
          go_roundg (len - (i + 4 + L))
          case measure => omega
          case rel =>
            refine ⟨i + 4 + L, _, by omega, by go_num, ?_, rfl⟩
            show _ = _
            rw [← HW.out]; exact (HH.out.2 (by omega)).symm
    · have e1 : W zs 0 = true := by rw [← HW.out]; exact W_end zs i (by omega)
      obtain rfl : r = true := hr.out.trans e1
      clear HW e1 hz hb hr
      go_wp2
      go_ret
      exact ⟨rfl, _, rfl⟩
end Go.Proofs.YbulkakbyDoor
