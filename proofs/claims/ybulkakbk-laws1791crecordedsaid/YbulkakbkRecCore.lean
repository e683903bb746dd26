/-
  THE WALK OF LawS1791CRecorded.
-/
import Derived.Test.YbulkakbkRecInv
import Derived.Deep.LoopGhost
import Derived.Deep.RegionHeld3
import Derived.Deep.DrawnRows
namespace Go.Proofs.Ybulkakbk.RecCore
open Go.RowKit
set_option linter.unusedVariables false
attribute [local go_sem ↓] Go.wp_at_zero Go.wp_at_succ

theorem cycle_alloc {w : World} {g i : Nat} {z : Int} {K X : Option Addr} (h : CycleAt w g i z K X) (o : Obj) : CycleAt (w.alloc o) g i z K X := by
  have hg : g < w.heap.size := World.block_lt_of_cell? w _ h.c0
  refine ⟨?_, ?_, ?_, ?_, ?_, ?_⟩
  · rw [World.cell?_alloc_past _ _ _ hg]; exact h.c0
  · rw [World.cell?_alloc_past _ _ _ hg]; exact h.c1
  · rw [World.cell?_alloc_past _ _ _ hg]; exact h.c2
  · rw [World.cell?_alloc_past _ _ _ hg]; exact h.c3
  · rw [World.cell?_alloc_past _ _ _ hg]; exact h.c4
  · rw [World.cell?_alloc_past _ _ _ hg]; exact h.c5
theorem cell_alloc {w : World} {g o : Nat} {v : Value} (h : w.cell? ⟨g, o, none⟩ = some v) (x : Obj) : (w.alloc x).cell? ⟨g, o, none⟩ = some v := by
  rw [World.cell?_alloc_past _ _ _ (World.block_lt_of_cell? w _ h)]; exact h

set_option maxRecDepth 10000 in
set_option maxHeartbeats 1000000 in
theorem core (b off len cap : Nat) (C : Nat → Bool) (N D : Nat → Int) (pick seed : Int) (w : World) (hl0 : 0 < len) (hl : len ≤ 1024) (hp0 : 0 ≤ pick) (hp1 : pick ≤ 18446744073709551615)
    (hs : ∀ i, i < len → w.cell? ⟨b, off + i * 3, none⟩ = some (.bool (C i)) ∧ w.cell? ⟨b, off + i * 3 + 1, none⟩ = some (.int .i64 (N i)) ∧ w.cell? ⟨b, off + i * 3 + 2, none⟩ = some (.int .i64 (D i))) :
    Calls Yba.prog 3 #[.slice (some ⟨b, off, none⟩) len cap, .int .u64 pick, .int .u64 seed] w fun e w' => e = .returned (.bool true) ∧ Below w.heap.size w w' := by
  obtain ⟨i0, hi, hz0, hz1, hz2⟩ := info_parts info34
  have hle : ((len : Int) == 0) = false := by simp; omega
  have hbw : b < w.heap.size := World.block_lt_of_cell? w _ (hs 0 hl0).1
  go_enter Yba.func3, Yba.ntmps3
  go_wp2_with (at_make; refine wpList_make_full _ rfl _ _ 25 rfl w.heap.size 34 i0 _ 6 Yba.underlying25 hi hz0 hz1 _ _ _ _ len rfl rfl rfl rfl ?b2 ?b3 ?b4 ?_)
  case b2 => rw [hz2]; omega
  case b3 => unfold maxLen; omega
  case b4 => omega
  intro w1 hown hgr
  have I0 : Inv w w1 C N D len 0 (fun _ => 0) (fun _ => none) (fun _ => none) := by
    exact inv_made hown hgr
  clear hown hgr
  go_wp2_with fail
  go_loopg [8] len (fun k i wr => ∃ (j : Nat) (z : Nat → Int) (K X : Nat → Option Addr), k + j = len ∧ i = .int .i64 j ∧ Inv w wr C N D len j z K X)
  case atStart => exact ⟨0, _, _, _, by omega, rfl, I0⟩
  case round =>
    obtain ⟨j, z, K, X, hk, rfl, I⟩ := hrel
    have hbg := I.big
    by_cases hj : j < len
    · obtain ⟨s0, s1, s2⟩ := hs j hj
      have e0 : wr.cell? ⟨b, off + j * 3, none⟩ = some (.bool (C j)) := by rw [I.bel.cell (by exact hbw)]; exact s0
      have e1 : wr.cell? ⟨b, off + j * 3 + 1, none⟩ = some (.int .i64 (N j)) := by rw [I.bel.cell (by exact hbw)]; exact s1
      have e2 : wr.cell? ⟨b, off + j * 3 + 2, none⟩ = some (.int .i64 (D j)) := by rw [I.bel.cell (by exact hbw)]; exact s2
      have hr := I.rows j hj
      have c0 := hr.c0
      have c1 := hr.c1
      have c2 := hr.c2
      have f0 := I.free (j * 6)
      have f1 := I.free (j * 6 + 1)
      have f2 := I.free (j * 6 + 2)
      clear s0 s1 s2
      obtain ⟨c, hc⟩ : ∃ c, C j = c := ⟨_, rfl⟩
      obtain ⟨nn, hnn⟩ : ∃ nn, N j = nn := ⟨_, rfl⟩
      obtain ⟨dd, hdd⟩ : ∃ dd, D j = dd := ⟨_, rfl⟩
      rw [hc] at e0
      rw [hnn] at e1
      rw [hdd] at e2
      have HC : Hid (C j = c ∧ N j = nn ∧ D j = dd) := ⟨hc, hnn, hdd⟩
      clear hc hnn hdd
      have hlt' : (j : Int) < (len : Int) := by omega
      cases c with
      | true =>
        go_wp2_with fail
        go_roundg (len - (j + 1))
        case measure => omega
        case rel => exact ⟨j + 1, _, _, _, by omega, by go_num, inv_crash I hj HC.out.1 HC.out.2.1 _ _ _ _⟩
      | false =>
        go_wp2_with fail
        go_region_held3 (fun w' => w'.cell? ⟨wr.heap.size, 1, none⟩ = some (.int .i64 nn) ∧ w'.cell? ⟨wr.heap.size, 2, none⟩ = some (.int .i64 dd)) (simp [go_sem])
          (first | (go_at_call 5; refine (delay_any dd _).mono ?_; rintro e w' ⟨rfl, rfl⟩))
        all_goals go_wp2_with fail
        go_roundg (len - (j + 1))
        case measure => omega
        case rel => exact ⟨j + 1, _, _, _, by omega, by go_num, (inv_kill I hj HC.out.1 HC.out.2.1 HC.out.2.2 _ _).drew⟩
    · have hjl : j = len := by omega
      subst hjl
      obtain ⟨i, hpi⟩ : ∃ i : Nat, pick % (j : Int) = (i : Int) := ⟨(pick % (j : Int)).toNat, by have := Int.emod_nonneg pick (show (j : Int) ≠ 0 by omega); omega⟩
      have hil : i < j := by have := Int.emod_lt_of_pos pick (show 0 < (j : Int) by omega); omega
      have hil' : (i : Int) < (j : Int) := by omega
      have hr := I.rows i hil
      have hd := I.done i hil
      obtain ⟨s0, s1, s2⟩ := hs i hil
      have hbel := I.bel
      clear hs I I0
      obtain ⟨pc, hpc⟩ : ∃ pc : Array Value, pc = #[.int .u64 seed, .int .i64 1, .int .i64 0, .bool false, .pointer none, .slice none 0 0, .pointer none, .slice (some ⟨w.heap.size, 0, none⟩) j j] := ⟨_, rfl⟩
      have p7 : (wr.alloc (.cells pc 45)).cell? ⟨wr.heap.size, 7, none⟩ = some (.slice (some ⟨w.heap.size, 0, none⟩) j j) := by rw [World.cell?_alloc_at _ _ _ _ rfl, hpc]; rfl
      have hb2 : Below w.heap.size w (wr.alloc (.cells pc 45)) := hbel.alloc (by omega) _
      rcases hd with ⟨hc, kb, hx, hg, k1⟩ | ⟨hc, hx, kb, hK, hg, k0, k1⟩
      · rw [hx] at hr
        have R := rec_crash wr.heap.size w.heap.size j i kb _ _ _ _ hil hl p7 (cycle_alloc hr _) (cell_alloc k1 _)
        rw [hpc] at R hb2
        rw [hc] at s0
        clear p7 hpc hr k1 hbel
        go_wp2_with fail
        refine R.mono ?_
        rintro e w3 ⟨rfl, hb3⟩
        have hb4 : Below w.heap.size w w3 := hb2.trans (hb3.mono hb2.size)
        have e0 : w3.cell? ⟨b, off + i * 3, none⟩ = some (.bool true) := by rw [hb4.cell (by exact hbw)]; exact s0
        have e1 : w3.cell? ⟨b, off + i * 3 + 1, none⟩ = some (.int .i64 (N i)) := by rw [hb4.cell (by exact hbw)]; exact s1
        have e2 : w3.cell? ⟨b, off + i * 3 + 2, none⟩ = some (.int .i64 (D i)) := by rw [hb4.cell (by exact hbw)]; exact s2
        have hs3 := hb4.size
        clear R hb3 hb2 s0 s1 s2
        go_wp2_with fail
        go_ret
        exact ⟨rfl, hb4.alloc (by omega) _⟩
      · rw [hx, hK] at hr
        have hdr := dlOf_range (D i)
        have R := rec_kill wr.heap.size w.heap.size j i kb _ _ _ _ hil hl hdr.1 hdr.2 p7 (cycle_alloc hr _) (cell_alloc k0 _) (cell_alloc k1 _)
        rw [hpc] at R hb2
        rw [hc] at s0
        clear p7 hpc hr k0 k1 hbel
        go_wp2_with fail
        refine R.mono ?_
        rintro e w3 ⟨rfl, hb3⟩
        have hb4 : Below w.heap.size w w3 := hb2.trans (hb3.mono hb2.size)
        have e0 : w3.cell? ⟨b, off + i * 3, none⟩ = some (.bool false) := by rw [hb4.cell (by exact hbw)]; exact s0
        have e1 : w3.cell? ⟨b, off + i * 3 + 1, none⟩ = some (.int .i64 (N i)) := by rw [hb4.cell (by exact hbw)]; exact s1
        have e2 : w3.cell? ⟨b, off + i * 3 + 2, none⟩ = some (.int .i64 (D i)) := by rw [hb4.cell (by exact hbw)]; exact s2
        have hs3 := hb4.size
        clear R hb3 hb2 s0 s1 s2
        have hm : (dlOf (D i) * 1000000).tmod 1000000 = 0 := Int.mul_tmod_left _ _
        go_wp2_with fail
        go_quiet ((first | (go_at_call 7; exact Calls.quiet_of_same (ms_any _ _ hdr.1 hdr.2)) | (go_at_call 5; exact Calls.quiet_of_same (delay_any _ _))))
        go_wp2_with fail
        go_ret
        exact ⟨rfl, below_drewN (hb4.alloc (by omega) _) _⟩
end Go.Proofs.Ybulkakbk.RecCore
