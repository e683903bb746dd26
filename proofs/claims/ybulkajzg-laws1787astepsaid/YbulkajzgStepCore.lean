/-
  THE WALK OF LawS1787AStep WHERE THE TEXT HAS AT MOST 1024 BYTES.
-/
import Derived.Test.YbulkajzgScan
import Derived.Laws.CopyOwn
namespace Go.Proofs.Ybulkajzg.StepCore
open Go.ChangeShapes Go.WideShapes Go.ChangeAt Go.RowKit
set_option linter.unusedVariables false

theorem info5 : (Yba.prog.info? 5).map (fun i => (i.zero, i.size, i.bytes)) = some (some (.int .u8 0), 1, 1) := by kernel_rfl

/-- A row that is owned whole is known whole. -/
theorem whole_of_owns {w : World} {b e g n : Nat} {xs : List Value} (h : w.ownsRow b e 1 (.slice (some ⟨g, 0, none⟩) n n) n xs) : w.heap[g]? = some (.cells xs.toArray e (0, 0)) := by
  obtain ⟨_, h2⟩ := h
  rcases h2 with ⟨h2, _⟩ | ⟨g', cap, cur, hv, _, hh, _, _, hs, ht⟩
  · cases h2
  · simp only [Value.slice.injEq, Option.some.injEq, Addr.mk.injEq] at hv
    obtain ⟨⟨rfl, _, _⟩, _, rfl⟩ := hv
    rw [hh, ← ht, List.take_of_length_le (by simp [hs])]

theorem cell_of_row {w : World} {g e : Nat} {cs : List Value} (h : w.heap[g]? = some (.cells cs.toArray e (0, 0))) (j : Nat) : w.cell? ⟨g, j, none⟩ = cs[j]? := by
  simp [World.cell?, h]

theorem scan_new (w : World) (tb n q : Nat) : ScanAt (w.alloc (.cells #[.slice (some ⟨tb, 0, none⟩) n n, .int .i64 q] 26)) w.heap.size tb n n q :=
  ⟨by rw [World.cell?_alloc_at _ _ _ _ rfl]; rfl, by rw [World.cell?_alloc_at _ _ _ _ rfl]; rfl, World.frozen?_alloc_at _ _ _ _ rfl⟩

set_option maxHeartbeats 1000000 in
theorem core (a0 : Option Addr) (len0 cap0 : Nat) (zs : List Int) (a1 : Int) (a2 : Int) (w : World) (hb0 : 0 ≤ a1) (hb1 : a1 ≤ 18446744073709551615) (hl : len0 ≤ 1024) (hzl : zs.length = len0)
    (hsrc : 0 < len0 → ∃ ad, a0 = some ad ∧ ∀ j, j < len0 → w.cell? (ad.add j) = some (.int .u8 (zs.getD j 0))) :
    Calls Yba.prog 3 #[.slice a0 len0 cap0, .int .u64 a1, .int .u8 a2] w fun e w' => e = .returned (.bool true) ∧ Below w.heap.size w w' := by
  obtain ⟨i0, hi, hz0, hz1, hz2⟩ := info_parts info5
  go_enter Yba.func3, Yba.ntmps3
  go_wp2_with (at_make; refine wpList_make_full _ rfl _ _ 22 rfl w.heap.size 5 i0 (.int .u8 0) 1 Yba.underlying22 hi hz0 hz1 _ _ _ _ len0 rfl rfl rfl rfl ?b2 ?b3 ?b4 ?_)
  case b2 => rw [hz2]; omega
  case b3 => unfold maxLen; omega
  case b4 => omega
  intro w1 hown hgr
  have hrow := whole_of_owns hown
  have hb1 : Below w.heap.size w w1 := (Below.refl _ _).grown hgr (Nat.le_refl _) (by simp)
  have hlw : w.heap.size < w1.heap.size := by
    have := Array.getElem?_eq_some_iff.1 hrow
    exact this.1
  clear hown hgr
  go_wp2_with (refine wpList_copy_splice (by rfl) (.tmp 19) (.tmp 20) 22 22 (by rfl) 5 Yba.underlying22 (by rw [hi]; simp [hz1]) (some ⟨w.heap.size, 0, none⟩) a0 len0 len0 len0 cap0 (by rfl) (by rfl) w.heap.size 0 _ 5 hrow (zs.map (Value.int .u8)) ?c1 ?c2 ?c3 (ints_oneCell _ _) w.heap.size w hb1 (Nat.le_refl _) ?_)
  case c1 => simp [hzl]
  case c2 =>
    intro h
    obtain ⟨ad, had, hc⟩ := hsrc h
    refine ⟨ad, had, fun j x hx => ?_⟩
    have hj : j < zs.length := (List.getElem?_eq_some_iff.1 hx).1
    have h1 := hc j (by omega)
    have e : zs.getD j 0 = x := by simp [List.getD, hx]
    rw [e] at h1
    rw [hb1.cell (World.block_lt_of_cell? w _ h1)]; exact h1
  case c3 => simp [hzl, toList_madeCells_one]
  intro w2 HG hb2
  have hcell : ∀ i, i < len0 → w2.cell? ⟨w.heap.size, i, none⟩ = some (.int .u8 (zs.getD i 0)) := by
    intro i hi
    rw [cell_of_row HG.out]
    simp [splice, hzl, toList_madeCells_one, hi, List.getD]
  have hlw2 : w.heap.size < w2.heap.size := by
    have := Array.getElem?_eq_some_iff.1 HG.out
    exact this.1
  clear HG hrow hb1 hlw
  obtain ⟨pn, hpn⟩ : ∃ pn : Nat, a1 % ((len0 : Int) + 2) = (pn : Int) := ⟨(a1 % ((len0 : Int) + 2)).toNat, by have := Int.emod_nonneg a1 (show ((len0 : Int) + 2) ≠ 0 by omega); omega⟩
  have hpl : pn ≤ 1025 := by have := Int.emod_lt_of_pos a1 (show 0 < ((len0 : Int) + 2) by omega); omega
  have sc : ScanAt (w2.alloc (.cells #[.slice (some ⟨w.heap.size, 0, none⟩) len0 len0, .int .i64 pn] 26)) w2.heap.size w.heap.size len0 len0 pn :=
    scan_new _ _ _ _
  have tx : ∀ i, i < len0 → (w2.alloc (.cells #[.slice (some ⟨w.heap.size, 0, none⟩) len0 len0, .int .i64 pn] 26)).cell? ⟨w.heap.size, i, none⟩ = some (.int .u8 (zs.getD i 0)) :=
    fun i hi => by rw [World.cell?_alloc_past _ _ _ hlw2]; exact hcell i hi
  have hb3 : Below w.heap.size w (w2.alloc (.cells #[.slice (some ⟨w.heap.size, 0, none⟩) len0 len0, .int .i64 pn] 26)) := hb2.alloc (by omega) _
  have hne : w.heap.size ≠ w2.heap.size := by omega
  have C := closes_any zs w2.heap.size w.heap.size len0 len0 pn a2 _ hzl (by omega) (by omega) hne sc tx
  clear sc hcell
  go_wp2_with fail
  refine C.mono ?_
  rintro e w3 ⟨b, q, rfl, hgr, hsc, hq, HB⟩
  have tx3 : ∀ i, i < len0 → w3.cell? ⟨w.heap.size, i, none⟩ = some (.int .u8 (zs.getD i 0)) := fun i hi => hgr.cell (tx i hi) (by simpa using hne)
  have hb4 : Below w.heap.size w w3 := hb3.grown hgr (by simp; omega) (by intro k hk; simp at hk; omega)
  have cp := hsc.c1
  clear hgr tx hb3 hb2 C hsc
  go_wp2_with fail
  go_loopg [11] (len0 + 1) (fun k i wr => w3 = wr ∧ ∃ j : Nat, pn ≤ j ∧ j ≤ max pn len0 ∧ i = .int .i64 j ∧ Hid (skipN zs j = skipN zs pn) ∧ k + j = len0 + pn + 1)
  case atStart => exact ⟨rfl, pn, Nat.le_refl _, by omega, rfl, rfl, by omega⟩
  case round =>
    obtain ⟨rfl, j, hpj, hjm, rfl, HS, hk⟩ := hrel
    by_cases hlt : j < len0
    · obtain ⟨c, hc⟩ : ∃ c, c = zs.getD j 0 := ⟨_, rfl⟩
      have ct : w3.cell? ⟨w.heap.size, j, none⟩ = some (.int .u8 c) := by rw [hc]; exact tx3 j hlt
      have HC : Hid (c = zs.getD j 0) := hc
      clear hc tx3
      have hlt' : (j : Int) < (len0 : Int) := by omega
      have hj0 : (0 : Int) ≤ (j : Int) := by omega
      by_cases hw : wsB c = true
      · have HW := ws_yes c w3 hw
        go_wp2_with (go_at_call 6; refine HW.mono ?_; rintro e w' ⟨rfl, rfl⟩)
        go_roundg (len0 + pn - j)
        case measure => omega
        case rel =>
          refine ⟨rfl, j + 1, by omega, by omega, by go_num, ?_, by omega⟩
          rw [HC.out] at hw
          exact (skipN_ws zs j (by omega) hw).symm.trans HS.out
      · have hw' : wsB c = false := by simpa using hw
        have HW := ws_no c w3 hw'
        have e1 : skipN zs pn = j := by rw [HC.out] at hw'; rw [← HS.out]; exact skipN_stop zs j (by omega) hw'
        rcases HB.out with ⟨rfl, h2, h3⟩ | ⟨rfl, h2, h3⟩
        · rw [e1] at h2 h3
          rw [← HC.out] at h3
          subst h2 h3
          clear HB HC HS hw hw' e1 hpn
          go_wp2_with (go_at_call 6; refine HW.mono ?_; rintro e w' ⟨rfl, rfl⟩)
          go_ret
          exact ⟨rfl, hb4⟩
        · rw [e1] at h2 h3
          rw [← HC.out] at h3
          subst h2
          have h3' : (c == a2) = false := by simpa using h3
          clear HB HC HS hw hw' e1 h3 hpn
          go_wp2_with (go_at_call 6; refine HW.mono ?_; rintro e w' ⟨rfl, rfl⟩)
          go_ret
          exact ⟨rfl, hb4⟩
    · have e1 : skipN zs pn = j := by rw [← HS.out]; exact skipN_end zs j (by omega)
      have e2 : zs.getD j 0 = 0 := by simp [List.getD, show zs.length ≤ j by omega]
      rcases HB.out with ⟨rfl, h2, h3⟩ | ⟨rfl, h2, h3⟩
      · rw [e1] at h2 h3
        rw [e2] at h3
        subst h2 h3
        clear HB HS e1 e2 hpn
        go_wp2_with fail
        go_ret
        exact ⟨rfl, hb4⟩
      · rw [e1] at h2 h3
        rw [e2] at h3
        subst h2
        have h3' : ((0 : Int) == a2) = false := by simpa using h3
        clear HB HS e1 e2 h3 hpn
        go_wp2_with fail
        go_ret
        exact ⟨rfl, hb4⟩
end Go.Proofs.Ybulkajzg.StepCore
