/-
  THE WALKS OF peek AND closes: a scanner that lies in a block of its own (g), over a text that lies in another (tb).
-/
import Derived.Test.YbulkajzgRows
import Derived.Test.YbulkajzgPlain
import Derived.WalkKit
import Derived.ProofKit
import Derived.OpenShut
import Derived.ChangeOld
import Derived.Below
import Derived.Deep.LoopGhost
import Derived.Deep.QuietTactic
import Derived.BigQuiet
namespace Go.Proofs.Ybulkajzg
open Go.RowKit

/-- The scanner in block g: its text (in block tb, n bytes), its place q. -/
structure ScanAt (w : World) (g tb n cap q : Nat) : Prop where
  c0 : w.cell? ⟨g, 0, none⟩ = some (.slice (some ⟨tb, 0, none⟩) n cap)
  c1 : w.cell? ⟨g, 1, none⟩ = some (.int .i64 q)
  f1 : w.frozen? ⟨g, 1, none⟩ = false

theorem grown_drewN {w w' : World} {r : Option Nat} (h : w.grownBy w' r) (n : Nat) : w.grownBy (w'.drewN n) r := ⟨h.os, h.tape, h.output, h.size, h.block⟩
theorem grown_setCell {w w' : World} {g o : Nat} (h : w.grownBy w' (some g)) (v : Value) : w.grownBy (w'.setCell ⟨g, o, none⟩ v) (some g) :=
  ⟨h.os, h.tape, h.output, by simpa [World.setCell] using h.size, fun k hk hne => by
    rw [Below.heap_setCell _ _ _ _ (fun e => hne (by simpa using e))]; exact h.block k hk hne⟩
theorem scan_drewN {w : World} {g tb n cap q : Nat} (h : ScanAt w g tb n cap q) (m : Nat) : ScanAt (w.drewN m) g tb n cap q := ⟨h.c0, h.c1, h.f1⟩

theorem scan_set {w : World} {g tb n cap q : Nat} (h : ScanAt w g tb n cap q) (q' : Nat) : ScanAt (w.setCell ⟨g, 1, none⟩ (.int .i64 q')) g tb n cap q' :=
  ⟨by rw [World.cell?_setCell_other _ _ _ _ (by simp)]; exact h.c0, World.cell?_setCell_same _ _ _ h.c1, by rw [World.frozen?_setCell]; exact h.f1⟩

theorem ret_u8 {a b : Int} (h : a = b) : Ending.returned (.int .u8 a) = .returned (.int .u8 b) := by rw [h]

set_option maxHeartbeats 1000000 in
theorem peek_any (zs : List Int) (g tb n cap p : Nat) (w : World) (hn : zs.length = n) (hnl : n ≤ 4096) (hp : p ≤ 4096) (hne : tb ≠ g)
    (hs : ScanAt w g tb n cap p) (hz : ∀ i, i < n → w.cell? ⟨tb, i, none⟩ = some (.int .u8 (zs.getD i 0))) :
    Calls Yba.prog 7 #[.pointer (some ⟨g, 0, none⟩)] w fun e w' => e = .returned (.int .u8 (zs.getD (skipN zs p) 0)) ∧ w.grownBy w' (some g) ∧ ScanAt w' g tb n cap (skipN zs p) := by
  go_enter Yba.func7, Yba.ntmps7
  go_wp2
  go_loopg [3] (n + 1) (fun k c wr => ∃ j : Nat, p ≤ j ∧ j ≤ max p n ∧ Hid (skipN zs j = skipN zs p) ∧ k + j = n + p + 1 ∧ w.grownBy wr (some g) ∧ ScanAt wr g tb n cap j)
  case atStart => exact ⟨p, Nat.le_refl _, by omega, rfl, by omega, World.grownBy.refl _ _, hs⟩
  case round =>
    obtain ⟨j, hpj, hjm, HS, hk, hgr, hsc⟩ := hrel
    have c0 := hsc.c0
    have c1 := hsc.c1
    have f1 := hsc.f1
    by_cases hlt : j < n
    · obtain ⟨c, hc⟩ : ∃ c, c = zs.getD j 0 := ⟨_, rfl⟩
      have ct : wr.cell? ⟨tb, j, none⟩ = some (.int .u8 c) := by rw [hc]; exact hgr.cell (hz j hlt) (by simpa using hne)
      have HC : Hid (c = zs.getD j 0) := hc
      clear hc
      have hlt' : (j : Int) < (n : Int) := by omega
      have hj0 : (0 : Int) ≤ (j : Int) := by omega
      go_wp2
      go_quiet (fail)
      go_wp2
      go_quiet (fail)
      go_wp2
      all_goals first
        | (go_roundg (n + p - j)
           case measure => omega
           case rel =>
             have hw : wsB c = true := by simp [wsB, *]
             refine ⟨j + 1, by omega, by omega, ?_, by omega, ?_, ?_⟩
             · rw [HC.out] at hw
               exact (skipN_ws zs j (by omega) hw).symm.trans HS.out
             · exact grown_setCell (grown_drewN hgr _) _
             · exact scan_set (scan_drewN hsc _) (j + 1))
        | (go_ret
           have hw : wsB c = false := by simp [wsB, *]
           have e1 : skipN zs p = j := by rw [HC.out] at hw; rw [← HS.out]; exact skipN_stop zs j (by omega) hw
           rw [e1]
           exact ⟨ret_u8 HC.out, grown_drewN hgr _, scan_drewN hsc _⟩)
    · go_wp2
      go_quiet (fail)
      go_wp2
      go_ret
      have e1 : skipN zs p = j := by rw [← HS.out]; exact skipN_end zs j (by omega)
      rw [e1]
      exact ⟨ret_u8 (by simp [List.getD, show zs.length ≤ j by omega]), grown_drewN hgr _, scan_drewN hsc _⟩

set_option maxHeartbeats 1000000 in
theorem closes_yes (zs : List Int) (g tb n cap p : Nat) (en : Int) (w : World) (hn : zs.length = n) (hnl : n ≤ 4096) (hp : p ≤ 4096) (hne : tb ≠ g)
    (hs : ScanAt w g tb n cap p) (hz : ∀ i, i < n → w.cell? ⟨tb, i, none⟩ = some (.int .u8 (zs.getD i 0))) (he : Hid (zs.getD (skipN zs p) 0 = en)) :
    Calls Yba.prog 5 #[.pointer (some ⟨g, 0, none⟩), .int .u8 en] w fun e w' => e = .returned (.bool true) ∧ w.grownBy w' (some g) ∧ ScanAt w' g tb n cap (skipN zs p + 1) := by
  obtain ⟨c, hc⟩ : ∃ c, c = zs.getD (skipN zs p) 0 := ⟨_, rfl⟩
  obtain ⟨q, hq⟩ : ∃ q, q = skipN zs p := ⟨_, rfl⟩
  have hql : q ≤ 4096 := by have := skipN_le zs p; omega
  have P := peek_any zs g tb n cap p w hn hnl hp hne hs hz
  rw [← hc, ← hq] at P
  rw [← hq]
  have hb : (c != en) = false := by rw [hc, he.out]; simp
  clear he hc hq
  go_enter Yba.func5, Yba.ntmps5
  go_wp2_with fail
  refine P.mono ?_
  rintro e w1 ⟨rfl, hgr, hsc⟩
  have c0 := hsc.c0
  have c1 := hsc.c1
  have f1 := hsc.f1
  go_wp2
  go_ret
  exact ⟨rfl, grown_setCell hgr _, scan_set hsc (q + 1)⟩

set_option maxHeartbeats 1000000 in
theorem closes_no (zs : List Int) (g tb n cap p : Nat) (en : Int) (w : World) (hn : zs.length = n) (hnl : n ≤ 4096) (hp : p ≤ 4096) (hne : tb ≠ g)
    (hs : ScanAt w g tb n cap p) (hz : ∀ i, i < n → w.cell? ⟨tb, i, none⟩ = some (.int .u8 (zs.getD i 0))) (he : Hid (¬ zs.getD (skipN zs p) 0 = en)) :
    Calls Yba.prog 5 #[.pointer (some ⟨g, 0, none⟩), .int .u8 en] w fun e w' => e = .returned (.bool false) ∧ w.grownBy w' (some g) ∧ ScanAt w' g tb n cap (skipN zs p) := by
  obtain ⟨c, hc⟩ : ∃ c, c = zs.getD (skipN zs p) 0 := ⟨_, rfl⟩
  obtain ⟨q, hq⟩ : ∃ q, q = skipN zs p := ⟨_, rfl⟩
  have P := peek_any zs g tb n cap p w hn hnl hp hne hs hz
  rw [← hc, ← hq] at P
  rw [← hq]
  have hb : (c != en) = true := by rw [hc]; simpa using he.out
  clear he hc hq
  go_enter Yba.func5, Yba.ntmps5
  go_wp2_with fail
  refine P.mono ?_
  rintro e w1 ⟨rfl, hgr, hsc⟩
  go_wp2
  go_ret
  exact ⟨rfl, hgr, hsc⟩

theorem closes_any (zs : List Int) (g tb n cap p : Nat) (en : Int) (w : World) (hn : zs.length = n) (hnl : n ≤ 4096) (hp : p ≤ 4096) (hne : tb ≠ g)
    (hs : ScanAt w g tb n cap p) (hz : ∀ i, i < n → w.cell? ⟨tb, i, none⟩ = some (.int .u8 (zs.getD i 0))) :
    Calls Yba.prog 5 #[.pointer (some ⟨g, 0, none⟩), .int .u8 en] w fun e w' => ∃ (b : Bool) (q : Nat), e = .returned (.bool b) ∧ w.grownBy w' (some g) ∧ ScanAt w' g tb n cap q ∧ q ≤ 8192 ∧
      Hid ((b = true ∧ q = skipN zs p + 1 ∧ zs.getD (skipN zs p) 0 = en) ∨ (b = false ∧ q = skipN zs p ∧ ¬ zs.getD (skipN zs p) 0 = en)) := by
  have hq := skipN_le zs p
  by_cases he : zs.getD (skipN zs p) 0 = en
  · refine (closes_yes zs g tb n cap p en w hn hnl hp hne hs hz he).mono ?_
    rintro e w' ⟨rfl, h1, h2⟩
    exact ⟨true, _, rfl, h1, h2, by omega, .inl ⟨rfl, rfl, he⟩⟩
  · refine (closes_no zs g tb n cap p en w hn hnl hp hne hs hz he).mono ?_
    rintro e w' ⟨rfl, h1, h2⟩
    exact ⟨false, _, rfl, h1, h2, by omega, .inr ⟨rfl, rfl, he⟩⟩

theorem ws_yes (c : Int) (w : World) (h : wsB c = true) : Calls Yba.prog 6 #[.int .u8 c] w fun e w' => e = .returned (.bool true) ∧ w' = w := by
  have h' : c = 32 ∨ c = 9 ∨ c = 10 ∨ c = 13 := by simpa [wsB, or_assoc] using h
  clear h
  rcases h' with rfl | rfl | rfl | rfl
  all_goals
    go_enter Yba.func6, Yba.ntmps6
    go_wp2
    go_ret
    exact ⟨rfl, rfl⟩

theorem ws_no (c : Int) (w : World) (h : wsB c = false) : Calls Yba.prog 6 #[.int .u8 c] w fun e w' => e = .returned (.bool false) ∧ w' = w := by
  have h1 : (c == 32) = false := by simp [wsB] at h ⊢; omega
  have h2 : (c == 9) = false := by simp [wsB] at h ⊢; omega
  have h3 : (c == 10) = false := by simp [wsB] at h ⊢; omega
  have h4 : (c == 13) = false := by simp [wsB] at h ⊢; omega
  clear h
  go_enter Yba.func6, Yba.ntmps6
  go_wp2
  go_ret
  exact ⟨rfl, rfl⟩

end Go.Proofs.Ybulkajzg
