/-
  THE WALKS OF (*Rand).uint64n AND (*Rand).IntN: the draw ends, and lies below n.
-/
import Derived.Test.YbulkakbkRand
import Derived.Deep.LoopGhost
namespace Go.Proofs.Ybulkakbk
open Go.RowKit
set_option linter.unusedVariables false

def hiN (n S : Int) : Int := outS S * n / 18446744073709551616
def loN (n S : Int) : Int := outS S * n % 18446744073709551616
def thr (n : Int) : Int := (IntKind.u64.wrap (-n)).tmod n

theorem mulN (n T : Int) (hn0 : 1 ≤ n) (hn : n ≤ 5000) (w : World) : Calls Yba.prog 17 #[.int .u64 (outS T), .int .u64 n] w fun e w' => e = .returned (.tuple #[.int .u64 (hiN n T), .int .u64 (loN n T)]) ∧ w' = w :=
  mul64 (outS T) n (outS_range T).1 (outS_range T).2 (by omega) (by omega) w

theorem loN_range (n T : Int) : 0 ≤ loN n T ∧ loN n T < 18446744073709551616 := by unfold loN; omega

theorem hiN_range (n T : Int) (hn0 : 1 ≤ n) (hn : n ≤ 5000) : 0 ≤ hiN n T ∧ hiN n T < n := by
  unfold hiN
  have h := outS_range T
  have h1 : outS T * n < 18446744073709551616 * n := Int.mul_lt_mul_of_pos_right h.2 (by omega)
  have h0 : 0 ≤ outS T * n := Int.mul_nonneg h.1 (by omega)
  generalize outS T * n = m at *
  omega

theorem thr_lt (n : Int) (hn : 1 ≤ n) : 0 ≤ thr n ∧ thr n < n := by
  unfold thr
  have h : 0 ≤ IntKind.u64.wrap (-n) := by rw [IntKind.wrap_u64]; omega
  rw [Int.tmod_eq_emod_of_nonneg h]
  exact ⟨Int.emod_nonneg _ (by omega), Int.emod_lt_of_pos _ (by omega)⟩

/-- Some draw is taken. -/
theorem taken (n S : Int) (hn0 : 1 ≤ n) (hn : n ≤ 5000) : ∃ m : Nat, thr n ≤ loN n (itn (m + 1) S) := by
  obtain ⟨j, hj⟩ := met S oneS (by decide) (by decide)
  refine ⟨j, ?_⟩
  rw [hj]
  unfold loN
  rw [outS_one]
  have := thr_lt n hn0
  omega

theorem grown_trans {a b c : World} {r : Option Nat} (h : a.grownBy b r) (k : b.grownBy c r) : a.grownBy c r :=
  ⟨k.os.trans h.os, k.tape.trans h.tape, k.output.trans h.output, Nat.le_trans h.size k.size, fun i hi hne => (k.block i (Nat.lt_of_lt_of_le hi h.size) hne).trans (h.block i hi hne)⟩

set_option maxHeartbeats 1000000 in
theorem u64n_gen (r g : Nat) (n S t : Int) (w : World) (hn0 : 1 ≤ n) (hn : n ≤ 5000) (h2 : (bits .and .u64 n (n - 1) == 0) = false) (ht : (IntKind.u64.wrap (-n)).tmod n = t) (ht0 : 0 ≤ t) (htn : t < n)
    (hr : w.cell? ⟨r, 0, none⟩ = some (.iface 58 (.pointer (some ⟨g, 0, none⟩)))) (hne : r ≠ g) (hp : PcgS w g S) (m : Nat) (hm : Hid (t ≤ loN n (itn (m + 1) S))) (hl : Hid (∀ j, j < m → loN n (itn (j + 1) S) < t)) :
    Calls Yba.prog 14 #[.pointer (some ⟨r, 0, none⟩), .int .u64 n] w fun e w' => e = .returned (.int .u64 (hiN n (itn (m + 1) S))) ∧ w.grownBy w' (some g) ∧ PcgS w' g (itn (m + 1) S) := by
  by_cases hA : loN n (nxt S) < n
  · go_enter Yba.func14, Yba.ntmps14
    go_wp2_with (first | (go_at_call 16; refine (rand_any r g S _ hr hp).mono ?_; rintro e w1 ⟨rfl, hgr, hp1⟩) | (go_at_call 17; refine (mulN n _ hn0 hn _).mono ?_; rintro e w' ⟨rfl, rfl⟩))
    rename_i w1
    clear ht hA hp
    go_loopg [5, 6] m (fun k h l wr => ∃ j : Nat, k + j = m ∧ h = .int .u64 (hiN n (itn (j + 1) S)) ∧ l = .int .u64 (loN n (itn (j + 1) S)) ∧ w.grownBy wr (some g) ∧ PcgS wr g (itn (j + 1) S))
    case atStart => exact ⟨0, rfl, rfl, rfl, hgr, hp1⟩
    case round =>
      clear hgr hp1
      obtain ⟨j, hk, rfl, rfl, hgr, hp1⟩ := hrel
      have hrr : wr.cell? ⟨r, 0, none⟩ = some (.iface 58 (.pointer (some ⟨g, 0, none⟩))) := hgr.cell hr (by simpa using hne)
      obtain ⟨T, hT⟩ : ∃ T, itn (j + 1) S = T := ⟨_, rfl⟩
      rw [hT] at hp1
      rw [hT]
      by_cases hj : j < m
      · have hlt : loN n T < t := by rw [← hT]; exact hl.out j hj
        have HT : Hid (itn (j + 1) S = T) := hT
        clear hT
        go_wp2_with (first | (go_at_call 16; refine (rand_any r g T _ hrr hp1).mono ?_; rintro e w2 ⟨rfl, hgr2, hp2⟩) | (go_at_call 17; refine (mulN n _ hn0 hn _).mono ?_; rintro e w' ⟨rfl, rfl⟩))
        go_roundg (m - (j + 1))
        case measure => omega
        case rel =>
          have e : itn (j + 1 + 1) S = nxt T := by rw [← HT.out]; rfl
          refine ⟨j + 1, by omega, by rw [e], by rw [e], ?_, by rw [e]; exact hp2⟩
          exact grown_trans hgr hgr2
      · have hjm : j = m := by omega
        subst hjm
        have hge : t ≤ loN n T := by rw [← hT]; exact hm.out
        have HT : Hid (itn (j + 1) S = T) := hT
        clear hT
        go_wp2
        go_ret
        rw [HT.out]
        exact ⟨rfl, hgr, hp1⟩
  · have hm0 : m = 0 := by
      rcases Nat.eq_zero_or_pos m with h | h
      · exact h
      · have := hl.out 0 h
        have e : itn (0 + 1) S = nxt S := rfl
        rw [e] at this
        omega
    subst hm0
    go_enter Yba.func14, Yba.ntmps14
    go_wp2_with (first | (go_at_call 16; refine (rand_any r g S _ hr hp).mono ?_; rintro e w1 ⟨rfl, hgr, hp1⟩) | (go_at_call 17; refine (mulN n _ hn0 hn _).mono ?_; rintro e w' ⟨rfl, rfl⟩))
    go_ret
    exact ⟨rfl, hgr, hp1⟩

set_option maxHeartbeats 1000000 in
theorem u64n_pow (r g : Nat) (n S : Int) (w : World) (hn0 : 1 ≤ n) (hn : n ≤ 5000) (h2 : (bits .and .u64 n (n - 1) == 0) = true)
    (hr : w.cell? ⟨r, 0, none⟩ = some (.iface 58 (.pointer (some ⟨g, 0, none⟩)))) (hp : PcgS w g S) :
    Calls Yba.prog 14 #[.pointer (some ⟨r, 0, none⟩), .int .u64 n] w fun e w' => e = .returned (.int .u64 (bits .and .u64 (outS (nxt S)) (n - 1))) ∧ w.grownBy w' (some g) ∧ PcgS w' g (nxt S) := by
  go_enter Yba.func14, Yba.ntmps14
  go_wp2_with (go_at_call 16; refine (rand_any r g S _ hr hp).mono ?_; rintro e w1 ⟨rfl, hgr, hp1⟩)
  go_ret
  exact ⟨rfl, hgr, hp1⟩

/-- One draw below n out of state S: v, and the state behind it. -/
def Draw (n S v S' : Int) : Prop :=
  ((bits .and .u64 n (n - 1) == 0) = true ∧ v = bits .and .u64 (outS (nxt S)) (n - 1) ∧ S' = nxt S) ∨
  ((bits .and .u64 n (n - 1) == 0) = false ∧ ∃ m : Nat, thr n ≤ loN n (itn (m + 1) S) ∧ (∀ j, j < m → loN n (itn (j + 1) S) < thr n) ∧ v = hiN n (itn (m + 1) S) ∧ S' = itn (m + 1) S)

theorem Draw.one {n S v v' T T' : Int} (h : Draw n S v T) (h' : Draw n S v' T') : v = v' ∧ T = T' := by
  rcases h with ⟨a, rfl, rfl⟩ | ⟨a, m, h1, h2, rfl, rfl⟩ <;> rcases h' with ⟨a', rfl, rfl⟩ | ⟨a', m', h1', h2', rfl, rfl⟩
  · exact ⟨rfl, rfl⟩
  · rw [a] at a'; cases a'
  · rw [a] at a'; cases a'
  · have : m = m' := by
      rcases Nat.lt_trichotomy m m' with h | h | h
      · have := h2' m h; omega
      · exact h
      · have := h2 m' h; omega
    subst this
    exact ⟨rfl, rfl⟩

theorem and_range (a b : Int) (ha : 0 ≤ a) (ha1 : a < 18446744073709551616) (hb : 0 ≤ b) (hb1 : b < 18446744073709551616) : 0 ≤ bits .and .u64 a b ∧ bits .and .u64 a b ≤ b := by
  obtain ⟨a, rfl⟩ := Int.eq_ofNat_of_zero_le ha
  obtain ⟨b, rfl⟩ := Int.eq_ofNat_of_zero_le hb
  rw [bits_and_u64_nat a b (by omega) (by omega)]
  have := Nat.and_le_right (n := a) (m := b)
  omega

theorem Draw.range {n S v T : Int} (hn0 : 1 ≤ n) (hn : n ≤ 5000) (h : Draw n S v T) : 0 ≤ v ∧ v < n := by
  rcases h with ⟨a, rfl, rfl⟩ | ⟨a, m, h1, h2, rfl, rfl⟩
  · have h := outS_range (nxt S)
    have := and_range (outS (nxt S)) (n - 1) h.1 h.2 (by omega) (by omega)
    omega
  · exact hiN_range n _ hn0 hn

theorem u64n_any (r g : Nat) (n S : Int) (w : World) (hn0 : 1 ≤ n) (hn : n ≤ 5000) (hr : w.cell? ⟨r, 0, none⟩ = some (.iface 58 (.pointer (some ⟨g, 0, none⟩)))) (hne : r ≠ g) (hp : PcgS w g S) :
    Calls Yba.prog 14 #[.pointer (some ⟨r, 0, none⟩), .int .u64 n] w fun e w' => ∃ v T : Int, e = .returned (.int .u64 v) ∧ 0 ≤ v ∧ v < n ∧ Hid (Draw n S v T) ∧ w.grownBy w' (some g) ∧ PcgS w' g T := by
  cases h2 : (bits .and .u64 n (n - 1) == 0) with
  | true =>
    refine (u64n_pow r g n S w hn0 hn h2 hr hp).mono ?_
    rintro e w' ⟨rfl, hgr, hp'⟩
    have hd : Draw n S (bits .and .u64 (outS (nxt S)) (n - 1)) (nxt S) := .inl ⟨h2, rfl, rfl⟩
    exact ⟨_, _, rfl, (hd.range hn0 hn).1, (hd.range hn0 hn).2, hd, hgr, hp'⟩
  | false =>
    obtain ⟨m, hm, hl⟩ := exists_least (taken n S hn0 hn)
    have hl' : ∀ j, j < m → loN n (itn (j + 1) S) < thr n := fun j hj => Int.lt_of_not_ge fun h => by have := hl j h; omega
    have ht := thr_lt n hn0
    refine (u64n_gen r g n S (thr n) w hn0 hn h2 rfl ht.1 ht.2 hr hne hp m hm hl').mono ?_
    rintro e w' ⟨rfl, hgr, hp'⟩
    have hd : Draw n S (hiN n (itn (m + 1) S)) (itn (m + 1) S) := .inr ⟨h2, m, hm, hl', rfl, rfl⟩
    exact ⟨_, _, rfl, (hd.range hn0 hn).1, (hd.range hn0 hn).2, hd, hgr, hp'⟩

set_option maxHeartbeats 1000000 in
theorem intN_any (r g : Nat) (n S : Int) (w : World) (hn0 : 1 ≤ n) (hn : n ≤ 5000) (hr : w.cell? ⟨r, 0, none⟩ = some (.iface 58 (.pointer (some ⟨g, 0, none⟩)))) (hne : r ≠ g) (hp : PcgS w g S) :
    Calls Yba.prog 11 #[.pointer (some ⟨r, 0, none⟩), .int .i64 n] w fun e w' => ∃ v T : Int, e = .returned (.int .i64 v) ∧ 0 ≤ v ∧ v < n ∧ Hid (Draw n S v T) ∧ w.grownBy w' (some g) ∧ PcgS w' g T := by
  go_enter Yba.func11, Yba.ntmps11
  go_wp2_with (go_at_call 14; refine (u64n_any r g n S _ hn0 hn hr hne hp).mono ?_; rintro e w1 ⟨v, T, rfl, v0, v1, HD, hgr, hp1⟩)
  go_ret
  exact ⟨_, _, rfl, v0, v1, HD, hgr, hp1⟩
end Go.Proofs.Ybulkakbk
