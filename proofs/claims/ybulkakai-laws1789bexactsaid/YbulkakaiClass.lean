/-
  THE WALKS OF strings.HasPrefix AT THE PREFIX OF ONE BANG, AND OF (nameSyntax).class.
-/
import Derived.Test.YbulkakaiRows
import Derived.WalkKit
import Derived.ProofKit
import Derived.OpenShut
import Derived.ShutString
namespace Go.Proofs.Ybulkakai
open Go.RowKit

theorem has_yes (s : ByteArray) (w : World) (hs : s.size ≤ 9223372036854775807) (h1 : 0 < s.size) (h2 : ((s.extract 0 1).toList == [33]) = true) :
    Calls Yba.prog 7 #[.string s, .string { data := #[33] }] w fun e w' => e = .returned (.bool true) ∧ w' = w := by
  go_enter Yba.func7, Yba.ntmps7
  go_wp2
  go_ret
  exact ⟨rfl, rfl⟩

theorem has_not (s : ByteArray) (w : World) (hs : s.size ≤ 9223372036854775807) (h1 : 0 < s.size) (h2 : ((s.extract 0 1).toList == [33]) = false) :
    Calls Yba.prog 7 #[.string s, .string { data := #[33] }] w fun e w' => e = .returned (.bool false) ∧ w' = w := by
  go_enter Yba.func7, Yba.ntmps7
  go_wp2
  go_ret
  exact ⟨rfl, rfl⟩

theorem has_empty (s : ByteArray) (w : World) (h1 : s.size = 0) :
    Calls Yba.prog 7 #[.string s, .string { data := #[33] }] w fun e w' => e = .returned (.bool false) ∧ w' = w := by
  go_enter Yba.func7, Yba.ntmps7
  go_wp2
  go_ret
  exact ⟨rfl, rfl⟩

/-- Does s begin with a bang? -/
def bangB (s : ByteArray) : Bool := decide (0 < s.size) && ((s.extract 0 1).toList == [33])

theorem has_any (s : ByteArray) (w : World) (hs : s.size ≤ 9223372036854775807) :
    Calls Yba.prog 7 #[.string s, .string { data := #[33] }] w fun e w' => e = .returned (.bool (bangB s)) ∧ w' = w := by
  by_cases h1 : 0 < s.size
  · by_cases h2 : ((s.extract 0 1).toList == [33]) = true
    · have : bangB s = true := by simp only [bangB, h2]; simp [h1]
      rw [this]; exact has_yes s w hs h1 h2
    · have h2' : ((s.extract 0 1).toList == [33]) = false := by simpa using h2
      have : bangB s = false := by simp only [bangB, h2']; simp
      rw [this]; exact has_not s w hs h1 h2'
  · have : bangB s = false := by simp [bangB, h1]
    rw [this]; exact has_empty s w (by omega)

theorem class_yes (esc : Int) (fold : Bool) (s : ByteArray) (w : World) (hs : s.size ≤ 9223372036854775807) (h0 : 0 < s.size) (hb : bangB s = true) :
    Calls Yba.prog 5 #[.agg #[.int .u8 2, .int .u8 esc, .bool fold], .string s] w fun e w' =>
      e = .returned (.tuple #[.agg #[.string (s.extract 1 s.size), .int .u8 esc], .bool true]) ∧ ∃ c1 c2, w' = (w.alloc (.cells c1 24)).alloc (.cells c2 26) := by
  go_enter Yba.func5, Yba.ntmps5
  go_wp2_with (go_at_call 7; refine (has_any s _ hs).mono ?_; rintro e w' ⟨rfl, rfl⟩)
  exact bodyPost_ret (v := .tuple #[.agg #[.string (s.extract 1 s.size), .int .u8 esc], .bool true]) (by simp [results, Yba.results5, go_sem]) rfl ⟨rfl, _, _, rfl⟩

theorem class_no (wc esc : Int) (fold : Bool) (s : ByteArray) (w : World) (hs : s.size ≤ 9223372036854775807) (hb : (wc == 2) = false ∨ bangB s = false) :
    Calls Yba.prog 5 #[.agg #[.int .u8 wc, .int .u8 esc, .bool fold], .string s] w fun e w' =>
      e = .returned (.tuple #[.agg #[.string s, .int .u8 esc], .bool false]) ∧ ∃ c1 c2, w' = (w.alloc (.cells c1 24)).alloc (.cells c2 26) := by
  by_cases h2 : (wc == 2) = true
  · have hb' : bangB s = false := by rcases hb with h | h; rw [h2] at h; cases h; exact h
    clear hb
    go_enter Yba.func5, Yba.ntmps5
    go_wp2_with (go_at_call 7; refine (has_any s _ hs).mono ?_; rintro e w' ⟨rfl, rfl⟩)
    exact bodyPost_ret (v := .tuple #[.agg #[.string s, .int .u8 esc], .bool false]) (by simp [results, Yba.results5, go_sem]) rfl ⟨rfl, _, _, rfl⟩
  · have h2' : (wc == 2) = false := by simpa using h2
    clear hb h2
    go_enter Yba.func5, Yba.ntmps5
    go_wp2_with fail
    exact bodyPost_ret (v := .tuple #[.agg #[.string s, .int .u8 esc], .bool false]) (by simp [results, Yba.results5, go_sem]) rfl ⟨rfl, _, _, rfl⟩

theorem first_byte (s : ByteArray) (h : 0 < s.size) : (s.extract 0 1).toList = [s[0]'h] := by
  rw [ByteArray.toList_eq, ByteArray.data_extract]
  obtain ⟨⟨l⟩⟩ := s
  cases l with
  | nil => exact absurd h (by simp [ByteArray.size])
  | cons x xs => simp; rfl

theorem bang_first (s : ByteArray) (h : 0 < s.size) : (((s[0]'h).toNat : Int) == 33) = bangB s := by
  unfold bangB
  rw [first_byte s h]
  generalize s[0]'h = x
  rw [Bool.eq_iff_iff]
  simp [h]
  constructor
  · intro e; exact UInt8.toNat_inj.1 (by simpa using (by omega : x.toNat = 33))
  · intro e; subst e; rfl

theorem bang_pos (s : ByteArray) (h : bangB s = true) : 0 < s.size := by
  unfold bangB at h; simp at h; exact h.1

theorem expect_yes (s : ByteArray) (w : World) (hs : s.size ≤ 9223372036854775807) (hb : bangB s = true) :
    Calls Yba.prog 6 #[.int .u8 2, .string s] w fun e w' => e = .returned (.tuple #[.string (s.extract 1 s.size), .bool true]) ∧ w' = w := by
  have h0 := bang_pos s hb
  have hf := bang_first s h0
  go_enter Yba.func6, Yba.ntmps6
  go_wp2
  go_ret2
  exact ⟨rfl, rfl⟩

theorem expect_no (wc : Int) (s : ByteArray) (w : World) (hs : s.size ≤ 9223372036854775807) (hb : (wc == 2) = false ∨ bangB s = false) :
    Calls Yba.prog 6 #[.int .u8 wc, .string s] w fun e w' => e = .returned (.tuple #[.string s, .bool false]) ∧ w' = w := by
  by_cases h2 : (wc == 2) = true
  · have hb' : bangB s = false := by rcases hb with h | h; rw [h2] at h; cases h; exact h
    clear hb
    by_cases h0 : 0 < s.size
    · have hf := bang_first s h0
      go_enter Yba.func6, Yba.ntmps6
      go_wp2
      go_ret2
      exact ⟨rfl, rfl⟩
    · have h0' : s.size = 0 := by omega
      clear h0
      go_enter Yba.func6, Yba.ntmps6
      go_wp2
      go_ret2
      exact ⟨rfl, rfl⟩
  · have h2' : (wc == 2) = false := by simpa using h2
    clear hb h2
    go_enter Yba.func6, Yba.ntmps6
    go_wp2
    go_ret2
    exact ⟨rfl, rfl⟩
end Go.Proofs.Ybulkakai
