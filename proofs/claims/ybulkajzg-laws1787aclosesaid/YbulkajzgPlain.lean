/-
  THE PLAIN LAW: no Go in sight. White space, and how far a run of it reaches.
-/
namespace Go.Proofs.Ybulkajzg

/-- ' ', tab, newline, carriage return. -/
def wsB (c : Int) : Bool := c == 32 || c == 9 || c == 10 || c == 13

/-- The place behind the run of white space that begins at p. -/
def skipN (zs : List Int) (p : Nat) : Nat := p + ((zs.drop p).takeWhile wsB).length

theorem skipN_end (zs : List Int) (p : Nat) (h : zs.length ≤ p) : skipN zs p = p := by
  unfold skipN; rw [List.drop_eq_nil_of_le h]; simp

theorem skipN_ws (zs : List Int) (p : Nat) (h : p < zs.length) (hw : wsB (zs.getD p 0) = true) : skipN zs p = skipN zs (p + 1) := by
  unfold skipN
  rw [List.drop_eq_getElem_cons h]
  have e : zs.getD p 0 = zs[p] := by simp [List.getD, h]
  rw [e] at hw
  rw [List.takeWhile_cons_of_pos hw, List.length_cons]
  omega

theorem skipN_stop (zs : List Int) (p : Nat) (h : p < zs.length) (hw : wsB (zs.getD p 0) = false) : skipN zs p = p := by
  unfold skipN
  rw [List.drop_eq_getElem_cons h]
  have e : zs.getD p 0 = zs[p] := by simp [List.getD, h]
  rw [e] at hw
  rw [List.takeWhile_cons_of_neg (by simp [hw])]
  rfl

theorem skipN_ge (zs : List Int) (p : Nat) : p ≤ skipN zs p := by unfold skipN; omega

theorem skipN_le (zs : List Int) (p : Nat) : skipN zs p ≤ max p zs.length := by
  unfold skipN
  have h := (List.takeWhile_sublist (p := wsB) (l := zs.drop p)).length_le
  rw [List.length_drop] at h
  omega

theorem wsB_zero : wsB 0 = false := by decide

/-- What stands behind the run is no white space (0 at the end). -/
theorem skipN_val (zs : List Int) (p : Nat) : wsB (zs.getD (skipN zs p) 0) = false := by
  by_cases h : p < zs.length
  · generalize hm : zs.length - p = m
    induction m generalizing p with
    | zero => omega
    | succ m ih =>
      by_cases hw : wsB (zs.getD p 0) = true
      · rw [skipN_ws zs p h hw]
        by_cases h2 : p + 1 < zs.length
        · exact ih (p + 1) h2 (by omega)
        · rw [skipN_end zs (p + 1) (by omega)]
          simp [List.getD, show zs.length ≤ p + 1 by omega, wsB_zero]
      · have hw' : wsB (zs.getD p 0) = false := by simpa using hw
        rw [skipN_stop zs p h hw']; exact hw'
  · rw [skipN_end zs p (by omega)]
    simp [List.getD, show zs.length ≤ p by omega, wsB_zero]

/-- A run of white space ahead of a byte that is none. -/
theorem skipN_run (as bs : List Int) (c : Int) (ha : ∀ x ∈ as, wsB x = true) (hc : wsB c = false) : skipN (as ++ c :: bs) 0 = as.length := by
  unfold skipN
  simp only [List.drop_zero, Nat.zero_add]
  rw [List.takeWhile_append_of_pos ha]
  rw [List.takeWhile_cons_of_neg (by simp [hc])]; simp

end Go.Proofs.Ybulkajzg
