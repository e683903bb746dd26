/-
  THE WALK OF LawS1789BBang, way by way.
-/
import Derived.Test.YbulkakaiClass
namespace Go.Proofs.Ybulkakai.BangCore
open Go.RowKit
set_option linter.unusedVariables false

theorem drop_bang (r : ByteArray) : (({ data := #[33] } : ByteArray) ++ r).extract 1 (({ data := #[33] } : ByteArray) ++ r).size = r := by
  apply ByteArray.ext
  rw [ByteArray.data_extract, ByteArray.data_append]
  obtain ⟨⟨l⟩⟩ := r
  simp [ByteArray.size]

theorem size_bang (r : ByteArray) : (({ data := #[33] } : ByteArray) ++ r).size = 1 + r.size := by simp [ByteArray.size_append]; rfl

theorem bangB_bang (r : ByteArray) : bangB (({ data := #[33] } : ByteArray) ++ r) = true := by
  have h : 0 < (({ data := #[33] } : ByteArray) ++ r).size := by rw [size_bang]; omega
  rw [← bang_first _ h]
  obtain ⟨⟨l⟩⟩ := r
  rfl

theorem add_bang (r : ByteArray) (h : bangB r = true) : ((({ data := #[33] } : ByteArray) ++ r.extract 1 r.size).toList == r.toList) = true := by
  have h0 := bang_pos r h
  have hf := bang_first r h0
  rw [h] at hf
  obtain ⟨⟨l⟩⟩ := r
  cases l with
  | nil => exact absurd h0 (by simp [ByteArray.size])
  | cons x xs =>
    have hx : x = 33 := by
      have : ((x.toNat : Int) == 33) = true := hf
      simp at this
      exact UInt8.toNat_inj.1 (by simpa using (by omega : x.toNat = 33))
    subst hx
    rw [ByteArray.toList_eq, ByteArray.toList_eq, ByteArray.data_append, ByteArray.data_extract]
    simp [ByteArray.size]

theorem class_at (wc esc : Int) (fold : Bool) (s : ByteArray) (w : World) (h2 : (wc == 2) = true) (hs : s.size ≤ 9223372036854775807) (hb : bangB s = true) (t : ByteArray) (ht : s.extract 1 s.size = t) :
    Calls Yba.prog 5 #[.agg #[.int .u8 wc, .int .u8 esc, .bool fold], .string s] w fun e w' =>
      e = .returned (.tuple #[.agg #[.string t, .int .u8 esc], .bool true]) ∧ ∃ c1 c2, w' = (w.alloc (.cells c1 24)).alloc (.cells c2 26) := by
  have h2' : wc = 2 := by simpa using h2
  subst h2' ht
  exact class_yes esc fold s w hs (bang_pos s hb) hb

set_option maxHeartbeats 400000 in
theorem bang_shell (a0 : Int) (a2 : Int) (a3 : Bool) (a4 : ByteArray) (h0 : 0 ≤ a0) (h1 : a0 ≤ 255) (hs : a4.size ≤ 140737488351232) (hc : (a0 % 3 == 2) = true) (w : World) :
    Calls Yba.prog 4 #[.int .u8 a0, .bool true, .int .u8 a2, .bool a3, .string a4] w fun e w' => e = .returned (.bool true) ∧ Grown w w' := by
  go_enter Yba.func4, Yba.ntmps4
  go_wp2_with (go_at_call 5; refine (class_at _ _ _ _ _ hc (by rw [size_bang]; omega) (bangB_bang a4) a4 (drop_bang a4)).mono ?_; rintro e w' ⟨rfl, c1, c2, rfl⟩)
  go_ret
  exact ⟨rfl, by repeat (first | exact Grown.refl _ | apply Grown.drew | apply Grown.alloc)⟩

set_option maxHeartbeats 400000 in
theorem bang_plain (a0 : Int) (a2 : Int) (a3 : Bool) (a4 : ByteArray) (h0 : 0 ≤ a0) (h1 : a0 ≤ 255) (hs : a4.size ≤ 140737488351232) (hc : (a0 % 3 == 2) = false) (w : World) :
    Calls Yba.prog 4 #[.int .u8 a0, .bool true, .int .u8 a2, .bool a3, .string a4] w fun e w' => e = .returned (.bool true) ∧ Grown w w' := by
  go_enter Yba.func4, Yba.ntmps4
  go_wp2_with (go_at_call 5; refine (class_no _ _ _ _ _ (by rw [size_bang]; omega) (.inl hc)).mono ?_; rintro e w' ⟨rfl, c1, c2, rfl⟩)
  go_ret
  exact ⟨rfl, by repeat (first | exact Grown.refl _ | apply Grown.drew | apply Grown.alloc)⟩

set_option maxHeartbeats 400000 in
theorem bare_plain (a0 : Int) (a2 : Int) (a3 : Bool) (a4 : ByteArray) (h0 : 0 ≤ a0) (h1 : a0 ≤ 255) (hs : a4.size ≤ 140737488351232) (hc : (a0 % 3 == 2) = false) (w : World) :
    Calls Yba.prog 4 #[.int .u8 a0, .bool false, .int .u8 a2, .bool a3, .string a4] w fun e w' => e = .returned (.bool true) ∧ Grown w w' := by
  go_enter Yba.func4, Yba.ntmps4
  go_wp2_with (go_at_call 5; refine (class_no _ _ _ _ _ (by omega) (.inl hc)).mono ?_; rintro e w' ⟨rfl, c1, c2, rfl⟩)
  go_ret
  exact ⟨rfl, by repeat (first | exact Grown.refl _ | apply Grown.drew | apply Grown.alloc)⟩

set_option maxHeartbeats 400000 in
theorem bare_shell_no (a0 : Int) (a2 : Int) (a3 : Bool) (a4 : ByteArray) (h0 : 0 ≤ a0) (h1 : a0 ≤ 255) (hs : a4.size ≤ 140737488351232) (hc : (a0 % 3 == 2) = true) (hb : bangB a4 = false) (w : World) :
    Calls Yba.prog 4 #[.int .u8 a0, .bool false, .int .u8 a2, .bool a3, .string a4] w fun e w' => e = .returned (.bool true) ∧ Grown w w' := by
  by_cases hz : 0 < a4.size
  · have hf := bang_first a4 hz
    go_enter Yba.func4, Yba.ntmps4
    go_wp2_with (go_at_call 5; refine (class_no _ _ _ _ _ (by omega) (.inr hb)).mono ?_; rintro e w' ⟨rfl, c1, c2, rfl⟩)
    go_ret
    exact ⟨rfl, by repeat (first | exact Grown.refl _ | apply Grown.drew | apply Grown.alloc)⟩
  · have hz' : a4.size = 0 := by omega
    clear hz
    go_enter Yba.func4, Yba.ntmps4
    go_wp2_with (go_at_call 5; refine (class_no _ _ _ _ _ (by omega) (.inr hb)).mono ?_; rintro e w' ⟨rfl, c1, c2, rfl⟩)
    go_ret
    exact ⟨rfl, by repeat (first | exact Grown.refl _ | apply Grown.drew | apply Grown.alloc)⟩

set_option maxHeartbeats 400000 in
theorem bare_shell_yes (a0 : Int) (a2 : Int) (a3 : Bool) (a4 : ByteArray) (h0 : 0 ≤ a0) (h1 : a0 ≤ 255) (hs : a4.size ≤ 140737488351232) (hc : (a0 % 3 == 2) = true) (hb : bangB a4 = true) (w : World) :
    Calls Yba.prog 4 #[.int .u8 a0, .bool false, .int .u8 a2, .bool a3, .string a4] w fun e w' => e = .returned (.bool true) ∧ Grown w w' := by
  have hz := bang_pos a4 hb
  have hf := bang_first a4 hz
  have ht : (a4.extract 1 a4.size).size ≤ 140737488351232 := by simp; omega
  have ha := add_bang a4 hb
  obtain ⟨t, hT⟩ : ∃ t, a4.extract 1 a4.size = t := ⟨_, rfl⟩
  rw [hT] at ha ht
  have HT : Hid (a4.extract 1 a4.size = t) := hT
  clear hT
  go_enter Yba.func4, Yba.ntmps4
  go_wp2_with (go_at_call 5; refine (class_at _ _ _ _ _ hc (by omega) hb t HT.out).mono ?_; rintro e w' ⟨rfl, c1, c2, rfl⟩)
  go_ret
  exact ⟨rfl, by repeat (first | exact Grown.refl _ | apply Grown.drew | apply Grown.alloc)⟩
end Go.Proofs.Ybulkakai.BangCore
