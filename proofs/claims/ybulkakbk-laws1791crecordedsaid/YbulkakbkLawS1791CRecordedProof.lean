/-
  'Rows.LawS1791CRecordedSaid': the frame is the guide's own (proof-skeleton.mjs's, at a slice of structs of three fields); the walk is in YbulkakbkRecCore.lean.
-/
import Derived.Test.YbulkakbkRows
import Derived.Test.YbulkakbkRecCore
import Derived.WalkKit
import Derived.ProofKit
import Derived.OpenShut
import Derived.ShutString
import Derived.ChangeOld
import Derived.Below
import Derived.Deep.Slices
import Derived.Deep.Strs
namespace Go.Proofs.Ybulkakbk.lawS1791CRecorded
open Go.ChangeShapes Go.WideShapes Go.ChangeAt Go.RowKit
set_option linter.unusedVariables false

theorem own : ownKnob Yba.prog.godebug = none := by kernel_rfl
theorem laidOut : laidOutB Yba.prog = true := by kernel_rfl
theorem cells27 : Yba.prog.cellsOf 27 = 3 := by kernel_rfl
theorem cells4 : Yba.prog.cellsOf 4 = 1 := by kernel_rfl
theorem cells3 : Yba.prog.cellsOf 3 = 1 := by kernel_rfl
theorem cells2 : Yba.prog.cellsOf 2 = 1 := by kernel_rfl

/-- WHAT THE WALK IS TOLD OF THE STEPS: no element; or each element's three cells. -/
def IsSteps (w : World) (a : Option Addr) (len : Nat) : Prop :=
  len = 0 ∨ ∃ (b off : Nat) (C : Nat → Bool) (N D : Nat → Int), a = some ⟨b, off, none⟩ ∧
    ∀ i, i < len → w.cell? ⟨b, off + i * 3, none⟩ = some (.bool (C i)) ∧ w.cell? ⟨b, off + i * 3 + 1, none⟩ = some (.int .i64 (N i)) ∧ w.cell? ⟨b, off + i * 3 + 2, none⟩ = some (.int .i64 (D i))

theorem list3 {α : Type} {cs : List α} (h : cs.length = 3) : ∃ u0 u1 u2, cs = [u0, u1, u2] := by
  match cs, h with
  | [u0, u1, u2], _ => exact ⟨u0, u1, u2, rfl⟩

set_option maxRecDepth 100000 in
theorem open_steps {H : Type} {enc : TypeId × Value → H} {w : World} {fuel len cap : Nat} {a : Option Addr} {x : DataW H × List MemPlace}
    (h : DataW.trod enc Yba.prog w 0 (fun _ => true) true fuel 22 [.slice a len cap] = some x) : IsSteps w a len := by
  rcases Deep.open_slice Yba.underlying22 h with ⟨h0, _⟩ | ⟨ad, l, c, m, n, Dd, Pl, hcs, hb, hl, hm, hmm, _, hx⟩
  · simp at h0
    exact .inl h0.2.1
  · simp at hcs
    obtain ⟨rfl, rfl, rfl⟩ := hcs
    have hlm : len ≤ m := by rw [hmm]; simpa using hl
    rcases Nat.eq_zero_or_pos len with h0 | hpos
    · exact .inl h0
    right
    have each : ∀ i, i < len → ∃ q : Bool × Int × Int, w.cell? (ad.add (i * 3)) = some (.bool q.1) ∧ w.cell? (ad.add (i * 3 + 1)) = some (.int .i64 q.2.1) ∧ w.cell? (ad.add (i * 3 + 2)) = some (.int .i64 q.2.2) := by
      intro i hi
      obtain ⟨cs', h1, h2⟩ := hx i (by omega)
      rw [cells27] at h1
      obtain ⟨_, hlen, hcell⟩ := World.cells?_some h1
      obtain ⟨y0, y1, y2, k, _, _, g0, g1, g2⟩ := Deep.trod_struct3 Yba.underlying27 h2
      obtain ⟨u0, u1, u2, rfl⟩ := list3 hlen
      simp only [cells4, cells3, cells2] at g0 g1 g2
      obtain ⟨q0, e0, _⟩ := DataW.trod_bool Yba.underlying4 g0
      obtain ⟨q1, e1, _⟩ := DataW.trod_int Yba.underlying3 g1
      obtain ⟨q2, e2, _⟩ := DataW.trod_int Yba.underlying2 g2
      simp at e0 e1 e2
      have f0 := hcell 0 (by omega)
      have f1 := hcell 1 (by omega)
      have f2 := hcell 2 (by omega)
      rw [Deep.add_add] at f0 f1 f2
      simp at f0 f1 f2
      exact ⟨(q0, q1, q2), by rw [f0, e0], by rw [f1, e1], by rw [f2, e2]⟩
    obtain ⟨q, hq⟩ := Deep.choose_lt each
    obtain ⟨b, off, spot⟩ := ad
    have hspot : spot = none := by simpa [Addr.add] using World.cell?_spot (hq 0 hpos).1
    subst hspot
    refine ⟨b, off, fun i => (q i).1, fun i => (q i).2.1, fun i => (q i).2.2, rfl, fun i hi => ?_⟩
    obtain ⟨f0, f1, f2⟩ := hq i hi
    rw [Addr.add_lit] at f0 f1 f2
    exact ⟨f0, by rw [Nat.add_assoc]; exact f1, by rw [Nat.add_assoc]; exact f2⟩

/-! ### THE WALK -/
theorem walk (a0 : Option Addr) (len0 cap0 : Nat) (a1 : Int) (a2 : Int) (w : World) (w0 : IsSteps w a0 len0) (w1 : (Lit.int .u64 a1).wf = true) (w2 : (Lit.int .u64 a2).wf = true) :
    Calls Yba.prog 3 #[.slice a0 len0 cap0, .int .u64 a1, .int .u64 a2] w fun e w' => e = .returned (.bool true) ∧ Below w.heap.size w w' := by
  by_cases hbig : 1024 < len0
  · go_enter Yba.func3, Yba.ntmps3
    go_wp2
    go_ret
    exact ⟨rfl, Below.refl _ _⟩
  · by_cases h0 : len0 = 0
    · subst h0
      go_enter Yba.func3, Yba.ntmps3
      go_wp2
      go_ret
      exact ⟨rfl, Below.refl _ _⟩
    · rcases w0 with h | ⟨b, off, C, N, D, rfl, hs⟩
      · exact absurd h h0
      · obtain ⟨b0, b1⟩ := bounds_u64 w1
        exact RecCore.core b off len0 cap0 C N D a1 a2 w (by omega) (by omega) b0 b1 hs

/-! ### THE ROW's STEP -/
set_option maxRecDepth 100000 in
theorem lifted (os : Os) (started : os.Started) (H : Type) (enc : TypeId × Value → H) :
    ReturnsInHanded {} Yba.checked os 3 .any (Rows.lawS1791CRecordedSpec.pre6 enc Yba.prog Yba.f3 Rows.lawS1791CRecordedRow.domain false) (Rows.lawS1791CRecordedSpec.post enc Yba.prog Yba.f3 false true false false) := by
  refine returnsInHanded_of_change (C := Yba.checked) own started (by kernel_rfl) Yba.func3
    (ChangeSpec.witness6 (enc := enc) (C := Yba.checked) false ⟨#[], #[.slice none 0 0, .int .u64 0, .int .u64 0], []⟩ 8 (by kernel_rfl) (by kernel_rfl) (by kernel_rfl) (by kernel_rfl)) ?_
  intro W base args ds gs before hval0 hW hcnd _
  have hval : ∀ (j : Nat) t v, Yba.f3.params[j]? = some t → args[j]? = some v → Value.okWide Yba.prog W .any base t v := hval0
  have hW' := hW
  obtain ⟨p, q, hA0, hV, rfl, hfz, hnd⟩ := hW
  have hA : DataW.TrodAll enc Yba.prog W 0 (fun _ => true) true Yba.f3.params.toList args.toList ds p := hA0
  rw [Yba.params3] at hA hval
  obtain ⟨v0, vs0, d0, ds0, p0, q0, hargs, rfl, rfl, h0, r0⟩ := trodAll_cons hA
  obtain ⟨v1, vs1, d1, ds1, p1, q1, rfl, rfl, rfl, h1, r1⟩ := trodAll_cons r0
  obtain ⟨v2, vs2, d2, ds2, p2, q2, rfl, rfl, rfl, h2, r2⟩ := trodAll_cons r1
  obtain ⟨rfl, rfl, rfl⟩ := trodAll_nil r2
  obtain rfl : args = #[v0, v1, v2] := by cases args; simp_all
  obtain ⟨rfl, rfl⟩ := trodVars_none hV
  obtain ⟨a0, len0, cap0, rfl⟩ := okWide_slice Yba.underlying22 (hval 0 22 v0 rfl rfl)
  have k0 := h0
  have lt0 : ∀ x ∈ p0, x.block < W.heap.size := by obtain ⟨m, hm⟩ := k0; exact DataW.trod_lt m _ _ _ hm
  have w0 : IsSteps W a0 len0 := by
    obtain ⟨fuel, hf⟩ := h0
    exact open_steps (by simpa [Value.cells] using hf)
  obtain ⟨a1, rfl, rfl, rfl, w1⟩ := open_int Yba.underlying23 (hval 1 23 v1 rfl rfl) h1
  obtain ⟨a2, rfl, rfl, rfl, w2⟩ := open_int Yba.underlying24 (hval 2 24 v2 rfl rfl) h2
  clear hA0 hval0
  refine (walk a0 len0 cap0 a1 a2 W w0 w1 w2).mono fun e W' ⟨he, bel⟩ => ?_
  subst he
  exact ⟨_, rfl, _, _, _, [], _, [], hW', trodAll_mk1 (shut_bool Yba.underlying4 _), (trodAll_cons_mk (Below.trod laidOut (by kernel_rfl) (of_decide_eq_true (by kernel_rfl)) k0 bel lt0) (trodAll_cons_mk (shut_int Yba.underlying23 w1) (trodAll_cons_mk (shut_int Yba.underlying24 w2) trodAll_mk0))), rfl, bel.frame _, fun h => by cases h⟩

theorem over : Rows.lawS1791CRecordedRow.holds Yba.pinned (OpenSpec.ofChange Rows.lawS1791CRecordedSpec) :=
  OpenClaim.holds_of_wide 3 Yba.f3 rfl rfl rfl rfl rfl rfl rfl ⟨rfl, rfl, rfl, rfl, rfl⟩ rfl rfl rfl rfl rfl (by kernel_rfl) Yba.func3 (by kernel_rfl)
    (of_decide_eq_true (by kernel_rfl)) (by unfold Func.isWrapper; first | (rw [if_pos (by decide +kernel)]; kernel_rfl) | (rw [if_neg (by decide +kernel)]; exact ⟨rfl, rfl⟩))
    (fun os started H enc _ => lifted os started H enc)

/-- ████ THE STATEMENT ████ -/
theorem proved : Rows.LawS1791CRecordedSaid := over
#print axioms proved
end Go.Proofs.Ybulkakbk.lawS1791CRecorded
