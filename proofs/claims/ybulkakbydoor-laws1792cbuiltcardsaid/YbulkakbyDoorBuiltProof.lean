/-
  'Rows.LawS1792CBuiltCardSaid': the row proved (the walk: YbulkakbyDoorBuiltCore.lean), then the tied card by the builder's one call (after the guide's MapyProofs.lean, MapyCard.lean).
-/
import Derived.Test.YbulkakbyDoorBuiltCore
import Derived.Test.YbulkakbyDoorDoor
import Derived.Test.YbulkakbyDoorCards
import Derived.ShutString
import Derived.ChangeOld
import Derived.SevenTiedAt
import Derived.Deep.Slices
import Derived.Deep.SlicePairs
namespace Go.Proofs.YbulkakbyDoor.lawS1792CBuilt
open Go.ChangeShapes Go.WideShapes Go.ChangeAt Go.RowKit
open Built (Opt)
set_option linter.unusedVariables false

theorem cells30 : Ybad.prog.cellsOf 30 = 2 := by kernel_rfl
theorem cells28 : Ybad.prog.cellsOf 28 = 1 := by kernel_rfl
theorem cells22 : Ybad.prog.cellsOf 22 = 1 := by kernel_rfl

/-- WHAT THE WALK IS TOLD OF THE OPTIONS: no element; or each element's two cells, and its data. -/
def IsOpts (w : World) (a : Option Addr) (len : Nat) : Prop :=
  len = 0 ∨ ∃ (b off : Nat) (O : Nat → Opt), a = some ⟨b, off, none⟩ ∧
    ∀ i, i < len → w.cell? ⟨b, off + i * 2, none⟩ = some (.int .u16 (O i).code) ∧ w.cell? ⟨b, off + i * 2 + 1, none⟩ = some (.slice (O i).a (O i).len (O i).cap) ∧ (O i).Ok w

set_option maxRecDepth 100000 in
theorem open_opts {H : Type} {enc : TypeId × Value → H} {w : World} {fuel len cap : Nat} {a : Option Addr} {x : DataW H × List MemPlace}
    (h : DataW.trod enc Ybad.prog w 0 (fun _ => true) true fuel 27 [.slice a len cap] = some x) : IsOpts w a len := by
  rcases Deep.open_slice_pairs Ybad.underlying27 Ybad.underlying30 cells30 rfl rfl cells28 cells22 h with ⟨h0, _⟩ | ⟨ad, l, c, m, n, V0, V1, D0, D1, P0, P1, hcs, hb, hl, hm, hmm, _, hx⟩
  · simp at h0
    exact .inl h0.2.1
  · simp at hcs
    obtain ⟨rfl, rfl, rfl⟩ := hcs
    have hlm : len ≤ m := by rw [hmm]; simpa using hl
    rcases Nat.eq_zero_or_pos len with h0 | hpos
    · exact .inl h0
    right
    have each : ∀ i, i < len → ∃ o : Opt, w.cell? (ad.add (i * 2)) = some (.int .u16 o.code) ∧ w.cell? (ad.add (i * 2 + 1)) = some (.slice o.a o.len o.cap) ∧ o.Ok w := by
      intro i hi
      obtain ⟨f0, f1, g0, g1⟩ := hx i (by omega)
      obtain ⟨q0, e0, _, hw⟩ := DataW.trod_int Ybad.underlying28 g0
      simp at e0
      obtain ⟨b0, b1⟩ := bounds_u16 hw
      rcases open_ints Ybad.underlying22 Ybad.underlying5 (by kernel_rfl) g1 with ⟨hcs, _⟩ | ⟨y, l, c, zs, hcs, _, hl', hm', hz, _, hcell, hwz⟩
      · simp at hcs
        exact ⟨⟨q0, none, 0, 0, []⟩, by rw [f0, e0], by rw [f1, hcs], ⟨b0, b1, rfl, (fun _ => ⟨rfl, rfl⟩), (fun ad h => by cases h), (fun z hz => by cases hz)⟩⟩
      · simp at hcs
        have hz' : zs.length = c := by simpa using hz
        refine ⟨⟨q0, some y, l, c, zs.take l⟩, by rw [f0, e0], by rw [f1, hcs], ⟨b0, b1, (by simp; omega), (fun h => by cases h), (fun ad' had t u hu => ?_), (fun z hzm => ?_)⟩⟩
        · obtain rfl := Option.some.inj had
          have ht : t < l := by have := (List.getElem?_eq_some_iff.1 hu).1; simp at this; omega
          rw [hcell t (by omega), ← hu]
          simp [List.getD, ht, show t < zs.length by omega]
        · have := hwz z (List.mem_of_mem_take hzm)
          exact bounds_u8 this
    have : Inhabited Opt := ⟨⟨0, none, 0, 0, []⟩⟩
    obtain ⟨q, hq⟩ := Deep.choose_lt each
    obtain ⟨b, off, spot⟩ := ad
    have hspot : spot = none := by simpa [Addr.add] using World.cell?_spot (hq 0 hpos).1
    subst hspot
    refine ⟨b, off, q, rfl, fun i hi => ?_⟩
    obtain ⟨f0, f1, f2⟩ := hq i hi
    rw [Addr.add_lit] at f0 f1
    exact ⟨f0, by rw [Nat.add_assoc]; exact f1, f2⟩

theorem walk (a0 : Option Addr) (len0 cap0 : Nat) (ae : Addr) (w : World) (w0 : IsOpts w a0 len0) (he : w.cell? ⟨0, 0, none⟩ = some (.iface 36 (.pointer (some ae)))) :
    Calls Ybad.prog 4 #[.slice a0 len0 cap0] w fun e w' => e = .returned (.bool true) ∧ Below w.heap.size w w' := by
  by_cases hbig : 256 < len0
  · go_enter Ybad.func4, Ybad.ntmps4
    go_wp2
    go_ret
    exact ⟨rfl, Below.refl _ _⟩
  · rcases w0 with h0 | ⟨b, off, O, rfl, hs⟩
    · subst h0
      exact Built.core0 a0 cap0 ae w he
    · by_cases h0 : len0 = 0
      · subst h0
        exact Built.core0 _ cap0 ae w he
      · exact Built.core b off len0 cap0 O ae w (by omega) (by omega) hs he

set_option maxRecDepth 100000 in
theorem lifted (os : Os) (started : os.Started) (H : Type) (enc : TypeId × Value → H) :
    ReturnsInHanded {} Ybad.checked os 4 .any (fun w args => (Rows.lawS1792CBuiltSpec.pre enc Ybad.prog Ybad.f4 [] false w args ∧ laidMetH Ybad.prog laid1 w) ∧ sizedMet enc Ybad.prog Ybad.f4 (OpenSpec.ofChange Rows.lawS1792CBuiltSpec) false w args)
      (Rows.lawS1792CBuiltSpec.post enc Ybad.prog Ybad.f4 false true false false) := by
  refine returnsInHanded_of_change_and (C := Ybad.checked) (X := fun w _ => laidMetH Ybad.prog laid1 w) (fun _ _ _ hh h => h.of_heap hh) own started (by kernel_rfl) Ybad.func4
    (ChangeSpec.witness_shaped (enc := enc) (C := Ybad.checked) (os := os) (X := fun w _ => laidMetH Ybad.prog laid1 w) false (World.doorLaid Ybad.prog 28 os) #[.slice none 0 0] 8 rfl (World.shaped_of_RefB (by kernel_rfl) (by kernel_rfl)) (by kernel_rfl) (by kernel_rfl) (by kernel_rfl) (door_met os _)) ?_
  intro W base args ds gs before hval0 hW _ _ hL _
  have hval : ∀ (j : Nat) t v, Ybad.f4.params[j]? = some t → args[j]? = some v → Value.okWide Ybad.prog W .any base t v := hval0
  have hW' := hW
  obtain ⟨p, q, hA0, hV0, rfl, hfz, hnd⟩ := hW
  have hA : DataW.TrodAll enc Ybad.prog W 0 (fun _ => true) true Ybad.f4.params.toList args.toList ds p := hA0
  have hV : DataW.TrodVars enc Ybad.prog W (fun _ => true) [errName] gs q := hV0
  rw [Ybad.params4] at hA hval
  obtain ⟨v0, vs0, d0, ds0, p0, q0, hargs, rfl, rfl, h0, r0⟩ := trodAll_cons hA
  obtain ⟨rfl, rfl, rfl⟩ := trodAll_nil r0
  obtain rfl : args = #[v0] := by cases args; simp_all
  obtain ⟨ae, hv, he⟩ := of_laid hL
  obtain ⟨rfl, rfl⟩ := hV.unique (vars_read1 enc gE gT Ybad.underlying24 hv trivial _)
  obtain ⟨a0, len0, cap0, rfl⟩ := okWide_slice Ybad.underlying27 (hval 0 27 v0 rfl rfl)
  have k0 := h0
  have lt0 : ∀ x ∈ p0, x.block < W.heap.size := by obtain ⟨m, hm⟩ := k0; exact DataW.trod_lt m _ _ _ hm
  have w0 : IsOpts W a0 len0 := by
    obtain ⟨fuel, hf⟩ := h0
    exact open_opts (by simpa [Value.cells] using hf)
  have hpos : 0 < W.heap.size := World.block_lt_of_cell? W _ he
  clear hA0 hV0 hval0 hL
  refine (walk a0 len0 cap0 ae W w0 he).mono fun e W' ⟨hee, bel⟩ => ?_
  subst hee
  exact ⟨_, rfl, _, _, _, [], _, [.cell 0 0], hW', trodAll_mk1 (shut_bool Ybad.underlying4 _), (trodAll_cons_mk (Below.trod laidOut (by kernel_rfl) (of_decide_eq_true (by kernel_rfl)) k0 bel lt0) trodAll_mk0), vars_read1 enc gE gT Ybad.underlying24 (var_below bel hpos hv) trivial _, bel.frame _, fun h => by cases h⟩

theorem over : Rows.LawS1792CBuiltSaid :=
  OpenClaim.holds_of_wide 4 Ybad.f4 rfl rfl rfl rfl rfl rfl rfl ⟨rfl, rfl, rfl, rfl, rfl⟩ rfl rfl rfl rfl rfl (by kernel_rfl) Ybad.func4 (by kernel_rfl)
    (of_decide_eq_true (by kernel_rfl)) (by unfold Func.isWrapper; first | (rw [if_pos (by decide +kernel)]; kernel_rfl) | (rw [if_neg (by decide +kernel)]; exact ⟨rfl, rfl⟩))
    (fun os started H enc _ => lifted os started H enc)

/-- ████ THE TIED CARD ████ -/
theorem proved : Rows.LawS1792CBuiltCardSaid :=
  Claim7.holds_tied_plain_at .later [] [.sentinel] true Rows.lawS1792CBuiltCard.stood.harness true
    over (fun _ h => by cases h) (by kernel_rfl) (fun _ h => by cases h) lawS1792CBuilt_row_tie rfl ⟨rfl, rfl⟩ (by kernel_rfl) rfl
    (fun f fn hf hfn => by
      obtain rfl : f = 4 := Option.some.inj ((show Ybad.prog.funcNamed Rows.lawS1792CBuiltRow.func = some 4 by kernel_rfl).symm.trans hf) |>.symm
      obtain rfl : fn = Ybad.f4 := (Option.some.inj (Ybad.func4.symm.trans hfn)).symm
      exact ⟨by kernel_rfl, fun j t ht => by
        rw [Ybad.params4] at ht
        have hm : t ∈ [27] := by simpa using Array.mem_of_getElem? ht
        have hall : ([27].all fun u => !Ybad.prog.wantsStandIn u) = true := by kernel_rfl
        exact (show Ybad.prog.wantsStandIn t = false by simpa using List.all_eq_true.1 hall t hm)⟩)
    (by kernel_rfl)
#print axioms proved
end Go.Proofs.YbulkakbyDoor.lawS1792CBuilt
