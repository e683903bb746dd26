/-
  THE WALK OF LawS1787AClose WHERE BOTH SLICES HAVE AT MOST 1024 BYTES.
-/
import Derived.Test.YbulkajzgScan
namespace Go.Proofs.Ybulkajzg.CloseCore
open Go.ChangeShapes Go.WideShapes Go.ChangeAt Go.RowKit
set_option linter.unusedVariables false

/-- The white space that the law lays for x. -/
def spc (x : Int) : Int := if x % 4 = 0 then 32 else if x % 4 = 1 then 9 else if x % 4 = 2 then 10 else 13
theorem spc_ws (x : Int) : wsB (spc x) = true := by
  unfold spc; split; decide; split; decide; split; decide; decide

theorem spc0 {c : Int} (h : (c % 4 == 0) = true) : 32 = spc c := by simp at h; simp [spc, h]
theorem spc1 {c : Int} (h : (c % 4 == 0) = false) (h1 : (c % 4 == 1) = true) : 9 = spc c := by simp at h h1; simp [spc, h1]
theorem spc2 {c : Int} (h : (c % 4 == 0) = false) (h1 : (c % 4 == 1) = false) (h2 : (c % 4 == 2) = true) : 10 = spc c := by simp at h h1 h2; simp [spc, h2]
theorem spc3 {c : Int} (h : (c % 4 == 0) = false) (h1 : (c % 4 == 1) = false) (h2 : (c % 4 == 2) = false) : 13 = spc c := by simp at h h1 h2; simp [spc, h, h1, h2]

theorem info5 : (Yba.prog.info? 5).map (fun i => (i.zero, i.size, i.bytes)) = some (some (.int .u8 0), 1, 1) := by kernel_rfl

theorem cell_one (w : World) (v : Value) : ∀ j u, [v][j]? = some u → (w.alloc (.cells #[v] 5)).cell? ((⟨w.heap.size, 0, none⟩ : Addr).add j) = some u := by
  intro j u hj
  match j, hj with
  | 0, hj => simp at hj; subst hj; simp [Addr.add, World.cell?_alloc_at]

/-- What holds when k spaces have been laid into the row g. -/
structure Laid (w wr : World) (g cap : Nat) (zs : List Int) (k : Nat) : Prop where
  own : wr.ownsRow w.heap.size 5 1 (.slice (some ⟨g, 0, none⟩) k cap) k ((zs.map fun x => Value.int .u8 (spc x)).take k)
  bel : Below w.heap.size w wr

theorem laid_step {w wr w1 : World} {g cap : Nat} {zs : List Int} {k : Nat} {c : Int} {o : Obj} (h : Laid w wr g cap zs k) (hk : k < zs.length) (hc : c = spc (zs.getD k 0)) (hg : w.heap.size ≤ g)
    (ho : w1.ownsRow w.heap.size 5 1 (.slice (some ⟨g, 0, none⟩) (k + 1) cap) (k + 1) (((zs.map fun x => Value.int .u8 (spc x)).take k) ++ [Value.int .u8 c])) (hgr : (wr.alloc o).grownBy w1 (some g)) : Laid w w1 g cap zs (k + 1) := by
  refine ⟨?_, ?_⟩
  · have e : (zs.map (fun x => Value.int .u8 (spc x))).take (k + 1) = ((zs.map fun x => Value.int .u8 (spc x)).take k) ++ [Value.int .u8 c] := by
      rw [List.take_succ_eq_append_getElem (by simpa using hk), hc]
      simp [List.getD, hk]
    rw [e]; exact ho
  · have := h.bel.size
    exact (h.bel.alloc this o).grown hgr (by simp; omega) (by intro k hk; simp at hk; omega)

theorem scan_new (w : World) (tb n cap q : Nat) : ScanAt (w.alloc (.cells #[.slice (some ⟨tb, 0, none⟩) n cap, .int .i64 q] 26)) w.heap.size tb n cap q :=
  ⟨by rw [World.cell?_alloc_at _ _ _ _ rfl]; rfl, by rw [World.cell?_alloc_at _ _ _ _ rfl]; rfl, World.frozen?_alloc_at _ _ _ _ rfl⟩

/-- The whole text: the white space, the bracket, the tail. -/
theorem text_cells {w : World} {B g n cap : Nat} {zs ts : List Int} {en : Int} {xs : List Value} (hx : xs = zs.map fun x => Value.int .u8 (spc x)) (hn : n = zs.length + 1 + ts.length)
    (h : w.ownsRow B 5 1 (.slice (some ⟨g, 0, none⟩) n cap) n (xs ++ Value.int .u8 en :: ts.map (Value.int .u8))) :
    ∀ i, i < n → w.cell? ⟨g, i, none⟩ = some (.int .u8 ((zs.map spc ++ en :: ts).getD i 0)) := by
  intro i hi
  rw [h.cellAt i (by omega)]
  have e : xs ++ Value.int .u8 en :: ts.map (Value.int .u8) = (zs.map spc ++ en :: ts).map (Value.int .u8) := by rw [hx]; simp
  rw [e]
  have hl : i < (zs.map spc ++ en :: ts).length := by simp; omega
  rw [List.getElem?_map, List.getElem?_eq_getElem hl, List.getD, List.getElem?_eq_getElem hl]; rfl

theorem text_skip (zs ts : List Int) (en : Int) (he : wsB en = false) : skipN (zs.map spc ++ en :: ts) 0 = zs.length ∧ (zs.map spc ++ en :: ts).getD (skipN (zs.map spc ++ en :: ts) 0) 0 = en := by
  have h := skipN_run (zs.map spc) ts en (by intro x hx; obtain ⟨y, _, rfl⟩ := List.mem_map.1 hx; exact spc_ws y) he
  rw [h]
  simp [List.getD]

theorem text_facts {w : World} {B g n cap : Nat} {zs ts : List Int} {en : Int} {xs : List Value} (hx : xs = zs.map fun x => Value.int .u8 (spc x)) (hn : n = zs.length + 1 + ts.length) (he : wsB en = false)
    (h : w.ownsRow B 5 1 (.slice (some ⟨g, 0, none⟩) n cap) n (xs ++ Value.int .u8 en :: ts.map (Value.int .u8))) :
    ∃ A : List Int, A.length = n ∧ Hid (skipN A 0 = zs.length) ∧ Hid (A.getD (skipN A 0) 0 = en) ∧ ∀ i, i < n → w.cell? ⟨g, i, none⟩ = some (.int .u8 (A.getD i 0)) :=
  ⟨zs.map spc ++ en :: ts, by simp; omega, (text_skip zs ts en he).1, (text_skip zs ts en he).2, text_cells hx hn h⟩

set_option maxHeartbeats 1000000 in
theorem core (a0 : Option Addr) (len0 cap0 : Nat) (zs : List Int) (a1 : Bool) (en : Int) (a2 : Option Addr) (len2 cap2 : Nat) (ts : List Int) (w : World) (hen : (a1 = true ∧ en = 125) ∨ (a1 = false ∧ en = 93))
    (hl0 : len0 ≤ 1024) (hzl : zs.length = len0) (hl2 : len2 ≤ 1024) (htl : ts.length = len2)
    (hzb : ∀ j, 0 ≤ zs.getD j 0)
    (h0 : 0 < len0 → ∃ b off, a0 = some ⟨b, off, none⟩ ∧ ∀ j, j < len0 → w.cell? ⟨b, off + j, none⟩ = some (.int .u8 (zs.getD j 0)))
    (h2 : ∀ ad, a2 = some ad → ∀ j u, (ts.map (Value.int .u8))[j]? = some u → w.cell? (ad.add j) = some u) (h2n : a2 = none → len2 = 0 ∧ cap2 = 0) :
    Calls Yba.prog 4 #[.slice a0 len0 cap0, .bool a1, .slice a2 len2 cap2] w fun e w' => e = .returned (.bool true) ∧ Below w.heap.size w w' := by
  obtain ⟨i0, hi, hz0, hz1, hz2⟩ := info_parts info5
  obtain ⟨N, hN⟩ : ∃ N : Nat, (len0 : Int) + 1 + (len2 : Int) = (N : Int) := ⟨len0 + 1 + len2, by omega⟩
  have hNl : N ≤ 2049 := by omega
  rcases hen with ⟨rfl, rfl⟩ | ⟨rfl, rfl⟩
  all_goals
    go_enter Yba.func4, Yba.ntmps4
    go_wp2_with (at_make; refine wpList_make_own _ rfl _ _ 22 rfl w.heap.size 5 i0 (.int .u8 0) 1 Yba.underlying22 hi hz0 hz1 _ _ _ N (by rfl) (by rfl) (by first | rfl | omega) (by rw [hz2]; omega) (by unfold maxLen; omega) (Nat.le_refl _) ?_)
    intro w1 hown hgr
    have L0 : Laid w w1 w.heap.size N zs 0 := ⟨by simpa using hown, (Below.refl _ _).grown hgr (Nat.le_refl _) (by simp)⟩
    clear hown hgr
    go_wp2_with fail
    go_loopg [8, 32] len0 (fun k v i wr => ∃ j : Nat, k + j = len0 ∧ i = .int .i64 j ∧ v = .slice (some ⟨w.heap.size, 0, none⟩) j N ∧ Laid w wr w.heap.size N zs j)
    case atStart => exact ⟨0, by omega, rfl, rfl, L0⟩
    case round =>
      obtain ⟨j, hk, rfl, rfl, L⟩ := hrel
      by_cases hlt : j < len0
      · obtain ⟨b, off, rfl, hc⟩ := h0 (by omega)
        obtain ⟨c, hcc⟩ : ∃ c, c = zs.getD j 0 := ⟨_, rfl⟩
        have c0 : 0 ≤ c := by rw [hcc]; exact hzb j
        have hcj := hc j hlt
        have ct : wr.cell? ⟨b, off + j, none⟩ = some (.int .u8 c) := by rw [hcc]; rw [L.bel.cell (World.block_lt_of_cell? w _ hcj)]; exact hcj
        have HC : Hid (c = zs.getD j 0) := hcc
        clear hcc hc hcj h0 hzb h2 h2n
        have hown := L.own
        have hwr := L.bel.size
        have hlt' : (j : Int) < (len0 : Int) := by omega
        go_wp2_with (at_builtin; refine wpList_append_fits _ rfl _ _ 22 rfl w.heap.size 5 i0 1 Yba.underlying22 hi hz1 w.heap.size j N _ (by rfl) (hown.alloc _) ⟨wr.heap.size, 0, none⟩ 1 1 [_] (by rfl) (by rfl) (cell_one _ _) (by simp [Value.oneCell']) (by omega) ?_)
        all_goals
          intro w1 ho hgr
          have hsp : ∀ v, v = spc c → v = spc (zs.getD j 0) := fun v h => by rw [h, HC.out]
          have L' : Laid w w1 w.heap.size N zs (j + 1) := laid_step L (by omega) (by first | exact hsp _ (spc0 ‹_›) | exact hsp _ (spc1 ‹_› ‹_›) | exact hsp _ (spc2 ‹_› ‹_› ‹_›) | exact hsp _ (spc3 ‹_› ‹_› ‹_›)) (Nat.le_refl _) ho hgr
          clear ho hgr hown L ct hsp
          go_wp2
          go_roundg (len0 - (j + 1))
          case measure => omega
          case rel => exact ⟨j + 1, by omega, by go_num, rfl, L'⟩
      · have hj : j = len0 := by omega
        subst hj
        obtain ⟨xs, hxs⟩ : ∃ xs, xs = zs.map fun x => Value.int .u8 (spc x) := ⟨_, rfl⟩
        have hown := L.own
        rw [← hxs, List.take_of_length_le (by simp [hxs, hzl])] at hown
        have HX : Hid (xs = zs.map fun x => Value.int .u8 (spc x)) := hxs
        have hb := L.bel
        have hwr := L.bel.size
        clear hxs L h0 hzb L0
        go_wp2_with (at_builtin; refine wpList_append_fits _ rfl (.tmp 57) (.tmp 59) 22 rfl w.heap.size 5 i0 1 Yba.underlying22 hi hz1 w.heap.size j N _ (by rfl) (hown.alloc _) ⟨wr.heap.size, 0, none⟩ 1 1 [_] (by rfl) (by rfl) (cell_one _ _) (by simp [Value.oneCell']) (by omega) ?_)
        intro w2 hown2 hgr2
        have hb2 : Below w.heap.size w w2 := (hb.alloc hwr _).grown hgr2 (by simp; omega) (by intro k hk; simp at hk; omega)
        clear hown hgr2 hb
        have h2' : ∀ ad, a2 = some ad → ∀ j u, (ts.map (Value.int .u8))[j]? = some u → w2.cell? (ad.add j) = some u := fun ad ha j u hu => by
          have h := h2 ad ha j u hu
          rw [hb2.cell (World.block_lt_of_cell? w _ h)]; exact h
        go_wp2_with (at_builtin; refine wpList_append_fits_any _ rfl (.tmp 61) (.tmp 62) 22 rfl w.heap.size 5 i0 1 Yba.underlying22 hi hz1 w.heap.size (j + 1) N _ (by rfl) hown2 a2 len2 cap2 (ts.map (Value.int .u8)) (by rfl) (by simp [htl]) h2n h2' (ints_oneCell _ _) (by omega) ?_)
        intro w3 hown3 hgr3
        have hb3 : Below w.heap.size w w3 := hb2.grown hgr3 (by have := hb2.size; omega) (by intro k hk; simp at hk; omega)
        have hw3 : w.heap.size < w3.heap.size := (hown3.lt _ rfl).2
        obtain ⟨A, hAl, SK1, SK2, tx⟩ := text_facts HX.out (by omega) (by decide) hown3
        rw [hzl] at SK1
        clear hown2 hgr3 hb2 h2' h2 h2n hown3 HX
        have sc1 := scan_new w3 w.heap.size (j + 1 + len2) N 0
        have C1 := closes_yes A w3.heap.size w.heap.size (j + 1 + len2) N 0 _ _ hAl (by omega) (by omega) (by omega) sc1 (fun i hi => by rw [World.cell?_alloc_past _ _ _ hw3]; exact tx i hi) SK2
        rw [SK1.out] at C1
        have hAl' := hAl
        clear sc1 hAl
        go_wp2_with fail
        refine C1.mono ?_
        rintro e w4 ⟨rfl, hgr4, hsc⟩
        have tx4 : ∀ i, i < j + 1 + len2 → w4.cell? ⟨w.heap.size, i, none⟩ = some (.int .u8 (A.getD i 0)) := fun i hi => hgr4.cell (by rw [World.cell?_alloc_past _ _ _ hw3]; exact tx i hi) (by simp; omega)
        have hb4 : Below w.heap.size w w4 := (hb3.alloc (by omega) _).grown hgr4 (by simp; omega) (by intro k hk; simp at hk; omega)
        have hw4 : w.heap.size < w4.heap.size := by have := hgr4.size; simp at this; omega
        have cp := hsc.c1
        have sc2 := scan_new w4 w.heap.size (j + 1 + len2) N 0
        have C2 := closes_no A w4.heap.size w.heap.size (j + 1 + len2) N 0 44 _ hAl' (by omega) (by omega) (by omega) sc2 (fun i hi => by rw [World.cell?_alloc_past _ _ _ hw4]; exact tx4 i hi) (by show ¬ _ = _; rw [SK2.out]; decide)
        rw [SK1.out] at C2
        clear C1 tx tx4 hgr4 hsc sc2 hb3 hAl' SK1 SK2
        go_wp2_with fail
        refine C2.mono ?_
        rintro e w5 ⟨rfl, hgr5, hsc5⟩
        have cp5 := hsc5.c1
        have hb5 : Below w.heap.size w w5 := (hb4.alloc (by omega) _).grown hgr5 (by simp; omega) (by intro k hk; simp at hk; omega)
        clear C2 hgr5 hsc5 hb4 cp
        go_wp2_with fail
        go_ret
        exact ⟨rfl, hb5⟩
end Go.Proofs.Ybulkajzg.CloseCore
